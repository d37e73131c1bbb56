import JvmDerived
import JvmDerived.Pilot.@@N@@Statement
import JvmDerived.Pilot.@@N@@Code
set_option linter.unusedVariables false
set_option linter.unusedSimpArgs false
namespace Jvm.RoadKit
open Sem ClassFile Op Lib Jvm.Stand Jvm.Free Jvm.LawKit
section New
variable {p : Program} {l : Launch} {e : Env} {R : Room} {s : State} {m : MethodId} {args : Array Value} {below : List Frame} {meth : Method} {c : Code} {T : State} {locs : List Loc} {cells slots : Nat}
theorem retI (X : Stand p l e R s m args below meth c T locs cells slots) (hx : p.tables.exec = Jvm.exec) {pc : Nat} {Ls : Array Slot} {z : Int32} {rest : List Value} (hret : meth.sig.returnType = some .int) (hd : decode c.code pc = .ok (.ireturn, 1)) {fs : List Frame}
    (hl : ∀ (f : JFrame) (acts : List Action), f.method = m → f.locked = none → f.entered = [] → (doReturn e (T.setTop f) acts (some (.int z))).1 = T.setFrames fs) : Steps p.tables e below (T.setTop (mkF m pc Ls (.int z :: rest))) (T.setFrames fs) := by
  have hm' : T.vm.method? m = some meth := X.method'
  have hn : narrow .int (.int z) = .int z := rfl
  show Steps p.tables e below (T.setTop { method := m, pc := pc, locals := Ls, stack := _ :: rest, locked := none }) _
  jvm_step X.here [X.here.top, hx, hd, hm', hret, hn]
  first | (intro acts; rw [hl _ acts rfl rfl rfl]) | rw [hl _ _ rfl rfl rfl]
  exact Steps.refl _
end New
end Jvm.RoadKit
namespace Jvm.Pilot.@@N@@
open Jvm Jvm.ClassFile Sem Op Lib Jvm.Free Jvm.Stand Jvm.LawKit Jvm.RoadKit Bundle Jvm.Pilot.@@N@@.Jvm.D
abbrev own_s (p : Program) (e : Env) (below : List Frame) (T : State) (m : MethodId) (pc : Nat) (L : Array Slot) (S : List Value) (t : State) : Prop := Steps p.tables e below (T.setTop (mkF m pc L S)) t
theorem own_fit {C : String} {v : Value} (h : v.isRef = true) : fits (.object C) v = true := by rcases ref_cases h with rfl | ⟨_, rfl⟩ <;> rfl
theorem own_cat1 {v : Value} (h : v.isRef = true) : v.category = 1 := by rcases ref_cases h with rfl | ⟨_, rfl⟩ <;> rfl
theorem own_narR {t : FieldType} {v : Value} (h : v.isRef = true) : narrow t v = v := by cases v <;> first | (cases t <;> rfl) | (cases h)
def own_up (f : Nat → Value) (i : Nat) (v : Value) : Nat → Value := fun j => if j = i then v else f j
def own_Af (Z : State) (h : Heap) (a : Addr) (ty : FieldType) (n : Nat) (f : Nat → Value) : Prop := ∃ c : Cell, Arr Z h a c ty ∧ c.slots.size = n ∧ n < 2 ^ 31 ∧ ∀ j, j < n → c.slots[j]? = some (f j)
theorem own_Af.lt {Z : State} {h : Heap} {a : Addr} {ty : FieldType} {n : Nat} {f : Nat → Value} (F : own_Af Z h a ty n f) : a < h.size := by obtain ⟨c, A, -⟩ := F; exact A.lt
theorem own_Af.ext {Z : State} {h h' : Heap} {a : Addr} {ty : FieldType} {n : Nat} {f : Nat → Value} (F : own_Af Z h a ty n f) (E : Ext h h') : own_Af Z h' a ty n f := by obtain ⟨c, A, r⟩ := F; exact ⟨c, A.ext E, r⟩
theorem own_Af.other {Z : State} {h h' : Heap} {a b : Addr} {ty : FieldType} {n : Nat} {f : Nat → Value} {sl : Nat} {v : Value} (F : own_Af Z h b ty n f) (W : Wr h h' a sl v) (q : b ≠ a) : own_Af Z h' b ty n f := by obtain ⟨c, A, r⟩ := F; exact ⟨c, A.other W q, r⟩
theorem own_Af.keep {Z : State} {h h' : Heap} {a : Addr} {ty : FieldType} {n : Nat} {f : Nat → Value} {ws : List Addr} (F : own_Af Z h a ty n f) (K : Keep h h' ws) (q : a ∉ ws) : own_Af Z h' a ty n f := by obtain ⟨c, A, r⟩ := F; exact ⟨c, ⟨K.2.1 a c A.1 q, A.2⟩, r⟩
theorem own_Af.new {Z : State} {h : Heap} {a : Addr} {ty : FieldType} {k : ClassId} {z : Int32} {n : Nat} {d : Value} (A : Arr Z h a (newA k ty z) ty) (q : ¬ z < 0) (hn : z.toNatClampNeg = n) (hd : defaultValue ty = d := by rfl) : own_Af Z h a ty n (fun _ => d) := by
  subst hn hd
  refine ⟨_, A, sz_new _ _ _, (back32 q).2, fun j hj => ?_⟩
  simp [newA, hj]
theorem own_Af.set {Z : State} {h h' : Heap} {a : Addr} {ty : FieldType} {n i : Nat} {f : Nat → Value} {v : Value} {c : Cell} (A : Arr Z h a c ty) (S : c.slots.size = n) (M : n < 2 ^ 31) (H : ∀ j, j < n → c.slots[j]? = some (f j)) (W : Wr h h' a i v) : own_Af Z h' a ty n (own_up f i v) := by
  refine ⟨_, A.same W, by rw [sz_set]; exact S, M, fun j hj => ?_⟩
  have := H j hj
  simp only [own_up, Cell.setSlot]
  by_cases e : j = i
  · subst e; simp [Array.getElem?_setIfInBounds, S, hj]
  · rw [if_neg e, Array.getElem?_setIfInBounds, if_neg (fun q => e q.symm)]; exact this
theorem own_inb {c : Cell} {n : Nat} {j : Int32} (S : c.slots.size = n) (M : n < 2 ^ 31) (q : ¬ j < 0 ∧ j.toNatClampNeg < n) : ¬ (j < 0 ∨ c.slots.size ≤ j.toNatClampNeg) := by
  rw [S]; exact fun z => z.elim q.1 (fun w => absurd q.2 (Nat.not_lt.mpr w))
theorem own_get {c : Cell} {n : Nat} {f : Nat → Value} {j : Int32} {v : Value} (H : ∀ j, j < n → c.slots[j]? = some (f j)) (S : c.slots.size = n) (q : ¬ j < 0 ∧ j.toNatClampNeg < n) (e : f j.toNatClampNeg = v) : c.slots[j.toNatClampNeg]? = some v := by
  rw [H _ q.2, e]
theorem own_nat {j : Int32} {n : Nat} (h : j.toInt = n) : j.toNatClampNeg = n := by simp only [Int32.toNatClampNeg]; omega
theorem own_ofn {n : Nat} (h : n < 2 ^ 31) : (Int32.ofNat n).toInt = n := Int32.toInt_ofNat_of_lt h
theorem own_idx {j : Int32} {n : Nat} (h0 : 0 ≤ j.toInt) (h1 : j.toInt < n) : ¬ j < 0 ∧ j.toNatClampNeg < n := by
  have q : ¬ j < 0 := fun w => by have := Int32.lt_iff_toInt_lt.mp w; have e : (0 : Int32).toInt = 0 := rfl; omega
  exact ⟨q, by have := nat_of q; omega⟩
theorem own_eqI {x y : Int32} (h : x.toInt = y.toInt) : x = y := Int32.toInt_inj.mp h
theorem own_ofarv {Z : State} {h : Heap} {a : Addr} {k : ClassId} {ty : FieldType} {z : Int32} {vs : List Value} {d : Value} (F : Arv Z h a k ty z vs d) {n : Nat} (hz : z.toNatClampNeg = n) {f : Nat → Value} (hf : ∀ j, j < n → vs.getD j d = f j) : own_Af Z h a ty n f := by
  obtain ⟨c, A, -, S, N, H, -⟩ := F
  refine ⟨c, A, S.trans hz, hz ▸ (back32 N).2, fun j hj => ?_⟩
  rw [H j (by rw [S, hz]; exact hj), hf j hj]
def own_DV (c r v : Int) : Prop := (48 ≤ c ∧ c ≤ 57 ∧ v = c - 48) ∨ ((c < 48 ∨ 57 < c) ∧ ((r = 16 ∧ 97 ≤ c ∧ c ≤ 102 ∧ v = c - 87) ∨ (r = 16 ∧ 65 ≤ c ∧ c ≤ 70 ∧ v = c - 55) ∨ ((r ≠ 16 ∨ ((c < 97 ∨ 102 < c) ∧ (c < 65 ∨ 70 < c))) ∧ v = -1)))
def own_G (u : Nat) (j : Nat) : Int32 := if j < 10 then Int32.ofNat (48 + j) else Int32.ofNat (u + j)
theorem own_GI {u j : Nat} (hu : u ≤ 100) (hj : j < 16) : (j < 10 ∧ (own_G u j).toInt = 48 + j) ∨ (10 ≤ j ∧ (own_G u j).toInt = u + j) := by
  unfold own_G; by_cases h : j < 10
  · rw [if_pos h, own_ofn (by omega)]; omega
  · rw [if_neg h, own_ofn (by omega)]; omega
theorem own_since (s : State) (n : Nat) : s.Since s.vm n := ⟨State.Warmed39.refl s, fun j p h q => absurd (Array.getElem?_eq_some_iff.mp q).1 (Nat.not_lt.mpr h)⟩
theorem own_wS {Z : State} {a0 : Array Value} (hw : ∀ d ∈ tables_1, d.before a0 Z = true) : ∀ d ∈ Bundle.stringAtoms, d.before a0 Z = true := fun d hd => by
  simp only [Bundle.stringAtoms, List.mem_cons, List.not_mem_nil, or_false] at hd
  rcases hd with rfl | rfl | rfl | rfl | rfl | rfl | rfl
  · exact hw _ (List.mem_of_getElem? (i := 1) rfl)
  · exact hw _ (List.mem_of_getElem? (i := 2) rfl)
  · exact hw _ (List.mem_of_getElem? (i := 3) rfl)
  · exact hw _ (List.mem_of_getElem? (i := 4) rfl)
  · exact hw _ (List.mem_of_getElem? (i := 5) rfl)
  · exact hw _ (List.mem_of_getElem? (i := 6) rfl)
  · exact hw _ (List.mem_of_getElem? (i := 7) rfl)
theorem d1_0 : decode prog_51_method_8_code 0 = .ok (.iconst (-1), 1) := by decide +kernel
theorem d1_1 : decode prog_51_method_8_code 1 = .ok (.istore_n 2, 1) := by decide +kernel
theorem d1_2 : decode prog_51_method_8_code 2 = .ok (.iload_n 0, 1) := by decide +kernel
theorem d1_3 : decode prog_51_method_8_code 3 = .ok (.bipush 48, 2) := by decide +kernel
theorem d1_5 : decode prog_51_method_8_code 5 = .ok (.if_icmp .lt 17, 3) := by decide +kernel
theorem d1_8 : decode prog_51_method_8_code 8 = .ok (.iload_n 0, 1) := by decide +kernel
theorem d1_9 : decode prog_51_method_8_code 9 = .ok (.bipush 57, 2) := by decide +kernel
theorem d1_11 : decode prog_51_method_8_code 11 = .ok (.if_icmp .gt 11, 3) := by decide +kernel
theorem d1_14 : decode prog_51_method_8_code 14 = .ok (.iload_n 0, 1) := by decide +kernel
theorem d1_15 : decode prog_51_method_8_code 15 = .ok (.bipush 48, 2) := by decide +kernel
theorem d1_17 : decode prog_51_method_8_code 17 = .ok (.isub, 1) := by decide +kernel
theorem d1_18 : decode prog_51_method_8_code 18 = .ok (.istore_n 2, 1) := by decide +kernel
theorem d1_19 : decode prog_51_method_8_code 19 = .ok (.goto 58, 3) := by decide +kernel
theorem d1_22 : decode prog_51_method_8_code 22 = .ok (.iload_n 1, 1) := by decide +kernel
theorem d1_23 : decode prog_51_method_8_code 23 = .ok (.bipush 16, 2) := by decide +kernel
theorem d1_25 : decode prog_51_method_8_code 25 = .ok (.if_icmp .ne 26, 3) := by decide +kernel
theorem d1_28 : decode prog_51_method_8_code 28 = .ok (.iload_n 0, 1) := by decide +kernel
theorem d1_29 : decode prog_51_method_8_code 29 = .ok (.bipush 97, 2) := by decide +kernel
theorem d1_31 : decode prog_51_method_8_code 31 = .ok (.if_icmp .lt 20, 3) := by decide +kernel
theorem d1_34 : decode prog_51_method_8_code 34 = .ok (.iload_n 0, 1) := by decide +kernel
theorem d1_35 : decode prog_51_method_8_code 35 = .ok (.bipush 102, 2) := by decide +kernel
theorem d1_37 : decode prog_51_method_8_code 37 = .ok (.if_icmp .gt 14, 3) := by decide +kernel
theorem d1_40 : decode prog_51_method_8_code 40 = .ok (.iload_n 0, 1) := by decide +kernel
theorem d1_41 : decode prog_51_method_8_code 41 = .ok (.bipush 97, 2) := by decide +kernel
theorem d1_43 : decode prog_51_method_8_code 43 = .ok (.isub, 1) := by decide +kernel
theorem d1_44 : decode prog_51_method_8_code 44 = .ok (.bipush 10, 2) := by decide +kernel
theorem d1_46 : decode prog_51_method_8_code 46 = .ok (.iadd, 1) := by decide +kernel
theorem d1_47 : decode prog_51_method_8_code 47 = .ok (.istore_n 2, 1) := by decide +kernel
theorem d1_48 : decode prog_51_method_8_code 48 = .ok (.goto 29, 3) := by decide +kernel
theorem d1_51 : decode prog_51_method_8_code 51 = .ok (.iload_n 1, 1) := by decide +kernel
theorem d1_52 : decode prog_51_method_8_code 52 = .ok (.bipush 16, 2) := by decide +kernel
theorem d1_54 : decode prog_51_method_8_code 54 = .ok (.if_icmp .ne 23, 3) := by decide +kernel
theorem d1_57 : decode prog_51_method_8_code 57 = .ok (.iload_n 0, 1) := by decide +kernel
theorem d1_58 : decode prog_51_method_8_code 58 = .ok (.bipush 65, 2) := by decide +kernel
theorem d1_60 : decode prog_51_method_8_code 60 = .ok (.if_icmp .lt 17, 3) := by decide +kernel
theorem d1_63 : decode prog_51_method_8_code 63 = .ok (.iload_n 0, 1) := by decide +kernel
theorem d1_64 : decode prog_51_method_8_code 64 = .ok (.bipush 70, 2) := by decide +kernel
theorem d1_66 : decode prog_51_method_8_code 66 = .ok (.if_icmp .gt 11, 3) := by decide +kernel
theorem d1_69 : decode prog_51_method_8_code 69 = .ok (.iload_n 0, 1) := by decide +kernel
theorem d1_70 : decode prog_51_method_8_code 70 = .ok (.bipush 65, 2) := by decide +kernel
theorem d1_72 : decode prog_51_method_8_code 72 = .ok (.isub, 1) := by decide +kernel
theorem d1_73 : decode prog_51_method_8_code 73 = .ok (.bipush 10, 2) := by decide +kernel
theorem d1_75 : decode prog_51_method_8_code 75 = .ok (.iadd, 1) := by decide +kernel
theorem d1_76 : decode prog_51_method_8_code 76 = .ok (.istore_n 2, 1) := by decide +kernel
theorem d1_77 : decode prog_51_method_8_code 77 = .ok (.iload_n 2, 1) := by decide +kernel
theorem d1_78 : decode prog_51_method_8_code 78 = .ok (.ireturn, 1) := by decide +kernel
theorem pn_1 : plainName "com/example/osier/osier/xml/XmlChars" = true := by first | (simp [plainName, overriddenIn]; done) | decide +kernel
theorem ef_1 (m : MethodId) (p0 : Int32) (p1 : Int32) : entryFrame m #[(.int p0), (.int p1)] 3 = mkF m 0 #[iv p0, iv p1, .unset] [] := by first | (simp [entryFrame, mkF, argsToLocals, Value.category]; done) | rfl
def Q1 (Z : State) (p0 : Int32) (p1 : Int32) (h0 : Heap) (n0 : Nat) (v : Option Value) (h : Heap) (L : List Loc) : Prop := (∃ v' : Int32, v = some (.int v') ∧ own_DV p0.toInt p1.toInt v'.toInt) ∧ Fr n0 L ∧ h = h0
set_option maxRecDepth 65536 in
set_option maxHeartbeats 40000000 in
theorem rm1 (l : Launch) (Z : State) (a0 : Array Value) (hw : ∀ d ∈ tables_1, d.before a0 Z = true) (ws : List Jvm.Cond) (p0 : Int32) (p1 : Int32) (h0 : Heap) (n0 : Nat) (Z0 : n0 ≤ h0.size) (hx0 : 0 ≤ p0.toInt) (hx1 : p0.toInt < 65536) :
    MetFree l (⟨"com/example/osier/osier/xml/XmlChars", "digitValue", "(CI)I"⟩ : MethodName) (head1 (Jvm.Cond.code (⟨"com/example/osier/osier/xml/XmlChars", "digitValue", "(CI)I"⟩ : MethodName) prog_51_method_8_code 3 (some .int) :: ws) ({ frames := 0, cells := 0, slots := 0, locals := 0 } : Room)) (fun aX UX => aX = #[(.int p0), (.int p1)] ∧ Z.Warmed39 UX.vm ∧ UX.heap = h0) (fun _ _ _ _ _ => True) (fun _ UX oX UY => ∃ vX LX, oX = .returned vX ∧ Q1 Z p0 p1 h0 n0 vX UY.heap LX ∧ FrameEnd UX oX UY LX ({ frames := 0, cells := 0, slots := 0, locals := 0 } : Room).cells ({ frames := 0, cells := 0, slots := 0, locals := 0 } : Room).slots) := by
  refine MetFree.of_bodySF (plainFor_of_name pn_1) hisR ?_
  intro p e s m args below meth c s₁ Bd hml0 hP hK
  obtain ⟨rfl, hZ, hh⟩ := hP
  have hx := Bd.exec
  have hby := Bd.bytes
  have hml : c.maxLocals = 3 := hml0
  have hown : s.vm.findClass "com/example/osier/osier/xml/XmlChars" = some m.cls := findClass_of_methodNamed Bd.named
  have hnm := (name_of_methodNamed Bd.named Bd.method).1
  have X0 : Stand p l e ({ frames := 0, cells := 0, slots := 0, locals := 0 } : Room) s m #[(.int p0), (.int p1)] below meth c s₁ [] 0 0 := Stand.of_body Bd
  have e0 : s₁.heap = h0 := by rw [← hh, Bd.state]; rfl
  have N0 := Fr.nil n0
  have pre0 : ∀ t, Steps p.tables e below (s₁.setTop (mkF m 0 #[iv p0, iv p1, .unset] [])) t → Steps p.tables e below (s₁.setTop (entryFrame m #[(.int p0), (.int p1)] 3)) t := fun t k => castTop (ef_1 m p0 p1) k
  obtain ⟨S0, hS0⟩ : ∃ z, z = (s₁.setTop (entryFrame m #[(.int p0), (.int p1)] 3)) := ⟨_, rfl⟩
  rw [← hS0] at pre0
  have pre1 : ∀ t, own_s p e below s₁ m 5 #[iv p0, iv p1, iv (-1 : Int32)] [(.int (48 : Int32)), (.int p0)] t → Steps p.tables e below S0 t := by
    intro tX kX
    refine pre0 _ ?_
    show own_s p e below s₁ m 0 #[iv p0, iv p1, .unset] [] _
    refine XS.iconst X0.here hx rfl (hb hby d1_0) ?_
    show own_s p e below s₁ m 1 #[iv p0, iv p1, .unset] [(.int (-1 : Int32))] _
    refine XS.istoreN X0.here hx rfl (hb hby d1_1) rfl (l' := #[iv p0, iv p1, iv (-1 : Int32)]) rfl ?_
    show own_s p e below s₁ m 2 #[iv p0, iv p1, iv (-1 : Int32)] [] _
    refine XS.iloadN X0.here hx rfl (hb hby d1_2) rfl ?_
    show own_s p e below s₁ m 3 #[iv p0, iv p1, iv (-1 : Int32)] [(.int p0)] _
    refine XS.bipush X0.here hx rfl (hb hby d1_3) ?_
    exact kX
  by_cases hc2 : p0 < (48 : Int32)
  · skip
    have ihc2 : (p0).toInt < (48 : Int) := Int32.lt_iff_toInt_lt.mp hc2
    have pre3 : ∀ t, own_s p e below s₁ m 25 #[iv p0, iv p1, iv (-1 : Int32)] [(.int (16 : Int32)), (.int p1)] t → Steps p.tables e below S0 t := by
      intro tX kX
      refine pre1 _ ?_
      show own_s p e below s₁ m 5 #[iv p0, iv p1, iv (-1 : Int32)] [(.int (48 : Int32)), (.int p0)] _
      refine XS.icmpYes X0.here hx rfl (pc0 := 5) (pc' := 22) rfl (hb hby d1_5) rfl (tlt hc2).1 (by decide) (by decide) ?_
      show own_s p e below s₁ m 22 #[iv p0, iv p1, iv (-1 : Int32)] [] _
      refine XS.iloadN X0.here hx rfl (hb hby d1_22) rfl ?_
      show own_s p e below s₁ m 23 #[iv p0, iv p1, iv (-1 : Int32)] [(.int p1)] _
      refine XS.bipush X0.here hx rfl (hb hby d1_23) ?_
      exact kX
    by_cases hc4 : p1 = (16 : Int32)
    · skip
      have ihc4 : (p1).toInt = (16 : Int) := congrArg Int32.toInt hc4
      have pre5 : ∀ t, own_s p e below s₁ m 78 #[iv p0, iv p1, iv (-1 : Int32)] [(.int (-1 : Int32))] t → Steps p.tables e below S0 t := by
        intro tX kX
        refine pre3 _ ?_
        show own_s p e below s₁ m 25 #[iv p0, iv p1, iv (-1 : Int32)] [(.int (16 : Int32)), (.int p1)] _
        refine XS.icmpNo X0.here hx rfl (hb hby d1_25) rfl (teq hc4).2 ?_
        show own_s p e below s₁ m 28 #[iv p0, iv p1, iv (-1 : Int32)] [] _
        refine XS.iloadN X0.here hx rfl (hb hby d1_28) rfl ?_
        show own_s p e below s₁ m 29 #[iv p0, iv p1, iv (-1 : Int32)] [(.int p0)] _
        refine XS.bipush X0.here hx rfl (hb hby d1_29) ?_
        show own_s p e below s₁ m 31 #[iv p0, iv p1, iv (-1 : Int32)] [(.int (97 : Int32)), (.int p0)] _
        refine XS.icmpYes X0.here hx rfl (pc0 := 31) (pc' := 51) rfl (hb hby d1_31) rfl (tlt (show p0 < (97 : Int32) from (Int32.lt_iff_toInt_lt.mpr (by omega : (p0).toInt < (97 : Int))))).1 (by decide) (by decide) ?_
        show own_s p e below s₁ m 51 #[iv p0, iv p1, iv (-1 : Int32)] [] _
        refine XS.iloadN X0.here hx rfl (hb hby d1_51) rfl ?_
        show own_s p e below s₁ m 52 #[iv p0, iv p1, iv (-1 : Int32)] [(.int p1)] _
        refine XS.bipush X0.here hx rfl (hb hby d1_52) ?_
        show own_s p e below s₁ m 54 #[iv p0, iv p1, iv (-1 : Int32)] [(.int (16 : Int32)), (.int p1)] _
        refine XS.icmpNo X0.here hx rfl (hb hby d1_54) rfl (teq hc4).2 ?_
        show own_s p e below s₁ m 57 #[iv p0, iv p1, iv (-1 : Int32)] [] _
        refine XS.iloadN X0.here hx rfl (hb hby d1_57) rfl ?_
        show own_s p e below s₁ m 58 #[iv p0, iv p1, iv (-1 : Int32)] [(.int p0)] _
        refine XS.bipush X0.here hx rfl (hb hby d1_58) ?_
        show own_s p e below s₁ m 60 #[iv p0, iv p1, iv (-1 : Int32)] [(.int (65 : Int32)), (.int p0)] _
        refine XS.icmpYes X0.here hx rfl (pc0 := 60) (pc' := 77) rfl (hb hby d1_60) rfl (tlt (show p0 < (65 : Int32) from (Int32.lt_iff_toInt_lt.mpr (by omega : (p0).toInt < (65 : Int))))).1 (by decide) (by decide) ?_
        show own_s p e below s₁ m 77 #[iv p0, iv p1, iv (-1 : Int32)] [] _
        refine XS.iloadN X0.here hx rfl (hb hby d1_77) rfl ?_
        exact kX
      subst hS0
      obtain ⟨fs, hr, hrun, hended, hW, hsame⟩ := X0.leave (v := (some (.int (-1 : Int32)))) (fun h => by rw [Bd.returns] at h; cases h)
      refine ⟨_, _, pre5 _ (retI X0 hx Bd.returns (hb hby d1_78) hr), hrun, hended, _, _, rfl, ?_, ⟨_, rfl⟩, hW, hsame.mono (by decide) (by decide)⟩
      show Q1 Z p0 p1 h0 n0 (some (.int (-1 : Int32))) s₁.heap _
      refine ⟨⟨(-1 : Int32), rfl, ?_⟩, N0, e0⟩
      show own_DV p0.toInt p1.toInt (-1 : Int)
      unfold own_DV
      omega
    · skip
      have ihc4 : ¬ ((p1).toInt = (16 : Int)) := fun q => hc4 (Int32.toInt_inj.mp q)
      have pre6 : ∀ t, own_s p e below s₁ m 78 #[iv p0, iv p1, iv (-1 : Int32)] [(.int (-1 : Int32))] t → Steps p.tables e below S0 t := by
        intro tX kX
        refine pre3 _ ?_
        show own_s p e below s₁ m 25 #[iv p0, iv p1, iv (-1 : Int32)] [(.int (16 : Int32)), (.int p1)] _
        refine XS.icmpYes X0.here hx rfl (pc0 := 25) (pc' := 51) rfl (hb hby d1_25) rfl (feq hc4).2 (by decide) (by decide) ?_
        show own_s p e below s₁ m 51 #[iv p0, iv p1, iv (-1 : Int32)] [] _
        refine XS.iloadN X0.here hx rfl (hb hby d1_51) rfl ?_
        show own_s p e below s₁ m 52 #[iv p0, iv p1, iv (-1 : Int32)] [(.int p1)] _
        refine XS.bipush X0.here hx rfl (hb hby d1_52) ?_
        show own_s p e below s₁ m 54 #[iv p0, iv p1, iv (-1 : Int32)] [(.int (16 : Int32)), (.int p1)] _
        refine XS.icmpYes X0.here hx rfl (pc0 := 54) (pc' := 77) rfl (hb hby d1_54) rfl (feq hc4).2 (by decide) (by decide) ?_
        show own_s p e below s₁ m 77 #[iv p0, iv p1, iv (-1 : Int32)] [] _
        refine XS.iloadN X0.here hx rfl (hb hby d1_77) rfl ?_
        exact kX
      subst hS0
      obtain ⟨fs, hr, hrun, hended, hW, hsame⟩ := X0.leave (v := (some (.int (-1 : Int32)))) (fun h => by rw [Bd.returns] at h; cases h)
      refine ⟨_, _, pre6 _ (retI X0 hx Bd.returns (hb hby d1_78) hr), hrun, hended, _, _, rfl, ?_, ⟨_, rfl⟩, hW, hsame.mono (by decide) (by decide)⟩
      show Q1 Z p0 p1 h0 n0 (some (.int (-1 : Int32))) s₁.heap _
      refine ⟨⟨(-1 : Int32), rfl, ?_⟩, N0, e0⟩
      show own_DV p0.toInt p1.toInt (-1 : Int)
      unfold own_DV
      omega
  · skip
    have ihc2 : ¬ ((p0).toInt < (48 : Int)) := fun q => hc2 (Int32.lt_iff_toInt_lt.mpr q)
    have pre7 : ∀ t, own_s p e below s₁ m 11 #[iv p0, iv p1, iv (-1 : Int32)] [(.int (57 : Int32)), (.int p0)] t → Steps p.tables e below S0 t := by
      intro tX kX
      refine pre1 _ ?_
      show own_s p e below s₁ m 5 #[iv p0, iv p1, iv (-1 : Int32)] [(.int (48 : Int32)), (.int p0)] _
      refine XS.icmpNo X0.here hx rfl (hb hby d1_5) rfl (flt hc2).1 ?_
      show own_s p e below s₁ m 8 #[iv p0, iv p1, iv (-1 : Int32)] [] _
      refine XS.iloadN X0.here hx rfl (hb hby d1_8) rfl ?_
      show own_s p e below s₁ m 9 #[iv p0, iv p1, iv (-1 : Int32)] [(.int p0)] _
      refine XS.bipush X0.here hx rfl (hb hby d1_9) ?_
      exact kX
    by_cases hc8 : (57 : Int32) < p0
    · skip
      have ihc8 : (57 : Int) < (p0).toInt := Int32.lt_iff_toInt_lt.mp hc8
      have pre9 : ∀ t, own_s p e below s₁ m 25 #[iv p0, iv p1, iv (-1 : Int32)] [(.int (16 : Int32)), (.int p1)] t → Steps p.tables e below S0 t := by
        intro tX kX
        refine pre7 _ ?_
        show own_s p e below s₁ m 11 #[iv p0, iv p1, iv (-1 : Int32)] [(.int (57 : Int32)), (.int p0)] _
        refine XS.icmpYes X0.here hx rfl (pc0 := 11) (pc' := 22) rfl (hb hby d1_11) rfl (tlt hc8).2.2.1 (by decide) (by decide) ?_
        show own_s p e below s₁ m 22 #[iv p0, iv p1, iv (-1 : Int32)] [] _
        refine XS.iloadN X0.here hx rfl (hb hby d1_22) rfl ?_
        show own_s p e below s₁ m 23 #[iv p0, iv p1, iv (-1 : Int32)] [(.int p1)] _
        refine XS.bipush X0.here hx rfl (hb hby d1_23) ?_
        exact kX
      by_cases hc10 : p1 = (16 : Int32)
      · skip
        have ihc10 : (p1).toInt = (16 : Int) := congrArg Int32.toInt hc10
        have pre11 : ∀ t, own_s p e below s₁ m 31 #[iv p0, iv p1, iv (-1 : Int32)] [(.int (97 : Int32)), (.int p0)] t → Steps p.tables e below S0 t := by
          intro tX kX
          refine pre9 _ ?_
          show own_s p e below s₁ m 25 #[iv p0, iv p1, iv (-1 : Int32)] [(.int (16 : Int32)), (.int p1)] _
          refine XS.icmpNo X0.here hx rfl (hb hby d1_25) rfl (teq hc10).2 ?_
          show own_s p e below s₁ m 28 #[iv p0, iv p1, iv (-1 : Int32)] [] _
          refine XS.iloadN X0.here hx rfl (hb hby d1_28) rfl ?_
          show own_s p e below s₁ m 29 #[iv p0, iv p1, iv (-1 : Int32)] [(.int p0)] _
          refine XS.bipush X0.here hx rfl (hb hby d1_29) ?_
          exact kX
        by_cases hc12 : p0 < (97 : Int32)
        · skip
          have ihc12 : (p0).toInt < (97 : Int) := Int32.lt_iff_toInt_lt.mp hc12
          have pre13 : ∀ t, own_s p e below s₁ m 60 #[iv p0, iv p1, iv (-1 : Int32)] [(.int (65 : Int32)), (.int p0)] t → Steps p.tables e below S0 t := by
            intro tX kX
            refine pre11 _ ?_
            show own_s p e below s₁ m 31 #[iv p0, iv p1, iv (-1 : Int32)] [(.int (97 : Int32)), (.int p0)] _
            refine XS.icmpYes X0.here hx rfl (pc0 := 31) (pc' := 51) rfl (hb hby d1_31) rfl (tlt hc12).1 (by decide) (by decide) ?_
            show own_s p e below s₁ m 51 #[iv p0, iv p1, iv (-1 : Int32)] [] _
            refine XS.iloadN X0.here hx rfl (hb hby d1_51) rfl ?_
            show own_s p e below s₁ m 52 #[iv p0, iv p1, iv (-1 : Int32)] [(.int p1)] _
            refine XS.bipush X0.here hx rfl (hb hby d1_52) ?_
            show own_s p e below s₁ m 54 #[iv p0, iv p1, iv (-1 : Int32)] [(.int (16 : Int32)), (.int p1)] _
            refine XS.icmpNo X0.here hx rfl (hb hby d1_54) rfl (teq hc10).2 ?_
            show own_s p e below s₁ m 57 #[iv p0, iv p1, iv (-1 : Int32)] [] _
            refine XS.iloadN X0.here hx rfl (hb hby d1_57) rfl ?_
            show own_s p e below s₁ m 58 #[iv p0, iv p1, iv (-1 : Int32)] [(.int p0)] _
            refine XS.bipush X0.here hx rfl (hb hby d1_58) ?_
            exact kX
          by_cases hc14 : p0 < (65 : Int32)
          · skip
            have ihc14 : (p0).toInt < (65 : Int) := Int32.lt_iff_toInt_lt.mp hc14
            have pre15 : ∀ t, own_s p e below s₁ m 78 #[iv p0, iv p1, iv (-1 : Int32)] [(.int (-1 : Int32))] t → Steps p.tables e below S0 t := by
              intro tX kX
              refine pre13 _ ?_
              show own_s p e below s₁ m 60 #[iv p0, iv p1, iv (-1 : Int32)] [(.int (65 : Int32)), (.int p0)] _
              refine XS.icmpYes X0.here hx rfl (pc0 := 60) (pc' := 77) rfl (hb hby d1_60) rfl (tlt hc14).1 (by decide) (by decide) ?_
              show own_s p e below s₁ m 77 #[iv p0, iv p1, iv (-1 : Int32)] [] _
              refine XS.iloadN X0.here hx rfl (hb hby d1_77) rfl ?_
              exact kX
            subst hS0
            obtain ⟨fs, hr, hrun, hended, hW, hsame⟩ := X0.leave (v := (some (.int (-1 : Int32)))) (fun h => by rw [Bd.returns] at h; cases h)
            refine ⟨_, _, pre15 _ (retI X0 hx Bd.returns (hb hby d1_78) hr), hrun, hended, _, _, rfl, ?_, ⟨_, rfl⟩, hW, hsame.mono (by decide) (by decide)⟩
            show Q1 Z p0 p1 h0 n0 (some (.int (-1 : Int32))) s₁.heap _
            refine ⟨⟨(-1 : Int32), rfl, ?_⟩, N0, e0⟩
            show own_DV p0.toInt p1.toInt (-1 : Int)
            unfold own_DV
            omega
          · skip
            have ihc14 : ¬ ((p0).toInt < (65 : Int)) := fun q => hc14 (Int32.lt_iff_toInt_lt.mpr q)
            have pre16 : ∀ t, own_s p e below s₁ m 66 #[iv p0, iv p1, iv (-1 : Int32)] [(.int (70 : Int32)), (.int p0)] t → Steps p.tables e below S0 t := by
              intro tX kX
              refine pre13 _ ?_
              show own_s p e below s₁ m 60 #[iv p0, iv p1, iv (-1 : Int32)] [(.int (65 : Int32)), (.int p0)] _
              refine XS.icmpNo X0.here hx rfl (hb hby d1_60) rfl (flt hc14).1 ?_
              show own_s p e below s₁ m 63 #[iv p0, iv p1, iv (-1 : Int32)] [] _
              refine XS.iloadN X0.here hx rfl (hb hby d1_63) rfl ?_
              show own_s p e below s₁ m 64 #[iv p0, iv p1, iv (-1 : Int32)] [(.int p0)] _
              refine XS.bipush X0.here hx rfl (hb hby d1_64) ?_
              exact kX
            by_cases hc17 : (70 : Int32) < p0
            · skip
              have ihc17 : (70 : Int) < (p0).toInt := Int32.lt_iff_toInt_lt.mp hc17
              have pre18 : ∀ t, own_s p e below s₁ m 78 #[iv p0, iv p1, iv (-1 : Int32)] [(.int (-1 : Int32))] t → Steps p.tables e below S0 t := by
                intro tX kX
                refine pre16 _ ?_
                show own_s p e below s₁ m 66 #[iv p0, iv p1, iv (-1 : Int32)] [(.int (70 : Int32)), (.int p0)] _
                refine XS.icmpYes X0.here hx rfl (pc0 := 66) (pc' := 77) rfl (hb hby d1_66) rfl (tlt hc17).2.2.1 (by decide) (by decide) ?_
                show own_s p e below s₁ m 77 #[iv p0, iv p1, iv (-1 : Int32)] [] _
                refine XS.iloadN X0.here hx rfl (hb hby d1_77) rfl ?_
                exact kX
              subst hS0
              obtain ⟨fs, hr, hrun, hended, hW, hsame⟩ := X0.leave (v := (some (.int (-1 : Int32)))) (fun h => by rw [Bd.returns] at h; cases h)
              refine ⟨_, _, pre18 _ (retI X0 hx Bd.returns (hb hby d1_78) hr), hrun, hended, _, _, rfl, ?_, ⟨_, rfl⟩, hW, hsame.mono (by decide) (by decide)⟩
              show Q1 Z p0 p1 h0 n0 (some (.int (-1 : Int32))) s₁.heap _
              refine ⟨⟨(-1 : Int32), rfl, ?_⟩, N0, e0⟩
              show own_DV p0.toInt p1.toInt (-1 : Int)
              unfold own_DV
              omega
            · skip
              have ihc17 : ¬ ((70 : Int) < (p0).toInt) := fun q => hc17 (Int32.lt_iff_toInt_lt.mpr q)
              have pre19 : ∀ t, own_s p e below s₁ m 78 #[iv p0, iv p1, iv ((p0 - (65 : Int32)) + (10 : Int32))] [(.int ((p0 - (65 : Int32)) + (10 : Int32)))] t → Steps p.tables e below S0 t := by
                intro tX kX
                refine pre16 _ ?_
                show own_s p e below s₁ m 66 #[iv p0, iv p1, iv (-1 : Int32)] [(.int (70 : Int32)), (.int p0)] _
                refine XS.icmpNo X0.here hx rfl (hb hby d1_66) rfl (flt hc17).2.2.1 ?_
                show own_s p e below s₁ m 69 #[iv p0, iv p1, iv (-1 : Int32)] [] _
                refine XS.iloadN X0.here hx rfl (hb hby d1_69) rfl ?_
                show own_s p e below s₁ m 70 #[iv p0, iv p1, iv (-1 : Int32)] [(.int p0)] _
                refine XS.bipush X0.here hx rfl (hb hby d1_70) ?_
                show own_s p e below s₁ m 72 #[iv p0, iv p1, iv (-1 : Int32)] [(.int (65 : Int32)), (.int p0)] _
                refine XS.isub X0.here hx rfl (hb hby d1_72) rfl ?_
                show own_s p e below s₁ m 73 #[iv p0, iv p1, iv (-1 : Int32)] [(.int (p0 - (65 : Int32)))] _
                refine XS.bipush X0.here hx rfl (hb hby d1_73) ?_
                show own_s p e below s₁ m 75 #[iv p0, iv p1, iv (-1 : Int32)] [(.int (10 : Int32)), (.int (p0 - (65 : Int32)))] _
                refine XS.iadd X0.here hx rfl (hb hby d1_75) rfl ?_
                show own_s p e below s₁ m 76 #[iv p0, iv p1, iv (-1 : Int32)] [(.int ((p0 - (65 : Int32)) + (10 : Int32)))] _
                refine XS.istoreN X0.here hx rfl (hb hby d1_76) rfl (l' := #[iv p0, iv p1, iv ((p0 - (65 : Int32)) + (10 : Int32))]) rfl ?_
                show own_s p e below s₁ m 77 #[iv p0, iv p1, iv ((p0 - (65 : Int32)) + (10 : Int32))] [] _
                refine XS.iloadN X0.here hx rfl (hb hby d1_77) rfl ?_
                exact kX
              subst hS0
              obtain ⟨fs, hr, hrun, hended, hW, hsame⟩ := X0.leave (v := (some (.int ((p0 - (65 : Int32)) + (10 : Int32))))) (fun h => by rw [Bd.returns] at h; cases h)
              refine ⟨_, _, pre19 _ (retI X0 hx Bd.returns (hb hby d1_78) hr), hrun, hended, _, _, rfl, ?_, ⟨_, rfl⟩, hW, hsame.mono (by decide) (by decide)⟩
              show Q1 Z p0 p1 h0 n0 (some (.int ((p0 - (65 : Int32)) + (10 : Int32)))) s₁.heap _
              refine ⟨⟨((p0 - (65 : Int32)) + (10 : Int32)), rfl, ?_⟩, N0, e0⟩
              show own_DV p0.toInt p1.toInt (((p0 - (65 : Int32)) + (10 : Int32))).toInt
              unfold own_DV
              have d1 := c_isub p0 65
              have d2 := rng32 (p0 - 65)
              have d3 : (65 : Int32).toInt = 65 := rfl
              have d4 := c_iadd (p0 - 65) 10
              have d5 := rng32 (p0 - 65 + 10)
              have d6 : (10 : Int32).toInt = 10 := rfl
              omega
        · skip
          have ihc12 : ¬ ((p0).toInt < (97 : Int)) := fun q => hc12 (Int32.lt_iff_toInt_lt.mpr q)
          have pre20 : ∀ t, own_s p e below s₁ m 37 #[iv p0, iv p1, iv (-1 : Int32)] [(.int (102 : Int32)), (.int p0)] t → Steps p.tables e below S0 t := by
            intro tX kX
            refine pre11 _ ?_
            show own_s p e below s₁ m 31 #[iv p0, iv p1, iv (-1 : Int32)] [(.int (97 : Int32)), (.int p0)] _
            refine XS.icmpNo X0.here hx rfl (hb hby d1_31) rfl (flt hc12).1 ?_
            show own_s p e below s₁ m 34 #[iv p0, iv p1, iv (-1 : Int32)] [] _
            refine XS.iloadN X0.here hx rfl (hb hby d1_34) rfl ?_
            show own_s p e below s₁ m 35 #[iv p0, iv p1, iv (-1 : Int32)] [(.int p0)] _
            refine XS.bipush X0.here hx rfl (hb hby d1_35) ?_
            exact kX
          by_cases hc21 : (102 : Int32) < p0
          · skip
            have ihc21 : (102 : Int) < (p0).toInt := Int32.lt_iff_toInt_lt.mp hc21
            have pre22 : ∀ t, own_s p e below s₁ m 78 #[iv p0, iv p1, iv (-1 : Int32)] [(.int (-1 : Int32))] t → Steps p.tables e below S0 t := by
              intro tX kX
              refine pre20 _ ?_
              show own_s p e below s₁ m 37 #[iv p0, iv p1, iv (-1 : Int32)] [(.int (102 : Int32)), (.int p0)] _
              refine XS.icmpYes X0.here hx rfl (pc0 := 37) (pc' := 51) rfl (hb hby d1_37) rfl (tlt hc21).2.2.1 (by decide) (by decide) ?_
              show own_s p e below s₁ m 51 #[iv p0, iv p1, iv (-1 : Int32)] [] _
              refine XS.iloadN X0.here hx rfl (hb hby d1_51) rfl ?_
              show own_s p e below s₁ m 52 #[iv p0, iv p1, iv (-1 : Int32)] [(.int p1)] _
              refine XS.bipush X0.here hx rfl (hb hby d1_52) ?_
              show own_s p e below s₁ m 54 #[iv p0, iv p1, iv (-1 : Int32)] [(.int (16 : Int32)), (.int p1)] _
              refine XS.icmpNo X0.here hx rfl (hb hby d1_54) rfl (teq hc10).2 ?_
              show own_s p e below s₁ m 57 #[iv p0, iv p1, iv (-1 : Int32)] [] _
              refine XS.iloadN X0.here hx rfl (hb hby d1_57) rfl ?_
              show own_s p e below s₁ m 58 #[iv p0, iv p1, iv (-1 : Int32)] [(.int p0)] _
              refine XS.bipush X0.here hx rfl (hb hby d1_58) ?_
              show own_s p e below s₁ m 60 #[iv p0, iv p1, iv (-1 : Int32)] [(.int (65 : Int32)), (.int p0)] _
              refine XS.icmpNo X0.here hx rfl (hb hby d1_60) rfl (flt (show ¬ (p0 < (65 : Int32)) from (fun q => absurd (show (p0).toInt < (65 : Int) from Int32.lt_iff_toInt_lt.mp q) (by omega)))).1 ?_
              show own_s p e below s₁ m 63 #[iv p0, iv p1, iv (-1 : Int32)] [] _
              refine XS.iloadN X0.here hx rfl (hb hby d1_63) rfl ?_
              show own_s p e below s₁ m 64 #[iv p0, iv p1, iv (-1 : Int32)] [(.int p0)] _
              refine XS.bipush X0.here hx rfl (hb hby d1_64) ?_
              show own_s p e below s₁ m 66 #[iv p0, iv p1, iv (-1 : Int32)] [(.int (70 : Int32)), (.int p0)] _
              refine XS.icmpYes X0.here hx rfl (pc0 := 66) (pc' := 77) rfl (hb hby d1_66) rfl (tlt (show (70 : Int32) < p0 from (Int32.lt_iff_toInt_lt.mpr (by omega : (70 : Int) < (p0).toInt)))).2.2.1 (by decide) (by decide) ?_
              show own_s p e below s₁ m 77 #[iv p0, iv p1, iv (-1 : Int32)] [] _
              refine XS.iloadN X0.here hx rfl (hb hby d1_77) rfl ?_
              exact kX
            subst hS0
            obtain ⟨fs, hr, hrun, hended, hW, hsame⟩ := X0.leave (v := (some (.int (-1 : Int32)))) (fun h => by rw [Bd.returns] at h; cases h)
            refine ⟨_, _, pre22 _ (retI X0 hx Bd.returns (hb hby d1_78) hr), hrun, hended, _, _, rfl, ?_, ⟨_, rfl⟩, hW, hsame.mono (by decide) (by decide)⟩
            show Q1 Z p0 p1 h0 n0 (some (.int (-1 : Int32))) s₁.heap _
            refine ⟨⟨(-1 : Int32), rfl, ?_⟩, N0, e0⟩
            show own_DV p0.toInt p1.toInt (-1 : Int)
            unfold own_DV
            omega
          · skip
            have ihc21 : ¬ ((102 : Int) < (p0).toInt) := fun q => hc21 (Int32.lt_iff_toInt_lt.mpr q)
            have pre23 : ∀ t, own_s p e below s₁ m 78 #[iv p0, iv p1, iv ((p0 - (97 : Int32)) + (10 : Int32))] [(.int ((p0 - (97 : Int32)) + (10 : Int32)))] t → Steps p.tables e below S0 t := by
              intro tX kX
              refine pre20 _ ?_
              show own_s p e below s₁ m 37 #[iv p0, iv p1, iv (-1 : Int32)] [(.int (102 : Int32)), (.int p0)] _
              refine XS.icmpNo X0.here hx rfl (hb hby d1_37) rfl (flt hc21).2.2.1 ?_
              show own_s p e below s₁ m 40 #[iv p0, iv p1, iv (-1 : Int32)] [] _
              refine XS.iloadN X0.here hx rfl (hb hby d1_40) rfl ?_
              show own_s p e below s₁ m 41 #[iv p0, iv p1, iv (-1 : Int32)] [(.int p0)] _
              refine XS.bipush X0.here hx rfl (hb hby d1_41) ?_
              show own_s p e below s₁ m 43 #[iv p0, iv p1, iv (-1 : Int32)] [(.int (97 : Int32)), (.int p0)] _
              refine XS.isub X0.here hx rfl (hb hby d1_43) rfl ?_
              show own_s p e below s₁ m 44 #[iv p0, iv p1, iv (-1 : Int32)] [(.int (p0 - (97 : Int32)))] _
              refine XS.bipush X0.here hx rfl (hb hby d1_44) ?_
              show own_s p e below s₁ m 46 #[iv p0, iv p1, iv (-1 : Int32)] [(.int (10 : Int32)), (.int (p0 - (97 : Int32)))] _
              refine XS.iadd X0.here hx rfl (hb hby d1_46) rfl ?_
              show own_s p e below s₁ m 47 #[iv p0, iv p1, iv (-1 : Int32)] [(.int ((p0 - (97 : Int32)) + (10 : Int32)))] _
              refine XS.istoreN X0.here hx rfl (hb hby d1_47) rfl (l' := #[iv p0, iv p1, iv ((p0 - (97 : Int32)) + (10 : Int32))]) rfl ?_
              show own_s p e below s₁ m 48 #[iv p0, iv p1, iv ((p0 - (97 : Int32)) + (10 : Int32))] [] _
              refine XS.goto X0.here hx rfl (pc0 := 48) (pc' := 77) rfl (hb hby d1_48) (by decide) (by decide) ?_
              show own_s p e below s₁ m 77 #[iv p0, iv p1, iv ((p0 - (97 : Int32)) + (10 : Int32))] [] _
              refine XS.iloadN X0.here hx rfl (hb hby d1_77) rfl ?_
              exact kX
            subst hS0
            obtain ⟨fs, hr, hrun, hended, hW, hsame⟩ := X0.leave (v := (some (.int ((p0 - (97 : Int32)) + (10 : Int32))))) (fun h => by rw [Bd.returns] at h; cases h)
            refine ⟨_, _, pre23 _ (retI X0 hx Bd.returns (hb hby d1_78) hr), hrun, hended, _, _, rfl, ?_, ⟨_, rfl⟩, hW, hsame.mono (by decide) (by decide)⟩
            show Q1 Z p0 p1 h0 n0 (some (.int ((p0 - (97 : Int32)) + (10 : Int32)))) s₁.heap _
            refine ⟨⟨((p0 - (97 : Int32)) + (10 : Int32)), rfl, ?_⟩, N0, e0⟩
            show own_DV p0.toInt p1.toInt (((p0 - (97 : Int32)) + (10 : Int32))).toInt
            unfold own_DV
            have d1 := c_isub p0 97
            have d2 := rng32 (p0 - 97)
            have d3 : (97 : Int32).toInt = 97 := rfl
            have d4 := c_iadd (p0 - 97) 10
            have d5 := rng32 (p0 - 97 + 10)
            have d6 : (10 : Int32).toInt = 10 := rfl
            omega
      · skip
        have ihc10 : ¬ ((p1).toInt = (16 : Int)) := fun q => hc10 (Int32.toInt_inj.mp q)
        have pre24 : ∀ t, own_s p e below s₁ m 78 #[iv p0, iv p1, iv (-1 : Int32)] [(.int (-1 : Int32))] t → Steps p.tables e below S0 t := by
          intro tX kX
          refine pre9 _ ?_
          show own_s p e below s₁ m 25 #[iv p0, iv p1, iv (-1 : Int32)] [(.int (16 : Int32)), (.int p1)] _
          refine XS.icmpYes X0.here hx rfl (pc0 := 25) (pc' := 51) rfl (hb hby d1_25) rfl (feq hc10).2 (by decide) (by decide) ?_
          show own_s p e below s₁ m 51 #[iv p0, iv p1, iv (-1 : Int32)] [] _
          refine XS.iloadN X0.here hx rfl (hb hby d1_51) rfl ?_
          show own_s p e below s₁ m 52 #[iv p0, iv p1, iv (-1 : Int32)] [(.int p1)] _
          refine XS.bipush X0.here hx rfl (hb hby d1_52) ?_
          show own_s p e below s₁ m 54 #[iv p0, iv p1, iv (-1 : Int32)] [(.int (16 : Int32)), (.int p1)] _
          refine XS.icmpYes X0.here hx rfl (pc0 := 54) (pc' := 77) rfl (hb hby d1_54) rfl (feq hc10).2 (by decide) (by decide) ?_
          show own_s p e below s₁ m 77 #[iv p0, iv p1, iv (-1 : Int32)] [] _
          refine XS.iloadN X0.here hx rfl (hb hby d1_77) rfl ?_
          exact kX
        subst hS0
        obtain ⟨fs, hr, hrun, hended, hW, hsame⟩ := X0.leave (v := (some (.int (-1 : Int32)))) (fun h => by rw [Bd.returns] at h; cases h)
        refine ⟨_, _, pre24 _ (retI X0 hx Bd.returns (hb hby d1_78) hr), hrun, hended, _, _, rfl, ?_, ⟨_, rfl⟩, hW, hsame.mono (by decide) (by decide)⟩
        show Q1 Z p0 p1 h0 n0 (some (.int (-1 : Int32))) s₁.heap _
        refine ⟨⟨(-1 : Int32), rfl, ?_⟩, N0, e0⟩
        show own_DV p0.toInt p1.toInt (-1 : Int)
        unfold own_DV
        omega
    · skip
      have ihc8 : ¬ ((57 : Int) < (p0).toInt) := fun q => hc8 (Int32.lt_iff_toInt_lt.mpr q)
      have pre25 : ∀ t, own_s p e below s₁ m 78 #[iv p0, iv p1, iv (p0 - (48 : Int32))] [(.int (p0 - (48 : Int32)))] t → Steps p.tables e below S0 t := by
        intro tX kX
        refine pre7 _ ?_
        show own_s p e below s₁ m 11 #[iv p0, iv p1, iv (-1 : Int32)] [(.int (57 : Int32)), (.int p0)] _
        refine XS.icmpNo X0.here hx rfl (hb hby d1_11) rfl (flt hc8).2.2.1 ?_
        show own_s p e below s₁ m 14 #[iv p0, iv p1, iv (-1 : Int32)] [] _
        refine XS.iloadN X0.here hx rfl (hb hby d1_14) rfl ?_
        show own_s p e below s₁ m 15 #[iv p0, iv p1, iv (-1 : Int32)] [(.int p0)] _
        refine XS.bipush X0.here hx rfl (hb hby d1_15) ?_
        show own_s p e below s₁ m 17 #[iv p0, iv p1, iv (-1 : Int32)] [(.int (48 : Int32)), (.int p0)] _
        refine XS.isub X0.here hx rfl (hb hby d1_17) rfl ?_
        show own_s p e below s₁ m 18 #[iv p0, iv p1, iv (-1 : Int32)] [(.int (p0 - (48 : Int32)))] _
        refine XS.istoreN X0.here hx rfl (hb hby d1_18) rfl (l' := #[iv p0, iv p1, iv (p0 - (48 : Int32))]) rfl ?_
        show own_s p e below s₁ m 19 #[iv p0, iv p1, iv (p0 - (48 : Int32))] [] _
        refine XS.goto X0.here hx rfl (pc0 := 19) (pc' := 77) rfl (hb hby d1_19) (by decide) (by decide) ?_
        show own_s p e below s₁ m 77 #[iv p0, iv p1, iv (p0 - (48 : Int32))] [] _
        refine XS.iloadN X0.here hx rfl (hb hby d1_77) rfl ?_
        exact kX
      subst hS0
      obtain ⟨fs, hr, hrun, hended, hW, hsame⟩ := X0.leave (v := (some (.int (p0 - (48 : Int32))))) (fun h => by rw [Bd.returns] at h; cases h)
      refine ⟨_, _, pre25 _ (retI X0 hx Bd.returns (hb hby d1_78) hr), hrun, hended, _, _, rfl, ?_, ⟨_, rfl⟩, hW, hsame.mono (by decide) (by decide)⟩
      show Q1 Z p0 p1 h0 n0 (some (.int (p0 - (48 : Int32)))) s₁.heap _
      refine ⟨⟨(p0 - (48 : Int32)), rfl, ?_⟩, N0, e0⟩
      show own_DV p0.toInt p1.toInt ((p0 - (48 : Int32))).toInt
      unfold own_DV
      have d1 := c_isub p0 48
      have d2 := rng32 (p0 - 48)
      have d3 : (48 : Int32).toInt = 48 := rfl
      omega
theorem d2_0 : decode jdk_41_method_11_code 0 = .ok (.iload_n 0, 1) := by decide +kernel
theorem d2_1 : decode jdk_41_method_11_code 1 = .ok (.ifCond .lt 8, 3) := by decide +kernel
theorem d2_4 : decode jdk_41_method_11_code 4 = .ok (.iload_n 0, 1) := by decide +kernel
theorem d2_5 : decode jdk_41_method_11_code 5 = .ok (.iload_n 1, 1) := by decide +kernel
theorem d2_6 : decode jdk_41_method_11_code 6 = .ok (.if_icmp .lt 10, 3) := by decide +kernel
theorem d2_16 : decode jdk_41_method_11_code 16 = .ok (.iload_n 0, 1) := by decide +kernel
theorem d2_17 : decode jdk_41_method_11_code 17 = .ok (.ireturn, 1) := by decide +kernel
theorem pn_2 : plainName "jdk/internal/util/Preconditions" = true := by first | (simp [plainName, overriddenIn]; done) | decide +kernel
theorem ef_2 (m : MethodId) (p0 : Int32) (p1 : Int32) (w : Value) (hv : w.isRef = true) : entryFrame m #[(.int p0), (.int p1), w] 3 = mkF m 0 #[iv p0, iv p1, .val w] [] := by
  rcases ref_cases hv with rfl | ⟨_, rfl⟩ <;> first | (simp [entryFrame, mkF, argsToLocals, Value.category]; done) | rfl
def Q2 (Z : State) (p0 : Int32) (p1 : Int32) (w : Value) (h0 : Heap) (n0 : Nat) (v : Option Value) (h : Heap) (L : List Loc) : Prop := v = some (.int p0) ∧ Fr n0 L ∧ h = h0
set_option maxRecDepth 65536 in
set_option maxHeartbeats 40000000 in
theorem rm2 (l : Launch) (Z : State) (a0 : Array Value) (hw : ∀ d ∈ tables_1, d.before a0 Z = true) (ws : List Jvm.Cond) (p0 : Int32) (p1 : Int32) (w : Value) (h0 : Heap) (n0 : Nat) (Z0 : n0 ≤ h0.size) (hv : w.isRef = true) (h0' : 0 ≤ p0.toInt) (h1' : p0.toInt < p1.toInt) :
    MetFree l (⟨"jdk/internal/util/Preconditions", "checkIndex", "(IILjava/util/function/BiFunction;)I"⟩ : MethodName) (head1 (Jvm.Cond.code (⟨"jdk/internal/util/Preconditions", "checkIndex", "(IILjava/util/function/BiFunction;)I"⟩ : MethodName) jdk_41_method_11_code 3 (some .int) :: ws) ({ frames := 0, cells := 0, slots := 0, locals := 0 } : Room)) (fun aX UX => aX = #[(.int p0), (.int p1), w] ∧ Z.Warmed39 UX.vm ∧ UX.heap = h0) (fun _ _ _ _ _ => True) (fun _ UX oX UY => ∃ vX LX, oX = .returned vX ∧ Q2 Z p0 p1 w h0 n0 vX UY.heap LX ∧ FrameEnd UX oX UY LX ({ frames := 0, cells := 0, slots := 0, locals := 0 } : Room).cells ({ frames := 0, cells := 0, slots := 0, locals := 0 } : Room).slots) := by
  refine MetFree.of_bodySF (plainFor_of_name pn_2) hisR ?_
  intro p e s m args below meth c s₁ Bd hml0 hP hK
  obtain ⟨rfl, hZ, hh⟩ := hP
  have hx := Bd.exec
  have hby := Bd.bytes
  have hml : c.maxLocals = 3 := hml0
  have hown : s.vm.findClass "jdk/internal/util/Preconditions" = some m.cls := findClass_of_methodNamed Bd.named
  have hnm := (name_of_methodNamed Bd.named Bd.method).1
  have X0 : Stand p l e ({ frames := 0, cells := 0, slots := 0, locals := 0 } : Room) s m #[(.int p0), (.int p1), w] below meth c s₁ [] 0 0 := Stand.of_body Bd
  have e0 : s₁.heap = h0 := by rw [← hh, Bd.state]; rfl
  have N0 := Fr.nil n0
  have pre0 : ∀ t, Steps p.tables e below (s₁.setTop (mkF m 0 #[iv p0, iv p1, .val w] [])) t → Steps p.tables e below (s₁.setTop (entryFrame m #[(.int p0), (.int p1), w] 3)) t := fun t k => castTop (ef_2 m p0 p1 w hv) k
  obtain ⟨S0, hS0⟩ : ∃ z, z = (s₁.setTop (entryFrame m #[(.int p0), (.int p1), w] 3)) := ⟨_, rfl⟩
  rw [← hS0] at pre0
  have pre1 : ∀ t, own_s p e below s₁ m 17 #[iv p0, iv p1, .val w] [(.int p0)] t → Steps p.tables e below S0 t := by
    intro tX kX
    refine pre0 _ ?_
    show own_s p e below s₁ m 0 #[iv p0, iv p1, .val w] [] _
    refine XS.iloadN X0.here hx rfl (hb hby d2_0) rfl ?_
    show own_s p e below s₁ m 1 #[iv p0, iv p1, .val w] [(.int p0)] _
    refine XS.ifNo X0.here hx rfl (hb hby d2_1) rfl ((if0 _ _).trans (flt (fun q => absurd (show (p0).toInt < (0 : Int) from Int32.lt_iff_toInt_lt.mp q) (by omega))).1) ?_
    show own_s p e below s₁ m 4 #[iv p0, iv p1, .val w] [] _
    refine XS.iloadN X0.here hx rfl (hb hby d2_4) rfl ?_
    show own_s p e below s₁ m 5 #[iv p0, iv p1, .val w] [(.int p0)] _
    refine XS.iloadN X0.here hx rfl (hb hby d2_5) rfl ?_
    show own_s p e below s₁ m 6 #[iv p0, iv p1, .val w] [(.int p1), (.int p0)] _
    refine XS.icmpYes X0.here hx rfl (pc0 := 6) (pc' := 16) rfl (hb hby d2_6) rfl (tlt (show p0 < p1 from Int32.lt_iff_toInt_lt.mpr (by omega : (p0).toInt < (p1).toInt))).1 (by decide) (by decide) ?_
    show own_s p e below s₁ m 16 #[iv p0, iv p1, .val w] [] _
    refine XS.iloadN X0.here hx rfl (hb hby d2_16) rfl ?_
    exact kX
  subst hS0
  obtain ⟨fs, hr, hrun, hended, hW, hsame⟩ := X0.leave (v := (some (.int p0))) (fun h => by rw [Bd.returns] at h; cases h)
  refine ⟨_, _, pre1 _ (retI X0 hx Bd.returns (hb hby d2_17) hr), hrun, hended, _, _, rfl, ?_, ⟨_, rfl⟩, hW, hsame.mono (by decide) (by decide)⟩
  show Q2 Z p0 p1 w h0 n0 (some (.int p0)) s₁.heap _
  exact ⟨rfl, N0, e0⟩
theorem d3_0 : decode jdk_42_method_155_code 0 = .ok (.iload_n 0, 1) := by decide +kernel
theorem d3_1 : decode jdk_42_method_155_code 1 = .ok (.iload_n 1, 1) := by decide +kernel
theorem d3_2 : decode jdk_42_method_155_code 2 = .ok (.getstatic 1053, 3) := by decide +kernel
theorem d3_5 : decode jdk_42_method_155_code 5 = .ok (.invokestatic 1059, 3) := by decide +kernel
theorem d3_8 : decode jdk_42_method_155_code 8 = .ok (.pop, 1) := by decide +kernel
theorem d3_9 : decode jdk_42_method_155_code 9 = .ok (.return_, 1) := by decide +kernel
theorem pn_3 : plainName "java/lang/String" = true := by first | (simp [plainName, overriddenIn]; done) | decide +kernel
theorem pd3_0 : parseMethodDescriptor "(IILjava/util/function/BiFunction;)I" = some ⟨[.int, .int, (.object "java/util/function/BiFunction")], some .int⟩ := by decide +kernel
theorem ef_3 (m : MethodId) (p0 : Int32) (p1 : Int32) : entryFrame m #[(.int p0), (.int p1)] 2 = mkF m 0 #[iv p0, iv p1] [] := by first | (simp [entryFrame, mkF, argsToLocals, Value.category]; done) | rfl
def Q3 (Z : State) (p0 : Int32) (p1 : Int32) (w : Value) (h0 : Heap) (n0 : Nat) (v : Option Value) (h : Heap) (L : List Loc) : Prop := v = none ∧ Fr n0 L ∧ h = h0
set_option maxRecDepth 65536 in
set_option maxHeartbeats 40000000 in
theorem rm3 (l : Launch) (Z : State) (a0 : Array Value) (hw : ∀ d ∈ tables_1, d.before a0 Z = true) (ws : List Jvm.Cond) (p0 : Int32) (p1 : Int32) (w : Value) (h0 : Heap) (n0 : Nat) (Z0 : n0 ≤ h0.size) (hv : w.isRef = true) (S_f : Sta Z h0 "jdk/internal/util/Preconditions" "SIOOBE_FORMATTER" "Ljava/util/function/BiFunction;" w) (h0' : 0 ≤ p0.toInt) (h1' : p0.toInt < p1.toInt) :
    MetFree l (⟨"java/lang/String", "checkIndex", "(II)V"⟩ : MethodName) (head1 (Jvm.Cond.code (⟨"java/lang/String", "checkIndex", "(II)V"⟩ : MethodName) jdk_42_method_155_code 2 none :: ws) ({ frames := 1, cells := 0, slots := 0, locals := 15 } : Room)) (fun aX UX => aX = #[(.int p0), (.int p1)] ∧ Z.Warmed39 UX.vm ∧ UX.heap = h0) (fun _ _ _ _ _ => True) (fun _ UX oX UY => ∃ vX LX, oX = .returned vX ∧ Q3 Z p0 p1 w h0 n0 vX UY.heap LX ∧ FrameEnd UX oX UY LX ({ frames := 1, cells := 0, slots := 0, locals := 15 } : Room).cells ({ frames := 1, cells := 0, slots := 0, locals := 15 } : Room).slots) := by
  refine MetFree.of_bodySF (plainFor_of_name pn_3) hisR ?_
  intro p e s m args below meth c s₁ Bd hml0 hP hK
  obtain ⟨rfl, hZ, hh⟩ := hP
  have hx := Bd.exec
  have hby := Bd.bytes
  have hml : c.maxLocals = 2 := hml0
  have hown : s.vm.findClass "java/lang/String" = some m.cls := findClass_of_methodNamed Bd.named
  have hnm := (name_of_methodNamed Bd.named Bd.method).1
  have X0 : Stand p l e ({ frames := 1, cells := 0, slots := 0, locals := 15 } : Room) s m #[(.int p0), (.int p1)] below meth c s₁ [] 0 0 := Stand.of_body Bd
  have e0 : s₁.heap = h0 := by rw [← hh, Bd.state]; rfl
  have N0 := Fr.nil n0
  have pre0 : ∀ t, Steps p.tables e below (s₁.setTop (mkF m 0 #[iv p0, iv p1] [])) t → Steps p.tables e below (s₁.setTop (entryFrame m #[(.int p0), (.int p1)] 2)) t := fun t k => castTop (ef_3 m p0 p1) k
  obtain ⟨S0, hS0⟩ : ∃ z, z = (s₁.setTop (entryFrame m #[(.int p0), (.int p1)] 2)) := ⟨_, rfl⟩
  rw [← hS0] at pre0
  have pre1 : ∀ t, own_s p e below s₁ m 2 #[iv p0, iv p1] [(.int p1), (.int p0)] t → Steps p.tables e below S0 t := by
    intro tX kX
    refine pre0 _ ?_
    show own_s p e below s₁ m 0 #[iv p0, iv p1] [] _
    refine XS.iloadN X0.here hx rfl (hb hby d3_0) rfl ?_
    show own_s p e below s₁ m 1 #[iv p0, iv p1] [(.int p0)] _
    refine XS.iloadN X0.here hx rfl (hb hby d3_1) rfl ?_
    exact kX
  obtain ⟨T2, X2, e2, st2⟩ := getS2 X0 hx hZ hown (host := "") (Or.inl (hw _ (List.mem_of_getElem? (i := 34) rfl))) Via.refl e0 S_f (g := (mkF m 2 #[iv p0, iv p1] [(.int p1), (.int p0)])) rfl (hb hby d3_2)
  have pre3 : ∀ t, own_s p e below T2 m 5 #[iv p0, iv p1] [w, (.int p1), (.int p0)] t → Steps p.tables e below S0 t := fun tX kX => pre1 _ (st2 _ kX)
  obtain ⟨_, _, ⟨T4, L4, k4, n4⟩, -, X4, ⟨Lc4, hQ4, l4, y4, z4⟩, st4⟩ := Jvm.LawKit.callS X2 hx (y := (⟨"jdk/internal/util/Preconditions", "checkIndex", "(IILjava/util/function/BiFunction;)I"⟩ : MethodName)) hown (mvT hZ (hw _ (List.mem_of_getElem? (i := 36) rfl))) (mvT hZ (hw _ (List.mem_of_getElem? (i := 37) rfl))) (mvT hZ (hw _ (List.mem_of_getElem? (i := 35) rfl))) (mvT hZ (hw _ (List.mem_of_getElem? (i := 38) rfl))) (by decide) (backOf (W := 0) (rm2 l Z a0 hw [] p0 p1 w  h0 n0 Z0 hv h0' h1') hZ (hw _ (List.mem_of_getElem? (i := 38) rfl)) (hw _ (List.mem_of_getElem? (i := 35) rfl)) (by decide) (by decide)) (g := (mkF m 5 #[iv p0, iv p1] [w, (.int p1), (.int p0)])) rfl (by rw [hml]; rfl) (argsL := [(.int p0), (.int p1), w]) (rest := []) (lenOf pd3_0 rfl) rfl (by show 2 * 0 + _ ≤ _; exact Nat.le_of_eq rfl) (hb hby d3_5) (fun _ _ => ⟨rfl, e2, (by decide : 0 + 0 ≤ _), (by decide : 0 + 0 ≤ _)⟩)
  dsimp only [Pt.U, Pt.locs, Pt.cells, Pt.slots] at X4 l4 y4 z4 st4 hQ4
  subst l4 y4 z4
  obtain ⟨rfl, Nq4, e4⟩ := hQ4
  have N4 := Fr.app N0 Nq4
  have pre5 : ∀ t, own_s p e below T4 m 8 #[iv p0, iv p1] [(.int p0)] t → Steps p.tables e below S0 t := fun tX kX => pre3 _ (st4 _ kX)
  have pre6 : ∀ t, own_s p e below T4 m 9 #[iv p0, iv p1] [] t → Steps p.tables e below S0 t := by
    intro tX kX
    refine pre5 _ ?_
    show own_s p e below T4 m 8 #[iv p0, iv p1] [(.int p0)] _
    refine XS.pop X4.here hx rfl (hb hby d3_8) rfl rfl ?_
    exact kX
  subst hS0
  obtain ⟨fs, hr, hrun, hended, hW, hsame⟩ := X4.leave (v := none) (fun _ => rfl)
  refine ⟨_, _, pre6 _ (X4.returnOut hx Bd.returns (hb hby d3_9) hr), hrun, hended, _, _, rfl, ?_, ⟨_, rfl⟩, hW, hsame.mono (by decide) (by decide)⟩
  show Q3 Z p0 p1 w h0 n0 none T4.heap _
  exact ⟨rfl, N4, e4⟩
theorem d4_0 : decode jdk_43_method_2_code 0 = .ok (.iload_n 1, 1) := by decide +kernel
theorem d4_1 : decode jdk_43_method_2_code 1 = .ok (.aload_n 0, 1) := by decide +kernel
theorem d4_2 : decode jdk_43_method_2_code 2 = .ok (.arraylength, 1) := by decide +kernel
theorem d4_3 : decode jdk_43_method_2_code 3 = .ok (.invokestatic 9, 3) := by decide +kernel
theorem d4_6 : decode jdk_43_method_2_code 6 = .ok (.aload_n 0, 1) := by decide +kernel
theorem d4_7 : decode jdk_43_method_2_code 7 = .ok (.iload_n 1, 1) := by decide +kernel
theorem d4_8 : decode jdk_43_method_2_code 8 = .ok (.baload, 1) := by decide +kernel
theorem d4_9 : decode jdk_43_method_2_code 9 = .ok (.sipush 255, 3) := by decide +kernel
theorem d4_12 : decode jdk_43_method_2_code 12 = .ok (.iand, 1) := by decide +kernel
theorem d4_13 : decode jdk_43_method_2_code 13 = .ok (.i2c, 1) := by decide +kernel
theorem d4_14 : decode jdk_43_method_2_code 14 = .ok (.ireturn, 1) := by decide +kernel
theorem pn_4 : plainName "java/lang/StringLatin1" = true := by first | (simp [plainName, overriddenIn]; done) | decide +kernel
theorem pd4_0 : parseMethodDescriptor "(II)V" = some ⟨[.int, .int], none⟩ := by decide +kernel
theorem ef_4 (m : MethodId) (b : Addr) (p1 : Int32) : entryFrame m #[(.ref b), (.int p1)] 2 = mkF m 0 #[rv b, iv p1] [] := by first | (simp [entryFrame, mkF, argsToLocals, Value.category]; done) | rfl
def Q4 (Z : State) (b : Addr) (p1 : Int32) (G : Nat → Int32) (I : Nat) (w : Value) (h0 : Heap) (n0 : Nat) (v : Option Value) (h : Heap) (L : List Loc) : Prop := v = some (.int (G I)) ∧ Fr n0 L ∧ h = h0
set_option maxRecDepth 65536 in
set_option maxHeartbeats 40000000 in
theorem rm4 (l : Launch) (Z : State) (a0 : Array Value) (hw : ∀ d ∈ tables_1, d.before a0 Z = true) (ws : List Jvm.Cond) (b : Addr) (p1 : Int32) (G : Nat → Int32) (I : Nat) (w : Value) (h0 : Heap) (n0 : Nat) (Z0 : n0 ≤ h0.size) (hv : w.isRef = true) (S_f : Sta Z h0 "jdk/internal/util/Preconditions" "SIOOBE_FORMATTER" "Ljava/util/function/BiFunction;" w) (A_b : own_Af Z h0 b .byte 16 (fun j => .int (G j))) (hG : ∀ j, j < 16 → 0 ≤ (G j).toInt ∧ (G j).toInt < 128) (hI : p1.toInt = I) (hI' : I < 16) :
    MetFree l (⟨"java/lang/StringLatin1", "charAt", "([BI)C"⟩ : MethodName) (head1 (Jvm.Cond.code (⟨"java/lang/StringLatin1", "charAt", "([BI)C"⟩ : MethodName) jdk_43_method_2_code 2 (some .char) :: ws) ({ frames := 2, cells := 0, slots := 0, locals := 30 } : Room)) (fun aX UX => aX = #[(.ref b), (.int p1)] ∧ Z.Warmed39 UX.vm ∧ UX.heap = h0) (fun _ _ _ _ _ => True) (fun _ UX oX UY => ∃ vX LX, oX = .returned vX ∧ Q4 Z b p1 G I w h0 n0 vX UY.heap LX ∧ FrameEnd UX oX UY LX ({ frames := 2, cells := 0, slots := 0, locals := 30 } : Room).cells ({ frames := 2, cells := 0, slots := 0, locals := 30 } : Room).slots) := by
  refine MetFree.of_bodySF (plainFor_of_name pn_4) hisR ?_
  intro p e s m args below meth c s₁ Bd hml0 hP hK
  obtain ⟨rfl, hZ, hh⟩ := hP
  have hx := Bd.exec
  have hby := Bd.bytes
  have hml : c.maxLocals = 2 := hml0
  have hown : s.vm.findClass "java/lang/StringLatin1" = some m.cls := findClass_of_methodNamed Bd.named
  have hnm := (name_of_methodNamed Bd.named Bd.method).1
  have X0 : Stand p l e ({ frames := 2, cells := 0, slots := 0, locals := 30 } : Room) s m #[(.ref b), (.int p1)] below meth c s₁ [] 0 0 := Stand.of_body Bd
  have e0 : s₁.heap = h0 := by rw [← hh, Bd.state]; rfl
  have N0 := Fr.nil n0
  have pre0 : ∀ t, Steps p.tables e below (s₁.setTop (mkF m 0 #[rv b, iv p1] [])) t → Steps p.tables e below (s₁.setTop (entryFrame m #[(.ref b), (.int p1)] 2)) t := fun t k => castTop (ef_4 m b p1) k
  obtain ⟨S0, hS0⟩ : ∃ z, z = (s₁.setTop (entryFrame m #[(.ref b), (.int p1)] 2)) := ⟨_, rfl⟩
  rw [← hS0] at pre0
  have pre2 : ∀ t, own_s p e below s₁ m 2 #[rv b, iv p1] [(.ref b), (.int p1)] t → Steps p.tables e below S0 t := by
    intro tX kX
    refine pre0 _ ?_
    show own_s p e below s₁ m 0 #[rv b, iv p1] [] _
    refine XS.iloadN X0.here hx rfl (hb hby d4_0) rfl ?_
    show own_s p e below s₁ m 1 #[rv b, iv p1] [(.int p1)] _
    refine XS.aloadN X0.here hx rfl (hb hby d4_1) rfl rfl ?_
    exact kX
  obtain ⟨cl1, Ar1, S1, M1, H1⟩ := id A_b
  have pre3 : ∀ t, own_s p e below s₁ m 3 #[rv b, iv p1] [(.int (16 : Int32)), (.int p1)] t → Steps p.tables e below S0 t := by
    intro tX kX
    refine pre2 _ ?_
    show own_s p e below s₁ m 2 #[rv b, iv p1] [(.ref b), (.int p1)] _
    refine X0.arraylength hx (by rw [e0]; exact Ar1.1) (State.isArrayOf_alike hZ.alike Ar1.2.1) (g := (mkF m 2 #[rv b, iv p1] [(.ref b), (.int p1)])) rfl rfl (hb hby d4_2) _ ?_
    rw [show cl1.slots.size.toInt32 = (16 : Int32) from by rw [S1]; exact rfl]
    exact kX
  obtain ⟨_, _, ⟨T4, L4, k4, n4⟩, -, X4, ⟨Lc4, hQ4, l4, y4, z4⟩, st4⟩ := Jvm.LawKit.callS X0 hx (y := (⟨"java/lang/String", "checkIndex", "(II)V"⟩ : MethodName)) hown (mvT hZ (hw _ (List.mem_of_getElem? (i := 31) rfl))) (mvT hZ (hw _ (List.mem_of_getElem? (i := 32) rfl))) (mvT hZ (hw _ (List.mem_of_getElem? (i := 1) rfl))) (mvT hZ (hw _ (List.mem_of_getElem? (i := 33) rfl))) (by decide) (backOf (W := 0) (rm3 l Z a0 hw [] p1 (16 : Int32) w h0 n0 Z0 hv S_f (by omega) (by have d : (16 : Int32).toInt = 16 := rfl; omega)) hZ (hw _ (List.mem_of_getElem? (i := 33) rfl)) (hw _ (List.mem_of_getElem? (i := 1) rfl)) (by decide) (by decide)) (g := (mkF m 3 #[rv b, iv p1] [(.int (16 : Int32)), (.int p1)])) rfl (by rw [hml]; rfl) (argsL := [(.int p1), (.int (16 : Int32))]) (rest := []) (lenOf pd4_0 rfl) rfl (by show 2 * 0 + _ ≤ _; exact Nat.le_of_eq rfl) (hb hby d4_3) (fun _ _ => ⟨rfl, e0, (by decide : 0 + 0 ≤ _), (by decide : 0 + 0 ≤ _)⟩)
  dsimp only [Pt.U, Pt.locs, Pt.cells, Pt.slots] at X4 l4 y4 z4 st4 hQ4
  subst l4 y4 z4
  obtain ⟨rfl, Nq4, e4⟩ := hQ4
  have N4 := Fr.app N0 Nq4
  have pre5 : ∀ t, own_s p e below T4 m 6 #[rv b, iv p1] [] t → Steps p.tables e below S0 t := fun tX kX => pre3 _ (st4 _ kX)
  have pre7 : ∀ t, own_s p e below T4 m 8 #[rv b, iv p1] [(.int p1), (.ref b)] t → Steps p.tables e below S0 t := by
    intro tX kX
    refine pre5 _ ?_
    show own_s p e below T4 m 6 #[rv b, iv p1] [] _
    refine XS.aloadN X4.here hx rfl (hb hby d4_6) rfl rfl ?_
    show own_s p e below T4 m 7 #[rv b, iv p1] [(.ref b)] _
    refine XS.iloadN X4.here hx rfl (hb hby d4_7) rfl ?_
    exact kX
  obtain ⟨cl6, Ar6, S6, M6, H6⟩ := id A_b
  have pre8 : ∀ t, own_s p e below T4 m 14 #[rv b, iv p1] [(.int (((G I) &&& (255 : Int32)).toUInt32.toUInt16.toUInt32.toInt32))] t → Steps p.tables e below S0 t := by
    intro tX kX
    refine pre7 _ ?_
    show own_s p e below T4 m 8 #[rv b, iv p1] [(.int p1), (.ref b)] _
    refine X4.baloadBytes hx (j := p1) (v := (.int (G I))) (by rw [e4]; exact Ar6.1) (State.isArrayOf_alike hZ.alike Ar6.2.1) Ar6.2.2 (own_inb S6 M6 (own_idx (by omega) (by omega))) (own_get H6 S6 (own_idx (by omega) (by omega)) (by show Value.int (G p1.toNatClampNeg) = _; rw [own_nat hI])) (g := (mkF m 8 #[rv b, iv p1] [(.int p1), (.ref b)])) rfl rfl (hb hby d4_8) _ ?_
    show own_s p e below T4 m 9 #[rv b, iv p1] [(.int (G I))] _
    refine XS.sipush X4.here hx rfl (hb hby d4_9) ?_
    show own_s p e below T4 m 12 #[rv b, iv p1] [(.int (255 : Int32)), (.int (G I))] _
    refine XS.iand X4.here hx rfl (hb hby d4_12) rfl ?_
    show own_s p e below T4 m 13 #[rv b, iv p1] [(.int ((G I) &&& (255 : Int32)))] _
    refine XS.i2c X4.here hx rfl (hb hby d4_13) rfl ?_
    exact kX
  subst hS0
  obtain ⟨fs, hr, hrun, hended, hW, hsame⟩ := X4.leave (v := (some (.int (nar .char (((G I) &&& (255 : Int32)).toUInt32.toUInt16.toUInt32.toInt32))))) (fun h => by rw [Bd.returns] at h; cases h)
  refine ⟨_, _, pre8 _ (retN X4 hx (t := .char) Bd.returns (by simp) (hb hby d4_14) hr), hrun, hended, _, _, rfl, ?_, ⟨_, rfl⟩, hW, hsame.mono (by decide) (by decide)⟩
  show Q4 Z b p1 G I w h0 n0 (some (.int (nar .char (((G I) &&& (255 : Int32)).toUInt32.toUInt16.toUInt32.toInt32)))) T4.heap _
  exact ⟨congrArg (fun z => some (Value.int z)) (show (nar .char (((G I) &&& (255 : Int32)).toUInt32.toUInt16.toUInt32.toInt32)) = G I from own_eqI (by
    have d0 := hG I hI'
    have d1 := c_mask (G I) 255 8 (by decide) (by decide)
    have d2 := c_i2c (G I &&& 255)
    have d3 := c_i2c ((G I &&& 255).toUInt32.toUInt16.toUInt32.toInt32)
    show ((((G I &&& 255).toUInt32.toUInt16.toUInt32.toInt32).toUInt32.toUInt16.toUInt32.toInt32)).toInt = _
    omega)), N4, e4⟩
theorem d5_0 : decode jdk_42_method_154_code 0 = .ok (.getstatic 38, 3) := by decide +kernel
theorem d5_3 : decode jdk_42_method_154_code 3 = .ok (.ifCond .eq 14, 3) := by decide +kernel
theorem d5_6 : decode jdk_42_method_154_code 6 = .ok (.aload_n 0, 1) := by decide +kernel
theorem d5_7 : decode jdk_42_method_154_code 7 = .ok (.getfield 15, 3) := by decide +kernel
theorem d5_10 : decode jdk_42_method_154_code 10 = .ok (.ifCond .ne 7, 3) := by decide +kernel
theorem d5_13 : decode jdk_42_method_154_code 13 = .ok (.iconst 1, 1) := by decide +kernel
theorem d5_14 : decode jdk_42_method_154_code 14 = .ok (.goto 4, 3) := by decide +kernel
theorem d5_18 : decode jdk_42_method_154_code 18 = .ok (.ireturn, 1) := by decide +kernel
theorem pn_5 : plainName "java/lang/String" = true := by first | (simp [plainName, overriddenIn]; done) | decide +kernel
theorem ef_5 (m : MethodId) (a : Addr) : entryFrame m #[(.ref a)] 1 = mkF m 0 #[rv a] [] := by first | (simp [entryFrame, mkF, argsToLocals, Value.category]; done) | rfl
def Q5 (Z : State) (a : Addr) (cs : Int32) (h0 : Heap) (n0 : Nat) (v : Option Value) (h : Heap) (L : List Loc) : Prop := v = some (.int 1) ∧ Fr n0 L ∧ h = h0
set_option maxRecDepth 65536 in
set_option maxHeartbeats 40000000 in
theorem rm5 (l : Launch) (Z : State) (a0 : Array Value) (hw : ∀ d ∈ tables_1, d.before a0 Z = true) (ws : List Jvm.Cond) (a : Addr) (cs : Int32) (h0 : Heap) (n0 : Nat) (Z0 : n0 ≤ h0.size) (S_c : Sta Z h0 "java/lang/String" "COMPACT_STRINGS" "Z" (.int cs)) (hc : ¬ cs = 0) (F_c : Fld Z h0 a "java/lang/String" "coder" "B" (.int (0 : Int32))) :
    MetFree l (⟨"java/lang/String", "isLatin1", "()Z"⟩ : MethodName) (head1 (Jvm.Cond.code (⟨"java/lang/String", "isLatin1", "()Z"⟩ : MethodName) jdk_42_method_154_code 1 (some .boolean) :: ws) ({ frames := 0, cells := 0, slots := 0, locals := 0 } : Room)) (fun aX UX => aX = #[(.ref a)] ∧ Z.Warmed39 UX.vm ∧ UX.heap = h0) (fun _ _ _ _ _ => True) (fun _ UX oX UY => ∃ vX LX, oX = .returned vX ∧ Q5 Z a cs h0 n0 vX UY.heap LX ∧ FrameEnd UX oX UY LX ({ frames := 0, cells := 0, slots := 0, locals := 0 } : Room).cells ({ frames := 0, cells := 0, slots := 0, locals := 0 } : Room).slots) := by
  refine MetFree.of_bodySF (plainFor_of_name pn_5) hisR ?_
  intro p e s m args below meth c s₁ Bd hml0 hP hK
  obtain ⟨rfl, hZ, hh⟩ := hP
  have hx := Bd.exec
  have hby := Bd.bytes
  have hml : c.maxLocals = 1 := hml0
  have hown : s.vm.findClass "java/lang/String" = some m.cls := findClass_of_methodNamed Bd.named
  have hnm := (name_of_methodNamed Bd.named Bd.method).1
  have X0 : Stand p l e ({ frames := 0, cells := 0, slots := 0, locals := 0 } : Room) s m #[(.ref a)] below meth c s₁ [] 0 0 := Stand.of_body Bd
  have e0 : s₁.heap = h0 := by rw [← hh, Bd.state]; rfl
  have N0 := Fr.nil n0
  have pre0 : ∀ t, Steps p.tables e below (s₁.setTop (mkF m 0 #[rv a] [])) t → Steps p.tables e below (s₁.setTop (entryFrame m #[(.ref a)] 1)) t := fun t k => castTop (ef_5 m a) k
  obtain ⟨S0, hS0⟩ : ∃ z, z = (s₁.setTop (entryFrame m #[(.ref a)] 1)) := ⟨_, rfl⟩
  rw [← hS0] at pre0
  obtain ⟨T1, X1, e1, st1⟩ := getS2 X0 hx hZ hown (host := "") (Or.inl (hw _ (List.mem_of_getElem? (i := 24) rfl))) Via.refl e0 S_c (g := (mkF m 0 #[rv a] [])) rfl (hb hby d5_0)
  have pre2 : ∀ t, own_s p e below T1 m 3 #[rv a] [(.int cs)] t → Steps p.tables e below S0 t := fun tX kX => pre0 _ (st1 _ kX)
  have pre3 : ∀ t, own_s p e below T1 m 7 #[rv a] [(.ref a)] t → Steps p.tables e below S0 t := by
    intro tX kX
    refine pre2 _ ?_
    show own_s p e below T1 m 3 #[rv a] [(.int cs)] _
    refine XS.ifNo X1.here hx rfl (hb hby d5_3) rfl ((if0 _ _).trans (feq hc).1) ?_
    show own_s p e below T1 m 6 #[rv a] [] _
    refine XS.aloadN X1.here hx rfl (hb hby d5_6) rfl rfl ?_
    exact kX
  obtain ⟨T4, X4, e4, st4⟩ := getF X1 hx hZ hown (host := "") (Or.inl (hw _ (List.mem_of_getElem? (i := 25) rfl))) Via.refl e1 F_c (g := (mkF m 7 #[rv a] [(.ref a)])) rfl rfl (hb hby d5_7)
  have pre5 : ∀ t, own_s p e below T4 m 10 #[rv a] [(.int (0 : Int32))] t → Steps p.tables e below S0 t := fun tX kX => pre3 _ (st4 _ kX)
  have pre6 : ∀ t, own_s p e below T4 m 18 #[rv a] [(.int (1 : Int32))] t → Steps p.tables e below S0 t := by
    intro tX kX
    refine pre5 _ ?_
    show own_s p e below T4 m 10 #[rv a] [(.int (0 : Int32))] _
    refine XS.ifNo X4.here hx rfl (hb hby d5_10) rfl ((if0 _ _).trans (teq (by decide : (0 : Int32) = (0 : Int32))).2) ?_
    show own_s p e below T4 m 13 #[rv a] [] _
    refine XS.iconst X4.here hx rfl (hb hby d5_13) ?_
    show own_s p e below T4 m 14 #[rv a] [(.int (1 : Int32))] _
    refine XS.goto X4.here hx rfl (pc0 := 14) (pc' := 18) rfl (hb hby d5_14) (by decide) (by decide) ?_
    exact kX
  subst hS0
  obtain ⟨fs, hr, hrun, hended, hW, hsame⟩ := X4.leave (v := (some (.int (1 : Int32)))) (fun h => by rw [Bd.returns] at h; cases h)
  refine ⟨_, _, pre6 _ (retN X4 hx (t := .boolean) Bd.returns (by simp) (hb hby d5_18) hr), hrun, hended, _, _, rfl, ?_, ⟨_, rfl⟩, hW, hsame.mono (by decide) (by decide)⟩
  show Q5 Z a cs h0 n0 (some (.int (1 : Int32))) T4.heap _
  exact ⟨rfl, N0, e4⟩
theorem d6_0 : decode jdk_42_method_56_code 0 = .ok (.aload_n 0, 1) := by decide +kernel
theorem d6_1 : decode jdk_42_method_56_code 1 = .ok (.invokevirtual 492, 3) := by decide +kernel
theorem d6_4 : decode jdk_42_method_56_code 4 = .ok (.ifCond .eq 12, 3) := by decide +kernel
theorem d6_7 : decode jdk_42_method_56_code 7 = .ok (.aload_n 0, 1) := by decide +kernel
theorem d6_8 : decode jdk_42_method_56_code 8 = .ok (.getfield 9, 3) := by decide +kernel
theorem d6_11 : decode jdk_42_method_56_code 11 = .ok (.iload_n 1, 1) := by decide +kernel
theorem d6_12 : decode jdk_42_method_56_code 12 = .ok (.invokestatic 495, 3) := by decide +kernel
theorem d6_15 : decode jdk_42_method_56_code 15 = .ok (.ireturn, 1) := by decide +kernel
theorem pn_6 : plainName "java/lang/String" = true := by first | (simp [plainName, overriddenIn]; done) | decide +kernel
theorem pd6_0 : parseMethodDescriptor "()Z" = some ⟨[], some .boolean⟩ := by decide +kernel
theorem pd6_1 : parseMethodDescriptor "([BI)C" = some ⟨[(.array .byte), .int], some .char⟩ := by decide +kernel
theorem ef_6 (m : MethodId) (a : Addr) (p1 : Int32) : entryFrame m #[(.ref a), (.int p1)] 2 = mkF m 0 #[rv a, iv p1] [] := by first | (simp [entryFrame, mkF, argsToLocals, Value.category]; done) | rfl
def Q6 (Z : State) (a : Addr) (p1 : Int32) (b : Addr) (G : Nat → Int32) (I : Nat) (w : Value) (cs : Int32) (h0 : Heap) (n0 : Nat) (v : Option Value) (h : Heap) (L : List Loc) : Prop := v = some (.int (G I)) ∧ Fr n0 L ∧ h = h0
set_option maxRecDepth 65536 in
set_option maxHeartbeats 40000000 in
theorem rm6 (l : Launch) (Z : State) (a0 : Array Value) (hw : ∀ d ∈ tables_1, d.before a0 Z = true) (ws : List Jvm.Cond) (a : Addr) (p1 : Int32) (b : Addr) (G : Nat → Int32) (I : Nat) (w : Value) (cs : Int32) (h0 : Heap) (n0 : Nat) (Z0 : n0 ≤ h0.size) (E_a : Exa Z h0 a "java/lang/String") (F_c : Fld Z h0 a "java/lang/String" "coder" "B" (.int (0 : Int32))) (F_v : Fld Z h0 a "java/lang/String" "value" "[B" (.ref b)) (hv : w.isRef = true) (S_f : Sta Z h0 "jdk/internal/util/Preconditions" "SIOOBE_FORMATTER" "Ljava/util/function/BiFunction;" w) (S_c : Sta Z h0 "java/lang/String" "COMPACT_STRINGS" "Z" (.int cs)) (hc : ¬ cs = 0) (A_b : own_Af Z h0 b .byte 16 (fun j => .int (G j))) (hG : ∀ j, j < 16 → 0 ≤ (G j).toInt ∧ (G j).toInt < 128) (hI : p1.toInt = I) (hI' : I < 16) :
    MetFree l (⟨"java/lang/String", "charAt", "(I)C"⟩ : MethodName) (head1 (Jvm.Cond.code (⟨"java/lang/String", "charAt", "(I)C"⟩ : MethodName) jdk_42_method_56_code 2 (some .char) :: ws) ({ frames := 3, cells := 0, slots := 0, locals := 50 } : Room)) (fun aX UX => aX = #[(.ref a), (.int p1)] ∧ Z.Warmed39 UX.vm ∧ UX.heap = h0) (fun _ _ _ _ _ => True) (fun _ UX oX UY => ∃ vX LX, oX = .returned vX ∧ Q6 Z a p1 b G I w cs h0 n0 vX UY.heap LX ∧ FrameEnd UX oX UY LX ({ frames := 3, cells := 0, slots := 0, locals := 50 } : Room).cells ({ frames := 3, cells := 0, slots := 0, locals := 50 } : Room).slots) := by
  refine MetFree.of_bodySF (plainFor_of_name pn_6) hisR ?_
  intro p e s m args below meth c s₁ Bd hml0 hP hK
  obtain ⟨rfl, hZ, hh⟩ := hP
  have hx := Bd.exec
  have hby := Bd.bytes
  have hml : c.maxLocals = 2 := hml0
  have hown : s.vm.findClass "java/lang/String" = some m.cls := findClass_of_methodNamed Bd.named
  have hnm := (name_of_methodNamed Bd.named Bd.method).1
  have X0 : Stand p l e ({ frames := 3, cells := 0, slots := 0, locals := 50 } : Room) s m #[(.ref a), (.int p1)] below meth c s₁ [] 0 0 := Stand.of_body Bd
  have e0 : s₁.heap = h0 := by rw [← hh, Bd.state]; rfl
  have N0 := Fr.nil n0
  have pre0 : ∀ t, Steps p.tables e below (s₁.setTop (mkF m 0 #[rv a, iv p1] [])) t → Steps p.tables e below (s₁.setTop (entryFrame m #[(.ref a), (.int p1)] 2)) t := fun t k => castTop (ef_6 m a p1) k
  obtain ⟨S0, hS0⟩ : ∃ z, z = (s₁.setTop (entryFrame m #[(.ref a), (.int p1)] 2)) := ⟨_, rfl⟩
  rw [← hS0] at pre0
  have pre1 : ∀ t, own_s p e below s₁ m 1 #[rv a, iv p1] [(.ref a)] t → Steps p.tables e below S0 t := by
    intro tX kX
    refine pre0 _ ?_
    show own_s p e below s₁ m 0 #[rv a, iv p1] [] _
    refine XS.aloadN X0.here hx rfl (hb hby d6_0) rfl rfl ?_
    exact kX
  obtain ⟨cq2, kq2, q2a, q2b, q2c⟩ := isOf hZ e0 E_a
  obtain ⟨_, _, ⟨T2, L2, k2, n2⟩, -, X2, ⟨Lc2, hQ2, l2, y2, z2⟩, st2⟩ := X0.virtualBack hx (y := (⟨"java/lang/String", "isLatin1", "()Z"⟩ : MethodName)) (z := (⟨"java/lang/String", "isLatin1", "()Z"⟩ : MethodName)) hown (mvT hZ (hw _ (List.mem_of_getElem? (i := 19) rfl))) (mvT hZ (hw _ (List.mem_of_getElem? (i := 20) rfl))) (notFace_of_selects (args := #[]) (mvT hZ (hw _ (List.mem_of_getElem? (i := 22) rfl)))) (mvT hZ (hw _ (List.mem_of_getElem? (i := 22) rfl))) (mvT hZ (hw _ (List.mem_of_getElem? (i := 21) rfl))) (by decide) (backOf (W := 0) (rm5 l Z a0 hw [] a cs h0 n0 Z0 S_c hc F_c) hZ (hw _ (List.mem_of_getElem? (i := 23) rfl)) (hw _ (List.mem_of_getElem? (i := 1) rfl)) (by decide) (by decide)) q2a q2c (g := (mkF m 1 #[rv a, iv p1] [(.ref a)])) rfl (by rw [hml]; rfl) (Steps.refl _) (argsL := []) (rest := []) (lenOf pd6_0 rfl) rfl (by show 2 * 0 + _ ≤ _; exact Nat.le_of_eq rfl) (hb hby d6_1) (fun _ _ => ⟨rfl, e0, (by decide : 0 + 0 ≤ _), (by decide : 0 + 0 ≤ _)⟩)
  dsimp only [Pt.U, Pt.locs, Pt.cells, Pt.slots] at X2 l2 y2 z2 st2 hQ2
  subst l2 y2 z2
  obtain ⟨rfl, Nq2, e2⟩ := hQ2
  have N2 := Fr.app N0 Nq2
  have pre3 : ∀ t, own_s p e below T2 m 4 #[rv a, iv p1] [(.int (1 : Int32))] t → Steps p.tables e below S0 t := fun tX kX => pre1 _ (st2.trans kX)
  have pre4 : ∀ t, own_s p e below T2 m 8 #[rv a, iv p1] [(.ref a)] t → Steps p.tables e below S0 t := by
    intro tX kX
    refine pre3 _ ?_
    show own_s p e below T2 m 4 #[rv a, iv p1] [(.int (1 : Int32))] _
    refine XS.ifNo X2.here hx rfl (hb hby d6_4) rfl ((if0 _ _).trans (feq (by decide : ¬ ((1 : Int32) = (0 : Int32)))).1) ?_
    show own_s p e below T2 m 7 #[rv a, iv p1] [] _
    refine XS.aloadN X2.here hx rfl (hb hby d6_7) rfl rfl ?_
    exact kX
  obtain ⟨T5, X5, e5, st5⟩ := getF X2 hx hZ hown (host := "") (Or.inl (hw _ (List.mem_of_getElem? (i := 26) rfl))) Via.refl e2 F_v (g := (mkF m 8 #[rv a, iv p1] [(.ref a)])) rfl rfl (hb hby d6_8)
  have pre6 : ∀ t, own_s p e below T5 m 11 #[rv a, iv p1] [(.ref b)] t → Steps p.tables e below S0 t := fun tX kX => pre4 _ (st5 _ kX)
  have pre7 : ∀ t, own_s p e below T5 m 12 #[rv a, iv p1] [(.int p1), (.ref b)] t → Steps p.tables e below S0 t := by
    intro tX kX
    refine pre6 _ ?_
    show own_s p e below T5 m 11 #[rv a, iv p1] [(.ref b)] _
    refine XS.iloadN X5.here hx rfl (hb hby d6_11) rfl ?_
    exact kX
  obtain ⟨_, _, ⟨T8, L8, k8, n8⟩, -, X8, ⟨Lc8, hQ8, l8, y8, z8⟩, st8⟩ := Jvm.LawKit.callS X5 hx (y := (⟨"java/lang/StringLatin1", "charAt", "([BI)C"⟩ : MethodName)) hown (mvT hZ (hw _ (List.mem_of_getElem? (i := 27) rfl))) (mvT hZ (hw _ (List.mem_of_getElem? (i := 28) rfl))) (mvT hZ (hw _ (List.mem_of_getElem? (i := 29) rfl))) (mvT hZ (hw _ (List.mem_of_getElem? (i := 30) rfl))) (by decide) (backOf (W := 0) (rm4 l Z a0 hw [] b p1 G I w h0 n0 Z0 hv S_f A_b hG hI hI') hZ (hw _ (List.mem_of_getElem? (i := 30) rfl)) (hw _ (List.mem_of_getElem? (i := 29) rfl)) (by decide) (by decide)) (g := (mkF m 12 #[rv a, iv p1] [(.int p1), (.ref b)])) rfl (by rw [hml]; rfl) (argsL := [(.ref b), (.int p1)]) (rest := []) (lenOf pd6_1 rfl) rfl (by show 2 * 0 + _ ≤ _; exact Nat.le_of_eq rfl) (hb hby d6_12) (fun _ _ => ⟨rfl, e5, (by decide : 0 + 0 ≤ _), (by decide : 0 + 0 ≤ _)⟩)
  dsimp only [Pt.U, Pt.locs, Pt.cells, Pt.slots] at X8 l8 y8 z8 st8 hQ8
  subst l8 y8 z8
  obtain ⟨rfl, Nq8, e8⟩ := hQ8
  have N8 := Fr.app N2 Nq8
  have pre9 : ∀ t, own_s p e below T8 m 15 #[rv a, iv p1] [(.int (G I))] t → Steps p.tables e below S0 t := fun tX kX => pre7 _ (st8 _ kX)
  subst hS0
  obtain ⟨fs, hr, hrun, hended, hW, hsame⟩ := X8.leave (v := (some (.int (nar .char (G I))))) (fun h => by rw [Bd.returns] at h; cases h)
  refine ⟨_, _, pre9 _ (retN X8 hx (t := .char) Bd.returns (by simp) (hb hby d6_15) hr), hrun, hended, _, _, rfl, ?_, ⟨_, rfl⟩, hW, hsame.mono (by decide) (by decide)⟩
  show Q6 Z a p1 b G I w cs h0 n0 (some (.int (nar .char (G I)))) T8.heap _
  exact ⟨congrArg (fun z => some (Value.int z)) (show (nar .char (G I)) = G I from own_eqI (by
    have d0 := hG I hI'
    have d2 := c_i2c (G I)
    show ((G I).toUInt32.toUInt16.toUInt32.toInt32).toInt = _
    omega)), N8, e8⟩
theorem pn_0 : plainName "com/example/osier/osier/xml/XmlCharsDigitValuePinLaw" = true := by first | (simp [plainName, overriddenIn]; done) | decide +kernel
theorem pd0_0 : parseMethodDescriptor "(CI)I" = some ⟨[.char, .int], some .int⟩ := by decide +kernel
theorem pd0_1 : parseMethodDescriptor "(I)C" = some ⟨[.int], some .char⟩ := by decide +kernel
theorem ef_0 (m : MethodId) (i0 : Int32) (i1 : Int32) (i2 : Int32) : entryFrame m #[(.int i0), (.int i1), (.int i2)] maxLocals = mkF m 0 #[iv i0, iv i1, iv i2, .unset, .unset, .unset, .unset, .unset, .unset, .unset, .unset, .unset, .unset] [] := by first | (simp [entryFrame, mkF, argsToLocals, Value.category, maxLocals]; done) | rfl
set_option maxRecDepth 65536 in
set_option maxHeartbeats 40000000 in
theorem rm0 (l : Launch) (Z : State) (a0 : Array Value) (hw : ∀ d ∈ tables_1, d.before a0 Z = true) (ws : List Jvm.Cond) (i0 : Int32) (i1 : Int32) (i2 : Int32) (w : Value) (cs : Int32) (hv : w.isRef = true) (S_f0 : Sta Z Z.heap "jdk/internal/util/Preconditions" "SIOOBE_FORMATTER" "Ljava/util/function/BiFunction;" w) (S_c0 : Sta Z Z.heap "java/lang/String" "COMPACT_STRINGS" "Z" (.int cs)) (hc : ¬ cs = 0) (hheld : ∀ q ∈ consts_1, Jvm.Lit.constHeld Z q.1 q.2) (hcw : Jvm.Lit.compactW.before a0 Z = true) :
    MetFree l x (head1 (Jvm.Cond.code x code maxLocals ret :: ws) room_1) (fun aX UX => aX = #[(.int i0), (.int i1), (.int i2)] ∧ UX = Z) (fun _ _ _ _ _ => True) (fun _ U o U' => ∃ v L, o = .returned v ∧ (v = some (.int 1) ∧ Fr U.heap.size L) ∧ ReturnedEndW U o U' L 4 136) := by
  refine MetFree.of_bodySF (plainFor_of_name pn_0) hisR ?_
  intro p e s m args below meth c s₁ Bd hml0 hP hK
  obtain ⟨rfl, rfl⟩ := hP
  have hZ : s.Warmed39 s.vm := State.Warmed39.refl s
  obtain ⟨h0, hh⟩ : ∃ z, s.heap = z := ⟨_, rfl⟩
  obtain ⟨n0, hn0⟩ : ∃ z, z = s.heap.size := ⟨_, rfl⟩
  have Z0 : n0 ≤ h0.size := by rw [hn0, hh]; exact Nat.le_refl _
  have hS := own_since s s.heap.size
  have c10 : (10 : Int32).toInt = 10 := rfl
  have c16 : (16 : Int32).toInt = 16 := rfl
  have S_f := hh ▸ S_f0
  have S_c := hh ▸ S_c0
  have hx := Bd.exec
  have hby := Bd.bytes
  have hml : c.maxLocals = 13 := hml0
  have hown : s.vm.findClass "com/example/osier/osier/xml/XmlCharsDigitValuePinLaw" = some m.cls := findClass_of_methodNamed Bd.named
  have hnm := (name_of_methodNamed Bd.named Bd.method).1
  have X0 : Stand p l e room_1 s m #[(.int i0), (.int i1), (.int i2)] below meth c s₁ [] 0 0 := Stand.of_body Bd
  have e0 : s₁.heap = h0 := by rw [← hh, Bd.state]; rfl
  have N0 := Fr.nil n0
  have pre0 : ∀ t, Steps p.tables e below (s₁.setTop (mkF m 0 #[iv i0, iv i1, iv i2, .unset, .unset, .unset, .unset, .unset, .unset, .unset, .unset, .unset, .unset] [])) t → Steps p.tables e below (s₁.setTop (entryFrame m #[(.int i0), (.int i1), (.int i2)] maxLocals)) t := fun t k => castTop (ef_0 m i0 i1 i2) k
  obtain ⟨S0, hS0⟩ : ∃ z, z = (s₁.setTop (entryFrame m #[(.int i0), (.int i1), (.int i2)] maxLocals)) := ⟨_, rfl⟩
  rw [← hS0] at pre0
  obtain ⟨sa1, T1, h1, k1, sb1, kb1, X1, e1, E1, hS, hk1, hZ, hown, sE1, sC1, sV1, sA1, -, -, IB1, -, st1⟩ := ldcSVL (s := s) (vm0 := s.vm) X0 hx hZ hown (hw _ (List.mem_of_getElem? (i := 0) rfl)) (own_wS hw) e0 hS (Nat.le_of_eq (congrArg Array.size hh)) (hn0 ▸ N0) (fun _ _ q => q) IB.start (by decide) (hheld _ (List.mem_of_getElem? (i := 0) rfl)) hcw (vs := [.int 48, .int 49, .int 50, .int 51, .int 52, .int 53, .int 54, .int 55, .int 56, .int 57, .int 97, .int 98, .int 99, .int 100, .int 101, .int 102]) (z := (16 : Int32)) ⟨by decide, by decide⟩ (by decide) rfl (g := (mkF m 0 #[iv i0, iv i1, iv i2, .unset, .unset, .unset, .unset, .unset, .unset, .unset, .unset, .unset, .unset] [])) rfl (hb hby at_0) (n := 64) (by decide) (by decide) (by decide) (by decide)
  have pre2 : ∀ t, own_s p e below T1 m 2 #[iv i0, iv i1, iv i2, .unset, .unset, .unset, .unset, .unset, .unset, .unset, .unset, .unset, .unset] [(.ref sa1)] t → Steps p.tables e below S0 t := fun tX kX => pre0 _ (st1 _ kX)
  have f3_S : Sta s h1 "jdk/internal/util/Preconditions" "SIOOBE_FORMATTER" "Ljava/util/function/BiFunction;" w := S_f.ext E1
  have f4_S : Sta s h1 "java/lang/String" "COMPACT_STRINGS" "Z" (.int cs) := S_c.ext E1
  have Z5 : n0 ≤ h1.size := Nat.le_trans Z0 E1.1
  have f6_E : Exa s h1 sa1 "java/lang/String" := sE1
  have f7_F : Fld s h1 sa1 "java/lang/String" "coder" "B" (.int (0 : Int32)) := sC1
  have f8_F : Fld s h1 sa1 "java/lang/String" "value" "[B" (.ref sb1) := sV1
  have f9_A : own_Af s h1 sb1 .byte 16 (fun j => .int (own_G 87 j)) := own_ofarv sA1 rfl (by decide)
  have pre10 : ∀ t, own_s p e below T1 m 3 #[iv i0, iv i1, iv i2, rv sa1, .unset, .unset, .unset, .unset, .unset, .unset, .unset, .unset, .unset] [] t → Steps p.tables e below S0 t := by
    intro tX kX
    refine pre2 _ ?_
    show own_s p e below T1 m 2 #[iv i0, iv i1, iv i2, .unset, .unset, .unset, .unset, .unset, .unset, .unset, .unset, .unset, .unset] [(.ref sa1)] _
    refine XS.astoreN X1.here hx rfl (hb hby at_2) rfl rfl (l' := #[iv i0, iv i1, iv i2, rv sa1, .unset, .unset, .unset, .unset, .unset, .unset, .unset, .unset, .unset]) rfl ?_
    exact kX
  obtain ⟨sa11, T11, h11, k11, sb11, kb11, X11, e11, E11, hS, hk11, hZ, hown, sE11, sC11, sV11, sA11, -, -, IB11, -, st11⟩ := ldcSVL (s := s) (vm0 := T1.vm) X1 hx hZ hown (hw _ (List.mem_of_getElem? (i := 8) rfl)) (own_wS hw) e1 hS hk1 (hn0 ▸ N0) (fun _ _ q => q) IB1 (by decide) (hheld _ (List.mem_of_getElem? (i := 1) rfl)) hcw (vs := [.int 48, .int 49, .int 50, .int 51, .int 52, .int 53, .int 54, .int 55, .int 56, .int 57, .int 65, .int 66, .int 67, .int 68, .int 69, .int 70]) (z := (16 : Int32)) ⟨by decide, by decide⟩ (by decide) rfl (g := (mkF m 3 #[iv i0, iv i1, iv i2, rv sa1, .unset, .unset, .unset, .unset, .unset, .unset, .unset, .unset, .unset] [])) rfl (hb hby at_3) (n := 64) (by decide) (by decide) (by decide) (by decide)
  have pre12 : ∀ t, own_s p e below T11 m 5 #[iv i0, iv i1, iv i2, rv sa1, .unset, .unset, .unset, .unset, .unset, .unset, .unset, .unset, .unset] [(.ref sa11)] t → Steps p.tables e below S0 t := fun tX kX => pre10 _ (st11 _ kX)
  have f13_S : Sta s h11 "jdk/internal/util/Preconditions" "SIOOBE_FORMATTER" "Ljava/util/function/BiFunction;" w := f3_S.ext E11
  have f14_S : Sta s h11 "java/lang/String" "COMPACT_STRINGS" "Z" (.int cs) := f4_S.ext E11
  have f15_E : Exa s h11 sa1 "java/lang/String" := f6_E.ext E11
  have f16_F : Fld s h11 sa1 "java/lang/String" "coder" "B" (.int (0 : Int32)) := f7_F.ext E11
  have f17_F : Fld s h11 sa1 "java/lang/String" "value" "[B" (.ref sb1) := f8_F.ext E11
  have f18_A : own_Af s h11 sb1 .byte 16 (fun j => .int (own_G 87 j)) := f9_A.ext E11
  have Z19 : n0 ≤ h11.size := Nat.le_trans Z5 E11.1
  have f20_E : Exa s h11 sa11 "java/lang/String" := sE11
  have f21_F : Fld s h11 sa11 "java/lang/String" "coder" "B" (.int (0 : Int32)) := sC11
  have f22_F : Fld s h11 sa11 "java/lang/String" "value" "[B" (.ref sb11) := sV11
  have f23_A : own_Af s h11 sb11 .byte 16 (fun j => .int (own_G 55 j)) := own_ofarv sA11 rfl (by decide)
  have pre24 : ∀ t, own_s p e below T11 m 10 #[iv i0, iv i1, iv i2, rv sa1, rv sa11, .unset, .unset, .unset, .unset, .unset, .unset, .unset, .unset] [(.int (i1 &&& (1 : Int32)))] t → Steps p.tables e below S0 t := by
    intro tX kX
    refine pre12 _ ?_
    show own_s p e below T11 m 5 #[iv i0, iv i1, iv i2, rv sa1, .unset, .unset, .unset, .unset, .unset, .unset, .unset, .unset, .unset] [(.ref sa11)] _
    refine XS.astore X11.here hx rfl (hb hby at_5) rfl rfl (l' := #[iv i0, iv i1, iv i2, rv sa1, rv sa11, .unset, .unset, .unset, .unset, .unset, .unset, .unset, .unset]) rfl ?_
    show own_s p e below T11 m 7 #[iv i0, iv i1, iv i2, rv sa1, rv sa11, .unset, .unset, .unset, .unset, .unset, .unset, .unset, .unset] [] _
    refine XS.iloadN X11.here hx rfl (hb hby at_7) rfl ?_
    show own_s p e below T11 m 8 #[iv i0, iv i1, iv i2, rv sa1, rv sa11, .unset, .unset, .unset, .unset, .unset, .unset, .unset, .unset] [(.int i1)] _
    refine XS.iconst X11.here hx rfl (hb hby at_8) ?_
    show own_s p e below T11 m 9 #[iv i0, iv i1, iv i2, rv sa1, rv sa11, .unset, .unset, .unset, .unset, .unset, .unset, .unset, .unset] [(.int (1 : Int32)), (.int i1)] _
    refine XS.iand X11.here hx rfl (hb hby at_9) rfl ?_
    exact kX
  by_cases hc25 : (i1 &&& (1 : Int32)) = (0 : Int32)
  · skip
    have ihc25 : ((i1 &&& (1 : Int32))).toInt = (0 : Int) := congrArg Int32.toInt hc25
    have pre26 : ∀ t, own_s p e below T11 m 25 #[iv i0, iv i1, iv i2, rv sa1, rv sa11, iv (10 : Int32), .unset, .unset, .unset, .unset, .unset, .unset, .unset] [(.int (i1 &&& (2 : Int32)))] t → Steps p.tables e below S0 t := by
      intro tX kX
      refine pre24 _ ?_
      show own_s p e below T11 m 10 #[iv i0, iv i1, iv i2, rv sa1, rv sa11, .unset, .unset, .unset, .unset, .unset, .unset, .unset, .unset] [(.int (i1 &&& (1 : Int32)))] _
      refine XS.ifYes X11.here hx rfl (pc0 := 10) (pc' := 18) rfl (hb hby at_10) rfl ((if0 _ _).trans (teq hc25).1) (by decide) (by decide) ?_
      show own_s p e below T11 m 18 #[iv i0, iv i1, iv i2, rv sa1, rv sa11, .unset, .unset, .unset, .unset, .unset, .unset, .unset, .unset] [] _
      refine XS.bipush X11.here hx rfl (hb hby at_18) ?_
      show own_s p e below T11 m 20 #[iv i0, iv i1, iv i2, rv sa1, rv sa11, .unset, .unset, .unset, .unset, .unset, .unset, .unset, .unset] [(.int (10 : Int32))] _
      refine XS.istore X11.here hx rfl (hb hby at_20) rfl (l' := #[iv i0, iv i1, iv i2, rv sa1, rv sa11, iv (10 : Int32), .unset, .unset, .unset, .unset, .unset, .unset, .unset]) rfl ?_
      show own_s p e below T11 m 22 #[iv i0, iv i1, iv i2, rv sa1, rv sa11, iv (10 : Int32), .unset, .unset, .unset, .unset, .unset, .unset, .unset] [] _
      refine XS.iloadN X11.here hx rfl (hb hby at_22) rfl ?_
      show own_s p e below T11 m 23 #[iv i0, iv i1, iv i2, rv sa1, rv sa11, iv (10 : Int32), .unset, .unset, .unset, .unset, .unset, .unset, .unset] [(.int i1)] _
      refine XS.iconst X11.here hx rfl (hb hby at_23) ?_
      show own_s p e below T11 m 24 #[iv i0, iv i1, iv i2, rv sa1, rv sa11, iv (10 : Int32), .unset, .unset, .unset, .unset, .unset, .unset, .unset] [(.int (2 : Int32)), (.int i1)] _
      refine XS.iand X11.here hx rfl (hb hby at_24) rfl ?_
      exact kX
    by_cases hc27 : (i1 &&& (2 : Int32)) = (0 : Int32)
    · skip
      have ihc27 : ((i1 &&& (2 : Int32))).toInt = (0 : Int) := congrArg Int32.toInt hc27
      have pre28 : ∀ t, own_s p e below T11 m 37 #[iv i0, iv i1, iv i2, rv sa1, rv sa11, iv (10 : Int32), iv (0 : Int32), .unset, .unset, .unset, .unset, .unset, .unset] [(.int (i0.toUInt32.toUInt16.toUInt32.toInt32))] t → Steps p.tables e below S0 t := by
        intro tX kX
        refine pre26 _ ?_
        show own_s p e below T11 m 25 #[iv i0, iv i1, iv i2, rv sa1, rv sa11, iv (10 : Int32), .unset, .unset, .unset, .unset, .unset, .unset, .unset] [(.int (i1 &&& (2 : Int32)))] _
        refine XS.ifYes X11.here hx rfl (pc0 := 25) (pc' := 32) rfl (hb hby at_25) rfl ((if0 _ _).trans (teq hc27).1) (by decide) (by decide) ?_
        show own_s p e below T11 m 32 #[iv i0, iv i1, iv i2, rv sa1, rv sa11, iv (10 : Int32), .unset, .unset, .unset, .unset, .unset, .unset, .unset] [] _
        refine XS.iconst X11.here hx rfl (hb hby at_32) ?_
        show own_s p e below T11 m 33 #[iv i0, iv i1, iv i2, rv sa1, rv sa11, iv (10 : Int32), .unset, .unset, .unset, .unset, .unset, .unset, .unset] [(.int (0 : Int32))] _
        refine XS.istore X11.here hx rfl (hb hby at_33) rfl (l' := #[iv i0, iv i1, iv i2, rv sa1, rv sa11, iv (10 : Int32), iv (0 : Int32), .unset, .unset, .unset, .unset, .unset, .unset]) rfl ?_
        show own_s p e below T11 m 35 #[iv i0, iv i1, iv i2, rv sa1, rv sa11, iv (10 : Int32), iv (0 : Int32), .unset, .unset, .unset, .unset, .unset, .unset] [] _
        refine XS.iloadN X11.here hx rfl (hb hby at_35) rfl ?_
        show own_s p e below T11 m 36 #[iv i0, iv i1, iv i2, rv sa1, rv sa11, iv (10 : Int32), iv (0 : Int32), .unset, .unset, .unset, .unset, .unset, .unset] [(.int i0)] _
        refine XS.i2c X11.here hx rfl (hb hby at_36) rfl ?_
        exact kX
      obtain ⟨cc, hcc⟩ : ∃ z : Int32, z = (i0.toUInt32.toUInt16.toUInt32.toInt32) := ⟨_, rfl⟩
      rw [← hcc] at pre28
      have bc := c_i2c i0
      rw [← hcc] at bc
      have pre29 : ∀ t, own_s p e below T11 m 43 #[iv i0, iv i1, iv i2, rv sa1, rv sa11, iv (10 : Int32), iv (0 : Int32), iv cc, .unset, .unset, .unset, .unset, .unset] [(.int (10 : Int32)), (.int cc)] t → Steps p.tables e below S0 t := by
        intro tX kX
        refine pre28 _ ?_
        show own_s p e below T11 m 37 #[iv i0, iv i1, iv i2, rv sa1, rv sa11, iv (10 : Int32), iv (0 : Int32), .unset, .unset, .unset, .unset, .unset, .unset] [(.int cc)] _
        refine XS.istore X11.here hx rfl (hb hby at_37) rfl (l' := #[iv i0, iv i1, iv i2, rv sa1, rv sa11, iv (10 : Int32), iv (0 : Int32), iv cc, .unset, .unset, .unset, .unset, .unset]) rfl ?_
        show own_s p e below T11 m 39 #[iv i0, iv i1, iv i2, rv sa1, rv sa11, iv (10 : Int32), iv (0 : Int32), iv cc, .unset, .unset, .unset, .unset, .unset] [] _
        refine XS.iload X11.here hx rfl (hb hby at_39) rfl ?_
        show own_s p e below T11 m 41 #[iv i0, iv i1, iv i2, rv sa1, rv sa11, iv (10 : Int32), iv (0 : Int32), iv cc, .unset, .unset, .unset, .unset, .unset] [(.int cc)] _
        refine XS.iload X11.here hx rfl (hb hby at_41) rfl ?_
        exact kX
      obtain ⟨_, _, ⟨T30, L30, k30, n30⟩, -, X30, ⟨Lc30, hQ30, l30, y30, z30⟩, st30⟩ := Jvm.LawKit.callS X11 hx (y := (⟨"com/example/osier/osier/xml/XmlChars", "digitValue", "(CI)I"⟩ : MethodName)) hown (mvT hZ (hw _ (List.mem_of_getElem? (i := 9) rfl))) (mvT hZ (hw _ (List.mem_of_getElem? (i := 10) rfl))) (mvT hZ (hw _ (List.mem_of_getElem? (i := 11) rfl))) (mvT hZ (hw _ (List.mem_of_getElem? (i := 12) rfl))) (by decide) (backOf (W := 0) (rm1 l s a0 hw [] cc (10 : Int32)  h11 n0 Z19 (by omega) (by omega)) hZ (hw _ (List.mem_of_getElem? (i := 12) rfl)) (hw _ (List.mem_of_getElem? (i := 11) rfl)) (by decide) (by decide)) (g := (mkF m 43 #[iv i0, iv i1, iv i2, rv sa1, rv sa11, iv (10 : Int32), iv (0 : Int32), iv cc, .unset, .unset, .unset, .unset, .unset] [(.int (10 : Int32)), (.int cc)])) rfl (by rw [hml]; rfl) (argsL := [(.int cc), (.int (10 : Int32))]) (rest := []) (lenOf pd0_0 rfl) rfl (by show 2 * 0 + _ ≤ _; exact Nat.le_of_eq rfl) (hb hby at_43) (fun _ _ => ⟨rfl, e11, (by decide : 4 + 0 ≤ _), (by decide : 136 + 0 ≤ _)⟩)
      dsimp only [Pt.U, Pt.locs, Pt.cells, Pt.slots] at X30 l30 y30 z30 st30 hQ30
      subst l30 y30 z30
      obtain ⟨⟨v30, rfl, B30⟩, Nq30, e30⟩ := hQ30
      unfold own_DV at B30
      have N30 := Fr.app N0 Nq30
      have pre31 : ∀ t, own_s p e below T30 m 46 #[iv i0, iv i1, iv i2, rv sa1, rv sa11, iv (10 : Int32), iv (0 : Int32), iv cc, .unset, .unset, .unset, .unset, .unset] [(.int v30)] t → Steps p.tables e below S0 t := fun tX kX => pre29 _ (st30 _ kX)
      have pre32 : ∀ t, own_s p e below T30 m 51 #[iv i0, iv i1, iv i2, rv sa1, rv sa11, iv (10 : Int32), iv (0 : Int32), iv cc, iv v30, .unset, .unset, .unset, .unset] [(.int (-1 : Int32)), (.int v30)] t → Steps p.tables e below S0 t := by
        intro tX kX
        refine pre31 _ ?_
        show own_s p e below T30 m 46 #[iv i0, iv i1, iv i2, rv sa1, rv sa11, iv (10 : Int32), iv (0 : Int32), iv cc, .unset, .unset, .unset, .unset, .unset] [(.int v30)] _
        refine XS.istore X30.here hx rfl (hb hby at_46) rfl (l' := #[iv i0, iv i1, iv i2, rv sa1, rv sa11, iv (10 : Int32), iv (0 : Int32), iv cc, iv v30, .unset, .unset, .unset, .unset]) rfl ?_
        show own_s p e below T30 m 48 #[iv i0, iv i1, iv i2, rv sa1, rv sa11, iv (10 : Int32), iv (0 : Int32), iv cc, iv v30, .unset, .unset, .unset, .unset] [] _
        refine XS.iload X30.here hx rfl (hb hby at_48) rfl ?_
        show own_s p e below T30 m 50 #[iv i0, iv i1, iv i2, rv sa1, rv sa11, iv (10 : Int32), iv (0 : Int32), iv cc, iv v30, .unset, .unset, .unset, .unset] [(.int v30)] _
        refine XS.iconst X30.here hx rfl (hb hby at_50) ?_
        exact kX
      by_cases hc33 : v30 = (-1 : Int32)
      · skip
        have ihc33 : (v30).toInt = (-1 : Int) := congrArg Int32.toInt hc33
        have pre34 : ∀ t, own_s p e below T30 m 115 #[iv i0, iv i1, iv i2, rv sa1, rv sa11, iv (10 : Int32), iv (0 : Int32), iv cc, iv v30, iv (1 : Int32), .unset, .unset, .unset] [(.int ((i2 &&& (2147483647 : Int32)) % (10 : Int32)))] t → Steps p.tables e below S0 t := by
          intro tX kX
          refine pre32 _ ?_
          show own_s p e below T30 m 51 #[iv i0, iv i1, iv i2, rv sa1, rv sa11, iv (10 : Int32), iv (0 : Int32), iv cc, iv v30, .unset, .unset, .unset, .unset] [(.int (-1 : Int32)), (.int v30)] _
          refine XS.icmpNo X30.here hx rfl (hb hby at_51) rfl (teq hc33).2 ?_
          show own_s p e below T30 m 54 #[iv i0, iv i1, iv i2, rv sa1, rv sa11, iv (10 : Int32), iv (0 : Int32), iv cc, iv v30, .unset, .unset, .unset, .unset] [] _
          refine XS.iconst X30.here hx rfl (hb hby at_54) ?_
          show own_s p e below T30 m 55 #[iv i0, iv i1, iv i2, rv sa1, rv sa11, iv (10 : Int32), iv (0 : Int32), iv cc, iv v30, .unset, .unset, .unset, .unset] [(.int (1 : Int32))] _
          refine XS.istore X30.here hx rfl (hb hby at_55) rfl (l' := #[iv i0, iv i1, iv i2, rv sa1, rv sa11, iv (10 : Int32), iv (0 : Int32), iv cc, iv v30, iv (1 : Int32), .unset, .unset, .unset]) rfl ?_
          show own_s p e below T30 m 57 #[iv i0, iv i1, iv i2, rv sa1, rv sa11, iv (10 : Int32), iv (0 : Int32), iv cc, iv v30, iv (1 : Int32), .unset, .unset, .unset] [] _
          refine XS.goto X30.here hx rfl (pc0 := 57) (pc' := 108) rfl (hb hby at_57) (by decide) (by decide) ?_
          show own_s p e below T30 m 108 #[iv i0, iv i1, iv i2, rv sa1, rv sa11, iv (10 : Int32), iv (0 : Int32), iv cc, iv v30, iv (1 : Int32), .unset, .unset, .unset] [] _
          refine XS.iloadN X30.here hx rfl (hb hby at_108) rfl ?_
          show own_s p e below T30 m 109 #[iv i0, iv i1, iv i2, rv sa1, rv sa11, iv (10 : Int32), iv (0 : Int32), iv cc, iv v30, iv (1 : Int32), .unset, .unset, .unset] [(.int i2)] _
          refine X30.ldcInt hx hown (mvT hZ (hw _ (List.mem_of_getElem? (i := 13) rfl))) (g := (mkF m 109 #[iv i0, iv i1, iv i2, rv sa1, rv sa11, iv (10 : Int32), iv (0 : Int32), iv cc, iv v30, iv (1 : Int32), .unset, .unset, .unset] [(.int i2)])) rfl (hb hby at_109) _ ?_
          show own_s p e below T30 m 111 #[iv i0, iv i1, iv i2, rv sa1, rv sa11, iv (10 : Int32), iv (0 : Int32), iv cc, iv v30, iv (1 : Int32), .unset, .unset, .unset] [(.int (2147483647 : Int32)), (.int i2)] _
          refine XS.iand X30.here hx rfl (hb hby at_111) rfl ?_
          show own_s p e below T30 m 112 #[iv i0, iv i1, iv i2, rv sa1, rv sa11, iv (10 : Int32), iv (0 : Int32), iv cc, iv v30, iv (1 : Int32), .unset, .unset, .unset] [(.int (i2 &&& (2147483647 : Int32)))] _
          refine XS.iload X30.here hx rfl (hb hby at_112) rfl ?_
          show own_s p e below T30 m 114 #[iv i0, iv i1, iv i2, rv sa1, rv sa11, iv (10 : Int32), iv (0 : Int32), iv cc, iv v30, iv (1 : Int32), .unset, .unset, .unset] [(.int (10 : Int32)), (.int (i2 &&& (2147483647 : Int32)))] _
          refine iremM X30 hx rfl (hb hby at_114) rfl (by decide) ?_
          exact kX
        obtain ⟨vq, hvq⟩ : ∃ z : Int32, z = ((i2 &&& (2147483647 : Int32)) % (10 : Int32)) := ⟨_, rfl⟩
        rw [← hvq] at pre34
        have mk := c_mask i2 2147483647 31 (by decide) (by decide)
        have rr := (c_irem (i2 &&& 2147483647) 10 10 (by decide)).1 (by omega)
        rw [← hvq] at rr
        have pre35 : ∀ t, own_s p e below T30 m 135 #[iv i0, iv i1, iv i2, rv sa1, rv sa11, iv (10 : Int32), iv (0 : Int32), iv cc, iv v30, iv (1 : Int32), iv vq, .unset, .unset] [(.int vq), (.ref sa1)] t → Steps p.tables e below S0 t := by
          intro tX kX
          refine pre34 _ ?_
          show own_s p e below T30 m 115 #[iv i0, iv i1, iv i2, rv sa1, rv sa11, iv (10 : Int32), iv (0 : Int32), iv cc, iv v30, iv (1 : Int32), .unset, .unset, .unset] [(.int vq)] _
          refine XS.istore X30.here hx rfl (hb hby at_115) rfl (l' := #[iv i0, iv i1, iv i2, rv sa1, rv sa11, iv (10 : Int32), iv (0 : Int32), iv cc, iv v30, iv (1 : Int32), iv vq, .unset, .unset]) rfl ?_
          show own_s p e below T30 m 117 #[iv i0, iv i1, iv i2, rv sa1, rv sa11, iv (10 : Int32), iv (0 : Int32), iv cc, iv v30, iv (1 : Int32), iv vq, .unset, .unset] [] _
          refine XS.iload X30.here hx rfl (hb hby at_117) rfl ?_
          show own_s p e below T30 m 119 #[iv i0, iv i1, iv i2, rv sa1, rv sa11, iv (10 : Int32), iv (0 : Int32), iv cc, iv v30, iv (1 : Int32), iv vq, .unset, .unset] [(.int (0 : Int32))] _
          refine XS.ifYes X30.here hx rfl (pc0 := 119) (pc' := 132) rfl (hb hby at_119) rfl ((if0 _ _).trans (teq (by decide : (0 : Int32) = (0 : Int32))).1) (by decide) (by decide) ?_
          show own_s p e below T30 m 132 #[iv i0, iv i1, iv i2, rv sa1, rv sa11, iv (10 : Int32), iv (0 : Int32), iv cc, iv v30, iv (1 : Int32), iv vq, .unset, .unset] [] _
          refine XS.aloadN X30.here hx rfl (hb hby at_132) rfl rfl ?_
          show own_s p e below T30 m 133 #[iv i0, iv i1, iv i2, rv sa1, rv sa11, iv (10 : Int32), iv (0 : Int32), iv cc, iv v30, iv (1 : Int32), iv vq, .unset, .unset] [(.ref sa1)] _
          refine XS.iload X30.here hx rfl (hb hby at_133) rfl ?_
          exact kX
        have gI37 := own_GI (u := 87) (j := (vq).toInt.toNat) (by decide) (by omega)
        obtain ⟨cq36, kq36, q36a, q36b, q36c⟩ := isOf hZ e30 f15_E
        obtain ⟨_, _, ⟨T36, L36, k36, n36⟩, -, X36, ⟨Lc36, hQ36, l36, y36, z36⟩, st36⟩ := X30.virtualBack hx (y := (⟨"java/lang/String", "charAt", "(I)C"⟩ : MethodName)) (z := (⟨"java/lang/String", "charAt", "(I)C"⟩ : MethodName)) hown (mvT hZ (hw _ (List.mem_of_getElem? (i := 14) rfl))) (mvT hZ (hw _ (List.mem_of_getElem? (i := 15) rfl))) (notFace_of_selects (args := #[]) (mvT hZ (hw _ (List.mem_of_getElem? (i := 17) rfl)))) (mvT hZ (hw _ (List.mem_of_getElem? (i := 17) rfl))) (mvT hZ (hw _ (List.mem_of_getElem? (i := 16) rfl))) (by decide) (backOf (W := 0) (rm6 l s a0 hw [] sa1 vq sb1 (own_G 87) (vq).toInt.toNat w cs h11 n0 Z19 f15_E f16_F f17_F hv f13_S f14_S hc f18_A (fun j hj => by have := own_GI (u := 87) (by decide) hj; omega) (by omega) (by omega)) hZ (hw _ (List.mem_of_getElem? (i := 18) rfl)) (hw _ (List.mem_of_getElem? (i := 1) rfl)) (by decide) (by decide)) q36a q36c (g := (mkF m 135 #[iv i0, iv i1, iv i2, rv sa1, rv sa11, iv (10 : Int32), iv (0 : Int32), iv cc, iv v30, iv (1 : Int32), iv vq, .unset, .unset] [(.int vq), (.ref sa1)])) rfl (by rw [hml]; rfl) (Steps.refl _) (argsL := [(.int vq)]) (rest := []) (lenOf pd0_1 rfl) rfl (by show 2 * 0 + _ ≤ _; exact Nat.le_of_eq rfl) (hb hby at_135) (fun _ _ => ⟨rfl, e30, (by decide : 4 + 0 ≤ _), (by decide : 136 + 0 ≤ _)⟩)
        dsimp only [Pt.U, Pt.locs, Pt.cells, Pt.slots] at X36 l36 y36 z36 st36 hQ36
        subst l36 y36 z36
        obtain ⟨rfl, Nq36, e36⟩ := hQ36
        have N36 := Fr.app N30 Nq36
        have pre38 : ∀ t, own_s p e below T36 m 138 #[iv i0, iv i1, iv i2, rv sa1, rv sa11, iv (10 : Int32), iv (0 : Int32), iv cc, iv v30, iv (1 : Int32), iv vq, .unset, .unset] [(.int (own_G 87 (vq).toInt.toNat))] t → Steps p.tables e below S0 t := fun tX kX => pre35 _ (st36.trans kX)
        have pre39 : ∀ t, own_s p e below T36 m 144 #[iv i0, iv i1, iv i2, rv sa1, rv sa11, iv (10 : Int32), iv (0 : Int32), iv cc, iv v30, iv (1 : Int32), iv vq, iv (own_G 87 (vq).toInt.toNat), .unset] [(.int (10 : Int32)), (.int (own_G 87 (vq).toInt.toNat))] t → Steps p.tables e below S0 t := by
          intro tX kX
          refine pre38 _ ?_
          show own_s p e below T36 m 138 #[iv i0, iv i1, iv i2, rv sa1, rv sa11, iv (10 : Int32), iv (0 : Int32), iv cc, iv v30, iv (1 : Int32), iv vq, .unset, .unset] [(.int (own_G 87 (vq).toInt.toNat))] _
          refine XS.istore X36.here hx rfl (hb hby at_138) rfl (l' := #[iv i0, iv i1, iv i2, rv sa1, rv sa11, iv (10 : Int32), iv (0 : Int32), iv cc, iv v30, iv (1 : Int32), iv vq, iv (own_G 87 (vq).toInt.toNat), .unset]) rfl ?_
          show own_s p e below T36 m 140 #[iv i0, iv i1, iv i2, rv sa1, rv sa11, iv (10 : Int32), iv (0 : Int32), iv cc, iv v30, iv (1 : Int32), iv vq, iv (own_G 87 (vq).toInt.toNat), .unset] [] _
          refine XS.iload X36.here hx rfl (hb hby at_140) rfl ?_
          show own_s p e below T36 m 142 #[iv i0, iv i1, iv i2, rv sa1, rv sa11, iv (10 : Int32), iv (0 : Int32), iv cc, iv v30, iv (1 : Int32), iv vq, iv (own_G 87 (vq).toInt.toNat), .unset] [(.int (own_G 87 (vq).toInt.toNat))] _
          refine XS.iload X36.here hx rfl (hb hby at_142) rfl ?_
          exact kX
        obtain ⟨_, _, ⟨T40, L40, k40, n40⟩, -, X40, ⟨Lc40, hQ40, l40, y40, z40⟩, st40⟩ := Jvm.LawKit.callS X36 hx (y := (⟨"com/example/osier/osier/xml/XmlChars", "digitValue", "(CI)I"⟩ : MethodName)) hown (mvT hZ (hw _ (List.mem_of_getElem? (i := 9) rfl))) (mvT hZ (hw _ (List.mem_of_getElem? (i := 10) rfl))) (mvT hZ (hw _ (List.mem_of_getElem? (i := 11) rfl))) (mvT hZ (hw _ (List.mem_of_getElem? (i := 12) rfl))) (by decide) (backOf (W := 0) (rm1 l s a0 hw [] (own_G 87 (vq).toInt.toNat) (10 : Int32)  h11 n0 Z19 (by omega) (by omega)) hZ (hw _ (List.mem_of_getElem? (i := 12) rfl)) (hw _ (List.mem_of_getElem? (i := 11) rfl)) (by decide) (by decide)) (g := (mkF m 144 #[iv i0, iv i1, iv i2, rv sa1, rv sa11, iv (10 : Int32), iv (0 : Int32), iv cc, iv v30, iv (1 : Int32), iv vq, iv (own_G 87 (vq).toInt.toNat), .unset] [(.int (10 : Int32)), (.int (own_G 87 (vq).toInt.toNat))])) rfl (by rw [hml]; rfl) (argsL := [(.int (own_G 87 (vq).toInt.toNat)), (.int (10 : Int32))]) (rest := []) (lenOf pd0_0 rfl) rfl (by show 2 * 0 + _ ≤ _; exact Nat.le_of_eq rfl) (hb hby at_144) (fun _ _ => ⟨rfl, e36, (by decide : 4 + 0 ≤ _), (by decide : 136 + 0 ≤ _)⟩)
        dsimp only [Pt.U, Pt.locs, Pt.cells, Pt.slots] at X40 l40 y40 z40 st40 hQ40
        subst l40 y40 z40
        obtain ⟨⟨v40, rfl, B40⟩, Nq40, e40⟩ := hQ40
        unfold own_DV at B40
        have N40 := Fr.app N36 Nq40
        have pre41 : ∀ t, own_s p e below T40 m 147 #[iv i0, iv i1, iv i2, rv sa1, rv sa11, iv (10 : Int32), iv (0 : Int32), iv cc, iv v30, iv (1 : Int32), iv vq, iv (own_G 87 (vq).toInt.toNat), .unset] [(.int v40)] t → Steps p.tables e below S0 t := fun tX kX => pre39 _ (st40 _ kX)
        have pre42 : ∀ t, own_s p e below T40 m 174 #[iv i0, iv i1, iv i2, rv sa1, rv sa11, iv (10 : Int32), iv (0 : Int32), iv cc, iv v30, iv (1 : Int32), iv vq, iv (own_G 87 (vq).toInt.toNat), iv (1 : Int32)] [(.int (1 : Int32))] t → Steps p.tables e below S0 t := by
          intro tX kX
          refine pre41 _ ?_
          show own_s p e below T40 m 147 #[iv i0, iv i1, iv i2, rv sa1, rv sa11, iv (10 : Int32), iv (0 : Int32), iv cc, iv v30, iv (1 : Int32), iv vq, iv (own_G 87 (vq).toInt.toNat), .unset] [(.int v40)] _
          refine XS.iload X40.here hx rfl (hb hby at_147) rfl ?_
          show own_s p e below T40 m 149 #[iv i0, iv i1, iv i2, rv sa1, rv sa11, iv (10 : Int32), iv (0 : Int32), iv cc, iv v30, iv (1 : Int32), iv vq, iv (own_G 87 (vq).toInt.toNat), .unset] [(.int vq), (.int v40)] _
          refine XS.icmpNo X40.here hx rfl (hb hby at_149) rfl (teq (own_eqI (show (v40).toInt = (vq).toInt from (by omega : (v40).toInt = (vq).toInt)))).2 ?_
          show own_s p e below T40 m 152 #[iv i0, iv i1, iv i2, rv sa1, rv sa11, iv (10 : Int32), iv (0 : Int32), iv cc, iv v30, iv (1 : Int32), iv vq, iv (own_G 87 (vq).toInt.toNat), .unset] [] _
          refine XS.iconst X40.here hx rfl (hb hby at_152) ?_
          show own_s p e below T40 m 153 #[iv i0, iv i1, iv i2, rv sa1, rv sa11, iv (10 : Int32), iv (0 : Int32), iv cc, iv v30, iv (1 : Int32), iv vq, iv (own_G 87 (vq).toInt.toNat), .unset] [(.int (1 : Int32))] _
          refine XS.goto X40.here hx rfl (pc0 := 153) (pc' := 157) rfl (hb hby at_153) (by decide) (by decide) ?_
          show own_s p e below T40 m 157 #[iv i0, iv i1, iv i2, rv sa1, rv sa11, iv (10 : Int32), iv (0 : Int32), iv cc, iv v30, iv (1 : Int32), iv vq, iv (own_G 87 (vq).toInt.toNat), .unset] [(.int (1 : Int32))] _
          refine XS.istore X40.here hx rfl (hb hby at_157) rfl (l' := #[iv i0, iv i1, iv i2, rv sa1, rv sa11, iv (10 : Int32), iv (0 : Int32), iv cc, iv v30, iv (1 : Int32), iv vq, iv (own_G 87 (vq).toInt.toNat), iv (1 : Int32)]) rfl ?_
          show own_s p e below T40 m 159 #[iv i0, iv i1, iv i2, rv sa1, rv sa11, iv (10 : Int32), iv (0 : Int32), iv cc, iv v30, iv (1 : Int32), iv vq, iv (own_G 87 (vq).toInt.toNat), iv (1 : Int32)] [] _
          refine XS.iload X40.here hx rfl (hb hby at_159) rfl ?_
          show own_s p e below T40 m 161 #[iv i0, iv i1, iv i2, rv sa1, rv sa11, iv (10 : Int32), iv (0 : Int32), iv cc, iv v30, iv (1 : Int32), iv vq, iv (own_G 87 (vq).toInt.toNat), iv (1 : Int32)] [(.int (1 : Int32))] _
          refine XS.ifNo X40.here hx rfl (hb hby at_161) rfl ((if0 _ _).trans (feq (by decide : ¬ ((1 : Int32) = (0 : Int32)))).1) ?_
          show own_s p e below T40 m 164 #[iv i0, iv i1, iv i2, rv sa1, rv sa11, iv (10 : Int32), iv (0 : Int32), iv cc, iv v30, iv (1 : Int32), iv vq, iv (own_G 87 (vq).toInt.toNat), iv (1 : Int32)] [] _
          refine XS.iload X40.here hx rfl (hb hby at_164) rfl ?_
          show own_s p e below T40 m 166 #[iv i0, iv i1, iv i2, rv sa1, rv sa11, iv (10 : Int32), iv (0 : Int32), iv cc, iv v30, iv (1 : Int32), iv vq, iv (own_G 87 (vq).toInt.toNat), iv (1 : Int32)] [(.int (1 : Int32))] _
          refine XS.ifNo X40.here hx rfl (hb hby at_166) rfl ((if0 _ _).trans (feq (by decide : ¬ ((1 : Int32) = (0 : Int32)))).1) ?_
          show own_s p e below T40 m 169 #[iv i0, iv i1, iv i2, rv sa1, rv sa11, iv (10 : Int32), iv (0 : Int32), iv cc, iv v30, iv (1 : Int32), iv vq, iv (own_G 87 (vq).toInt.toNat), iv (1 : Int32)] [] _
          refine XS.iconst X40.here hx rfl (hb hby at_169) ?_
          show own_s p e below T40 m 170 #[iv i0, iv i1, iv i2, rv sa1, rv sa11, iv (10 : Int32), iv (0 : Int32), iv cc, iv v30, iv (1 : Int32), iv vq, iv (own_G 87 (vq).toInt.toNat), iv (1 : Int32)] [(.int (1 : Int32))] _
          refine XS.goto X40.here hx rfl (pc0 := 170) (pc' := 174) rfl (hb hby at_170) (by decide) (by decide) ?_
          exact kX
        subst hS0
        obtain ⟨fs, hr, hrun, hended, hend⟩ := X40.leaveW hS (by rw [e40]; exact hk11) (v := (some (.int (1 : Int32)))) (fun h => by rw [Bd.returns] at h; cases h)
        exact ⟨_, _, pre42 _ (retN X40 hx (t := .boolean) Bd.returns (by simp) (hb hby at_174) hr), hrun, hended, _, _, rfl, ⟨rfl, hn0 ▸ N40⟩, hend⟩
      · skip
        have ihc33 : ¬ ((v30).toInt = (-1 : Int)) := fun q => hc33 (Int32.toInt_inj.mp q)
        have pre43 : ∀ t, own_s p e below T30 m 77 #[iv i0, iv i1, iv i2, rv sa1, rv sa11, iv (10 : Int32), iv (0 : Int32), iv cc, iv v30, .unset, .unset, .unset, .unset] [(.int v30), (.ref sa1), (.int cc)] t → Steps p.tables e below S0 t := by
          intro tX kX
          refine pre32 _ ?_
          show own_s p e below T30 m 51 #[iv i0, iv i1, iv i2, rv sa1, rv sa11, iv (10 : Int32), iv (0 : Int32), iv cc, iv v30, .unset, .unset, .unset, .unset] [(.int (-1 : Int32)), (.int v30)] _
          refine XS.icmpYes X30.here hx rfl (pc0 := 51) (pc' := 60) rfl (hb hby at_51) rfl (feq hc33).2 (by decide) (by decide) ?_
          show own_s p e below T30 m 60 #[iv i0, iv i1, iv i2, rv sa1, rv sa11, iv (10 : Int32), iv (0 : Int32), iv cc, iv v30, .unset, .unset, .unset, .unset] [] _
          refine XS.iload X30.here hx rfl (hb hby at_60) rfl ?_
          show own_s p e below T30 m 62 #[iv i0, iv i1, iv i2, rv sa1, rv sa11, iv (10 : Int32), iv (0 : Int32), iv cc, iv v30, .unset, .unset, .unset, .unset] [(.int v30)] _
          refine XS.ifNo X30.here hx rfl (hb hby at_62) rfl ((if0 _ _).trans (flt (fun q => absurd (show (v30).toInt < (0 : Int) from Int32.lt_iff_toInt_lt.mp q) (by omega))).1) ?_
          show own_s p e below T30 m 65 #[iv i0, iv i1, iv i2, rv sa1, rv sa11, iv (10 : Int32), iv (0 : Int32), iv cc, iv v30, .unset, .unset, .unset, .unset] [] _
          refine XS.iload X30.here hx rfl (hb hby at_65) rfl ?_
          show own_s p e below T30 m 67 #[iv i0, iv i1, iv i2, rv sa1, rv sa11, iv (10 : Int32), iv (0 : Int32), iv cc, iv v30, .unset, .unset, .unset, .unset] [(.int v30)] _
          refine XS.iload X30.here hx rfl (hb hby at_67) rfl ?_
          show own_s p e below T30 m 69 #[iv i0, iv i1, iv i2, rv sa1, rv sa11, iv (10 : Int32), iv (0 : Int32), iv cc, iv v30, .unset, .unset, .unset, .unset] [(.int (10 : Int32)), (.int v30)] _
          refine XS.icmpNo X30.here hx rfl (hb hby at_69) rfl (tlt (show v30 < (10 : Int32) from Int32.lt_iff_toInt_lt.mpr (by omega : (v30).toInt < (10 : Int)))).2.1 ?_
          show own_s p e below T30 m 72 #[iv i0, iv i1, iv i2, rv sa1, rv sa11, iv (10 : Int32), iv (0 : Int32), iv cc, iv v30, .unset, .unset, .unset, .unset] [] _
          refine XS.iload X30.here hx rfl (hb hby at_72) rfl ?_
          show own_s p e below T30 m 74 #[iv i0, iv i1, iv i2, rv sa1, rv sa11, iv (10 : Int32), iv (0 : Int32), iv cc, iv v30, .unset, .unset, .unset, .unset] [(.int cc)] _
          refine XS.aloadN X30.here hx rfl (hb hby at_74) rfl rfl ?_
          show own_s p e below T30 m 75 #[iv i0, iv i1, iv i2, rv sa1, rv sa11, iv (10 : Int32), iv (0 : Int32), iv cc, iv v30, .unset, .unset, .unset, .unset] [(.ref sa1), (.int cc)] _
          refine XS.iload X30.here hx rfl (hb hby at_75) rfl ?_
          exact kX
        have gI45 := own_GI (u := 87) (j := (v30).toInt.toNat) (by decide) (by omega)
        obtain ⟨cq44, kq44, q44a, q44b, q44c⟩ := isOf hZ e30 f15_E
        obtain ⟨_, _, ⟨T44, L44, k44, n44⟩, -, X44, ⟨Lc44, hQ44, l44, y44, z44⟩, st44⟩ := X30.virtualBack hx (y := (⟨"java/lang/String", "charAt", "(I)C"⟩ : MethodName)) (z := (⟨"java/lang/String", "charAt", "(I)C"⟩ : MethodName)) hown (mvT hZ (hw _ (List.mem_of_getElem? (i := 14) rfl))) (mvT hZ (hw _ (List.mem_of_getElem? (i := 15) rfl))) (notFace_of_selects (args := #[]) (mvT hZ (hw _ (List.mem_of_getElem? (i := 17) rfl)))) (mvT hZ (hw _ (List.mem_of_getElem? (i := 17) rfl))) (mvT hZ (hw _ (List.mem_of_getElem? (i := 16) rfl))) (by decide) (backOf (W := 1) (rm6 l s a0 hw [] sa1 v30 sb1 (own_G 87) (v30).toInt.toNat w cs h11 n0 Z19 f15_E f16_F f17_F hv f13_S f14_S hc f18_A (fun j hj => by have := own_GI (u := 87) (by decide) hj; omega) (by omega) (by omega)) hZ (hw _ (List.mem_of_getElem? (i := 18) rfl)) (hw _ (List.mem_of_getElem? (i := 1) rfl)) (by decide) (by decide)) q44a q44c (g := (mkF m 77 #[iv i0, iv i1, iv i2, rv sa1, rv sa11, iv (10 : Int32), iv (0 : Int32), iv cc, iv v30, .unset, .unset, .unset, .unset] [(.int v30), (.ref sa1), (.int cc)])) rfl (by rw [hml]; rfl) (Steps.refl _) (argsL := [(.int v30)]) (rest := [(.int cc)]) (lenOf pd0_1 rfl) rfl (by show 2 * 0 + _ ≤ _; exact Nat.le_of_eq rfl) (hb hby at_77) (fun _ _ => ⟨rfl, e30, (by decide : 4 + 0 ≤ _), (by decide : 136 + 0 ≤ _)⟩)
        dsimp only [Pt.U, Pt.locs, Pt.cells, Pt.slots] at X44 l44 y44 z44 st44 hQ44
        subst l44 y44 z44
        obtain ⟨rfl, Nq44, e44⟩ := hQ44
        have N44 := Fr.app N30 Nq44
        have pre46 : ∀ t, own_s p e below T44 m 80 #[iv i0, iv i1, iv i2, rv sa1, rv sa11, iv (10 : Int32), iv (0 : Int32), iv cc, iv v30, .unset, .unset, .unset, .unset] [(.int (own_G 87 (v30).toInt.toNat)), (.int cc)] t → Steps p.tables e below S0 t := fun tX kX => pre43 _ (st44.trans kX)
        by_cases hc47 : cc = (own_G 87 (v30).toInt.toNat)
        · skip
          have ihc47 : (cc).toInt = ((own_G 87 (v30).toInt.toNat)).toInt := congrArg Int32.toInt hc47
          have pre48 : ∀ t, own_s p e below T44 m 115 #[iv i0, iv i1, iv i2, rv sa1, rv sa11, iv (10 : Int32), iv (0 : Int32), iv cc, iv v30, iv (1 : Int32), .unset, .unset, .unset] [(.int ((i2 &&& (2147483647 : Int32)) % (10 : Int32)))] t → Steps p.tables e below S0 t := by
            intro tX kX
            refine pre46 _ ?_
            show own_s p e below T44 m 80 #[iv i0, iv i1, iv i2, rv sa1, rv sa11, iv (10 : Int32), iv (0 : Int32), iv cc, iv v30, .unset, .unset, .unset, .unset] [(.int (own_G 87 (v30).toInt.toNat)), (.int cc)] _
            refine XS.icmpYes X44.here hx rfl (pc0 := 80) (pc' := 95) rfl (hb hby at_80) rfl (teq hc47).1 (by decide) (by decide) ?_
            show own_s p e below T44 m 95 #[iv i0, iv i1, iv i2, rv sa1, rv sa11, iv (10 : Int32), iv (0 : Int32), iv cc, iv v30, .unset, .unset, .unset, .unset] [] _
            refine XS.iconst X44.here hx rfl (hb hby at_95) ?_
            show own_s p e below T44 m 96 #[iv i0, iv i1, iv i2, rv sa1, rv sa11, iv (10 : Int32), iv (0 : Int32), iv cc, iv v30, .unset, .unset, .unset, .unset] [(.int (1 : Int32))] _
            refine XS.goto X44.here hx rfl (pc0 := 96) (pc' := 100) rfl (hb hby at_96) (by decide) (by decide) ?_
            show own_s p e below T44 m 100 #[iv i0, iv i1, iv i2, rv sa1, rv sa11, iv (10 : Int32), iv (0 : Int32), iv cc, iv v30, .unset, .unset, .unset, .unset] [(.int (1 : Int32))] _
            refine XS.istore X44.here hx rfl (hb hby at_100) rfl (l' := #[iv i0, iv i1, iv i2, rv sa1, rv sa11, iv (10 : Int32), iv (0 : Int32), iv cc, iv v30, iv (1 : Int32), .unset, .unset, .unset]) rfl ?_
            show own_s p e below T44 m 102 #[iv i0, iv i1, iv i2, rv sa1, rv sa11, iv (10 : Int32), iv (0 : Int32), iv cc, iv v30, iv (1 : Int32), .unset, .unset, .unset] [] _
            refine XS.goto X44.here hx rfl (pc0 := 102) (pc' := 108) rfl (hb hby at_102) (by decide) (by decide) ?_
            show own_s p e below T44 m 108 #[iv i0, iv i1, iv i2, rv sa1, rv sa11, iv (10 : Int32), iv (0 : Int32), iv cc, iv v30, iv (1 : Int32), .unset, .unset, .unset] [] _
            refine XS.iloadN X44.here hx rfl (hb hby at_108) rfl ?_
            show own_s p e below T44 m 109 #[iv i0, iv i1, iv i2, rv sa1, rv sa11, iv (10 : Int32), iv (0 : Int32), iv cc, iv v30, iv (1 : Int32), .unset, .unset, .unset] [(.int i2)] _
            refine X44.ldcInt hx hown (mvT hZ (hw _ (List.mem_of_getElem? (i := 13) rfl))) (g := (mkF m 109 #[iv i0, iv i1, iv i2, rv sa1, rv sa11, iv (10 : Int32), iv (0 : Int32), iv cc, iv v30, iv (1 : Int32), .unset, .unset, .unset] [(.int i2)])) rfl (hb hby at_109) _ ?_
            show own_s p e below T44 m 111 #[iv i0, iv i1, iv i2, rv sa1, rv sa11, iv (10 : Int32), iv (0 : Int32), iv cc, iv v30, iv (1 : Int32), .unset, .unset, .unset] [(.int (2147483647 : Int32)), (.int i2)] _
            refine XS.iand X44.here hx rfl (hb hby at_111) rfl ?_
            show own_s p e below T44 m 112 #[iv i0, iv i1, iv i2, rv sa1, rv sa11, iv (10 : Int32), iv (0 : Int32), iv cc, iv v30, iv (1 : Int32), .unset, .unset, .unset] [(.int (i2 &&& (2147483647 : Int32)))] _
            refine XS.iload X44.here hx rfl (hb hby at_112) rfl ?_
            show own_s p e below T44 m 114 #[iv i0, iv i1, iv i2, rv sa1, rv sa11, iv (10 : Int32), iv (0 : Int32), iv cc, iv v30, iv (1 : Int32), .unset, .unset, .unset] [(.int (10 : Int32)), (.int (i2 &&& (2147483647 : Int32)))] _
            refine iremM X44 hx rfl (hb hby at_114) rfl (by decide) ?_
            exact kX
          obtain ⟨vq, hvq⟩ : ∃ z : Int32, z = ((i2 &&& (2147483647 : Int32)) % (10 : Int32)) := ⟨_, rfl⟩
          rw [← hvq] at pre48
          have mk := c_mask i2 2147483647 31 (by decide) (by decide)
          have rr := (c_irem (i2 &&& 2147483647) 10 10 (by decide)).1 (by omega)
          rw [← hvq] at rr
          have pre49 : ∀ t, own_s p e below T44 m 135 #[iv i0, iv i1, iv i2, rv sa1, rv sa11, iv (10 : Int32), iv (0 : Int32), iv cc, iv v30, iv (1 : Int32), iv vq, .unset, .unset] [(.int vq), (.ref sa1)] t → Steps p.tables e below S0 t := by
            intro tX kX
            refine pre48 _ ?_
            show own_s p e below T44 m 115 #[iv i0, iv i1, iv i2, rv sa1, rv sa11, iv (10 : Int32), iv (0 : Int32), iv cc, iv v30, iv (1 : Int32), .unset, .unset, .unset] [(.int vq)] _
            refine XS.istore X44.here hx rfl (hb hby at_115) rfl (l' := #[iv i0, iv i1, iv i2, rv sa1, rv sa11, iv (10 : Int32), iv (0 : Int32), iv cc, iv v30, iv (1 : Int32), iv vq, .unset, .unset]) rfl ?_
            show own_s p e below T44 m 117 #[iv i0, iv i1, iv i2, rv sa1, rv sa11, iv (10 : Int32), iv (0 : Int32), iv cc, iv v30, iv (1 : Int32), iv vq, .unset, .unset] [] _
            refine XS.iload X44.here hx rfl (hb hby at_117) rfl ?_
            show own_s p e below T44 m 119 #[iv i0, iv i1, iv i2, rv sa1, rv sa11, iv (10 : Int32), iv (0 : Int32), iv cc, iv v30, iv (1 : Int32), iv vq, .unset, .unset] [(.int (0 : Int32))] _
            refine XS.ifYes X44.here hx rfl (pc0 := 119) (pc' := 132) rfl (hb hby at_119) rfl ((if0 _ _).trans (teq (by decide : (0 : Int32) = (0 : Int32))).1) (by decide) (by decide) ?_
            show own_s p e below T44 m 132 #[iv i0, iv i1, iv i2, rv sa1, rv sa11, iv (10 : Int32), iv (0 : Int32), iv cc, iv v30, iv (1 : Int32), iv vq, .unset, .unset] [] _
            refine XS.aloadN X44.here hx rfl (hb hby at_132) rfl rfl ?_
            show own_s p e below T44 m 133 #[iv i0, iv i1, iv i2, rv sa1, rv sa11, iv (10 : Int32), iv (0 : Int32), iv cc, iv v30, iv (1 : Int32), iv vq, .unset, .unset] [(.ref sa1)] _
            refine XS.iload X44.here hx rfl (hb hby at_133) rfl ?_
            exact kX
          have gI51 := own_GI (u := 87) (j := (vq).toInt.toNat) (by decide) (by omega)
          obtain ⟨cq50, kq50, q50a, q50b, q50c⟩ := isOf hZ e44 f15_E
          obtain ⟨_, _, ⟨T50, L50, k50, n50⟩, -, X50, ⟨Lc50, hQ50, l50, y50, z50⟩, st50⟩ := X44.virtualBack hx (y := (⟨"java/lang/String", "charAt", "(I)C"⟩ : MethodName)) (z := (⟨"java/lang/String", "charAt", "(I)C"⟩ : MethodName)) hown (mvT hZ (hw _ (List.mem_of_getElem? (i := 14) rfl))) (mvT hZ (hw _ (List.mem_of_getElem? (i := 15) rfl))) (notFace_of_selects (args := #[]) (mvT hZ (hw _ (List.mem_of_getElem? (i := 17) rfl)))) (mvT hZ (hw _ (List.mem_of_getElem? (i := 17) rfl))) (mvT hZ (hw _ (List.mem_of_getElem? (i := 16) rfl))) (by decide) (backOf (W := 0) (rm6 l s a0 hw [] sa1 vq sb1 (own_G 87) (vq).toInt.toNat w cs h11 n0 Z19 f15_E f16_F f17_F hv f13_S f14_S hc f18_A (fun j hj => by have := own_GI (u := 87) (by decide) hj; omega) (by omega) (by omega)) hZ (hw _ (List.mem_of_getElem? (i := 18) rfl)) (hw _ (List.mem_of_getElem? (i := 1) rfl)) (by decide) (by decide)) q50a q50c (g := (mkF m 135 #[iv i0, iv i1, iv i2, rv sa1, rv sa11, iv (10 : Int32), iv (0 : Int32), iv cc, iv v30, iv (1 : Int32), iv vq, .unset, .unset] [(.int vq), (.ref sa1)])) rfl (by rw [hml]; rfl) (Steps.refl _) (argsL := [(.int vq)]) (rest := []) (lenOf pd0_1 rfl) rfl (by show 2 * 0 + _ ≤ _; exact Nat.le_of_eq rfl) (hb hby at_135) (fun _ _ => ⟨rfl, e44, (by decide : 4 + 0 ≤ _), (by decide : 136 + 0 ≤ _)⟩)
          dsimp only [Pt.U, Pt.locs, Pt.cells, Pt.slots] at X50 l50 y50 z50 st50 hQ50
          subst l50 y50 z50
          obtain ⟨rfl, Nq50, e50⟩ := hQ50
          have N50 := Fr.app N44 Nq50
          have pre52 : ∀ t, own_s p e below T50 m 138 #[iv i0, iv i1, iv i2, rv sa1, rv sa11, iv (10 : Int32), iv (0 : Int32), iv cc, iv v30, iv (1 : Int32), iv vq, .unset, .unset] [(.int (own_G 87 (vq).toInt.toNat))] t → Steps p.tables e below S0 t := fun tX kX => pre49 _ (st50.trans kX)
          have pre53 : ∀ t, own_s p e below T50 m 144 #[iv i0, iv i1, iv i2, rv sa1, rv sa11, iv (10 : Int32), iv (0 : Int32), iv cc, iv v30, iv (1 : Int32), iv vq, iv (own_G 87 (vq).toInt.toNat), .unset] [(.int (10 : Int32)), (.int (own_G 87 (vq).toInt.toNat))] t → Steps p.tables e below S0 t := by
            intro tX kX
            refine pre52 _ ?_
            show own_s p e below T50 m 138 #[iv i0, iv i1, iv i2, rv sa1, rv sa11, iv (10 : Int32), iv (0 : Int32), iv cc, iv v30, iv (1 : Int32), iv vq, .unset, .unset] [(.int (own_G 87 (vq).toInt.toNat))] _
            refine XS.istore X50.here hx rfl (hb hby at_138) rfl (l' := #[iv i0, iv i1, iv i2, rv sa1, rv sa11, iv (10 : Int32), iv (0 : Int32), iv cc, iv v30, iv (1 : Int32), iv vq, iv (own_G 87 (vq).toInt.toNat), .unset]) rfl ?_
            show own_s p e below T50 m 140 #[iv i0, iv i1, iv i2, rv sa1, rv sa11, iv (10 : Int32), iv (0 : Int32), iv cc, iv v30, iv (1 : Int32), iv vq, iv (own_G 87 (vq).toInt.toNat), .unset] [] _
            refine XS.iload X50.here hx rfl (hb hby at_140) rfl ?_
            show own_s p e below T50 m 142 #[iv i0, iv i1, iv i2, rv sa1, rv sa11, iv (10 : Int32), iv (0 : Int32), iv cc, iv v30, iv (1 : Int32), iv vq, iv (own_G 87 (vq).toInt.toNat), .unset] [(.int (own_G 87 (vq).toInt.toNat))] _
            refine XS.iload X50.here hx rfl (hb hby at_142) rfl ?_
            exact kX
          obtain ⟨_, _, ⟨T54, L54, k54, n54⟩, -, X54, ⟨Lc54, hQ54, l54, y54, z54⟩, st54⟩ := Jvm.LawKit.callS X50 hx (y := (⟨"com/example/osier/osier/xml/XmlChars", "digitValue", "(CI)I"⟩ : MethodName)) hown (mvT hZ (hw _ (List.mem_of_getElem? (i := 9) rfl))) (mvT hZ (hw _ (List.mem_of_getElem? (i := 10) rfl))) (mvT hZ (hw _ (List.mem_of_getElem? (i := 11) rfl))) (mvT hZ (hw _ (List.mem_of_getElem? (i := 12) rfl))) (by decide) (backOf (W := 0) (rm1 l s a0 hw [] (own_G 87 (vq).toInt.toNat) (10 : Int32)  h11 n0 Z19 (by omega) (by omega)) hZ (hw _ (List.mem_of_getElem? (i := 12) rfl)) (hw _ (List.mem_of_getElem? (i := 11) rfl)) (by decide) (by decide)) (g := (mkF m 144 #[iv i0, iv i1, iv i2, rv sa1, rv sa11, iv (10 : Int32), iv (0 : Int32), iv cc, iv v30, iv (1 : Int32), iv vq, iv (own_G 87 (vq).toInt.toNat), .unset] [(.int (10 : Int32)), (.int (own_G 87 (vq).toInt.toNat))])) rfl (by rw [hml]; rfl) (argsL := [(.int (own_G 87 (vq).toInt.toNat)), (.int (10 : Int32))]) (rest := []) (lenOf pd0_0 rfl) rfl (by show 2 * 0 + _ ≤ _; exact Nat.le_of_eq rfl) (hb hby at_144) (fun _ _ => ⟨rfl, e50, (by decide : 4 + 0 ≤ _), (by decide : 136 + 0 ≤ _)⟩)
          dsimp only [Pt.U, Pt.locs, Pt.cells, Pt.slots] at X54 l54 y54 z54 st54 hQ54
          subst l54 y54 z54
          obtain ⟨⟨v54, rfl, B54⟩, Nq54, e54⟩ := hQ54
          unfold own_DV at B54
          have N54 := Fr.app N50 Nq54
          have pre55 : ∀ t, own_s p e below T54 m 147 #[iv i0, iv i1, iv i2, rv sa1, rv sa11, iv (10 : Int32), iv (0 : Int32), iv cc, iv v30, iv (1 : Int32), iv vq, iv (own_G 87 (vq).toInt.toNat), .unset] [(.int v54)] t → Steps p.tables e below S0 t := fun tX kX => pre53 _ (st54 _ kX)
          have pre56 : ∀ t, own_s p e below T54 m 174 #[iv i0, iv i1, iv i2, rv sa1, rv sa11, iv (10 : Int32), iv (0 : Int32), iv cc, iv v30, iv (1 : Int32), iv vq, iv (own_G 87 (vq).toInt.toNat), iv (1 : Int32)] [(.int (1 : Int32))] t → Steps p.tables e below S0 t := by
            intro tX kX
            refine pre55 _ ?_
            show own_s p e below T54 m 147 #[iv i0, iv i1, iv i2, rv sa1, rv sa11, iv (10 : Int32), iv (0 : Int32), iv cc, iv v30, iv (1 : Int32), iv vq, iv (own_G 87 (vq).toInt.toNat), .unset] [(.int v54)] _
            refine XS.iload X54.here hx rfl (hb hby at_147) rfl ?_
            show own_s p e below T54 m 149 #[iv i0, iv i1, iv i2, rv sa1, rv sa11, iv (10 : Int32), iv (0 : Int32), iv cc, iv v30, iv (1 : Int32), iv vq, iv (own_G 87 (vq).toInt.toNat), .unset] [(.int vq), (.int v54)] _
            refine XS.icmpNo X54.here hx rfl (hb hby at_149) rfl (teq (own_eqI (show (v54).toInt = (vq).toInt from (by omega : (v54).toInt = (vq).toInt)))).2 ?_
            show own_s p e below T54 m 152 #[iv i0, iv i1, iv i2, rv sa1, rv sa11, iv (10 : Int32), iv (0 : Int32), iv cc, iv v30, iv (1 : Int32), iv vq, iv (own_G 87 (vq).toInt.toNat), .unset] [] _
            refine XS.iconst X54.here hx rfl (hb hby at_152) ?_
            show own_s p e below T54 m 153 #[iv i0, iv i1, iv i2, rv sa1, rv sa11, iv (10 : Int32), iv (0 : Int32), iv cc, iv v30, iv (1 : Int32), iv vq, iv (own_G 87 (vq).toInt.toNat), .unset] [(.int (1 : Int32))] _
            refine XS.goto X54.here hx rfl (pc0 := 153) (pc' := 157) rfl (hb hby at_153) (by decide) (by decide) ?_
            show own_s p e below T54 m 157 #[iv i0, iv i1, iv i2, rv sa1, rv sa11, iv (10 : Int32), iv (0 : Int32), iv cc, iv v30, iv (1 : Int32), iv vq, iv (own_G 87 (vq).toInt.toNat), .unset] [(.int (1 : Int32))] _
            refine XS.istore X54.here hx rfl (hb hby at_157) rfl (l' := #[iv i0, iv i1, iv i2, rv sa1, rv sa11, iv (10 : Int32), iv (0 : Int32), iv cc, iv v30, iv (1 : Int32), iv vq, iv (own_G 87 (vq).toInt.toNat), iv (1 : Int32)]) rfl ?_
            show own_s p e below T54 m 159 #[iv i0, iv i1, iv i2, rv sa1, rv sa11, iv (10 : Int32), iv (0 : Int32), iv cc, iv v30, iv (1 : Int32), iv vq, iv (own_G 87 (vq).toInt.toNat), iv (1 : Int32)] [] _
            refine XS.iload X54.here hx rfl (hb hby at_159) rfl ?_
            show own_s p e below T54 m 161 #[iv i0, iv i1, iv i2, rv sa1, rv sa11, iv (10 : Int32), iv (0 : Int32), iv cc, iv v30, iv (1 : Int32), iv vq, iv (own_G 87 (vq).toInt.toNat), iv (1 : Int32)] [(.int (1 : Int32))] _
            refine XS.ifNo X54.here hx rfl (hb hby at_161) rfl ((if0 _ _).trans (feq (by decide : ¬ ((1 : Int32) = (0 : Int32)))).1) ?_
            show own_s p e below T54 m 164 #[iv i0, iv i1, iv i2, rv sa1, rv sa11, iv (10 : Int32), iv (0 : Int32), iv cc, iv v30, iv (1 : Int32), iv vq, iv (own_G 87 (vq).toInt.toNat), iv (1 : Int32)] [] _
            refine XS.iload X54.here hx rfl (hb hby at_164) rfl ?_
            show own_s p e below T54 m 166 #[iv i0, iv i1, iv i2, rv sa1, rv sa11, iv (10 : Int32), iv (0 : Int32), iv cc, iv v30, iv (1 : Int32), iv vq, iv (own_G 87 (vq).toInt.toNat), iv (1 : Int32)] [(.int (1 : Int32))] _
            refine XS.ifNo X54.here hx rfl (hb hby at_166) rfl ((if0 _ _).trans (feq (by decide : ¬ ((1 : Int32) = (0 : Int32)))).1) ?_
            show own_s p e below T54 m 169 #[iv i0, iv i1, iv i2, rv sa1, rv sa11, iv (10 : Int32), iv (0 : Int32), iv cc, iv v30, iv (1 : Int32), iv vq, iv (own_G 87 (vq).toInt.toNat), iv (1 : Int32)] [] _
            refine XS.iconst X54.here hx rfl (hb hby at_169) ?_
            show own_s p e below T54 m 170 #[iv i0, iv i1, iv i2, rv sa1, rv sa11, iv (10 : Int32), iv (0 : Int32), iv cc, iv v30, iv (1 : Int32), iv vq, iv (own_G 87 (vq).toInt.toNat), iv (1 : Int32)] [(.int (1 : Int32))] _
            refine XS.goto X54.here hx rfl (pc0 := 170) (pc' := 174) rfl (hb hby at_170) (by decide) (by decide) ?_
            exact kX
          subst hS0
          obtain ⟨fs, hr, hrun, hended, hend⟩ := X54.leaveW hS (by rw [e54]; exact hk11) (v := (some (.int (1 : Int32)))) (fun h => by rw [Bd.returns] at h; cases h)
          exact ⟨_, _, pre56 _ (retN X54 hx (t := .boolean) Bd.returns (by simp) (hb hby at_174) hr), hrun, hended, _, _, rfl, ⟨rfl, hn0 ▸ N54⟩, hend⟩
        · skip
          have ihc47 : ¬ ((cc).toInt = ((own_G 87 (v30).toInt.toNat)).toInt) := fun q => hc47 (Int32.toInt_inj.mp q)
          have pre57 : ∀ t, own_s p e below T44 m 89 #[iv i0, iv i1, iv i2, rv sa1, rv sa11, iv (10 : Int32), iv (0 : Int32), iv cc, iv v30, .unset, .unset, .unset, .unset] [(.int v30), (.ref sa11), (.int cc)] t → Steps p.tables e below S0 t := by
            intro tX kX
            refine pre46 _ ?_
            show own_s p e below T44 m 80 #[iv i0, iv i1, iv i2, rv sa1, rv sa11, iv (10 : Int32), iv (0 : Int32), iv cc, iv v30, .unset, .unset, .unset, .unset] [(.int (own_G 87 (v30).toInt.toNat)), (.int cc)] _
            refine XS.icmpNo X44.here hx rfl (hb hby at_80) rfl (feq hc47).1 ?_
            show own_s p e below T44 m 83 #[iv i0, iv i1, iv i2, rv sa1, rv sa11, iv (10 : Int32), iv (0 : Int32), iv cc, iv v30, .unset, .unset, .unset, .unset] [] _
            refine XS.iload X44.here hx rfl (hb hby at_83) rfl ?_
            show own_s p e below T44 m 85 #[iv i0, iv i1, iv i2, rv sa1, rv sa11, iv (10 : Int32), iv (0 : Int32), iv cc, iv v30, .unset, .unset, .unset, .unset] [(.int cc)] _
            refine XS.aload X44.here hx rfl (hb hby at_85) rfl rfl ?_
            show own_s p e below T44 m 87 #[iv i0, iv i1, iv i2, rv sa1, rv sa11, iv (10 : Int32), iv (0 : Int32), iv cc, iv v30, .unset, .unset, .unset, .unset] [(.ref sa11), (.int cc)] _
            refine XS.iload X44.here hx rfl (hb hby at_87) rfl ?_
            exact kX
          have gI59 := own_GI (u := 55) (j := (v30).toInt.toNat) (by decide) (by omega)
          obtain ⟨cq58, kq58, q58a, q58b, q58c⟩ := isOf hZ e44 f20_E
          obtain ⟨_, _, ⟨T58, L58, k58, n58⟩, -, X58, ⟨Lc58, hQ58, l58, y58, z58⟩, st58⟩ := X44.virtualBack hx (y := (⟨"java/lang/String", "charAt", "(I)C"⟩ : MethodName)) (z := (⟨"java/lang/String", "charAt", "(I)C"⟩ : MethodName)) hown (mvT hZ (hw _ (List.mem_of_getElem? (i := 14) rfl))) (mvT hZ (hw _ (List.mem_of_getElem? (i := 15) rfl))) (notFace_of_selects (args := #[]) (mvT hZ (hw _ (List.mem_of_getElem? (i := 17) rfl)))) (mvT hZ (hw _ (List.mem_of_getElem? (i := 17) rfl))) (mvT hZ (hw _ (List.mem_of_getElem? (i := 16) rfl))) (by decide) (backOf (W := 1) (rm6 l s a0 hw [] sa11 v30 sb11 (own_G 55) (v30).toInt.toNat w cs h11 n0 Z19 f20_E f21_F f22_F hv f13_S f14_S hc f23_A (fun j hj => by have := own_GI (u := 55) (by decide) hj; omega) (by omega) (by omega)) hZ (hw _ (List.mem_of_getElem? (i := 18) rfl)) (hw _ (List.mem_of_getElem? (i := 1) rfl)) (by decide) (by decide)) q58a q58c (g := (mkF m 89 #[iv i0, iv i1, iv i2, rv sa1, rv sa11, iv (10 : Int32), iv (0 : Int32), iv cc, iv v30, .unset, .unset, .unset, .unset] [(.int v30), (.ref sa11), (.int cc)])) rfl (by rw [hml]; rfl) (Steps.refl _) (argsL := [(.int v30)]) (rest := [(.int cc)]) (lenOf pd0_1 rfl) rfl (by show 2 * 0 + _ ≤ _; exact Nat.le_of_eq rfl) (hb hby at_89) (fun _ _ => ⟨rfl, e44, (by decide : 4 + 0 ≤ _), (by decide : 136 + 0 ≤ _)⟩)
          dsimp only [Pt.U, Pt.locs, Pt.cells, Pt.slots] at X58 l58 y58 z58 st58 hQ58
          subst l58 y58 z58
          obtain ⟨rfl, Nq58, e58⟩ := hQ58
          have N58 := Fr.app N44 Nq58
          have pre60 : ∀ t, own_s p e below T58 m 92 #[iv i0, iv i1, iv i2, rv sa1, rv sa11, iv (10 : Int32), iv (0 : Int32), iv cc, iv v30, .unset, .unset, .unset, .unset] [(.int (own_G 55 (v30).toInt.toNat)), (.int cc)] t → Steps p.tables e below S0 t := fun tX kX => pre57 _ (st58.trans kX)
          have pre61 : ∀ t, own_s p e below T58 m 115 #[iv i0, iv i1, iv i2, rv sa1, rv sa11, iv (10 : Int32), iv (0 : Int32), iv cc, iv v30, iv (1 : Int32), .unset, .unset, .unset] [(.int ((i2 &&& (2147483647 : Int32)) % (10 : Int32)))] t → Steps p.tables e below S0 t := by
            intro tX kX
            refine pre60 _ ?_
            show own_s p e below T58 m 92 #[iv i0, iv i1, iv i2, rv sa1, rv sa11, iv (10 : Int32), iv (0 : Int32), iv cc, iv v30, .unset, .unset, .unset, .unset] [(.int (own_G 55 (v30).toInt.toNat)), (.int cc)] _
            refine XS.icmpNo X58.here hx rfl (hb hby at_92) rfl (teq (own_eqI (show (cc).toInt = ((own_G 55 (v30).toInt.toNat)).toInt from (by omega : (cc).toInt = ((own_G 55 (v30).toInt.toNat)).toInt)))).2 ?_
            show own_s p e below T58 m 95 #[iv i0, iv i1, iv i2, rv sa1, rv sa11, iv (10 : Int32), iv (0 : Int32), iv cc, iv v30, .unset, .unset, .unset, .unset] [] _
            refine XS.iconst X58.here hx rfl (hb hby at_95) ?_
            show own_s p e below T58 m 96 #[iv i0, iv i1, iv i2, rv sa1, rv sa11, iv (10 : Int32), iv (0 : Int32), iv cc, iv v30, .unset, .unset, .unset, .unset] [(.int (1 : Int32))] _
            refine XS.goto X58.here hx rfl (pc0 := 96) (pc' := 100) rfl (hb hby at_96) (by decide) (by decide) ?_
            show own_s p e below T58 m 100 #[iv i0, iv i1, iv i2, rv sa1, rv sa11, iv (10 : Int32), iv (0 : Int32), iv cc, iv v30, .unset, .unset, .unset, .unset] [(.int (1 : Int32))] _
            refine XS.istore X58.here hx rfl (hb hby at_100) rfl (l' := #[iv i0, iv i1, iv i2, rv sa1, rv sa11, iv (10 : Int32), iv (0 : Int32), iv cc, iv v30, iv (1 : Int32), .unset, .unset, .unset]) rfl ?_
            show own_s p e below T58 m 102 #[iv i0, iv i1, iv i2, rv sa1, rv sa11, iv (10 : Int32), iv (0 : Int32), iv cc, iv v30, iv (1 : Int32), .unset, .unset, .unset] [] _
            refine XS.goto X58.here hx rfl (pc0 := 102) (pc' := 108) rfl (hb hby at_102) (by decide) (by decide) ?_
            show own_s p e below T58 m 108 #[iv i0, iv i1, iv i2, rv sa1, rv sa11, iv (10 : Int32), iv (0 : Int32), iv cc, iv v30, iv (1 : Int32), .unset, .unset, .unset] [] _
            refine XS.iloadN X58.here hx rfl (hb hby at_108) rfl ?_
            show own_s p e below T58 m 109 #[iv i0, iv i1, iv i2, rv sa1, rv sa11, iv (10 : Int32), iv (0 : Int32), iv cc, iv v30, iv (1 : Int32), .unset, .unset, .unset] [(.int i2)] _
            refine X58.ldcInt hx hown (mvT hZ (hw _ (List.mem_of_getElem? (i := 13) rfl))) (g := (mkF m 109 #[iv i0, iv i1, iv i2, rv sa1, rv sa11, iv (10 : Int32), iv (0 : Int32), iv cc, iv v30, iv (1 : Int32), .unset, .unset, .unset] [(.int i2)])) rfl (hb hby at_109) _ ?_
            show own_s p e below T58 m 111 #[iv i0, iv i1, iv i2, rv sa1, rv sa11, iv (10 : Int32), iv (0 : Int32), iv cc, iv v30, iv (1 : Int32), .unset, .unset, .unset] [(.int (2147483647 : Int32)), (.int i2)] _
            refine XS.iand X58.here hx rfl (hb hby at_111) rfl ?_
            show own_s p e below T58 m 112 #[iv i0, iv i1, iv i2, rv sa1, rv sa11, iv (10 : Int32), iv (0 : Int32), iv cc, iv v30, iv (1 : Int32), .unset, .unset, .unset] [(.int (i2 &&& (2147483647 : Int32)))] _
            refine XS.iload X58.here hx rfl (hb hby at_112) rfl ?_
            show own_s p e below T58 m 114 #[iv i0, iv i1, iv i2, rv sa1, rv sa11, iv (10 : Int32), iv (0 : Int32), iv cc, iv v30, iv (1 : Int32), .unset, .unset, .unset] [(.int (10 : Int32)), (.int (i2 &&& (2147483647 : Int32)))] _
            refine iremM X58 hx rfl (hb hby at_114) rfl (by decide) ?_
            exact kX
          obtain ⟨vq, hvq⟩ : ∃ z : Int32, z = ((i2 &&& (2147483647 : Int32)) % (10 : Int32)) := ⟨_, rfl⟩
          rw [← hvq] at pre61
          have mk := c_mask i2 2147483647 31 (by decide) (by decide)
          have rr := (c_irem (i2 &&& 2147483647) 10 10 (by decide)).1 (by omega)
          rw [← hvq] at rr
          have pre62 : ∀ t, own_s p e below T58 m 135 #[iv i0, iv i1, iv i2, rv sa1, rv sa11, iv (10 : Int32), iv (0 : Int32), iv cc, iv v30, iv (1 : Int32), iv vq, .unset, .unset] [(.int vq), (.ref sa1)] t → Steps p.tables e below S0 t := by
            intro tX kX
            refine pre61 _ ?_
            show own_s p e below T58 m 115 #[iv i0, iv i1, iv i2, rv sa1, rv sa11, iv (10 : Int32), iv (0 : Int32), iv cc, iv v30, iv (1 : Int32), .unset, .unset, .unset] [(.int vq)] _
            refine XS.istore X58.here hx rfl (hb hby at_115) rfl (l' := #[iv i0, iv i1, iv i2, rv sa1, rv sa11, iv (10 : Int32), iv (0 : Int32), iv cc, iv v30, iv (1 : Int32), iv vq, .unset, .unset]) rfl ?_
            show own_s p e below T58 m 117 #[iv i0, iv i1, iv i2, rv sa1, rv sa11, iv (10 : Int32), iv (0 : Int32), iv cc, iv v30, iv (1 : Int32), iv vq, .unset, .unset] [] _
            refine XS.iload X58.here hx rfl (hb hby at_117) rfl ?_
            show own_s p e below T58 m 119 #[iv i0, iv i1, iv i2, rv sa1, rv sa11, iv (10 : Int32), iv (0 : Int32), iv cc, iv v30, iv (1 : Int32), iv vq, .unset, .unset] [(.int (0 : Int32))] _
            refine XS.ifYes X58.here hx rfl (pc0 := 119) (pc' := 132) rfl (hb hby at_119) rfl ((if0 _ _).trans (teq (by decide : (0 : Int32) = (0 : Int32))).1) (by decide) (by decide) ?_
            show own_s p e below T58 m 132 #[iv i0, iv i1, iv i2, rv sa1, rv sa11, iv (10 : Int32), iv (0 : Int32), iv cc, iv v30, iv (1 : Int32), iv vq, .unset, .unset] [] _
            refine XS.aloadN X58.here hx rfl (hb hby at_132) rfl rfl ?_
            show own_s p e below T58 m 133 #[iv i0, iv i1, iv i2, rv sa1, rv sa11, iv (10 : Int32), iv (0 : Int32), iv cc, iv v30, iv (1 : Int32), iv vq, .unset, .unset] [(.ref sa1)] _
            refine XS.iload X58.here hx rfl (hb hby at_133) rfl ?_
            exact kX
          have gI64 := own_GI (u := 87) (j := (vq).toInt.toNat) (by decide) (by omega)
          obtain ⟨cq63, kq63, q63a, q63b, q63c⟩ := isOf hZ e58 f15_E
          obtain ⟨_, _, ⟨T63, L63, k63, n63⟩, -, X63, ⟨Lc63, hQ63, l63, y63, z63⟩, st63⟩ := X58.virtualBack hx (y := (⟨"java/lang/String", "charAt", "(I)C"⟩ : MethodName)) (z := (⟨"java/lang/String", "charAt", "(I)C"⟩ : MethodName)) hown (mvT hZ (hw _ (List.mem_of_getElem? (i := 14) rfl))) (mvT hZ (hw _ (List.mem_of_getElem? (i := 15) rfl))) (notFace_of_selects (args := #[]) (mvT hZ (hw _ (List.mem_of_getElem? (i := 17) rfl)))) (mvT hZ (hw _ (List.mem_of_getElem? (i := 17) rfl))) (mvT hZ (hw _ (List.mem_of_getElem? (i := 16) rfl))) (by decide) (backOf (W := 0) (rm6 l s a0 hw [] sa1 vq sb1 (own_G 87) (vq).toInt.toNat w cs h11 n0 Z19 f15_E f16_F f17_F hv f13_S f14_S hc f18_A (fun j hj => by have := own_GI (u := 87) (by decide) hj; omega) (by omega) (by omega)) hZ (hw _ (List.mem_of_getElem? (i := 18) rfl)) (hw _ (List.mem_of_getElem? (i := 1) rfl)) (by decide) (by decide)) q63a q63c (g := (mkF m 135 #[iv i0, iv i1, iv i2, rv sa1, rv sa11, iv (10 : Int32), iv (0 : Int32), iv cc, iv v30, iv (1 : Int32), iv vq, .unset, .unset] [(.int vq), (.ref sa1)])) rfl (by rw [hml]; rfl) (Steps.refl _) (argsL := [(.int vq)]) (rest := []) (lenOf pd0_1 rfl) rfl (by show 2 * 0 + _ ≤ _; exact Nat.le_of_eq rfl) (hb hby at_135) (fun _ _ => ⟨rfl, e58, (by decide : 4 + 0 ≤ _), (by decide : 136 + 0 ≤ _)⟩)
          dsimp only [Pt.U, Pt.locs, Pt.cells, Pt.slots] at X63 l63 y63 z63 st63 hQ63
          subst l63 y63 z63
          obtain ⟨rfl, Nq63, e63⟩ := hQ63
          have N63 := Fr.app N58 Nq63
          have pre65 : ∀ t, own_s p e below T63 m 138 #[iv i0, iv i1, iv i2, rv sa1, rv sa11, iv (10 : Int32), iv (0 : Int32), iv cc, iv v30, iv (1 : Int32), iv vq, .unset, .unset] [(.int (own_G 87 (vq).toInt.toNat))] t → Steps p.tables e below S0 t := fun tX kX => pre62 _ (st63.trans kX)
          have pre66 : ∀ t, own_s p e below T63 m 144 #[iv i0, iv i1, iv i2, rv sa1, rv sa11, iv (10 : Int32), iv (0 : Int32), iv cc, iv v30, iv (1 : Int32), iv vq, iv (own_G 87 (vq).toInt.toNat), .unset] [(.int (10 : Int32)), (.int (own_G 87 (vq).toInt.toNat))] t → Steps p.tables e below S0 t := by
            intro tX kX
            refine pre65 _ ?_
            show own_s p e below T63 m 138 #[iv i0, iv i1, iv i2, rv sa1, rv sa11, iv (10 : Int32), iv (0 : Int32), iv cc, iv v30, iv (1 : Int32), iv vq, .unset, .unset] [(.int (own_G 87 (vq).toInt.toNat))] _
            refine XS.istore X63.here hx rfl (hb hby at_138) rfl (l' := #[iv i0, iv i1, iv i2, rv sa1, rv sa11, iv (10 : Int32), iv (0 : Int32), iv cc, iv v30, iv (1 : Int32), iv vq, iv (own_G 87 (vq).toInt.toNat), .unset]) rfl ?_
            show own_s p e below T63 m 140 #[iv i0, iv i1, iv i2, rv sa1, rv sa11, iv (10 : Int32), iv (0 : Int32), iv cc, iv v30, iv (1 : Int32), iv vq, iv (own_G 87 (vq).toInt.toNat), .unset] [] _
            refine XS.iload X63.here hx rfl (hb hby at_140) rfl ?_
            show own_s p e below T63 m 142 #[iv i0, iv i1, iv i2, rv sa1, rv sa11, iv (10 : Int32), iv (0 : Int32), iv cc, iv v30, iv (1 : Int32), iv vq, iv (own_G 87 (vq).toInt.toNat), .unset] [(.int (own_G 87 (vq).toInt.toNat))] _
            refine XS.iload X63.here hx rfl (hb hby at_142) rfl ?_
            exact kX
          obtain ⟨_, _, ⟨T67, L67, k67, n67⟩, -, X67, ⟨Lc67, hQ67, l67, y67, z67⟩, st67⟩ := Jvm.LawKit.callS X63 hx (y := (⟨"com/example/osier/osier/xml/XmlChars", "digitValue", "(CI)I"⟩ : MethodName)) hown (mvT hZ (hw _ (List.mem_of_getElem? (i := 9) rfl))) (mvT hZ (hw _ (List.mem_of_getElem? (i := 10) rfl))) (mvT hZ (hw _ (List.mem_of_getElem? (i := 11) rfl))) (mvT hZ (hw _ (List.mem_of_getElem? (i := 12) rfl))) (by decide) (backOf (W := 0) (rm1 l s a0 hw [] (own_G 87 (vq).toInt.toNat) (10 : Int32)  h11 n0 Z19 (by omega) (by omega)) hZ (hw _ (List.mem_of_getElem? (i := 12) rfl)) (hw _ (List.mem_of_getElem? (i := 11) rfl)) (by decide) (by decide)) (g := (mkF m 144 #[iv i0, iv i1, iv i2, rv sa1, rv sa11, iv (10 : Int32), iv (0 : Int32), iv cc, iv v30, iv (1 : Int32), iv vq, iv (own_G 87 (vq).toInt.toNat), .unset] [(.int (10 : Int32)), (.int (own_G 87 (vq).toInt.toNat))])) rfl (by rw [hml]; rfl) (argsL := [(.int (own_G 87 (vq).toInt.toNat)), (.int (10 : Int32))]) (rest := []) (lenOf pd0_0 rfl) rfl (by show 2 * 0 + _ ≤ _; exact Nat.le_of_eq rfl) (hb hby at_144) (fun _ _ => ⟨rfl, e63, (by decide : 4 + 0 ≤ _), (by decide : 136 + 0 ≤ _)⟩)
          dsimp only [Pt.U, Pt.locs, Pt.cells, Pt.slots] at X67 l67 y67 z67 st67 hQ67
          subst l67 y67 z67
          obtain ⟨⟨v67, rfl, B67⟩, Nq67, e67⟩ := hQ67
          unfold own_DV at B67
          have N67 := Fr.app N63 Nq67
          have pre68 : ∀ t, own_s p e below T67 m 147 #[iv i0, iv i1, iv i2, rv sa1, rv sa11, iv (10 : Int32), iv (0 : Int32), iv cc, iv v30, iv (1 : Int32), iv vq, iv (own_G 87 (vq).toInt.toNat), .unset] [(.int v67)] t → Steps p.tables e below S0 t := fun tX kX => pre66 _ (st67 _ kX)
          have pre69 : ∀ t, own_s p e below T67 m 174 #[iv i0, iv i1, iv i2, rv sa1, rv sa11, iv (10 : Int32), iv (0 : Int32), iv cc, iv v30, iv (1 : Int32), iv vq, iv (own_G 87 (vq).toInt.toNat), iv (1 : Int32)] [(.int (1 : Int32))] t → Steps p.tables e below S0 t := by
            intro tX kX
            refine pre68 _ ?_
            show own_s p e below T67 m 147 #[iv i0, iv i1, iv i2, rv sa1, rv sa11, iv (10 : Int32), iv (0 : Int32), iv cc, iv v30, iv (1 : Int32), iv vq, iv (own_G 87 (vq).toInt.toNat), .unset] [(.int v67)] _
            refine XS.iload X67.here hx rfl (hb hby at_147) rfl ?_
            show own_s p e below T67 m 149 #[iv i0, iv i1, iv i2, rv sa1, rv sa11, iv (10 : Int32), iv (0 : Int32), iv cc, iv v30, iv (1 : Int32), iv vq, iv (own_G 87 (vq).toInt.toNat), .unset] [(.int vq), (.int v67)] _
            refine XS.icmpNo X67.here hx rfl (hb hby at_149) rfl (teq (own_eqI (show (v67).toInt = (vq).toInt from (by omega : (v67).toInt = (vq).toInt)))).2 ?_
            show own_s p e below T67 m 152 #[iv i0, iv i1, iv i2, rv sa1, rv sa11, iv (10 : Int32), iv (0 : Int32), iv cc, iv v30, iv (1 : Int32), iv vq, iv (own_G 87 (vq).toInt.toNat), .unset] [] _
            refine XS.iconst X67.here hx rfl (hb hby at_152) ?_
            show own_s p e below T67 m 153 #[iv i0, iv i1, iv i2, rv sa1, rv sa11, iv (10 : Int32), iv (0 : Int32), iv cc, iv v30, iv (1 : Int32), iv vq, iv (own_G 87 (vq).toInt.toNat), .unset] [(.int (1 : Int32))] _
            refine XS.goto X67.here hx rfl (pc0 := 153) (pc' := 157) rfl (hb hby at_153) (by decide) (by decide) ?_
            show own_s p e below T67 m 157 #[iv i0, iv i1, iv i2, rv sa1, rv sa11, iv (10 : Int32), iv (0 : Int32), iv cc, iv v30, iv (1 : Int32), iv vq, iv (own_G 87 (vq).toInt.toNat), .unset] [(.int (1 : Int32))] _
            refine XS.istore X67.here hx rfl (hb hby at_157) rfl (l' := #[iv i0, iv i1, iv i2, rv sa1, rv sa11, iv (10 : Int32), iv (0 : Int32), iv cc, iv v30, iv (1 : Int32), iv vq, iv (own_G 87 (vq).toInt.toNat), iv (1 : Int32)]) rfl ?_
            show own_s p e below T67 m 159 #[iv i0, iv i1, iv i2, rv sa1, rv sa11, iv (10 : Int32), iv (0 : Int32), iv cc, iv v30, iv (1 : Int32), iv vq, iv (own_G 87 (vq).toInt.toNat), iv (1 : Int32)] [] _
            refine XS.iload X67.here hx rfl (hb hby at_159) rfl ?_
            show own_s p e below T67 m 161 #[iv i0, iv i1, iv i2, rv sa1, rv sa11, iv (10 : Int32), iv (0 : Int32), iv cc, iv v30, iv (1 : Int32), iv vq, iv (own_G 87 (vq).toInt.toNat), iv (1 : Int32)] [(.int (1 : Int32))] _
            refine XS.ifNo X67.here hx rfl (hb hby at_161) rfl ((if0 _ _).trans (feq (by decide : ¬ ((1 : Int32) = (0 : Int32)))).1) ?_
            show own_s p e below T67 m 164 #[iv i0, iv i1, iv i2, rv sa1, rv sa11, iv (10 : Int32), iv (0 : Int32), iv cc, iv v30, iv (1 : Int32), iv vq, iv (own_G 87 (vq).toInt.toNat), iv (1 : Int32)] [] _
            refine XS.iload X67.here hx rfl (hb hby at_164) rfl ?_
            show own_s p e below T67 m 166 #[iv i0, iv i1, iv i2, rv sa1, rv sa11, iv (10 : Int32), iv (0 : Int32), iv cc, iv v30, iv (1 : Int32), iv vq, iv (own_G 87 (vq).toInt.toNat), iv (1 : Int32)] [(.int (1 : Int32))] _
            refine XS.ifNo X67.here hx rfl (hb hby at_166) rfl ((if0 _ _).trans (feq (by decide : ¬ ((1 : Int32) = (0 : Int32)))).1) ?_
            show own_s p e below T67 m 169 #[iv i0, iv i1, iv i2, rv sa1, rv sa11, iv (10 : Int32), iv (0 : Int32), iv cc, iv v30, iv (1 : Int32), iv vq, iv (own_G 87 (vq).toInt.toNat), iv (1 : Int32)] [] _
            refine XS.iconst X67.here hx rfl (hb hby at_169) ?_
            show own_s p e below T67 m 170 #[iv i0, iv i1, iv i2, rv sa1, rv sa11, iv (10 : Int32), iv (0 : Int32), iv cc, iv v30, iv (1 : Int32), iv vq, iv (own_G 87 (vq).toInt.toNat), iv (1 : Int32)] [(.int (1 : Int32))] _
            refine XS.goto X67.here hx rfl (pc0 := 170) (pc' := 174) rfl (hb hby at_170) (by decide) (by decide) ?_
            exact kX
          subst hS0
          obtain ⟨fs, hr, hrun, hended, hend⟩ := X67.leaveW hS (by rw [e67]; exact hk11) (v := (some (.int (1 : Int32)))) (fun h => by rw [Bd.returns] at h; cases h)
          exact ⟨_, _, pre69 _ (retN X67 hx (t := .boolean) Bd.returns (by simp) (hb hby at_174) hr), hrun, hended, _, _, rfl, ⟨rfl, hn0 ▸ N67⟩, hend⟩
    · skip
      have ihc27 : ¬ (((i1 &&& (2 : Int32))).toInt = (0 : Int)) := fun q => hc27 (Int32.toInt_inj.mp q)
      have pre70 : ∀ t, own_s p e below T11 m 37 #[iv i0, iv i1, iv i2, rv sa1, rv sa11, iv (10 : Int32), iv (1 : Int32), .unset, .unset, .unset, .unset, .unset, .unset] [(.int (i0.toUInt32.toUInt16.toUInt32.toInt32))] t → Steps p.tables e below S0 t := by
        intro tX kX
        refine pre26 _ ?_
        show own_s p e below T11 m 25 #[iv i0, iv i1, iv i2, rv sa1, rv sa11, iv (10 : Int32), .unset, .unset, .unset, .unset, .unset, .unset, .unset] [(.int (i1 &&& (2 : Int32)))] _
        refine XS.ifNo X11.here hx rfl (hb hby at_25) rfl ((if0 _ _).trans (feq hc27).1) ?_
        show own_s p e below T11 m 28 #[iv i0, iv i1, iv i2, rv sa1, rv sa11, iv (10 : Int32), .unset, .unset, .unset, .unset, .unset, .unset, .unset] [] _
        refine XS.iconst X11.here hx rfl (hb hby at_28) ?_
        show own_s p e below T11 m 29 #[iv i0, iv i1, iv i2, rv sa1, rv sa11, iv (10 : Int32), .unset, .unset, .unset, .unset, .unset, .unset, .unset] [(.int (1 : Int32))] _
        refine XS.goto X11.here hx rfl (pc0 := 29) (pc' := 33) rfl (hb hby at_29) (by decide) (by decide) ?_
        show own_s p e below T11 m 33 #[iv i0, iv i1, iv i2, rv sa1, rv sa11, iv (10 : Int32), .unset, .unset, .unset, .unset, .unset, .unset, .unset] [(.int (1 : Int32))] _
        refine XS.istore X11.here hx rfl (hb hby at_33) rfl (l' := #[iv i0, iv i1, iv i2, rv sa1, rv sa11, iv (10 : Int32), iv (1 : Int32), .unset, .unset, .unset, .unset, .unset, .unset]) rfl ?_
        show own_s p e below T11 m 35 #[iv i0, iv i1, iv i2, rv sa1, rv sa11, iv (10 : Int32), iv (1 : Int32), .unset, .unset, .unset, .unset, .unset, .unset] [] _
        refine XS.iloadN X11.here hx rfl (hb hby at_35) rfl ?_
        show own_s p e below T11 m 36 #[iv i0, iv i1, iv i2, rv sa1, rv sa11, iv (10 : Int32), iv (1 : Int32), .unset, .unset, .unset, .unset, .unset, .unset] [(.int i0)] _
        refine XS.i2c X11.here hx rfl (hb hby at_36) rfl ?_
        exact kX
      obtain ⟨cc, hcc⟩ : ∃ z : Int32, z = (i0.toUInt32.toUInt16.toUInt32.toInt32) := ⟨_, rfl⟩
      rw [← hcc] at pre70
      have bc := c_i2c i0
      rw [← hcc] at bc
      have pre71 : ∀ t, own_s p e below T11 m 43 #[iv i0, iv i1, iv i2, rv sa1, rv sa11, iv (10 : Int32), iv (1 : Int32), iv cc, .unset, .unset, .unset, .unset, .unset] [(.int (10 : Int32)), (.int cc)] t → Steps p.tables e below S0 t := by
        intro tX kX
        refine pre70 _ ?_
        show own_s p e below T11 m 37 #[iv i0, iv i1, iv i2, rv sa1, rv sa11, iv (10 : Int32), iv (1 : Int32), .unset, .unset, .unset, .unset, .unset, .unset] [(.int cc)] _
        refine XS.istore X11.here hx rfl (hb hby at_37) rfl (l' := #[iv i0, iv i1, iv i2, rv sa1, rv sa11, iv (10 : Int32), iv (1 : Int32), iv cc, .unset, .unset, .unset, .unset, .unset]) rfl ?_
        show own_s p e below T11 m 39 #[iv i0, iv i1, iv i2, rv sa1, rv sa11, iv (10 : Int32), iv (1 : Int32), iv cc, .unset, .unset, .unset, .unset, .unset] [] _
        refine XS.iload X11.here hx rfl (hb hby at_39) rfl ?_
        show own_s p e below T11 m 41 #[iv i0, iv i1, iv i2, rv sa1, rv sa11, iv (10 : Int32), iv (1 : Int32), iv cc, .unset, .unset, .unset, .unset, .unset] [(.int cc)] _
        refine XS.iload X11.here hx rfl (hb hby at_41) rfl ?_
        exact kX
      obtain ⟨_, _, ⟨T72, L72, k72, n72⟩, -, X72, ⟨Lc72, hQ72, l72, y72, z72⟩, st72⟩ := Jvm.LawKit.callS X11 hx (y := (⟨"com/example/osier/osier/xml/XmlChars", "digitValue", "(CI)I"⟩ : MethodName)) hown (mvT hZ (hw _ (List.mem_of_getElem? (i := 9) rfl))) (mvT hZ (hw _ (List.mem_of_getElem? (i := 10) rfl))) (mvT hZ (hw _ (List.mem_of_getElem? (i := 11) rfl))) (mvT hZ (hw _ (List.mem_of_getElem? (i := 12) rfl))) (by decide) (backOf (W := 0) (rm1 l s a0 hw [] cc (10 : Int32)  h11 n0 Z19 (by omega) (by omega)) hZ (hw _ (List.mem_of_getElem? (i := 12) rfl)) (hw _ (List.mem_of_getElem? (i := 11) rfl)) (by decide) (by decide)) (g := (mkF m 43 #[iv i0, iv i1, iv i2, rv sa1, rv sa11, iv (10 : Int32), iv (1 : Int32), iv cc, .unset, .unset, .unset, .unset, .unset] [(.int (10 : Int32)), (.int cc)])) rfl (by rw [hml]; rfl) (argsL := [(.int cc), (.int (10 : Int32))]) (rest := []) (lenOf pd0_0 rfl) rfl (by show 2 * 0 + _ ≤ _; exact Nat.le_of_eq rfl) (hb hby at_43) (fun _ _ => ⟨rfl, e11, (by decide : 4 + 0 ≤ _), (by decide : 136 + 0 ≤ _)⟩)
      dsimp only [Pt.U, Pt.locs, Pt.cells, Pt.slots] at X72 l72 y72 z72 st72 hQ72
      subst l72 y72 z72
      obtain ⟨⟨v72, rfl, B72⟩, Nq72, e72⟩ := hQ72
      unfold own_DV at B72
      have N72 := Fr.app N0 Nq72
      have pre73 : ∀ t, own_s p e below T72 m 46 #[iv i0, iv i1, iv i2, rv sa1, rv sa11, iv (10 : Int32), iv (1 : Int32), iv cc, .unset, .unset, .unset, .unset, .unset] [(.int v72)] t → Steps p.tables e below S0 t := fun tX kX => pre71 _ (st72 _ kX)
      have pre74 : ∀ t, own_s p e below T72 m 51 #[iv i0, iv i1, iv i2, rv sa1, rv sa11, iv (10 : Int32), iv (1 : Int32), iv cc, iv v72, .unset, .unset, .unset, .unset] [(.int (-1 : Int32)), (.int v72)] t → Steps p.tables e below S0 t := by
        intro tX kX
        refine pre73 _ ?_
        show own_s p e below T72 m 46 #[iv i0, iv i1, iv i2, rv sa1, rv sa11, iv (10 : Int32), iv (1 : Int32), iv cc, .unset, .unset, .unset, .unset, .unset] [(.int v72)] _
        refine XS.istore X72.here hx rfl (hb hby at_46) rfl (l' := #[iv i0, iv i1, iv i2, rv sa1, rv sa11, iv (10 : Int32), iv (1 : Int32), iv cc, iv v72, .unset, .unset, .unset, .unset]) rfl ?_
        show own_s p e below T72 m 48 #[iv i0, iv i1, iv i2, rv sa1, rv sa11, iv (10 : Int32), iv (1 : Int32), iv cc, iv v72, .unset, .unset, .unset, .unset] [] _
        refine XS.iload X72.here hx rfl (hb hby at_48) rfl ?_
        show own_s p e below T72 m 50 #[iv i0, iv i1, iv i2, rv sa1, rv sa11, iv (10 : Int32), iv (1 : Int32), iv cc, iv v72, .unset, .unset, .unset, .unset] [(.int v72)] _
        refine XS.iconst X72.here hx rfl (hb hby at_50) ?_
        exact kX
      by_cases hc75 : v72 = (-1 : Int32)
      · skip
        have ihc75 : (v72).toInt = (-1 : Int) := congrArg Int32.toInt hc75
        have pre76 : ∀ t, own_s p e below T72 m 115 #[iv i0, iv i1, iv i2, rv sa1, rv sa11, iv (10 : Int32), iv (1 : Int32), iv cc, iv v72, iv (1 : Int32), .unset, .unset, .unset] [(.int ((i2 &&& (2147483647 : Int32)) % (10 : Int32)))] t → Steps p.tables e below S0 t := by
          intro tX kX
          refine pre74 _ ?_
          show own_s p e below T72 m 51 #[iv i0, iv i1, iv i2, rv sa1, rv sa11, iv (10 : Int32), iv (1 : Int32), iv cc, iv v72, .unset, .unset, .unset, .unset] [(.int (-1 : Int32)), (.int v72)] _
          refine XS.icmpNo X72.here hx rfl (hb hby at_51) rfl (teq hc75).2 ?_
          show own_s p e below T72 m 54 #[iv i0, iv i1, iv i2, rv sa1, rv sa11, iv (10 : Int32), iv (1 : Int32), iv cc, iv v72, .unset, .unset, .unset, .unset] [] _
          refine XS.iconst X72.here hx rfl (hb hby at_54) ?_
          show own_s p e below T72 m 55 #[iv i0, iv i1, iv i2, rv sa1, rv sa11, iv (10 : Int32), iv (1 : Int32), iv cc, iv v72, .unset, .unset, .unset, .unset] [(.int (1 : Int32))] _
          refine XS.istore X72.here hx rfl (hb hby at_55) rfl (l' := #[iv i0, iv i1, iv i2, rv sa1, rv sa11, iv (10 : Int32), iv (1 : Int32), iv cc, iv v72, iv (1 : Int32), .unset, .unset, .unset]) rfl ?_
          show own_s p e below T72 m 57 #[iv i0, iv i1, iv i2, rv sa1, rv sa11, iv (10 : Int32), iv (1 : Int32), iv cc, iv v72, iv (1 : Int32), .unset, .unset, .unset] [] _
          refine XS.goto X72.here hx rfl (pc0 := 57) (pc' := 108) rfl (hb hby at_57) (by decide) (by decide) ?_
          show own_s p e below T72 m 108 #[iv i0, iv i1, iv i2, rv sa1, rv sa11, iv (10 : Int32), iv (1 : Int32), iv cc, iv v72, iv (1 : Int32), .unset, .unset, .unset] [] _
          refine XS.iloadN X72.here hx rfl (hb hby at_108) rfl ?_
          show own_s p e below T72 m 109 #[iv i0, iv i1, iv i2, rv sa1, rv sa11, iv (10 : Int32), iv (1 : Int32), iv cc, iv v72, iv (1 : Int32), .unset, .unset, .unset] [(.int i2)] _
          refine X72.ldcInt hx hown (mvT hZ (hw _ (List.mem_of_getElem? (i := 13) rfl))) (g := (mkF m 109 #[iv i0, iv i1, iv i2, rv sa1, rv sa11, iv (10 : Int32), iv (1 : Int32), iv cc, iv v72, iv (1 : Int32), .unset, .unset, .unset] [(.int i2)])) rfl (hb hby at_109) _ ?_
          show own_s p e below T72 m 111 #[iv i0, iv i1, iv i2, rv sa1, rv sa11, iv (10 : Int32), iv (1 : Int32), iv cc, iv v72, iv (1 : Int32), .unset, .unset, .unset] [(.int (2147483647 : Int32)), (.int i2)] _
          refine XS.iand X72.here hx rfl (hb hby at_111) rfl ?_
          show own_s p e below T72 m 112 #[iv i0, iv i1, iv i2, rv sa1, rv sa11, iv (10 : Int32), iv (1 : Int32), iv cc, iv v72, iv (1 : Int32), .unset, .unset, .unset] [(.int (i2 &&& (2147483647 : Int32)))] _
          refine XS.iload X72.here hx rfl (hb hby at_112) rfl ?_
          show own_s p e below T72 m 114 #[iv i0, iv i1, iv i2, rv sa1, rv sa11, iv (10 : Int32), iv (1 : Int32), iv cc, iv v72, iv (1 : Int32), .unset, .unset, .unset] [(.int (10 : Int32)), (.int (i2 &&& (2147483647 : Int32)))] _
          refine iremM X72 hx rfl (hb hby at_114) rfl (by decide) ?_
          exact kX
        obtain ⟨vq, hvq⟩ : ∃ z : Int32, z = ((i2 &&& (2147483647 : Int32)) % (10 : Int32)) := ⟨_, rfl⟩
        rw [← hvq] at pre76
        have mk := c_mask i2 2147483647 31 (by decide) (by decide)
        have rr := (c_irem (i2 &&& 2147483647) 10 10 (by decide)).1 (by omega)
        rw [← hvq] at rr
        have pre77 : ∀ t, own_s p e below T72 m 126 #[iv i0, iv i1, iv i2, rv sa1, rv sa11, iv (10 : Int32), iv (1 : Int32), iv cc, iv v72, iv (1 : Int32), iv vq, .unset, .unset] [(.int vq), (.ref sa11)] t → Steps p.tables e below S0 t := by
          intro tX kX
          refine pre76 _ ?_
          show own_s p e below T72 m 115 #[iv i0, iv i1, iv i2, rv sa1, rv sa11, iv (10 : Int32), iv (1 : Int32), iv cc, iv v72, iv (1 : Int32), .unset, .unset, .unset] [(.int vq)] _
          refine XS.istore X72.here hx rfl (hb hby at_115) rfl (l' := #[iv i0, iv i1, iv i2, rv sa1, rv sa11, iv (10 : Int32), iv (1 : Int32), iv cc, iv v72, iv (1 : Int32), iv vq, .unset, .unset]) rfl ?_
          show own_s p e below T72 m 117 #[iv i0, iv i1, iv i2, rv sa1, rv sa11, iv (10 : Int32), iv (1 : Int32), iv cc, iv v72, iv (1 : Int32), iv vq, .unset, .unset] [] _
          refine XS.iload X72.here hx rfl (hb hby at_117) rfl ?_
          show own_s p e below T72 m 119 #[iv i0, iv i1, iv i2, rv sa1, rv sa11, iv (10 : Int32), iv (1 : Int32), iv cc, iv v72, iv (1 : Int32), iv vq, .unset, .unset] [(.int (1 : Int32))] _
          refine XS.ifNo X72.here hx rfl (hb hby at_119) rfl ((if0 _ _).trans (feq (by decide : ¬ ((1 : Int32) = (0 : Int32)))).1) ?_
          show own_s p e below T72 m 122 #[iv i0, iv i1, iv i2, rv sa1, rv sa11, iv (10 : Int32), iv (1 : Int32), iv cc, iv v72, iv (1 : Int32), iv vq, .unset, .unset] [] _
          refine XS.aload X72.here hx rfl (hb hby at_122) rfl rfl ?_
          show own_s p e below T72 m 124 #[iv i0, iv i1, iv i2, rv sa1, rv sa11, iv (10 : Int32), iv (1 : Int32), iv cc, iv v72, iv (1 : Int32), iv vq, .unset, .unset] [(.ref sa11)] _
          refine XS.iload X72.here hx rfl (hb hby at_124) rfl ?_
          exact kX
        have gI79 := own_GI (u := 55) (j := (vq).toInt.toNat) (by decide) (by omega)
        obtain ⟨cq78, kq78, q78a, q78b, q78c⟩ := isOf hZ e72 f20_E
        obtain ⟨_, _, ⟨T78, L78, k78, n78⟩, -, X78, ⟨Lc78, hQ78, l78, y78, z78⟩, st78⟩ := X72.virtualBack hx (y := (⟨"java/lang/String", "charAt", "(I)C"⟩ : MethodName)) (z := (⟨"java/lang/String", "charAt", "(I)C"⟩ : MethodName)) hown (mvT hZ (hw _ (List.mem_of_getElem? (i := 14) rfl))) (mvT hZ (hw _ (List.mem_of_getElem? (i := 15) rfl))) (notFace_of_selects (args := #[]) (mvT hZ (hw _ (List.mem_of_getElem? (i := 17) rfl)))) (mvT hZ (hw _ (List.mem_of_getElem? (i := 17) rfl))) (mvT hZ (hw _ (List.mem_of_getElem? (i := 16) rfl))) (by decide) (backOf (W := 0) (rm6 l s a0 hw [] sa11 vq sb11 (own_G 55) (vq).toInt.toNat w cs h11 n0 Z19 f20_E f21_F f22_F hv f13_S f14_S hc f23_A (fun j hj => by have := own_GI (u := 55) (by decide) hj; omega) (by omega) (by omega)) hZ (hw _ (List.mem_of_getElem? (i := 18) rfl)) (hw _ (List.mem_of_getElem? (i := 1) rfl)) (by decide) (by decide)) q78a q78c (g := (mkF m 126 #[iv i0, iv i1, iv i2, rv sa1, rv sa11, iv (10 : Int32), iv (1 : Int32), iv cc, iv v72, iv (1 : Int32), iv vq, .unset, .unset] [(.int vq), (.ref sa11)])) rfl (by rw [hml]; rfl) (Steps.refl _) (argsL := [(.int vq)]) (rest := []) (lenOf pd0_1 rfl) rfl (by show 2 * 0 + _ ≤ _; exact Nat.le_of_eq rfl) (hb hby at_126) (fun _ _ => ⟨rfl, e72, (by decide : 4 + 0 ≤ _), (by decide : 136 + 0 ≤ _)⟩)
        dsimp only [Pt.U, Pt.locs, Pt.cells, Pt.slots] at X78 l78 y78 z78 st78 hQ78
        subst l78 y78 z78
        obtain ⟨rfl, Nq78, e78⟩ := hQ78
        have N78 := Fr.app N72 Nq78
        have pre80 : ∀ t, own_s p e below T78 m 129 #[iv i0, iv i1, iv i2, rv sa1, rv sa11, iv (10 : Int32), iv (1 : Int32), iv cc, iv v72, iv (1 : Int32), iv vq, .unset, .unset] [(.int (own_G 55 (vq).toInt.toNat))] t → Steps p.tables e below S0 t := fun tX kX => pre77 _ (st78.trans kX)
        have pre81 : ∀ t, own_s p e below T78 m 144 #[iv i0, iv i1, iv i2, rv sa1, rv sa11, iv (10 : Int32), iv (1 : Int32), iv cc, iv v72, iv (1 : Int32), iv vq, iv (own_G 55 (vq).toInt.toNat), .unset] [(.int (10 : Int32)), (.int (own_G 55 (vq).toInt.toNat))] t → Steps p.tables e below S0 t := by
          intro tX kX
          refine pre80 _ ?_
          show own_s p e below T78 m 129 #[iv i0, iv i1, iv i2, rv sa1, rv sa11, iv (10 : Int32), iv (1 : Int32), iv cc, iv v72, iv (1 : Int32), iv vq, .unset, .unset] [(.int (own_G 55 (vq).toInt.toNat))] _
          refine XS.goto X78.here hx rfl (pc0 := 129) (pc' := 138) rfl (hb hby at_129) (by decide) (by decide) ?_
          show own_s p e below T78 m 138 #[iv i0, iv i1, iv i2, rv sa1, rv sa11, iv (10 : Int32), iv (1 : Int32), iv cc, iv v72, iv (1 : Int32), iv vq, .unset, .unset] [(.int (own_G 55 (vq).toInt.toNat))] _
          refine XS.istore X78.here hx rfl (hb hby at_138) rfl (l' := #[iv i0, iv i1, iv i2, rv sa1, rv sa11, iv (10 : Int32), iv (1 : Int32), iv cc, iv v72, iv (1 : Int32), iv vq, iv (own_G 55 (vq).toInt.toNat), .unset]) rfl ?_
          show own_s p e below T78 m 140 #[iv i0, iv i1, iv i2, rv sa1, rv sa11, iv (10 : Int32), iv (1 : Int32), iv cc, iv v72, iv (1 : Int32), iv vq, iv (own_G 55 (vq).toInt.toNat), .unset] [] _
          refine XS.iload X78.here hx rfl (hb hby at_140) rfl ?_
          show own_s p e below T78 m 142 #[iv i0, iv i1, iv i2, rv sa1, rv sa11, iv (10 : Int32), iv (1 : Int32), iv cc, iv v72, iv (1 : Int32), iv vq, iv (own_G 55 (vq).toInt.toNat), .unset] [(.int (own_G 55 (vq).toInt.toNat))] _
          refine XS.iload X78.here hx rfl (hb hby at_142) rfl ?_
          exact kX
        obtain ⟨_, _, ⟨T82, L82, k82, n82⟩, -, X82, ⟨Lc82, hQ82, l82, y82, z82⟩, st82⟩ := Jvm.LawKit.callS X78 hx (y := (⟨"com/example/osier/osier/xml/XmlChars", "digitValue", "(CI)I"⟩ : MethodName)) hown (mvT hZ (hw _ (List.mem_of_getElem? (i := 9) rfl))) (mvT hZ (hw _ (List.mem_of_getElem? (i := 10) rfl))) (mvT hZ (hw _ (List.mem_of_getElem? (i := 11) rfl))) (mvT hZ (hw _ (List.mem_of_getElem? (i := 12) rfl))) (by decide) (backOf (W := 0) (rm1 l s a0 hw [] (own_G 55 (vq).toInt.toNat) (10 : Int32)  h11 n0 Z19 (by omega) (by omega)) hZ (hw _ (List.mem_of_getElem? (i := 12) rfl)) (hw _ (List.mem_of_getElem? (i := 11) rfl)) (by decide) (by decide)) (g := (mkF m 144 #[iv i0, iv i1, iv i2, rv sa1, rv sa11, iv (10 : Int32), iv (1 : Int32), iv cc, iv v72, iv (1 : Int32), iv vq, iv (own_G 55 (vq).toInt.toNat), .unset] [(.int (10 : Int32)), (.int (own_G 55 (vq).toInt.toNat))])) rfl (by rw [hml]; rfl) (argsL := [(.int (own_G 55 (vq).toInt.toNat)), (.int (10 : Int32))]) (rest := []) (lenOf pd0_0 rfl) rfl (by show 2 * 0 + _ ≤ _; exact Nat.le_of_eq rfl) (hb hby at_144) (fun _ _ => ⟨rfl, e78, (by decide : 4 + 0 ≤ _), (by decide : 136 + 0 ≤ _)⟩)
        dsimp only [Pt.U, Pt.locs, Pt.cells, Pt.slots] at X82 l82 y82 z82 st82 hQ82
        subst l82 y82 z82
        obtain ⟨⟨v82, rfl, B82⟩, Nq82, e82⟩ := hQ82
        unfold own_DV at B82
        have N82 := Fr.app N78 Nq82
        have pre83 : ∀ t, own_s p e below T82 m 147 #[iv i0, iv i1, iv i2, rv sa1, rv sa11, iv (10 : Int32), iv (1 : Int32), iv cc, iv v72, iv (1 : Int32), iv vq, iv (own_G 55 (vq).toInt.toNat), .unset] [(.int v82)] t → Steps p.tables e below S0 t := fun tX kX => pre81 _ (st82 _ kX)
        have pre84 : ∀ t, own_s p e below T82 m 174 #[iv i0, iv i1, iv i2, rv sa1, rv sa11, iv (10 : Int32), iv (1 : Int32), iv cc, iv v72, iv (1 : Int32), iv vq, iv (own_G 55 (vq).toInt.toNat), iv (1 : Int32)] [(.int (1 : Int32))] t → Steps p.tables e below S0 t := by
          intro tX kX
          refine pre83 _ ?_
          show own_s p e below T82 m 147 #[iv i0, iv i1, iv i2, rv sa1, rv sa11, iv (10 : Int32), iv (1 : Int32), iv cc, iv v72, iv (1 : Int32), iv vq, iv (own_G 55 (vq).toInt.toNat), .unset] [(.int v82)] _
          refine XS.iload X82.here hx rfl (hb hby at_147) rfl ?_
          show own_s p e below T82 m 149 #[iv i0, iv i1, iv i2, rv sa1, rv sa11, iv (10 : Int32), iv (1 : Int32), iv cc, iv v72, iv (1 : Int32), iv vq, iv (own_G 55 (vq).toInt.toNat), .unset] [(.int vq), (.int v82)] _
          refine XS.icmpNo X82.here hx rfl (hb hby at_149) rfl (teq (own_eqI (show (v82).toInt = (vq).toInt from (by omega : (v82).toInt = (vq).toInt)))).2 ?_
          show own_s p e below T82 m 152 #[iv i0, iv i1, iv i2, rv sa1, rv sa11, iv (10 : Int32), iv (1 : Int32), iv cc, iv v72, iv (1 : Int32), iv vq, iv (own_G 55 (vq).toInt.toNat), .unset] [] _
          refine XS.iconst X82.here hx rfl (hb hby at_152) ?_
          show own_s p e below T82 m 153 #[iv i0, iv i1, iv i2, rv sa1, rv sa11, iv (10 : Int32), iv (1 : Int32), iv cc, iv v72, iv (1 : Int32), iv vq, iv (own_G 55 (vq).toInt.toNat), .unset] [(.int (1 : Int32))] _
          refine XS.goto X82.here hx rfl (pc0 := 153) (pc' := 157) rfl (hb hby at_153) (by decide) (by decide) ?_
          show own_s p e below T82 m 157 #[iv i0, iv i1, iv i2, rv sa1, rv sa11, iv (10 : Int32), iv (1 : Int32), iv cc, iv v72, iv (1 : Int32), iv vq, iv (own_G 55 (vq).toInt.toNat), .unset] [(.int (1 : Int32))] _
          refine XS.istore X82.here hx rfl (hb hby at_157) rfl (l' := #[iv i0, iv i1, iv i2, rv sa1, rv sa11, iv (10 : Int32), iv (1 : Int32), iv cc, iv v72, iv (1 : Int32), iv vq, iv (own_G 55 (vq).toInt.toNat), iv (1 : Int32)]) rfl ?_
          show own_s p e below T82 m 159 #[iv i0, iv i1, iv i2, rv sa1, rv sa11, iv (10 : Int32), iv (1 : Int32), iv cc, iv v72, iv (1 : Int32), iv vq, iv (own_G 55 (vq).toInt.toNat), iv (1 : Int32)] [] _
          refine XS.iload X82.here hx rfl (hb hby at_159) rfl ?_
          show own_s p e below T82 m 161 #[iv i0, iv i1, iv i2, rv sa1, rv sa11, iv (10 : Int32), iv (1 : Int32), iv cc, iv v72, iv (1 : Int32), iv vq, iv (own_G 55 (vq).toInt.toNat), iv (1 : Int32)] [(.int (1 : Int32))] _
          refine XS.ifNo X82.here hx rfl (hb hby at_161) rfl ((if0 _ _).trans (feq (by decide : ¬ ((1 : Int32) = (0 : Int32)))).1) ?_
          show own_s p e below T82 m 164 #[iv i0, iv i1, iv i2, rv sa1, rv sa11, iv (10 : Int32), iv (1 : Int32), iv cc, iv v72, iv (1 : Int32), iv vq, iv (own_G 55 (vq).toInt.toNat), iv (1 : Int32)] [] _
          refine XS.iload X82.here hx rfl (hb hby at_164) rfl ?_
          show own_s p e below T82 m 166 #[iv i0, iv i1, iv i2, rv sa1, rv sa11, iv (10 : Int32), iv (1 : Int32), iv cc, iv v72, iv (1 : Int32), iv vq, iv (own_G 55 (vq).toInt.toNat), iv (1 : Int32)] [(.int (1 : Int32))] _
          refine XS.ifNo X82.here hx rfl (hb hby at_166) rfl ((if0 _ _).trans (feq (by decide : ¬ ((1 : Int32) = (0 : Int32)))).1) ?_
          show own_s p e below T82 m 169 #[iv i0, iv i1, iv i2, rv sa1, rv sa11, iv (10 : Int32), iv (1 : Int32), iv cc, iv v72, iv (1 : Int32), iv vq, iv (own_G 55 (vq).toInt.toNat), iv (1 : Int32)] [] _
          refine XS.iconst X82.here hx rfl (hb hby at_169) ?_
          show own_s p e below T82 m 170 #[iv i0, iv i1, iv i2, rv sa1, rv sa11, iv (10 : Int32), iv (1 : Int32), iv cc, iv v72, iv (1 : Int32), iv vq, iv (own_G 55 (vq).toInt.toNat), iv (1 : Int32)] [(.int (1 : Int32))] _
          refine XS.goto X82.here hx rfl (pc0 := 170) (pc' := 174) rfl (hb hby at_170) (by decide) (by decide) ?_
          exact kX
        subst hS0
        obtain ⟨fs, hr, hrun, hended, hend⟩ := X82.leaveW hS (by rw [e82]; exact hk11) (v := (some (.int (1 : Int32)))) (fun h => by rw [Bd.returns] at h; cases h)
        exact ⟨_, _, pre84 _ (retN X82 hx (t := .boolean) Bd.returns (by simp) (hb hby at_174) hr), hrun, hended, _, _, rfl, ⟨rfl, hn0 ▸ N82⟩, hend⟩
      · skip
        have ihc75 : ¬ ((v72).toInt = (-1 : Int)) := fun q => hc75 (Int32.toInt_inj.mp q)
        have pre85 : ∀ t, own_s p e below T72 m 77 #[iv i0, iv i1, iv i2, rv sa1, rv sa11, iv (10 : Int32), iv (1 : Int32), iv cc, iv v72, .unset, .unset, .unset, .unset] [(.int v72), (.ref sa1), (.int cc)] t → Steps p.tables e below S0 t := by
          intro tX kX
          refine pre74 _ ?_
          show own_s p e below T72 m 51 #[iv i0, iv i1, iv i2, rv sa1, rv sa11, iv (10 : Int32), iv (1 : Int32), iv cc, iv v72, .unset, .unset, .unset, .unset] [(.int (-1 : Int32)), (.int v72)] _
          refine XS.icmpYes X72.here hx rfl (pc0 := 51) (pc' := 60) rfl (hb hby at_51) rfl (feq hc75).2 (by decide) (by decide) ?_
          show own_s p e below T72 m 60 #[iv i0, iv i1, iv i2, rv sa1, rv sa11, iv (10 : Int32), iv (1 : Int32), iv cc, iv v72, .unset, .unset, .unset, .unset] [] _
          refine XS.iload X72.here hx rfl (hb hby at_60) rfl ?_
          show own_s p e below T72 m 62 #[iv i0, iv i1, iv i2, rv sa1, rv sa11, iv (10 : Int32), iv (1 : Int32), iv cc, iv v72, .unset, .unset, .unset, .unset] [(.int v72)] _
          refine XS.ifNo X72.here hx rfl (hb hby at_62) rfl ((if0 _ _).trans (flt (fun q => absurd (show (v72).toInt < (0 : Int) from Int32.lt_iff_toInt_lt.mp q) (by omega))).1) ?_
          show own_s p e below T72 m 65 #[iv i0, iv i1, iv i2, rv sa1, rv sa11, iv (10 : Int32), iv (1 : Int32), iv cc, iv v72, .unset, .unset, .unset, .unset] [] _
          refine XS.iload X72.here hx rfl (hb hby at_65) rfl ?_
          show own_s p e below T72 m 67 #[iv i0, iv i1, iv i2, rv sa1, rv sa11, iv (10 : Int32), iv (1 : Int32), iv cc, iv v72, .unset, .unset, .unset, .unset] [(.int v72)] _
          refine XS.iload X72.here hx rfl (hb hby at_67) rfl ?_
          show own_s p e below T72 m 69 #[iv i0, iv i1, iv i2, rv sa1, rv sa11, iv (10 : Int32), iv (1 : Int32), iv cc, iv v72, .unset, .unset, .unset, .unset] [(.int (10 : Int32)), (.int v72)] _
          refine XS.icmpNo X72.here hx rfl (hb hby at_69) rfl (tlt (show v72 < (10 : Int32) from Int32.lt_iff_toInt_lt.mpr (by omega : (v72).toInt < (10 : Int)))).2.1 ?_
          show own_s p e below T72 m 72 #[iv i0, iv i1, iv i2, rv sa1, rv sa11, iv (10 : Int32), iv (1 : Int32), iv cc, iv v72, .unset, .unset, .unset, .unset] [] _
          refine XS.iload X72.here hx rfl (hb hby at_72) rfl ?_
          show own_s p e below T72 m 74 #[iv i0, iv i1, iv i2, rv sa1, rv sa11, iv (10 : Int32), iv (1 : Int32), iv cc, iv v72, .unset, .unset, .unset, .unset] [(.int cc)] _
          refine XS.aloadN X72.here hx rfl (hb hby at_74) rfl rfl ?_
          show own_s p e below T72 m 75 #[iv i0, iv i1, iv i2, rv sa1, rv sa11, iv (10 : Int32), iv (1 : Int32), iv cc, iv v72, .unset, .unset, .unset, .unset] [(.ref sa1), (.int cc)] _
          refine XS.iload X72.here hx rfl (hb hby at_75) rfl ?_
          exact kX
        have gI87 := own_GI (u := 87) (j := (v72).toInt.toNat) (by decide) (by omega)
        obtain ⟨cq86, kq86, q86a, q86b, q86c⟩ := isOf hZ e72 f15_E
        obtain ⟨_, _, ⟨T86, L86, k86, n86⟩, -, X86, ⟨Lc86, hQ86, l86, y86, z86⟩, st86⟩ := X72.virtualBack hx (y := (⟨"java/lang/String", "charAt", "(I)C"⟩ : MethodName)) (z := (⟨"java/lang/String", "charAt", "(I)C"⟩ : MethodName)) hown (mvT hZ (hw _ (List.mem_of_getElem? (i := 14) rfl))) (mvT hZ (hw _ (List.mem_of_getElem? (i := 15) rfl))) (notFace_of_selects (args := #[]) (mvT hZ (hw _ (List.mem_of_getElem? (i := 17) rfl)))) (mvT hZ (hw _ (List.mem_of_getElem? (i := 17) rfl))) (mvT hZ (hw _ (List.mem_of_getElem? (i := 16) rfl))) (by decide) (backOf (W := 1) (rm6 l s a0 hw [] sa1 v72 sb1 (own_G 87) (v72).toInt.toNat w cs h11 n0 Z19 f15_E f16_F f17_F hv f13_S f14_S hc f18_A (fun j hj => by have := own_GI (u := 87) (by decide) hj; omega) (by omega) (by omega)) hZ (hw _ (List.mem_of_getElem? (i := 18) rfl)) (hw _ (List.mem_of_getElem? (i := 1) rfl)) (by decide) (by decide)) q86a q86c (g := (mkF m 77 #[iv i0, iv i1, iv i2, rv sa1, rv sa11, iv (10 : Int32), iv (1 : Int32), iv cc, iv v72, .unset, .unset, .unset, .unset] [(.int v72), (.ref sa1), (.int cc)])) rfl (by rw [hml]; rfl) (Steps.refl _) (argsL := [(.int v72)]) (rest := [(.int cc)]) (lenOf pd0_1 rfl) rfl (by show 2 * 0 + _ ≤ _; exact Nat.le_of_eq rfl) (hb hby at_77) (fun _ _ => ⟨rfl, e72, (by decide : 4 + 0 ≤ _), (by decide : 136 + 0 ≤ _)⟩)
        dsimp only [Pt.U, Pt.locs, Pt.cells, Pt.slots] at X86 l86 y86 z86 st86 hQ86
        subst l86 y86 z86
        obtain ⟨rfl, Nq86, e86⟩ := hQ86
        have N86 := Fr.app N72 Nq86
        have pre88 : ∀ t, own_s p e below T86 m 80 #[iv i0, iv i1, iv i2, rv sa1, rv sa11, iv (10 : Int32), iv (1 : Int32), iv cc, iv v72, .unset, .unset, .unset, .unset] [(.int (own_G 87 (v72).toInt.toNat)), (.int cc)] t → Steps p.tables e below S0 t := fun tX kX => pre85 _ (st86.trans kX)
        by_cases hc89 : cc = (own_G 87 (v72).toInt.toNat)
        · skip
          have ihc89 : (cc).toInt = ((own_G 87 (v72).toInt.toNat)).toInt := congrArg Int32.toInt hc89
          have pre90 : ∀ t, own_s p e below T86 m 115 #[iv i0, iv i1, iv i2, rv sa1, rv sa11, iv (10 : Int32), iv (1 : Int32), iv cc, iv v72, iv (1 : Int32), .unset, .unset, .unset] [(.int ((i2 &&& (2147483647 : Int32)) % (10 : Int32)))] t → Steps p.tables e below S0 t := by
            intro tX kX
            refine pre88 _ ?_
            show own_s p e below T86 m 80 #[iv i0, iv i1, iv i2, rv sa1, rv sa11, iv (10 : Int32), iv (1 : Int32), iv cc, iv v72, .unset, .unset, .unset, .unset] [(.int (own_G 87 (v72).toInt.toNat)), (.int cc)] _
            refine XS.icmpYes X86.here hx rfl (pc0 := 80) (pc' := 95) rfl (hb hby at_80) rfl (teq hc89).1 (by decide) (by decide) ?_
            show own_s p e below T86 m 95 #[iv i0, iv i1, iv i2, rv sa1, rv sa11, iv (10 : Int32), iv (1 : Int32), iv cc, iv v72, .unset, .unset, .unset, .unset] [] _
            refine XS.iconst X86.here hx rfl (hb hby at_95) ?_
            show own_s p e below T86 m 96 #[iv i0, iv i1, iv i2, rv sa1, rv sa11, iv (10 : Int32), iv (1 : Int32), iv cc, iv v72, .unset, .unset, .unset, .unset] [(.int (1 : Int32))] _
            refine XS.goto X86.here hx rfl (pc0 := 96) (pc' := 100) rfl (hb hby at_96) (by decide) (by decide) ?_
            show own_s p e below T86 m 100 #[iv i0, iv i1, iv i2, rv sa1, rv sa11, iv (10 : Int32), iv (1 : Int32), iv cc, iv v72, .unset, .unset, .unset, .unset] [(.int (1 : Int32))] _
            refine XS.istore X86.here hx rfl (hb hby at_100) rfl (l' := #[iv i0, iv i1, iv i2, rv sa1, rv sa11, iv (10 : Int32), iv (1 : Int32), iv cc, iv v72, iv (1 : Int32), .unset, .unset, .unset]) rfl ?_
            show own_s p e below T86 m 102 #[iv i0, iv i1, iv i2, rv sa1, rv sa11, iv (10 : Int32), iv (1 : Int32), iv cc, iv v72, iv (1 : Int32), .unset, .unset, .unset] [] _
            refine XS.goto X86.here hx rfl (pc0 := 102) (pc' := 108) rfl (hb hby at_102) (by decide) (by decide) ?_
            show own_s p e below T86 m 108 #[iv i0, iv i1, iv i2, rv sa1, rv sa11, iv (10 : Int32), iv (1 : Int32), iv cc, iv v72, iv (1 : Int32), .unset, .unset, .unset] [] _
            refine XS.iloadN X86.here hx rfl (hb hby at_108) rfl ?_
            show own_s p e below T86 m 109 #[iv i0, iv i1, iv i2, rv sa1, rv sa11, iv (10 : Int32), iv (1 : Int32), iv cc, iv v72, iv (1 : Int32), .unset, .unset, .unset] [(.int i2)] _
            refine X86.ldcInt hx hown (mvT hZ (hw _ (List.mem_of_getElem? (i := 13) rfl))) (g := (mkF m 109 #[iv i0, iv i1, iv i2, rv sa1, rv sa11, iv (10 : Int32), iv (1 : Int32), iv cc, iv v72, iv (1 : Int32), .unset, .unset, .unset] [(.int i2)])) rfl (hb hby at_109) _ ?_
            show own_s p e below T86 m 111 #[iv i0, iv i1, iv i2, rv sa1, rv sa11, iv (10 : Int32), iv (1 : Int32), iv cc, iv v72, iv (1 : Int32), .unset, .unset, .unset] [(.int (2147483647 : Int32)), (.int i2)] _
            refine XS.iand X86.here hx rfl (hb hby at_111) rfl ?_
            show own_s p e below T86 m 112 #[iv i0, iv i1, iv i2, rv sa1, rv sa11, iv (10 : Int32), iv (1 : Int32), iv cc, iv v72, iv (1 : Int32), .unset, .unset, .unset] [(.int (i2 &&& (2147483647 : Int32)))] _
            refine XS.iload X86.here hx rfl (hb hby at_112) rfl ?_
            show own_s p e below T86 m 114 #[iv i0, iv i1, iv i2, rv sa1, rv sa11, iv (10 : Int32), iv (1 : Int32), iv cc, iv v72, iv (1 : Int32), .unset, .unset, .unset] [(.int (10 : Int32)), (.int (i2 &&& (2147483647 : Int32)))] _
            refine iremM X86 hx rfl (hb hby at_114) rfl (by decide) ?_
            exact kX
          obtain ⟨vq, hvq⟩ : ∃ z : Int32, z = ((i2 &&& (2147483647 : Int32)) % (10 : Int32)) := ⟨_, rfl⟩
          rw [← hvq] at pre90
          have mk := c_mask i2 2147483647 31 (by decide) (by decide)
          have rr := (c_irem (i2 &&& 2147483647) 10 10 (by decide)).1 (by omega)
          rw [← hvq] at rr
          have pre91 : ∀ t, own_s p e below T86 m 126 #[iv i0, iv i1, iv i2, rv sa1, rv sa11, iv (10 : Int32), iv (1 : Int32), iv cc, iv v72, iv (1 : Int32), iv vq, .unset, .unset] [(.int vq), (.ref sa11)] t → Steps p.tables e below S0 t := by
            intro tX kX
            refine pre90 _ ?_
            show own_s p e below T86 m 115 #[iv i0, iv i1, iv i2, rv sa1, rv sa11, iv (10 : Int32), iv (1 : Int32), iv cc, iv v72, iv (1 : Int32), .unset, .unset, .unset] [(.int vq)] _
            refine XS.istore X86.here hx rfl (hb hby at_115) rfl (l' := #[iv i0, iv i1, iv i2, rv sa1, rv sa11, iv (10 : Int32), iv (1 : Int32), iv cc, iv v72, iv (1 : Int32), iv vq, .unset, .unset]) rfl ?_
            show own_s p e below T86 m 117 #[iv i0, iv i1, iv i2, rv sa1, rv sa11, iv (10 : Int32), iv (1 : Int32), iv cc, iv v72, iv (1 : Int32), iv vq, .unset, .unset] [] _
            refine XS.iload X86.here hx rfl (hb hby at_117) rfl ?_
            show own_s p e below T86 m 119 #[iv i0, iv i1, iv i2, rv sa1, rv sa11, iv (10 : Int32), iv (1 : Int32), iv cc, iv v72, iv (1 : Int32), iv vq, .unset, .unset] [(.int (1 : Int32))] _
            refine XS.ifNo X86.here hx rfl (hb hby at_119) rfl ((if0 _ _).trans (feq (by decide : ¬ ((1 : Int32) = (0 : Int32)))).1) ?_
            show own_s p e below T86 m 122 #[iv i0, iv i1, iv i2, rv sa1, rv sa11, iv (10 : Int32), iv (1 : Int32), iv cc, iv v72, iv (1 : Int32), iv vq, .unset, .unset] [] _
            refine XS.aload X86.here hx rfl (hb hby at_122) rfl rfl ?_
            show own_s p e below T86 m 124 #[iv i0, iv i1, iv i2, rv sa1, rv sa11, iv (10 : Int32), iv (1 : Int32), iv cc, iv v72, iv (1 : Int32), iv vq, .unset, .unset] [(.ref sa11)] _
            refine XS.iload X86.here hx rfl (hb hby at_124) rfl ?_
            exact kX
          have gI93 := own_GI (u := 55) (j := (vq).toInt.toNat) (by decide) (by omega)
          obtain ⟨cq92, kq92, q92a, q92b, q92c⟩ := isOf hZ e86 f20_E
          obtain ⟨_, _, ⟨T92, L92, k92, n92⟩, -, X92, ⟨Lc92, hQ92, l92, y92, z92⟩, st92⟩ := X86.virtualBack hx (y := (⟨"java/lang/String", "charAt", "(I)C"⟩ : MethodName)) (z := (⟨"java/lang/String", "charAt", "(I)C"⟩ : MethodName)) hown (mvT hZ (hw _ (List.mem_of_getElem? (i := 14) rfl))) (mvT hZ (hw _ (List.mem_of_getElem? (i := 15) rfl))) (notFace_of_selects (args := #[]) (mvT hZ (hw _ (List.mem_of_getElem? (i := 17) rfl)))) (mvT hZ (hw _ (List.mem_of_getElem? (i := 17) rfl))) (mvT hZ (hw _ (List.mem_of_getElem? (i := 16) rfl))) (by decide) (backOf (W := 0) (rm6 l s a0 hw [] sa11 vq sb11 (own_G 55) (vq).toInt.toNat w cs h11 n0 Z19 f20_E f21_F f22_F hv f13_S f14_S hc f23_A (fun j hj => by have := own_GI (u := 55) (by decide) hj; omega) (by omega) (by omega)) hZ (hw _ (List.mem_of_getElem? (i := 18) rfl)) (hw _ (List.mem_of_getElem? (i := 1) rfl)) (by decide) (by decide)) q92a q92c (g := (mkF m 126 #[iv i0, iv i1, iv i2, rv sa1, rv sa11, iv (10 : Int32), iv (1 : Int32), iv cc, iv v72, iv (1 : Int32), iv vq, .unset, .unset] [(.int vq), (.ref sa11)])) rfl (by rw [hml]; rfl) (Steps.refl _) (argsL := [(.int vq)]) (rest := []) (lenOf pd0_1 rfl) rfl (by show 2 * 0 + _ ≤ _; exact Nat.le_of_eq rfl) (hb hby at_126) (fun _ _ => ⟨rfl, e86, (by decide : 4 + 0 ≤ _), (by decide : 136 + 0 ≤ _)⟩)
          dsimp only [Pt.U, Pt.locs, Pt.cells, Pt.slots] at X92 l92 y92 z92 st92 hQ92
          subst l92 y92 z92
          obtain ⟨rfl, Nq92, e92⟩ := hQ92
          have N92 := Fr.app N86 Nq92
          have pre94 : ∀ t, own_s p e below T92 m 129 #[iv i0, iv i1, iv i2, rv sa1, rv sa11, iv (10 : Int32), iv (1 : Int32), iv cc, iv v72, iv (1 : Int32), iv vq, .unset, .unset] [(.int (own_G 55 (vq).toInt.toNat))] t → Steps p.tables e below S0 t := fun tX kX => pre91 _ (st92.trans kX)
          have pre95 : ∀ t, own_s p e below T92 m 144 #[iv i0, iv i1, iv i2, rv sa1, rv sa11, iv (10 : Int32), iv (1 : Int32), iv cc, iv v72, iv (1 : Int32), iv vq, iv (own_G 55 (vq).toInt.toNat), .unset] [(.int (10 : Int32)), (.int (own_G 55 (vq).toInt.toNat))] t → Steps p.tables e below S0 t := by
            intro tX kX
            refine pre94 _ ?_
            show own_s p e below T92 m 129 #[iv i0, iv i1, iv i2, rv sa1, rv sa11, iv (10 : Int32), iv (1 : Int32), iv cc, iv v72, iv (1 : Int32), iv vq, .unset, .unset] [(.int (own_G 55 (vq).toInt.toNat))] _
            refine XS.goto X92.here hx rfl (pc0 := 129) (pc' := 138) rfl (hb hby at_129) (by decide) (by decide) ?_
            show own_s p e below T92 m 138 #[iv i0, iv i1, iv i2, rv sa1, rv sa11, iv (10 : Int32), iv (1 : Int32), iv cc, iv v72, iv (1 : Int32), iv vq, .unset, .unset] [(.int (own_G 55 (vq).toInt.toNat))] _
            refine XS.istore X92.here hx rfl (hb hby at_138) rfl (l' := #[iv i0, iv i1, iv i2, rv sa1, rv sa11, iv (10 : Int32), iv (1 : Int32), iv cc, iv v72, iv (1 : Int32), iv vq, iv (own_G 55 (vq).toInt.toNat), .unset]) rfl ?_
            show own_s p e below T92 m 140 #[iv i0, iv i1, iv i2, rv sa1, rv sa11, iv (10 : Int32), iv (1 : Int32), iv cc, iv v72, iv (1 : Int32), iv vq, iv (own_G 55 (vq).toInt.toNat), .unset] [] _
            refine XS.iload X92.here hx rfl (hb hby at_140) rfl ?_
            show own_s p e below T92 m 142 #[iv i0, iv i1, iv i2, rv sa1, rv sa11, iv (10 : Int32), iv (1 : Int32), iv cc, iv v72, iv (1 : Int32), iv vq, iv (own_G 55 (vq).toInt.toNat), .unset] [(.int (own_G 55 (vq).toInt.toNat))] _
            refine XS.iload X92.here hx rfl (hb hby at_142) rfl ?_
            exact kX
          obtain ⟨_, _, ⟨T96, L96, k96, n96⟩, -, X96, ⟨Lc96, hQ96, l96, y96, z96⟩, st96⟩ := Jvm.LawKit.callS X92 hx (y := (⟨"com/example/osier/osier/xml/XmlChars", "digitValue", "(CI)I"⟩ : MethodName)) hown (mvT hZ (hw _ (List.mem_of_getElem? (i := 9) rfl))) (mvT hZ (hw _ (List.mem_of_getElem? (i := 10) rfl))) (mvT hZ (hw _ (List.mem_of_getElem? (i := 11) rfl))) (mvT hZ (hw _ (List.mem_of_getElem? (i := 12) rfl))) (by decide) (backOf (W := 0) (rm1 l s a0 hw [] (own_G 55 (vq).toInt.toNat) (10 : Int32)  h11 n0 Z19 (by omega) (by omega)) hZ (hw _ (List.mem_of_getElem? (i := 12) rfl)) (hw _ (List.mem_of_getElem? (i := 11) rfl)) (by decide) (by decide)) (g := (mkF m 144 #[iv i0, iv i1, iv i2, rv sa1, rv sa11, iv (10 : Int32), iv (1 : Int32), iv cc, iv v72, iv (1 : Int32), iv vq, iv (own_G 55 (vq).toInt.toNat), .unset] [(.int (10 : Int32)), (.int (own_G 55 (vq).toInt.toNat))])) rfl (by rw [hml]; rfl) (argsL := [(.int (own_G 55 (vq).toInt.toNat)), (.int (10 : Int32))]) (rest := []) (lenOf pd0_0 rfl) rfl (by show 2 * 0 + _ ≤ _; exact Nat.le_of_eq rfl) (hb hby at_144) (fun _ _ => ⟨rfl, e92, (by decide : 4 + 0 ≤ _), (by decide : 136 + 0 ≤ _)⟩)
          dsimp only [Pt.U, Pt.locs, Pt.cells, Pt.slots] at X96 l96 y96 z96 st96 hQ96
          subst l96 y96 z96
          obtain ⟨⟨v96, rfl, B96⟩, Nq96, e96⟩ := hQ96
          unfold own_DV at B96
          have N96 := Fr.app N92 Nq96
          have pre97 : ∀ t, own_s p e below T96 m 147 #[iv i0, iv i1, iv i2, rv sa1, rv sa11, iv (10 : Int32), iv (1 : Int32), iv cc, iv v72, iv (1 : Int32), iv vq, iv (own_G 55 (vq).toInt.toNat), .unset] [(.int v96)] t → Steps p.tables e below S0 t := fun tX kX => pre95 _ (st96 _ kX)
          have pre98 : ∀ t, own_s p e below T96 m 174 #[iv i0, iv i1, iv i2, rv sa1, rv sa11, iv (10 : Int32), iv (1 : Int32), iv cc, iv v72, iv (1 : Int32), iv vq, iv (own_G 55 (vq).toInt.toNat), iv (1 : Int32)] [(.int (1 : Int32))] t → Steps p.tables e below S0 t := by
            intro tX kX
            refine pre97 _ ?_
            show own_s p e below T96 m 147 #[iv i0, iv i1, iv i2, rv sa1, rv sa11, iv (10 : Int32), iv (1 : Int32), iv cc, iv v72, iv (1 : Int32), iv vq, iv (own_G 55 (vq).toInt.toNat), .unset] [(.int v96)] _
            refine XS.iload X96.here hx rfl (hb hby at_147) rfl ?_
            show own_s p e below T96 m 149 #[iv i0, iv i1, iv i2, rv sa1, rv sa11, iv (10 : Int32), iv (1 : Int32), iv cc, iv v72, iv (1 : Int32), iv vq, iv (own_G 55 (vq).toInt.toNat), .unset] [(.int vq), (.int v96)] _
            refine XS.icmpNo X96.here hx rfl (hb hby at_149) rfl (teq (own_eqI (show (v96).toInt = (vq).toInt from (by omega : (v96).toInt = (vq).toInt)))).2 ?_
            show own_s p e below T96 m 152 #[iv i0, iv i1, iv i2, rv sa1, rv sa11, iv (10 : Int32), iv (1 : Int32), iv cc, iv v72, iv (1 : Int32), iv vq, iv (own_G 55 (vq).toInt.toNat), .unset] [] _
            refine XS.iconst X96.here hx rfl (hb hby at_152) ?_
            show own_s p e below T96 m 153 #[iv i0, iv i1, iv i2, rv sa1, rv sa11, iv (10 : Int32), iv (1 : Int32), iv cc, iv v72, iv (1 : Int32), iv vq, iv (own_G 55 (vq).toInt.toNat), .unset] [(.int (1 : Int32))] _
            refine XS.goto X96.here hx rfl (pc0 := 153) (pc' := 157) rfl (hb hby at_153) (by decide) (by decide) ?_
            show own_s p e below T96 m 157 #[iv i0, iv i1, iv i2, rv sa1, rv sa11, iv (10 : Int32), iv (1 : Int32), iv cc, iv v72, iv (1 : Int32), iv vq, iv (own_G 55 (vq).toInt.toNat), .unset] [(.int (1 : Int32))] _
            refine XS.istore X96.here hx rfl (hb hby at_157) rfl (l' := #[iv i0, iv i1, iv i2, rv sa1, rv sa11, iv (10 : Int32), iv (1 : Int32), iv cc, iv v72, iv (1 : Int32), iv vq, iv (own_G 55 (vq).toInt.toNat), iv (1 : Int32)]) rfl ?_
            show own_s p e below T96 m 159 #[iv i0, iv i1, iv i2, rv sa1, rv sa11, iv (10 : Int32), iv (1 : Int32), iv cc, iv v72, iv (1 : Int32), iv vq, iv (own_G 55 (vq).toInt.toNat), iv (1 : Int32)] [] _
            refine XS.iload X96.here hx rfl (hb hby at_159) rfl ?_
            show own_s p e below T96 m 161 #[iv i0, iv i1, iv i2, rv sa1, rv sa11, iv (10 : Int32), iv (1 : Int32), iv cc, iv v72, iv (1 : Int32), iv vq, iv (own_G 55 (vq).toInt.toNat), iv (1 : Int32)] [(.int (1 : Int32))] _
            refine XS.ifNo X96.here hx rfl (hb hby at_161) rfl ((if0 _ _).trans (feq (by decide : ¬ ((1 : Int32) = (0 : Int32)))).1) ?_
            show own_s p e below T96 m 164 #[iv i0, iv i1, iv i2, rv sa1, rv sa11, iv (10 : Int32), iv (1 : Int32), iv cc, iv v72, iv (1 : Int32), iv vq, iv (own_G 55 (vq).toInt.toNat), iv (1 : Int32)] [] _
            refine XS.iload X96.here hx rfl (hb hby at_164) rfl ?_
            show own_s p e below T96 m 166 #[iv i0, iv i1, iv i2, rv sa1, rv sa11, iv (10 : Int32), iv (1 : Int32), iv cc, iv v72, iv (1 : Int32), iv vq, iv (own_G 55 (vq).toInt.toNat), iv (1 : Int32)] [(.int (1 : Int32))] _
            refine XS.ifNo X96.here hx rfl (hb hby at_166) rfl ((if0 _ _).trans (feq (by decide : ¬ ((1 : Int32) = (0 : Int32)))).1) ?_
            show own_s p e below T96 m 169 #[iv i0, iv i1, iv i2, rv sa1, rv sa11, iv (10 : Int32), iv (1 : Int32), iv cc, iv v72, iv (1 : Int32), iv vq, iv (own_G 55 (vq).toInt.toNat), iv (1 : Int32)] [] _
            refine XS.iconst X96.here hx rfl (hb hby at_169) ?_
            show own_s p e below T96 m 170 #[iv i0, iv i1, iv i2, rv sa1, rv sa11, iv (10 : Int32), iv (1 : Int32), iv cc, iv v72, iv (1 : Int32), iv vq, iv (own_G 55 (vq).toInt.toNat), iv (1 : Int32)] [(.int (1 : Int32))] _
            refine XS.goto X96.here hx rfl (pc0 := 170) (pc' := 174) rfl (hb hby at_170) (by decide) (by decide) ?_
            exact kX
          subst hS0
          obtain ⟨fs, hr, hrun, hended, hend⟩ := X96.leaveW hS (by rw [e96]; exact hk11) (v := (some (.int (1 : Int32)))) (fun h => by rw [Bd.returns] at h; cases h)
          exact ⟨_, _, pre98 _ (retN X96 hx (t := .boolean) Bd.returns (by simp) (hb hby at_174) hr), hrun, hended, _, _, rfl, ⟨rfl, hn0 ▸ N96⟩, hend⟩
        · skip
          have ihc89 : ¬ ((cc).toInt = ((own_G 87 (v72).toInt.toNat)).toInt) := fun q => hc89 (Int32.toInt_inj.mp q)
          have pre99 : ∀ t, own_s p e below T86 m 89 #[iv i0, iv i1, iv i2, rv sa1, rv sa11, iv (10 : Int32), iv (1 : Int32), iv cc, iv v72, .unset, .unset, .unset, .unset] [(.int v72), (.ref sa11), (.int cc)] t → Steps p.tables e below S0 t := by
            intro tX kX
            refine pre88 _ ?_
            show own_s p e below T86 m 80 #[iv i0, iv i1, iv i2, rv sa1, rv sa11, iv (10 : Int32), iv (1 : Int32), iv cc, iv v72, .unset, .unset, .unset, .unset] [(.int (own_G 87 (v72).toInt.toNat)), (.int cc)] _
            refine XS.icmpNo X86.here hx rfl (hb hby at_80) rfl (feq hc89).1 ?_
            show own_s p e below T86 m 83 #[iv i0, iv i1, iv i2, rv sa1, rv sa11, iv (10 : Int32), iv (1 : Int32), iv cc, iv v72, .unset, .unset, .unset, .unset] [] _
            refine XS.iload X86.here hx rfl (hb hby at_83) rfl ?_
            show own_s p e below T86 m 85 #[iv i0, iv i1, iv i2, rv sa1, rv sa11, iv (10 : Int32), iv (1 : Int32), iv cc, iv v72, .unset, .unset, .unset, .unset] [(.int cc)] _
            refine XS.aload X86.here hx rfl (hb hby at_85) rfl rfl ?_
            show own_s p e below T86 m 87 #[iv i0, iv i1, iv i2, rv sa1, rv sa11, iv (10 : Int32), iv (1 : Int32), iv cc, iv v72, .unset, .unset, .unset, .unset] [(.ref sa11), (.int cc)] _
            refine XS.iload X86.here hx rfl (hb hby at_87) rfl ?_
            exact kX
          have gI101 := own_GI (u := 55) (j := (v72).toInt.toNat) (by decide) (by omega)
          obtain ⟨cq100, kq100, q100a, q100b, q100c⟩ := isOf hZ e86 f20_E
          obtain ⟨_, _, ⟨T100, L100, k100, n100⟩, -, X100, ⟨Lc100, hQ100, l100, y100, z100⟩, st100⟩ := X86.virtualBack hx (y := (⟨"java/lang/String", "charAt", "(I)C"⟩ : MethodName)) (z := (⟨"java/lang/String", "charAt", "(I)C"⟩ : MethodName)) hown (mvT hZ (hw _ (List.mem_of_getElem? (i := 14) rfl))) (mvT hZ (hw _ (List.mem_of_getElem? (i := 15) rfl))) (notFace_of_selects (args := #[]) (mvT hZ (hw _ (List.mem_of_getElem? (i := 17) rfl)))) (mvT hZ (hw _ (List.mem_of_getElem? (i := 17) rfl))) (mvT hZ (hw _ (List.mem_of_getElem? (i := 16) rfl))) (by decide) (backOf (W := 1) (rm6 l s a0 hw [] sa11 v72 sb11 (own_G 55) (v72).toInt.toNat w cs h11 n0 Z19 f20_E f21_F f22_F hv f13_S f14_S hc f23_A (fun j hj => by have := own_GI (u := 55) (by decide) hj; omega) (by omega) (by omega)) hZ (hw _ (List.mem_of_getElem? (i := 18) rfl)) (hw _ (List.mem_of_getElem? (i := 1) rfl)) (by decide) (by decide)) q100a q100c (g := (mkF m 89 #[iv i0, iv i1, iv i2, rv sa1, rv sa11, iv (10 : Int32), iv (1 : Int32), iv cc, iv v72, .unset, .unset, .unset, .unset] [(.int v72), (.ref sa11), (.int cc)])) rfl (by rw [hml]; rfl) (Steps.refl _) (argsL := [(.int v72)]) (rest := [(.int cc)]) (lenOf pd0_1 rfl) rfl (by show 2 * 0 + _ ≤ _; exact Nat.le_of_eq rfl) (hb hby at_89) (fun _ _ => ⟨rfl, e86, (by decide : 4 + 0 ≤ _), (by decide : 136 + 0 ≤ _)⟩)
          dsimp only [Pt.U, Pt.locs, Pt.cells, Pt.slots] at X100 l100 y100 z100 st100 hQ100
          subst l100 y100 z100
          obtain ⟨rfl, Nq100, e100⟩ := hQ100
          have N100 := Fr.app N86 Nq100
          have pre102 : ∀ t, own_s p e below T100 m 92 #[iv i0, iv i1, iv i2, rv sa1, rv sa11, iv (10 : Int32), iv (1 : Int32), iv cc, iv v72, .unset, .unset, .unset, .unset] [(.int (own_G 55 (v72).toInt.toNat)), (.int cc)] t → Steps p.tables e below S0 t := fun tX kX => pre99 _ (st100.trans kX)
          have pre103 : ∀ t, own_s p e below T100 m 115 #[iv i0, iv i1, iv i2, rv sa1, rv sa11, iv (10 : Int32), iv (1 : Int32), iv cc, iv v72, iv (1 : Int32), .unset, .unset, .unset] [(.int ((i2 &&& (2147483647 : Int32)) % (10 : Int32)))] t → Steps p.tables e below S0 t := by
            intro tX kX
            refine pre102 _ ?_
            show own_s p e below T100 m 92 #[iv i0, iv i1, iv i2, rv sa1, rv sa11, iv (10 : Int32), iv (1 : Int32), iv cc, iv v72, .unset, .unset, .unset, .unset] [(.int (own_G 55 (v72).toInt.toNat)), (.int cc)] _
            refine XS.icmpNo X100.here hx rfl (hb hby at_92) rfl (teq (own_eqI (show (cc).toInt = ((own_G 55 (v72).toInt.toNat)).toInt from (by omega : (cc).toInt = ((own_G 55 (v72).toInt.toNat)).toInt)))).2 ?_
            show own_s p e below T100 m 95 #[iv i0, iv i1, iv i2, rv sa1, rv sa11, iv (10 : Int32), iv (1 : Int32), iv cc, iv v72, .unset, .unset, .unset, .unset] [] _
            refine XS.iconst X100.here hx rfl (hb hby at_95) ?_
            show own_s p e below T100 m 96 #[iv i0, iv i1, iv i2, rv sa1, rv sa11, iv (10 : Int32), iv (1 : Int32), iv cc, iv v72, .unset, .unset, .unset, .unset] [(.int (1 : Int32))] _
            refine XS.goto X100.here hx rfl (pc0 := 96) (pc' := 100) rfl (hb hby at_96) (by decide) (by decide) ?_
            show own_s p e below T100 m 100 #[iv i0, iv i1, iv i2, rv sa1, rv sa11, iv (10 : Int32), iv (1 : Int32), iv cc, iv v72, .unset, .unset, .unset, .unset] [(.int (1 : Int32))] _
            refine XS.istore X100.here hx rfl (hb hby at_100) rfl (l' := #[iv i0, iv i1, iv i2, rv sa1, rv sa11, iv (10 : Int32), iv (1 : Int32), iv cc, iv v72, iv (1 : Int32), .unset, .unset, .unset]) rfl ?_
            show own_s p e below T100 m 102 #[iv i0, iv i1, iv i2, rv sa1, rv sa11, iv (10 : Int32), iv (1 : Int32), iv cc, iv v72, iv (1 : Int32), .unset, .unset, .unset] [] _
            refine XS.goto X100.here hx rfl (pc0 := 102) (pc' := 108) rfl (hb hby at_102) (by decide) (by decide) ?_
            show own_s p e below T100 m 108 #[iv i0, iv i1, iv i2, rv sa1, rv sa11, iv (10 : Int32), iv (1 : Int32), iv cc, iv v72, iv (1 : Int32), .unset, .unset, .unset] [] _
            refine XS.iloadN X100.here hx rfl (hb hby at_108) rfl ?_
            show own_s p e below T100 m 109 #[iv i0, iv i1, iv i2, rv sa1, rv sa11, iv (10 : Int32), iv (1 : Int32), iv cc, iv v72, iv (1 : Int32), .unset, .unset, .unset] [(.int i2)] _
            refine X100.ldcInt hx hown (mvT hZ (hw _ (List.mem_of_getElem? (i := 13) rfl))) (g := (mkF m 109 #[iv i0, iv i1, iv i2, rv sa1, rv sa11, iv (10 : Int32), iv (1 : Int32), iv cc, iv v72, iv (1 : Int32), .unset, .unset, .unset] [(.int i2)])) rfl (hb hby at_109) _ ?_
            show own_s p e below T100 m 111 #[iv i0, iv i1, iv i2, rv sa1, rv sa11, iv (10 : Int32), iv (1 : Int32), iv cc, iv v72, iv (1 : Int32), .unset, .unset, .unset] [(.int (2147483647 : Int32)), (.int i2)] _
            refine XS.iand X100.here hx rfl (hb hby at_111) rfl ?_
            show own_s p e below T100 m 112 #[iv i0, iv i1, iv i2, rv sa1, rv sa11, iv (10 : Int32), iv (1 : Int32), iv cc, iv v72, iv (1 : Int32), .unset, .unset, .unset] [(.int (i2 &&& (2147483647 : Int32)))] _
            refine XS.iload X100.here hx rfl (hb hby at_112) rfl ?_
            show own_s p e below T100 m 114 #[iv i0, iv i1, iv i2, rv sa1, rv sa11, iv (10 : Int32), iv (1 : Int32), iv cc, iv v72, iv (1 : Int32), .unset, .unset, .unset] [(.int (10 : Int32)), (.int (i2 &&& (2147483647 : Int32)))] _
            refine iremM X100 hx rfl (hb hby at_114) rfl (by decide) ?_
            exact kX
          obtain ⟨vq, hvq⟩ : ∃ z : Int32, z = ((i2 &&& (2147483647 : Int32)) % (10 : Int32)) := ⟨_, rfl⟩
          rw [← hvq] at pre103
          have mk := c_mask i2 2147483647 31 (by decide) (by decide)
          have rr := (c_irem (i2 &&& 2147483647) 10 10 (by decide)).1 (by omega)
          rw [← hvq] at rr
          have pre104 : ∀ t, own_s p e below T100 m 126 #[iv i0, iv i1, iv i2, rv sa1, rv sa11, iv (10 : Int32), iv (1 : Int32), iv cc, iv v72, iv (1 : Int32), iv vq, .unset, .unset] [(.int vq), (.ref sa11)] t → Steps p.tables e below S0 t := by
            intro tX kX
            refine pre103 _ ?_
            show own_s p e below T100 m 115 #[iv i0, iv i1, iv i2, rv sa1, rv sa11, iv (10 : Int32), iv (1 : Int32), iv cc, iv v72, iv (1 : Int32), .unset, .unset, .unset] [(.int vq)] _
            refine XS.istore X100.here hx rfl (hb hby at_115) rfl (l' := #[iv i0, iv i1, iv i2, rv sa1, rv sa11, iv (10 : Int32), iv (1 : Int32), iv cc, iv v72, iv (1 : Int32), iv vq, .unset, .unset]) rfl ?_
            show own_s p e below T100 m 117 #[iv i0, iv i1, iv i2, rv sa1, rv sa11, iv (10 : Int32), iv (1 : Int32), iv cc, iv v72, iv (1 : Int32), iv vq, .unset, .unset] [] _
            refine XS.iload X100.here hx rfl (hb hby at_117) rfl ?_
            show own_s p e below T100 m 119 #[iv i0, iv i1, iv i2, rv sa1, rv sa11, iv (10 : Int32), iv (1 : Int32), iv cc, iv v72, iv (1 : Int32), iv vq, .unset, .unset] [(.int (1 : Int32))] _
            refine XS.ifNo X100.here hx rfl (hb hby at_119) rfl ((if0 _ _).trans (feq (by decide : ¬ ((1 : Int32) = (0 : Int32)))).1) ?_
            show own_s p e below T100 m 122 #[iv i0, iv i1, iv i2, rv sa1, rv sa11, iv (10 : Int32), iv (1 : Int32), iv cc, iv v72, iv (1 : Int32), iv vq, .unset, .unset] [] _
            refine XS.aload X100.here hx rfl (hb hby at_122) rfl rfl ?_
            show own_s p e below T100 m 124 #[iv i0, iv i1, iv i2, rv sa1, rv sa11, iv (10 : Int32), iv (1 : Int32), iv cc, iv v72, iv (1 : Int32), iv vq, .unset, .unset] [(.ref sa11)] _
            refine XS.iload X100.here hx rfl (hb hby at_124) rfl ?_
            exact kX
          have gI106 := own_GI (u := 55) (j := (vq).toInt.toNat) (by decide) (by omega)
          obtain ⟨cq105, kq105, q105a, q105b, q105c⟩ := isOf hZ e100 f20_E
          obtain ⟨_, _, ⟨T105, L105, k105, n105⟩, -, X105, ⟨Lc105, hQ105, l105, y105, z105⟩, st105⟩ := X100.virtualBack hx (y := (⟨"java/lang/String", "charAt", "(I)C"⟩ : MethodName)) (z := (⟨"java/lang/String", "charAt", "(I)C"⟩ : MethodName)) hown (mvT hZ (hw _ (List.mem_of_getElem? (i := 14) rfl))) (mvT hZ (hw _ (List.mem_of_getElem? (i := 15) rfl))) (notFace_of_selects (args := #[]) (mvT hZ (hw _ (List.mem_of_getElem? (i := 17) rfl)))) (mvT hZ (hw _ (List.mem_of_getElem? (i := 17) rfl))) (mvT hZ (hw _ (List.mem_of_getElem? (i := 16) rfl))) (by decide) (backOf (W := 0) (rm6 l s a0 hw [] sa11 vq sb11 (own_G 55) (vq).toInt.toNat w cs h11 n0 Z19 f20_E f21_F f22_F hv f13_S f14_S hc f23_A (fun j hj => by have := own_GI (u := 55) (by decide) hj; omega) (by omega) (by omega)) hZ (hw _ (List.mem_of_getElem? (i := 18) rfl)) (hw _ (List.mem_of_getElem? (i := 1) rfl)) (by decide) (by decide)) q105a q105c (g := (mkF m 126 #[iv i0, iv i1, iv i2, rv sa1, rv sa11, iv (10 : Int32), iv (1 : Int32), iv cc, iv v72, iv (1 : Int32), iv vq, .unset, .unset] [(.int vq), (.ref sa11)])) rfl (by rw [hml]; rfl) (Steps.refl _) (argsL := [(.int vq)]) (rest := []) (lenOf pd0_1 rfl) rfl (by show 2 * 0 + _ ≤ _; exact Nat.le_of_eq rfl) (hb hby at_126) (fun _ _ => ⟨rfl, e100, (by decide : 4 + 0 ≤ _), (by decide : 136 + 0 ≤ _)⟩)
          dsimp only [Pt.U, Pt.locs, Pt.cells, Pt.slots] at X105 l105 y105 z105 st105 hQ105
          subst l105 y105 z105
          obtain ⟨rfl, Nq105, e105⟩ := hQ105
          have N105 := Fr.app N100 Nq105
          have pre107 : ∀ t, own_s p e below T105 m 129 #[iv i0, iv i1, iv i2, rv sa1, rv sa11, iv (10 : Int32), iv (1 : Int32), iv cc, iv v72, iv (1 : Int32), iv vq, .unset, .unset] [(.int (own_G 55 (vq).toInt.toNat))] t → Steps p.tables e below S0 t := fun tX kX => pre104 _ (st105.trans kX)
          have pre108 : ∀ t, own_s p e below T105 m 144 #[iv i0, iv i1, iv i2, rv sa1, rv sa11, iv (10 : Int32), iv (1 : Int32), iv cc, iv v72, iv (1 : Int32), iv vq, iv (own_G 55 (vq).toInt.toNat), .unset] [(.int (10 : Int32)), (.int (own_G 55 (vq).toInt.toNat))] t → Steps p.tables e below S0 t := by
            intro tX kX
            refine pre107 _ ?_
            show own_s p e below T105 m 129 #[iv i0, iv i1, iv i2, rv sa1, rv sa11, iv (10 : Int32), iv (1 : Int32), iv cc, iv v72, iv (1 : Int32), iv vq, .unset, .unset] [(.int (own_G 55 (vq).toInt.toNat))] _
            refine XS.goto X105.here hx rfl (pc0 := 129) (pc' := 138) rfl (hb hby at_129) (by decide) (by decide) ?_
            show own_s p e below T105 m 138 #[iv i0, iv i1, iv i2, rv sa1, rv sa11, iv (10 : Int32), iv (1 : Int32), iv cc, iv v72, iv (1 : Int32), iv vq, .unset, .unset] [(.int (own_G 55 (vq).toInt.toNat))] _
            refine XS.istore X105.here hx rfl (hb hby at_138) rfl (l' := #[iv i0, iv i1, iv i2, rv sa1, rv sa11, iv (10 : Int32), iv (1 : Int32), iv cc, iv v72, iv (1 : Int32), iv vq, iv (own_G 55 (vq).toInt.toNat), .unset]) rfl ?_
            show own_s p e below T105 m 140 #[iv i0, iv i1, iv i2, rv sa1, rv sa11, iv (10 : Int32), iv (1 : Int32), iv cc, iv v72, iv (1 : Int32), iv vq, iv (own_G 55 (vq).toInt.toNat), .unset] [] _
            refine XS.iload X105.here hx rfl (hb hby at_140) rfl ?_
            show own_s p e below T105 m 142 #[iv i0, iv i1, iv i2, rv sa1, rv sa11, iv (10 : Int32), iv (1 : Int32), iv cc, iv v72, iv (1 : Int32), iv vq, iv (own_G 55 (vq).toInt.toNat), .unset] [(.int (own_G 55 (vq).toInt.toNat))] _
            refine XS.iload X105.here hx rfl (hb hby at_142) rfl ?_
            exact kX
          obtain ⟨_, _, ⟨T109, L109, k109, n109⟩, -, X109, ⟨Lc109, hQ109, l109, y109, z109⟩, st109⟩ := Jvm.LawKit.callS X105 hx (y := (⟨"com/example/osier/osier/xml/XmlChars", "digitValue", "(CI)I"⟩ : MethodName)) hown (mvT hZ (hw _ (List.mem_of_getElem? (i := 9) rfl))) (mvT hZ (hw _ (List.mem_of_getElem? (i := 10) rfl))) (mvT hZ (hw _ (List.mem_of_getElem? (i := 11) rfl))) (mvT hZ (hw _ (List.mem_of_getElem? (i := 12) rfl))) (by decide) (backOf (W := 0) (rm1 l s a0 hw [] (own_G 55 (vq).toInt.toNat) (10 : Int32)  h11 n0 Z19 (by omega) (by omega)) hZ (hw _ (List.mem_of_getElem? (i := 12) rfl)) (hw _ (List.mem_of_getElem? (i := 11) rfl)) (by decide) (by decide)) (g := (mkF m 144 #[iv i0, iv i1, iv i2, rv sa1, rv sa11, iv (10 : Int32), iv (1 : Int32), iv cc, iv v72, iv (1 : Int32), iv vq, iv (own_G 55 (vq).toInt.toNat), .unset] [(.int (10 : Int32)), (.int (own_G 55 (vq).toInt.toNat))])) rfl (by rw [hml]; rfl) (argsL := [(.int (own_G 55 (vq).toInt.toNat)), (.int (10 : Int32))]) (rest := []) (lenOf pd0_0 rfl) rfl (by show 2 * 0 + _ ≤ _; exact Nat.le_of_eq rfl) (hb hby at_144) (fun _ _ => ⟨rfl, e105, (by decide : 4 + 0 ≤ _), (by decide : 136 + 0 ≤ _)⟩)
          dsimp only [Pt.U, Pt.locs, Pt.cells, Pt.slots] at X109 l109 y109 z109 st109 hQ109
          subst l109 y109 z109
          obtain ⟨⟨v109, rfl, B109⟩, Nq109, e109⟩ := hQ109
          unfold own_DV at B109
          have N109 := Fr.app N105 Nq109
          have pre110 : ∀ t, own_s p e below T109 m 147 #[iv i0, iv i1, iv i2, rv sa1, rv sa11, iv (10 : Int32), iv (1 : Int32), iv cc, iv v72, iv (1 : Int32), iv vq, iv (own_G 55 (vq).toInt.toNat), .unset] [(.int v109)] t → Steps p.tables e below S0 t := fun tX kX => pre108 _ (st109 _ kX)
          have pre111 : ∀ t, own_s p e below T109 m 174 #[iv i0, iv i1, iv i2, rv sa1, rv sa11, iv (10 : Int32), iv (1 : Int32), iv cc, iv v72, iv (1 : Int32), iv vq, iv (own_G 55 (vq).toInt.toNat), iv (1 : Int32)] [(.int (1 : Int32))] t → Steps p.tables e below S0 t := by
            intro tX kX
            refine pre110 _ ?_
            show own_s p e below T109 m 147 #[iv i0, iv i1, iv i2, rv sa1, rv sa11, iv (10 : Int32), iv (1 : Int32), iv cc, iv v72, iv (1 : Int32), iv vq, iv (own_G 55 (vq).toInt.toNat), .unset] [(.int v109)] _
            refine XS.iload X109.here hx rfl (hb hby at_147) rfl ?_
            show own_s p e below T109 m 149 #[iv i0, iv i1, iv i2, rv sa1, rv sa11, iv (10 : Int32), iv (1 : Int32), iv cc, iv v72, iv (1 : Int32), iv vq, iv (own_G 55 (vq).toInt.toNat), .unset] [(.int vq), (.int v109)] _
            refine XS.icmpNo X109.here hx rfl (hb hby at_149) rfl (teq (own_eqI (show (v109).toInt = (vq).toInt from (by omega : (v109).toInt = (vq).toInt)))).2 ?_
            show own_s p e below T109 m 152 #[iv i0, iv i1, iv i2, rv sa1, rv sa11, iv (10 : Int32), iv (1 : Int32), iv cc, iv v72, iv (1 : Int32), iv vq, iv (own_G 55 (vq).toInt.toNat), .unset] [] _
            refine XS.iconst X109.here hx rfl (hb hby at_152) ?_
            show own_s p e below T109 m 153 #[iv i0, iv i1, iv i2, rv sa1, rv sa11, iv (10 : Int32), iv (1 : Int32), iv cc, iv v72, iv (1 : Int32), iv vq, iv (own_G 55 (vq).toInt.toNat), .unset] [(.int (1 : Int32))] _
            refine XS.goto X109.here hx rfl (pc0 := 153) (pc' := 157) rfl (hb hby at_153) (by decide) (by decide) ?_
            show own_s p e below T109 m 157 #[iv i0, iv i1, iv i2, rv sa1, rv sa11, iv (10 : Int32), iv (1 : Int32), iv cc, iv v72, iv (1 : Int32), iv vq, iv (own_G 55 (vq).toInt.toNat), .unset] [(.int (1 : Int32))] _
            refine XS.istore X109.here hx rfl (hb hby at_157) rfl (l' := #[iv i0, iv i1, iv i2, rv sa1, rv sa11, iv (10 : Int32), iv (1 : Int32), iv cc, iv v72, iv (1 : Int32), iv vq, iv (own_G 55 (vq).toInt.toNat), iv (1 : Int32)]) rfl ?_
            show own_s p e below T109 m 159 #[iv i0, iv i1, iv i2, rv sa1, rv sa11, iv (10 : Int32), iv (1 : Int32), iv cc, iv v72, iv (1 : Int32), iv vq, iv (own_G 55 (vq).toInt.toNat), iv (1 : Int32)] [] _
            refine XS.iload X109.here hx rfl (hb hby at_159) rfl ?_
            show own_s p e below T109 m 161 #[iv i0, iv i1, iv i2, rv sa1, rv sa11, iv (10 : Int32), iv (1 : Int32), iv cc, iv v72, iv (1 : Int32), iv vq, iv (own_G 55 (vq).toInt.toNat), iv (1 : Int32)] [(.int (1 : Int32))] _
            refine XS.ifNo X109.here hx rfl (hb hby at_161) rfl ((if0 _ _).trans (feq (by decide : ¬ ((1 : Int32) = (0 : Int32)))).1) ?_
            show own_s p e below T109 m 164 #[iv i0, iv i1, iv i2, rv sa1, rv sa11, iv (10 : Int32), iv (1 : Int32), iv cc, iv v72, iv (1 : Int32), iv vq, iv (own_G 55 (vq).toInt.toNat), iv (1 : Int32)] [] _
            refine XS.iload X109.here hx rfl (hb hby at_164) rfl ?_
            show own_s p e below T109 m 166 #[iv i0, iv i1, iv i2, rv sa1, rv sa11, iv (10 : Int32), iv (1 : Int32), iv cc, iv v72, iv (1 : Int32), iv vq, iv (own_G 55 (vq).toInt.toNat), iv (1 : Int32)] [(.int (1 : Int32))] _
            refine XS.ifNo X109.here hx rfl (hb hby at_166) rfl ((if0 _ _).trans (feq (by decide : ¬ ((1 : Int32) = (0 : Int32)))).1) ?_
            show own_s p e below T109 m 169 #[iv i0, iv i1, iv i2, rv sa1, rv sa11, iv (10 : Int32), iv (1 : Int32), iv cc, iv v72, iv (1 : Int32), iv vq, iv (own_G 55 (vq).toInt.toNat), iv (1 : Int32)] [] _
            refine XS.iconst X109.here hx rfl (hb hby at_169) ?_
            show own_s p e below T109 m 170 #[iv i0, iv i1, iv i2, rv sa1, rv sa11, iv (10 : Int32), iv (1 : Int32), iv cc, iv v72, iv (1 : Int32), iv vq, iv (own_G 55 (vq).toInt.toNat), iv (1 : Int32)] [(.int (1 : Int32))] _
            refine XS.goto X109.here hx rfl (pc0 := 170) (pc' := 174) rfl (hb hby at_170) (by decide) (by decide) ?_
            exact kX
          subst hS0
          obtain ⟨fs, hr, hrun, hended, hend⟩ := X109.leaveW hS (by rw [e109]; exact hk11) (v := (some (.int (1 : Int32)))) (fun h => by rw [Bd.returns] at h; cases h)
          exact ⟨_, _, pre111 _ (retN X109 hx (t := .boolean) Bd.returns (by simp) (hb hby at_174) hr), hrun, hended, _, _, rfl, ⟨rfl, hn0 ▸ N109⟩, hend⟩
  · skip
    have ihc25 : ¬ (((i1 &&& (1 : Int32))).toInt = (0 : Int)) := fun q => hc25 (Int32.toInt_inj.mp q)
    have pre112 : ∀ t, own_s p e below T11 m 25 #[iv i0, iv i1, iv i2, rv sa1, rv sa11, iv (16 : Int32), .unset, .unset, .unset, .unset, .unset, .unset, .unset] [(.int (i1 &&& (2 : Int32)))] t → Steps p.tables e below S0 t := by
      intro tX kX
      refine pre24 _ ?_
      show own_s p e below T11 m 10 #[iv i0, iv i1, iv i2, rv sa1, rv sa11, .unset, .unset, .unset, .unset, .unset, .unset, .unset, .unset] [(.int (i1 &&& (1 : Int32)))] _
      refine XS.ifNo X11.here hx rfl (hb hby at_10) rfl ((if0 _ _).trans (feq hc25).1) ?_
      show own_s p e below T11 m 13 #[iv i0, iv i1, iv i2, rv sa1, rv sa11, .unset, .unset, .unset, .unset, .unset, .unset, .unset, .unset] [] _
      refine XS.bipush X11.here hx rfl (hb hby at_13) ?_
      show own_s p e below T11 m 15 #[iv i0, iv i1, iv i2, rv sa1, rv sa11, .unset, .unset, .unset, .unset, .unset, .unset, .unset, .unset] [(.int (16 : Int32))] _
      refine XS.goto X11.here hx rfl (pc0 := 15) (pc' := 20) rfl (hb hby at_15) (by decide) (by decide) ?_
      show own_s p e below T11 m 20 #[iv i0, iv i1, iv i2, rv sa1, rv sa11, .unset, .unset, .unset, .unset, .unset, .unset, .unset, .unset] [(.int (16 : Int32))] _
      refine XS.istore X11.here hx rfl (hb hby at_20) rfl (l' := #[iv i0, iv i1, iv i2, rv sa1, rv sa11, iv (16 : Int32), .unset, .unset, .unset, .unset, .unset, .unset, .unset]) rfl ?_
      show own_s p e below T11 m 22 #[iv i0, iv i1, iv i2, rv sa1, rv sa11, iv (16 : Int32), .unset, .unset, .unset, .unset, .unset, .unset, .unset] [] _
      refine XS.iloadN X11.here hx rfl (hb hby at_22) rfl ?_
      show own_s p e below T11 m 23 #[iv i0, iv i1, iv i2, rv sa1, rv sa11, iv (16 : Int32), .unset, .unset, .unset, .unset, .unset, .unset, .unset] [(.int i1)] _
      refine XS.iconst X11.here hx rfl (hb hby at_23) ?_
      show own_s p e below T11 m 24 #[iv i0, iv i1, iv i2, rv sa1, rv sa11, iv (16 : Int32), .unset, .unset, .unset, .unset, .unset, .unset, .unset] [(.int (2 : Int32)), (.int i1)] _
      refine XS.iand X11.here hx rfl (hb hby at_24) rfl ?_
      exact kX
    by_cases hc113 : (i1 &&& (2 : Int32)) = (0 : Int32)
    · skip
      have ihc113 : ((i1 &&& (2 : Int32))).toInt = (0 : Int) := congrArg Int32.toInt hc113
      have pre114 : ∀ t, own_s p e below T11 m 37 #[iv i0, iv i1, iv i2, rv sa1, rv sa11, iv (16 : Int32), iv (0 : Int32), .unset, .unset, .unset, .unset, .unset, .unset] [(.int (i0.toUInt32.toUInt16.toUInt32.toInt32))] t → Steps p.tables e below S0 t := by
        intro tX kX
        refine pre112 _ ?_
        show own_s p e below T11 m 25 #[iv i0, iv i1, iv i2, rv sa1, rv sa11, iv (16 : Int32), .unset, .unset, .unset, .unset, .unset, .unset, .unset] [(.int (i1 &&& (2 : Int32)))] _
        refine XS.ifYes X11.here hx rfl (pc0 := 25) (pc' := 32) rfl (hb hby at_25) rfl ((if0 _ _).trans (teq hc113).1) (by decide) (by decide) ?_
        show own_s p e below T11 m 32 #[iv i0, iv i1, iv i2, rv sa1, rv sa11, iv (16 : Int32), .unset, .unset, .unset, .unset, .unset, .unset, .unset] [] _
        refine XS.iconst X11.here hx rfl (hb hby at_32) ?_
        show own_s p e below T11 m 33 #[iv i0, iv i1, iv i2, rv sa1, rv sa11, iv (16 : Int32), .unset, .unset, .unset, .unset, .unset, .unset, .unset] [(.int (0 : Int32))] _
        refine XS.istore X11.here hx rfl (hb hby at_33) rfl (l' := #[iv i0, iv i1, iv i2, rv sa1, rv sa11, iv (16 : Int32), iv (0 : Int32), .unset, .unset, .unset, .unset, .unset, .unset]) rfl ?_
        show own_s p e below T11 m 35 #[iv i0, iv i1, iv i2, rv sa1, rv sa11, iv (16 : Int32), iv (0 : Int32), .unset, .unset, .unset, .unset, .unset, .unset] [] _
        refine XS.iloadN X11.here hx rfl (hb hby at_35) rfl ?_
        show own_s p e below T11 m 36 #[iv i0, iv i1, iv i2, rv sa1, rv sa11, iv (16 : Int32), iv (0 : Int32), .unset, .unset, .unset, .unset, .unset, .unset] [(.int i0)] _
        refine XS.i2c X11.here hx rfl (hb hby at_36) rfl ?_
        exact kX
      obtain ⟨cc, hcc⟩ : ∃ z : Int32, z = (i0.toUInt32.toUInt16.toUInt32.toInt32) := ⟨_, rfl⟩
      rw [← hcc] at pre114
      have bc := c_i2c i0
      rw [← hcc] at bc
      have pre115 : ∀ t, own_s p e below T11 m 43 #[iv i0, iv i1, iv i2, rv sa1, rv sa11, iv (16 : Int32), iv (0 : Int32), iv cc, .unset, .unset, .unset, .unset, .unset] [(.int (16 : Int32)), (.int cc)] t → Steps p.tables e below S0 t := by
        intro tX kX
        refine pre114 _ ?_
        show own_s p e below T11 m 37 #[iv i0, iv i1, iv i2, rv sa1, rv sa11, iv (16 : Int32), iv (0 : Int32), .unset, .unset, .unset, .unset, .unset, .unset] [(.int cc)] _
        refine XS.istore X11.here hx rfl (hb hby at_37) rfl (l' := #[iv i0, iv i1, iv i2, rv sa1, rv sa11, iv (16 : Int32), iv (0 : Int32), iv cc, .unset, .unset, .unset, .unset, .unset]) rfl ?_
        show own_s p e below T11 m 39 #[iv i0, iv i1, iv i2, rv sa1, rv sa11, iv (16 : Int32), iv (0 : Int32), iv cc, .unset, .unset, .unset, .unset, .unset] [] _
        refine XS.iload X11.here hx rfl (hb hby at_39) rfl ?_
        show own_s p e below T11 m 41 #[iv i0, iv i1, iv i2, rv sa1, rv sa11, iv (16 : Int32), iv (0 : Int32), iv cc, .unset, .unset, .unset, .unset, .unset] [(.int cc)] _
        refine XS.iload X11.here hx rfl (hb hby at_41) rfl ?_
        exact kX
      obtain ⟨_, _, ⟨T116, L116, k116, n116⟩, -, X116, ⟨Lc116, hQ116, l116, y116, z116⟩, st116⟩ := Jvm.LawKit.callS X11 hx (y := (⟨"com/example/osier/osier/xml/XmlChars", "digitValue", "(CI)I"⟩ : MethodName)) hown (mvT hZ (hw _ (List.mem_of_getElem? (i := 9) rfl))) (mvT hZ (hw _ (List.mem_of_getElem? (i := 10) rfl))) (mvT hZ (hw _ (List.mem_of_getElem? (i := 11) rfl))) (mvT hZ (hw _ (List.mem_of_getElem? (i := 12) rfl))) (by decide) (backOf (W := 0) (rm1 l s a0 hw [] cc (16 : Int32)  h11 n0 Z19 (by omega) (by omega)) hZ (hw _ (List.mem_of_getElem? (i := 12) rfl)) (hw _ (List.mem_of_getElem? (i := 11) rfl)) (by decide) (by decide)) (g := (mkF m 43 #[iv i0, iv i1, iv i2, rv sa1, rv sa11, iv (16 : Int32), iv (0 : Int32), iv cc, .unset, .unset, .unset, .unset, .unset] [(.int (16 : Int32)), (.int cc)])) rfl (by rw [hml]; rfl) (argsL := [(.int cc), (.int (16 : Int32))]) (rest := []) (lenOf pd0_0 rfl) rfl (by show 2 * 0 + _ ≤ _; exact Nat.le_of_eq rfl) (hb hby at_43) (fun _ _ => ⟨rfl, e11, (by decide : 4 + 0 ≤ _), (by decide : 136 + 0 ≤ _)⟩)
      dsimp only [Pt.U, Pt.locs, Pt.cells, Pt.slots] at X116 l116 y116 z116 st116 hQ116
      subst l116 y116 z116
      obtain ⟨⟨v116, rfl, B116⟩, Nq116, e116⟩ := hQ116
      unfold own_DV at B116
      have N116 := Fr.app N0 Nq116
      have pre117 : ∀ t, own_s p e below T116 m 46 #[iv i0, iv i1, iv i2, rv sa1, rv sa11, iv (16 : Int32), iv (0 : Int32), iv cc, .unset, .unset, .unset, .unset, .unset] [(.int v116)] t → Steps p.tables e below S0 t := fun tX kX => pre115 _ (st116 _ kX)
      have pre118 : ∀ t, own_s p e below T116 m 51 #[iv i0, iv i1, iv i2, rv sa1, rv sa11, iv (16 : Int32), iv (0 : Int32), iv cc, iv v116, .unset, .unset, .unset, .unset] [(.int (-1 : Int32)), (.int v116)] t → Steps p.tables e below S0 t := by
        intro tX kX
        refine pre117 _ ?_
        show own_s p e below T116 m 46 #[iv i0, iv i1, iv i2, rv sa1, rv sa11, iv (16 : Int32), iv (0 : Int32), iv cc, .unset, .unset, .unset, .unset, .unset] [(.int v116)] _
        refine XS.istore X116.here hx rfl (hb hby at_46) rfl (l' := #[iv i0, iv i1, iv i2, rv sa1, rv sa11, iv (16 : Int32), iv (0 : Int32), iv cc, iv v116, .unset, .unset, .unset, .unset]) rfl ?_
        show own_s p e below T116 m 48 #[iv i0, iv i1, iv i2, rv sa1, rv sa11, iv (16 : Int32), iv (0 : Int32), iv cc, iv v116, .unset, .unset, .unset, .unset] [] _
        refine XS.iload X116.here hx rfl (hb hby at_48) rfl ?_
        show own_s p e below T116 m 50 #[iv i0, iv i1, iv i2, rv sa1, rv sa11, iv (16 : Int32), iv (0 : Int32), iv cc, iv v116, .unset, .unset, .unset, .unset] [(.int v116)] _
        refine XS.iconst X116.here hx rfl (hb hby at_50) ?_
        exact kX
      by_cases hc119 : v116 = (-1 : Int32)
      · skip
        have ihc119 : (v116).toInt = (-1 : Int) := congrArg Int32.toInt hc119
        have pre120 : ∀ t, own_s p e below T116 m 115 #[iv i0, iv i1, iv i2, rv sa1, rv sa11, iv (16 : Int32), iv (0 : Int32), iv cc, iv v116, iv (1 : Int32), .unset, .unset, .unset] [(.int ((i2 &&& (2147483647 : Int32)) % (16 : Int32)))] t → Steps p.tables e below S0 t := by
          intro tX kX
          refine pre118 _ ?_
          show own_s p e below T116 m 51 #[iv i0, iv i1, iv i2, rv sa1, rv sa11, iv (16 : Int32), iv (0 : Int32), iv cc, iv v116, .unset, .unset, .unset, .unset] [(.int (-1 : Int32)), (.int v116)] _
          refine XS.icmpNo X116.here hx rfl (hb hby at_51) rfl (teq hc119).2 ?_
          show own_s p e below T116 m 54 #[iv i0, iv i1, iv i2, rv sa1, rv sa11, iv (16 : Int32), iv (0 : Int32), iv cc, iv v116, .unset, .unset, .unset, .unset] [] _
          refine XS.iconst X116.here hx rfl (hb hby at_54) ?_
          show own_s p e below T116 m 55 #[iv i0, iv i1, iv i2, rv sa1, rv sa11, iv (16 : Int32), iv (0 : Int32), iv cc, iv v116, .unset, .unset, .unset, .unset] [(.int (1 : Int32))] _
          refine XS.istore X116.here hx rfl (hb hby at_55) rfl (l' := #[iv i0, iv i1, iv i2, rv sa1, rv sa11, iv (16 : Int32), iv (0 : Int32), iv cc, iv v116, iv (1 : Int32), .unset, .unset, .unset]) rfl ?_
          show own_s p e below T116 m 57 #[iv i0, iv i1, iv i2, rv sa1, rv sa11, iv (16 : Int32), iv (0 : Int32), iv cc, iv v116, iv (1 : Int32), .unset, .unset, .unset] [] _
          refine XS.goto X116.here hx rfl (pc0 := 57) (pc' := 108) rfl (hb hby at_57) (by decide) (by decide) ?_
          show own_s p e below T116 m 108 #[iv i0, iv i1, iv i2, rv sa1, rv sa11, iv (16 : Int32), iv (0 : Int32), iv cc, iv v116, iv (1 : Int32), .unset, .unset, .unset] [] _
          refine XS.iloadN X116.here hx rfl (hb hby at_108) rfl ?_
          show own_s p e below T116 m 109 #[iv i0, iv i1, iv i2, rv sa1, rv sa11, iv (16 : Int32), iv (0 : Int32), iv cc, iv v116, iv (1 : Int32), .unset, .unset, .unset] [(.int i2)] _
          refine X116.ldcInt hx hown (mvT hZ (hw _ (List.mem_of_getElem? (i := 13) rfl))) (g := (mkF m 109 #[iv i0, iv i1, iv i2, rv sa1, rv sa11, iv (16 : Int32), iv (0 : Int32), iv cc, iv v116, iv (1 : Int32), .unset, .unset, .unset] [(.int i2)])) rfl (hb hby at_109) _ ?_
          show own_s p e below T116 m 111 #[iv i0, iv i1, iv i2, rv sa1, rv sa11, iv (16 : Int32), iv (0 : Int32), iv cc, iv v116, iv (1 : Int32), .unset, .unset, .unset] [(.int (2147483647 : Int32)), (.int i2)] _
          refine XS.iand X116.here hx rfl (hb hby at_111) rfl ?_
          show own_s p e below T116 m 112 #[iv i0, iv i1, iv i2, rv sa1, rv sa11, iv (16 : Int32), iv (0 : Int32), iv cc, iv v116, iv (1 : Int32), .unset, .unset, .unset] [(.int (i2 &&& (2147483647 : Int32)))] _
          refine XS.iload X116.here hx rfl (hb hby at_112) rfl ?_
          show own_s p e below T116 m 114 #[iv i0, iv i1, iv i2, rv sa1, rv sa11, iv (16 : Int32), iv (0 : Int32), iv cc, iv v116, iv (1 : Int32), .unset, .unset, .unset] [(.int (16 : Int32)), (.int (i2 &&& (2147483647 : Int32)))] _
          refine iremM X116 hx rfl (hb hby at_114) rfl (by decide) ?_
          exact kX
        obtain ⟨vq, hvq⟩ : ∃ z : Int32, z = ((i2 &&& (2147483647 : Int32)) % (16 : Int32)) := ⟨_, rfl⟩
        rw [← hvq] at pre120
        have mk := c_mask i2 2147483647 31 (by decide) (by decide)
        have rr := (c_irem (i2 &&& 2147483647) 16 16 (by decide)).1 (by omega)
        rw [← hvq] at rr
        have pre121 : ∀ t, own_s p e below T116 m 135 #[iv i0, iv i1, iv i2, rv sa1, rv sa11, iv (16 : Int32), iv (0 : Int32), iv cc, iv v116, iv (1 : Int32), iv vq, .unset, .unset] [(.int vq), (.ref sa1)] t → Steps p.tables e below S0 t := by
          intro tX kX
          refine pre120 _ ?_
          show own_s p e below T116 m 115 #[iv i0, iv i1, iv i2, rv sa1, rv sa11, iv (16 : Int32), iv (0 : Int32), iv cc, iv v116, iv (1 : Int32), .unset, .unset, .unset] [(.int vq)] _
          refine XS.istore X116.here hx rfl (hb hby at_115) rfl (l' := #[iv i0, iv i1, iv i2, rv sa1, rv sa11, iv (16 : Int32), iv (0 : Int32), iv cc, iv v116, iv (1 : Int32), iv vq, .unset, .unset]) rfl ?_
          show own_s p e below T116 m 117 #[iv i0, iv i1, iv i2, rv sa1, rv sa11, iv (16 : Int32), iv (0 : Int32), iv cc, iv v116, iv (1 : Int32), iv vq, .unset, .unset] [] _
          refine XS.iload X116.here hx rfl (hb hby at_117) rfl ?_
          show own_s p e below T116 m 119 #[iv i0, iv i1, iv i2, rv sa1, rv sa11, iv (16 : Int32), iv (0 : Int32), iv cc, iv v116, iv (1 : Int32), iv vq, .unset, .unset] [(.int (0 : Int32))] _
          refine XS.ifYes X116.here hx rfl (pc0 := 119) (pc' := 132) rfl (hb hby at_119) rfl ((if0 _ _).trans (teq (by decide : (0 : Int32) = (0 : Int32))).1) (by decide) (by decide) ?_
          show own_s p e below T116 m 132 #[iv i0, iv i1, iv i2, rv sa1, rv sa11, iv (16 : Int32), iv (0 : Int32), iv cc, iv v116, iv (1 : Int32), iv vq, .unset, .unset] [] _
          refine XS.aloadN X116.here hx rfl (hb hby at_132) rfl rfl ?_
          show own_s p e below T116 m 133 #[iv i0, iv i1, iv i2, rv sa1, rv sa11, iv (16 : Int32), iv (0 : Int32), iv cc, iv v116, iv (1 : Int32), iv vq, .unset, .unset] [(.ref sa1)] _
          refine XS.iload X116.here hx rfl (hb hby at_133) rfl ?_
          exact kX
        have gI123 := own_GI (u := 87) (j := (vq).toInt.toNat) (by decide) (by omega)
        obtain ⟨cq122, kq122, q122a, q122b, q122c⟩ := isOf hZ e116 f15_E
        obtain ⟨_, _, ⟨T122, L122, k122, n122⟩, -, X122, ⟨Lc122, hQ122, l122, y122, z122⟩, st122⟩ := X116.virtualBack hx (y := (⟨"java/lang/String", "charAt", "(I)C"⟩ : MethodName)) (z := (⟨"java/lang/String", "charAt", "(I)C"⟩ : MethodName)) hown (mvT hZ (hw _ (List.mem_of_getElem? (i := 14) rfl))) (mvT hZ (hw _ (List.mem_of_getElem? (i := 15) rfl))) (notFace_of_selects (args := #[]) (mvT hZ (hw _ (List.mem_of_getElem? (i := 17) rfl)))) (mvT hZ (hw _ (List.mem_of_getElem? (i := 17) rfl))) (mvT hZ (hw _ (List.mem_of_getElem? (i := 16) rfl))) (by decide) (backOf (W := 0) (rm6 l s a0 hw [] sa1 vq sb1 (own_G 87) (vq).toInt.toNat w cs h11 n0 Z19 f15_E f16_F f17_F hv f13_S f14_S hc f18_A (fun j hj => by have := own_GI (u := 87) (by decide) hj; omega) (by omega) (by omega)) hZ (hw _ (List.mem_of_getElem? (i := 18) rfl)) (hw _ (List.mem_of_getElem? (i := 1) rfl)) (by decide) (by decide)) q122a q122c (g := (mkF m 135 #[iv i0, iv i1, iv i2, rv sa1, rv sa11, iv (16 : Int32), iv (0 : Int32), iv cc, iv v116, iv (1 : Int32), iv vq, .unset, .unset] [(.int vq), (.ref sa1)])) rfl (by rw [hml]; rfl) (Steps.refl _) (argsL := [(.int vq)]) (rest := []) (lenOf pd0_1 rfl) rfl (by show 2 * 0 + _ ≤ _; exact Nat.le_of_eq rfl) (hb hby at_135) (fun _ _ => ⟨rfl, e116, (by decide : 4 + 0 ≤ _), (by decide : 136 + 0 ≤ _)⟩)
        dsimp only [Pt.U, Pt.locs, Pt.cells, Pt.slots] at X122 l122 y122 z122 st122 hQ122
        subst l122 y122 z122
        obtain ⟨rfl, Nq122, e122⟩ := hQ122
        have N122 := Fr.app N116 Nq122
        have pre124 : ∀ t, own_s p e below T122 m 138 #[iv i0, iv i1, iv i2, rv sa1, rv sa11, iv (16 : Int32), iv (0 : Int32), iv cc, iv v116, iv (1 : Int32), iv vq, .unset, .unset] [(.int (own_G 87 (vq).toInt.toNat))] t → Steps p.tables e below S0 t := fun tX kX => pre121 _ (st122.trans kX)
        have pre125 : ∀ t, own_s p e below T122 m 144 #[iv i0, iv i1, iv i2, rv sa1, rv sa11, iv (16 : Int32), iv (0 : Int32), iv cc, iv v116, iv (1 : Int32), iv vq, iv (own_G 87 (vq).toInt.toNat), .unset] [(.int (16 : Int32)), (.int (own_G 87 (vq).toInt.toNat))] t → Steps p.tables e below S0 t := by
          intro tX kX
          refine pre124 _ ?_
          show own_s p e below T122 m 138 #[iv i0, iv i1, iv i2, rv sa1, rv sa11, iv (16 : Int32), iv (0 : Int32), iv cc, iv v116, iv (1 : Int32), iv vq, .unset, .unset] [(.int (own_G 87 (vq).toInt.toNat))] _
          refine XS.istore X122.here hx rfl (hb hby at_138) rfl (l' := #[iv i0, iv i1, iv i2, rv sa1, rv sa11, iv (16 : Int32), iv (0 : Int32), iv cc, iv v116, iv (1 : Int32), iv vq, iv (own_G 87 (vq).toInt.toNat), .unset]) rfl ?_
          show own_s p e below T122 m 140 #[iv i0, iv i1, iv i2, rv sa1, rv sa11, iv (16 : Int32), iv (0 : Int32), iv cc, iv v116, iv (1 : Int32), iv vq, iv (own_G 87 (vq).toInt.toNat), .unset] [] _
          refine XS.iload X122.here hx rfl (hb hby at_140) rfl ?_
          show own_s p e below T122 m 142 #[iv i0, iv i1, iv i2, rv sa1, rv sa11, iv (16 : Int32), iv (0 : Int32), iv cc, iv v116, iv (1 : Int32), iv vq, iv (own_G 87 (vq).toInt.toNat), .unset] [(.int (own_G 87 (vq).toInt.toNat))] _
          refine XS.iload X122.here hx rfl (hb hby at_142) rfl ?_
          exact kX
        obtain ⟨_, _, ⟨T126, L126, k126, n126⟩, -, X126, ⟨Lc126, hQ126, l126, y126, z126⟩, st126⟩ := Jvm.LawKit.callS X122 hx (y := (⟨"com/example/osier/osier/xml/XmlChars", "digitValue", "(CI)I"⟩ : MethodName)) hown (mvT hZ (hw _ (List.mem_of_getElem? (i := 9) rfl))) (mvT hZ (hw _ (List.mem_of_getElem? (i := 10) rfl))) (mvT hZ (hw _ (List.mem_of_getElem? (i := 11) rfl))) (mvT hZ (hw _ (List.mem_of_getElem? (i := 12) rfl))) (by decide) (backOf (W := 0) (rm1 l s a0 hw [] (own_G 87 (vq).toInt.toNat) (16 : Int32)  h11 n0 Z19 (by omega) (by omega)) hZ (hw _ (List.mem_of_getElem? (i := 12) rfl)) (hw _ (List.mem_of_getElem? (i := 11) rfl)) (by decide) (by decide)) (g := (mkF m 144 #[iv i0, iv i1, iv i2, rv sa1, rv sa11, iv (16 : Int32), iv (0 : Int32), iv cc, iv v116, iv (1 : Int32), iv vq, iv (own_G 87 (vq).toInt.toNat), .unset] [(.int (16 : Int32)), (.int (own_G 87 (vq).toInt.toNat))])) rfl (by rw [hml]; rfl) (argsL := [(.int (own_G 87 (vq).toInt.toNat)), (.int (16 : Int32))]) (rest := []) (lenOf pd0_0 rfl) rfl (by show 2 * 0 + _ ≤ _; exact Nat.le_of_eq rfl) (hb hby at_144) (fun _ _ => ⟨rfl, e122, (by decide : 4 + 0 ≤ _), (by decide : 136 + 0 ≤ _)⟩)
        dsimp only [Pt.U, Pt.locs, Pt.cells, Pt.slots] at X126 l126 y126 z126 st126 hQ126
        subst l126 y126 z126
        obtain ⟨⟨v126, rfl, B126⟩, Nq126, e126⟩ := hQ126
        unfold own_DV at B126
        have N126 := Fr.app N122 Nq126
        have pre127 : ∀ t, own_s p e below T126 m 147 #[iv i0, iv i1, iv i2, rv sa1, rv sa11, iv (16 : Int32), iv (0 : Int32), iv cc, iv v116, iv (1 : Int32), iv vq, iv (own_G 87 (vq).toInt.toNat), .unset] [(.int v126)] t → Steps p.tables e below S0 t := fun tX kX => pre125 _ (st126 _ kX)
        have pre128 : ∀ t, own_s p e below T126 m 174 #[iv i0, iv i1, iv i2, rv sa1, rv sa11, iv (16 : Int32), iv (0 : Int32), iv cc, iv v116, iv (1 : Int32), iv vq, iv (own_G 87 (vq).toInt.toNat), iv (1 : Int32)] [(.int (1 : Int32))] t → Steps p.tables e below S0 t := by
          intro tX kX
          refine pre127 _ ?_
          show own_s p e below T126 m 147 #[iv i0, iv i1, iv i2, rv sa1, rv sa11, iv (16 : Int32), iv (0 : Int32), iv cc, iv v116, iv (1 : Int32), iv vq, iv (own_G 87 (vq).toInt.toNat), .unset] [(.int v126)] _
          refine XS.iload X126.here hx rfl (hb hby at_147) rfl ?_
          show own_s p e below T126 m 149 #[iv i0, iv i1, iv i2, rv sa1, rv sa11, iv (16 : Int32), iv (0 : Int32), iv cc, iv v116, iv (1 : Int32), iv vq, iv (own_G 87 (vq).toInt.toNat), .unset] [(.int vq), (.int v126)] _
          refine XS.icmpNo X126.here hx rfl (hb hby at_149) rfl (teq (own_eqI (show (v126).toInt = (vq).toInt from (by omega : (v126).toInt = (vq).toInt)))).2 ?_
          show own_s p e below T126 m 152 #[iv i0, iv i1, iv i2, rv sa1, rv sa11, iv (16 : Int32), iv (0 : Int32), iv cc, iv v116, iv (1 : Int32), iv vq, iv (own_G 87 (vq).toInt.toNat), .unset] [] _
          refine XS.iconst X126.here hx rfl (hb hby at_152) ?_
          show own_s p e below T126 m 153 #[iv i0, iv i1, iv i2, rv sa1, rv sa11, iv (16 : Int32), iv (0 : Int32), iv cc, iv v116, iv (1 : Int32), iv vq, iv (own_G 87 (vq).toInt.toNat), .unset] [(.int (1 : Int32))] _
          refine XS.goto X126.here hx rfl (pc0 := 153) (pc' := 157) rfl (hb hby at_153) (by decide) (by decide) ?_
          show own_s p e below T126 m 157 #[iv i0, iv i1, iv i2, rv sa1, rv sa11, iv (16 : Int32), iv (0 : Int32), iv cc, iv v116, iv (1 : Int32), iv vq, iv (own_G 87 (vq).toInt.toNat), .unset] [(.int (1 : Int32))] _
          refine XS.istore X126.here hx rfl (hb hby at_157) rfl (l' := #[iv i0, iv i1, iv i2, rv sa1, rv sa11, iv (16 : Int32), iv (0 : Int32), iv cc, iv v116, iv (1 : Int32), iv vq, iv (own_G 87 (vq).toInt.toNat), iv (1 : Int32)]) rfl ?_
          show own_s p e below T126 m 159 #[iv i0, iv i1, iv i2, rv sa1, rv sa11, iv (16 : Int32), iv (0 : Int32), iv cc, iv v116, iv (1 : Int32), iv vq, iv (own_G 87 (vq).toInt.toNat), iv (1 : Int32)] [] _
          refine XS.iload X126.here hx rfl (hb hby at_159) rfl ?_
          show own_s p e below T126 m 161 #[iv i0, iv i1, iv i2, rv sa1, rv sa11, iv (16 : Int32), iv (0 : Int32), iv cc, iv v116, iv (1 : Int32), iv vq, iv (own_G 87 (vq).toInt.toNat), iv (1 : Int32)] [(.int (1 : Int32))] _
          refine XS.ifNo X126.here hx rfl (hb hby at_161) rfl ((if0 _ _).trans (feq (by decide : ¬ ((1 : Int32) = (0 : Int32)))).1) ?_
          show own_s p e below T126 m 164 #[iv i0, iv i1, iv i2, rv sa1, rv sa11, iv (16 : Int32), iv (0 : Int32), iv cc, iv v116, iv (1 : Int32), iv vq, iv (own_G 87 (vq).toInt.toNat), iv (1 : Int32)] [] _
          refine XS.iload X126.here hx rfl (hb hby at_164) rfl ?_
          show own_s p e below T126 m 166 #[iv i0, iv i1, iv i2, rv sa1, rv sa11, iv (16 : Int32), iv (0 : Int32), iv cc, iv v116, iv (1 : Int32), iv vq, iv (own_G 87 (vq).toInt.toNat), iv (1 : Int32)] [(.int (1 : Int32))] _
          refine XS.ifNo X126.here hx rfl (hb hby at_166) rfl ((if0 _ _).trans (feq (by decide : ¬ ((1 : Int32) = (0 : Int32)))).1) ?_
          show own_s p e below T126 m 169 #[iv i0, iv i1, iv i2, rv sa1, rv sa11, iv (16 : Int32), iv (0 : Int32), iv cc, iv v116, iv (1 : Int32), iv vq, iv (own_G 87 (vq).toInt.toNat), iv (1 : Int32)] [] _
          refine XS.iconst X126.here hx rfl (hb hby at_169) ?_
          show own_s p e below T126 m 170 #[iv i0, iv i1, iv i2, rv sa1, rv sa11, iv (16 : Int32), iv (0 : Int32), iv cc, iv v116, iv (1 : Int32), iv vq, iv (own_G 87 (vq).toInt.toNat), iv (1 : Int32)] [(.int (1 : Int32))] _
          refine XS.goto X126.here hx rfl (pc0 := 170) (pc' := 174) rfl (hb hby at_170) (by decide) (by decide) ?_
          exact kX
        subst hS0
        obtain ⟨fs, hr, hrun, hended, hend⟩ := X126.leaveW hS (by rw [e126]; exact hk11) (v := (some (.int (1 : Int32)))) (fun h => by rw [Bd.returns] at h; cases h)
        exact ⟨_, _, pre128 _ (retN X126 hx (t := .boolean) Bd.returns (by simp) (hb hby at_174) hr), hrun, hended, _, _, rfl, ⟨rfl, hn0 ▸ N126⟩, hend⟩
      · skip
        have ihc119 : ¬ ((v116).toInt = (-1 : Int)) := fun q => hc119 (Int32.toInt_inj.mp q)
        have pre129 : ∀ t, own_s p e below T116 m 77 #[iv i0, iv i1, iv i2, rv sa1, rv sa11, iv (16 : Int32), iv (0 : Int32), iv cc, iv v116, .unset, .unset, .unset, .unset] [(.int v116), (.ref sa1), (.int cc)] t → Steps p.tables e below S0 t := by
          intro tX kX
          refine pre118 _ ?_
          show own_s p e below T116 m 51 #[iv i0, iv i1, iv i2, rv sa1, rv sa11, iv (16 : Int32), iv (0 : Int32), iv cc, iv v116, .unset, .unset, .unset, .unset] [(.int (-1 : Int32)), (.int v116)] _
          refine XS.icmpYes X116.here hx rfl (pc0 := 51) (pc' := 60) rfl (hb hby at_51) rfl (feq hc119).2 (by decide) (by decide) ?_
          show own_s p e below T116 m 60 #[iv i0, iv i1, iv i2, rv sa1, rv sa11, iv (16 : Int32), iv (0 : Int32), iv cc, iv v116, .unset, .unset, .unset, .unset] [] _
          refine XS.iload X116.here hx rfl (hb hby at_60) rfl ?_
          show own_s p e below T116 m 62 #[iv i0, iv i1, iv i2, rv sa1, rv sa11, iv (16 : Int32), iv (0 : Int32), iv cc, iv v116, .unset, .unset, .unset, .unset] [(.int v116)] _
          refine XS.ifNo X116.here hx rfl (hb hby at_62) rfl ((if0 _ _).trans (flt (fun q => absurd (show (v116).toInt < (0 : Int) from Int32.lt_iff_toInt_lt.mp q) (by omega))).1) ?_
          show own_s p e below T116 m 65 #[iv i0, iv i1, iv i2, rv sa1, rv sa11, iv (16 : Int32), iv (0 : Int32), iv cc, iv v116, .unset, .unset, .unset, .unset] [] _
          refine XS.iload X116.here hx rfl (hb hby at_65) rfl ?_
          show own_s p e below T116 m 67 #[iv i0, iv i1, iv i2, rv sa1, rv sa11, iv (16 : Int32), iv (0 : Int32), iv cc, iv v116, .unset, .unset, .unset, .unset] [(.int v116)] _
          refine XS.iload X116.here hx rfl (hb hby at_67) rfl ?_
          show own_s p e below T116 m 69 #[iv i0, iv i1, iv i2, rv sa1, rv sa11, iv (16 : Int32), iv (0 : Int32), iv cc, iv v116, .unset, .unset, .unset, .unset] [(.int (16 : Int32)), (.int v116)] _
          refine XS.icmpNo X116.here hx rfl (hb hby at_69) rfl (tlt (show v116 < (16 : Int32) from Int32.lt_iff_toInt_lt.mpr (by omega : (v116).toInt < (16 : Int)))).2.1 ?_
          show own_s p e below T116 m 72 #[iv i0, iv i1, iv i2, rv sa1, rv sa11, iv (16 : Int32), iv (0 : Int32), iv cc, iv v116, .unset, .unset, .unset, .unset] [] _
          refine XS.iload X116.here hx rfl (hb hby at_72) rfl ?_
          show own_s p e below T116 m 74 #[iv i0, iv i1, iv i2, rv sa1, rv sa11, iv (16 : Int32), iv (0 : Int32), iv cc, iv v116, .unset, .unset, .unset, .unset] [(.int cc)] _
          refine XS.aloadN X116.here hx rfl (hb hby at_74) rfl rfl ?_
          show own_s p e below T116 m 75 #[iv i0, iv i1, iv i2, rv sa1, rv sa11, iv (16 : Int32), iv (0 : Int32), iv cc, iv v116, .unset, .unset, .unset, .unset] [(.ref sa1), (.int cc)] _
          refine XS.iload X116.here hx rfl (hb hby at_75) rfl ?_
          exact kX
        have gI131 := own_GI (u := 87) (j := (v116).toInt.toNat) (by decide) (by omega)
        obtain ⟨cq130, kq130, q130a, q130b, q130c⟩ := isOf hZ e116 f15_E
        obtain ⟨_, _, ⟨T130, L130, k130, n130⟩, -, X130, ⟨Lc130, hQ130, l130, y130, z130⟩, st130⟩ := X116.virtualBack hx (y := (⟨"java/lang/String", "charAt", "(I)C"⟩ : MethodName)) (z := (⟨"java/lang/String", "charAt", "(I)C"⟩ : MethodName)) hown (mvT hZ (hw _ (List.mem_of_getElem? (i := 14) rfl))) (mvT hZ (hw _ (List.mem_of_getElem? (i := 15) rfl))) (notFace_of_selects (args := #[]) (mvT hZ (hw _ (List.mem_of_getElem? (i := 17) rfl)))) (mvT hZ (hw _ (List.mem_of_getElem? (i := 17) rfl))) (mvT hZ (hw _ (List.mem_of_getElem? (i := 16) rfl))) (by decide) (backOf (W := 1) (rm6 l s a0 hw [] sa1 v116 sb1 (own_G 87) (v116).toInt.toNat w cs h11 n0 Z19 f15_E f16_F f17_F hv f13_S f14_S hc f18_A (fun j hj => by have := own_GI (u := 87) (by decide) hj; omega) (by omega) (by omega)) hZ (hw _ (List.mem_of_getElem? (i := 18) rfl)) (hw _ (List.mem_of_getElem? (i := 1) rfl)) (by decide) (by decide)) q130a q130c (g := (mkF m 77 #[iv i0, iv i1, iv i2, rv sa1, rv sa11, iv (16 : Int32), iv (0 : Int32), iv cc, iv v116, .unset, .unset, .unset, .unset] [(.int v116), (.ref sa1), (.int cc)])) rfl (by rw [hml]; rfl) (Steps.refl _) (argsL := [(.int v116)]) (rest := [(.int cc)]) (lenOf pd0_1 rfl) rfl (by show 2 * 0 + _ ≤ _; exact Nat.le_of_eq rfl) (hb hby at_77) (fun _ _ => ⟨rfl, e116, (by decide : 4 + 0 ≤ _), (by decide : 136 + 0 ≤ _)⟩)
        dsimp only [Pt.U, Pt.locs, Pt.cells, Pt.slots] at X130 l130 y130 z130 st130 hQ130
        subst l130 y130 z130
        obtain ⟨rfl, Nq130, e130⟩ := hQ130
        have N130 := Fr.app N116 Nq130
        have pre132 : ∀ t, own_s p e below T130 m 80 #[iv i0, iv i1, iv i2, rv sa1, rv sa11, iv (16 : Int32), iv (0 : Int32), iv cc, iv v116, .unset, .unset, .unset, .unset] [(.int (own_G 87 (v116).toInt.toNat)), (.int cc)] t → Steps p.tables e below S0 t := fun tX kX => pre129 _ (st130.trans kX)
        by_cases hc133 : cc = (own_G 87 (v116).toInt.toNat)
        · skip
          have ihc133 : (cc).toInt = ((own_G 87 (v116).toInt.toNat)).toInt := congrArg Int32.toInt hc133
          have pre134 : ∀ t, own_s p e below T130 m 115 #[iv i0, iv i1, iv i2, rv sa1, rv sa11, iv (16 : Int32), iv (0 : Int32), iv cc, iv v116, iv (1 : Int32), .unset, .unset, .unset] [(.int ((i2 &&& (2147483647 : Int32)) % (16 : Int32)))] t → Steps p.tables e below S0 t := by
            intro tX kX
            refine pre132 _ ?_
            show own_s p e below T130 m 80 #[iv i0, iv i1, iv i2, rv sa1, rv sa11, iv (16 : Int32), iv (0 : Int32), iv cc, iv v116, .unset, .unset, .unset, .unset] [(.int (own_G 87 (v116).toInt.toNat)), (.int cc)] _
            refine XS.icmpYes X130.here hx rfl (pc0 := 80) (pc' := 95) rfl (hb hby at_80) rfl (teq hc133).1 (by decide) (by decide) ?_
            show own_s p e below T130 m 95 #[iv i0, iv i1, iv i2, rv sa1, rv sa11, iv (16 : Int32), iv (0 : Int32), iv cc, iv v116, .unset, .unset, .unset, .unset] [] _
            refine XS.iconst X130.here hx rfl (hb hby at_95) ?_
            show own_s p e below T130 m 96 #[iv i0, iv i1, iv i2, rv sa1, rv sa11, iv (16 : Int32), iv (0 : Int32), iv cc, iv v116, .unset, .unset, .unset, .unset] [(.int (1 : Int32))] _
            refine XS.goto X130.here hx rfl (pc0 := 96) (pc' := 100) rfl (hb hby at_96) (by decide) (by decide) ?_
            show own_s p e below T130 m 100 #[iv i0, iv i1, iv i2, rv sa1, rv sa11, iv (16 : Int32), iv (0 : Int32), iv cc, iv v116, .unset, .unset, .unset, .unset] [(.int (1 : Int32))] _
            refine XS.istore X130.here hx rfl (hb hby at_100) rfl (l' := #[iv i0, iv i1, iv i2, rv sa1, rv sa11, iv (16 : Int32), iv (0 : Int32), iv cc, iv v116, iv (1 : Int32), .unset, .unset, .unset]) rfl ?_
            show own_s p e below T130 m 102 #[iv i0, iv i1, iv i2, rv sa1, rv sa11, iv (16 : Int32), iv (0 : Int32), iv cc, iv v116, iv (1 : Int32), .unset, .unset, .unset] [] _
            refine XS.goto X130.here hx rfl (pc0 := 102) (pc' := 108) rfl (hb hby at_102) (by decide) (by decide) ?_
            show own_s p e below T130 m 108 #[iv i0, iv i1, iv i2, rv sa1, rv sa11, iv (16 : Int32), iv (0 : Int32), iv cc, iv v116, iv (1 : Int32), .unset, .unset, .unset] [] _
            refine XS.iloadN X130.here hx rfl (hb hby at_108) rfl ?_
            show own_s p e below T130 m 109 #[iv i0, iv i1, iv i2, rv sa1, rv sa11, iv (16 : Int32), iv (0 : Int32), iv cc, iv v116, iv (1 : Int32), .unset, .unset, .unset] [(.int i2)] _
            refine X130.ldcInt hx hown (mvT hZ (hw _ (List.mem_of_getElem? (i := 13) rfl))) (g := (mkF m 109 #[iv i0, iv i1, iv i2, rv sa1, rv sa11, iv (16 : Int32), iv (0 : Int32), iv cc, iv v116, iv (1 : Int32), .unset, .unset, .unset] [(.int i2)])) rfl (hb hby at_109) _ ?_
            show own_s p e below T130 m 111 #[iv i0, iv i1, iv i2, rv sa1, rv sa11, iv (16 : Int32), iv (0 : Int32), iv cc, iv v116, iv (1 : Int32), .unset, .unset, .unset] [(.int (2147483647 : Int32)), (.int i2)] _
            refine XS.iand X130.here hx rfl (hb hby at_111) rfl ?_
            show own_s p e below T130 m 112 #[iv i0, iv i1, iv i2, rv sa1, rv sa11, iv (16 : Int32), iv (0 : Int32), iv cc, iv v116, iv (1 : Int32), .unset, .unset, .unset] [(.int (i2 &&& (2147483647 : Int32)))] _
            refine XS.iload X130.here hx rfl (hb hby at_112) rfl ?_
            show own_s p e below T130 m 114 #[iv i0, iv i1, iv i2, rv sa1, rv sa11, iv (16 : Int32), iv (0 : Int32), iv cc, iv v116, iv (1 : Int32), .unset, .unset, .unset] [(.int (16 : Int32)), (.int (i2 &&& (2147483647 : Int32)))] _
            refine iremM X130 hx rfl (hb hby at_114) rfl (by decide) ?_
            exact kX
          obtain ⟨vq, hvq⟩ : ∃ z : Int32, z = ((i2 &&& (2147483647 : Int32)) % (16 : Int32)) := ⟨_, rfl⟩
          rw [← hvq] at pre134
          have mk := c_mask i2 2147483647 31 (by decide) (by decide)
          have rr := (c_irem (i2 &&& 2147483647) 16 16 (by decide)).1 (by omega)
          rw [← hvq] at rr
          have pre135 : ∀ t, own_s p e below T130 m 135 #[iv i0, iv i1, iv i2, rv sa1, rv sa11, iv (16 : Int32), iv (0 : Int32), iv cc, iv v116, iv (1 : Int32), iv vq, .unset, .unset] [(.int vq), (.ref sa1)] t → Steps p.tables e below S0 t := by
            intro tX kX
            refine pre134 _ ?_
            show own_s p e below T130 m 115 #[iv i0, iv i1, iv i2, rv sa1, rv sa11, iv (16 : Int32), iv (0 : Int32), iv cc, iv v116, iv (1 : Int32), .unset, .unset, .unset] [(.int vq)] _
            refine XS.istore X130.here hx rfl (hb hby at_115) rfl (l' := #[iv i0, iv i1, iv i2, rv sa1, rv sa11, iv (16 : Int32), iv (0 : Int32), iv cc, iv v116, iv (1 : Int32), iv vq, .unset, .unset]) rfl ?_
            show own_s p e below T130 m 117 #[iv i0, iv i1, iv i2, rv sa1, rv sa11, iv (16 : Int32), iv (0 : Int32), iv cc, iv v116, iv (1 : Int32), iv vq, .unset, .unset] [] _
            refine XS.iload X130.here hx rfl (hb hby at_117) rfl ?_
            show own_s p e below T130 m 119 #[iv i0, iv i1, iv i2, rv sa1, rv sa11, iv (16 : Int32), iv (0 : Int32), iv cc, iv v116, iv (1 : Int32), iv vq, .unset, .unset] [(.int (0 : Int32))] _
            refine XS.ifYes X130.here hx rfl (pc0 := 119) (pc' := 132) rfl (hb hby at_119) rfl ((if0 _ _).trans (teq (by decide : (0 : Int32) = (0 : Int32))).1) (by decide) (by decide) ?_
            show own_s p e below T130 m 132 #[iv i0, iv i1, iv i2, rv sa1, rv sa11, iv (16 : Int32), iv (0 : Int32), iv cc, iv v116, iv (1 : Int32), iv vq, .unset, .unset] [] _
            refine XS.aloadN X130.here hx rfl (hb hby at_132) rfl rfl ?_
            show own_s p e below T130 m 133 #[iv i0, iv i1, iv i2, rv sa1, rv sa11, iv (16 : Int32), iv (0 : Int32), iv cc, iv v116, iv (1 : Int32), iv vq, .unset, .unset] [(.ref sa1)] _
            refine XS.iload X130.here hx rfl (hb hby at_133) rfl ?_
            exact kX
          have gI137 := own_GI (u := 87) (j := (vq).toInt.toNat) (by decide) (by omega)
          obtain ⟨cq136, kq136, q136a, q136b, q136c⟩ := isOf hZ e130 f15_E
          obtain ⟨_, _, ⟨T136, L136, k136, n136⟩, -, X136, ⟨Lc136, hQ136, l136, y136, z136⟩, st136⟩ := X130.virtualBack hx (y := (⟨"java/lang/String", "charAt", "(I)C"⟩ : MethodName)) (z := (⟨"java/lang/String", "charAt", "(I)C"⟩ : MethodName)) hown (mvT hZ (hw _ (List.mem_of_getElem? (i := 14) rfl))) (mvT hZ (hw _ (List.mem_of_getElem? (i := 15) rfl))) (notFace_of_selects (args := #[]) (mvT hZ (hw _ (List.mem_of_getElem? (i := 17) rfl)))) (mvT hZ (hw _ (List.mem_of_getElem? (i := 17) rfl))) (mvT hZ (hw _ (List.mem_of_getElem? (i := 16) rfl))) (by decide) (backOf (W := 0) (rm6 l s a0 hw [] sa1 vq sb1 (own_G 87) (vq).toInt.toNat w cs h11 n0 Z19 f15_E f16_F f17_F hv f13_S f14_S hc f18_A (fun j hj => by have := own_GI (u := 87) (by decide) hj; omega) (by omega) (by omega)) hZ (hw _ (List.mem_of_getElem? (i := 18) rfl)) (hw _ (List.mem_of_getElem? (i := 1) rfl)) (by decide) (by decide)) q136a q136c (g := (mkF m 135 #[iv i0, iv i1, iv i2, rv sa1, rv sa11, iv (16 : Int32), iv (0 : Int32), iv cc, iv v116, iv (1 : Int32), iv vq, .unset, .unset] [(.int vq), (.ref sa1)])) rfl (by rw [hml]; rfl) (Steps.refl _) (argsL := [(.int vq)]) (rest := []) (lenOf pd0_1 rfl) rfl (by show 2 * 0 + _ ≤ _; exact Nat.le_of_eq rfl) (hb hby at_135) (fun _ _ => ⟨rfl, e130, (by decide : 4 + 0 ≤ _), (by decide : 136 + 0 ≤ _)⟩)
          dsimp only [Pt.U, Pt.locs, Pt.cells, Pt.slots] at X136 l136 y136 z136 st136 hQ136
          subst l136 y136 z136
          obtain ⟨rfl, Nq136, e136⟩ := hQ136
          have N136 := Fr.app N130 Nq136
          have pre138 : ∀ t, own_s p e below T136 m 138 #[iv i0, iv i1, iv i2, rv sa1, rv sa11, iv (16 : Int32), iv (0 : Int32), iv cc, iv v116, iv (1 : Int32), iv vq, .unset, .unset] [(.int (own_G 87 (vq).toInt.toNat))] t → Steps p.tables e below S0 t := fun tX kX => pre135 _ (st136.trans kX)
          have pre139 : ∀ t, own_s p e below T136 m 144 #[iv i0, iv i1, iv i2, rv sa1, rv sa11, iv (16 : Int32), iv (0 : Int32), iv cc, iv v116, iv (1 : Int32), iv vq, iv (own_G 87 (vq).toInt.toNat), .unset] [(.int (16 : Int32)), (.int (own_G 87 (vq).toInt.toNat))] t → Steps p.tables e below S0 t := by
            intro tX kX
            refine pre138 _ ?_
            show own_s p e below T136 m 138 #[iv i0, iv i1, iv i2, rv sa1, rv sa11, iv (16 : Int32), iv (0 : Int32), iv cc, iv v116, iv (1 : Int32), iv vq, .unset, .unset] [(.int (own_G 87 (vq).toInt.toNat))] _
            refine XS.istore X136.here hx rfl (hb hby at_138) rfl (l' := #[iv i0, iv i1, iv i2, rv sa1, rv sa11, iv (16 : Int32), iv (0 : Int32), iv cc, iv v116, iv (1 : Int32), iv vq, iv (own_G 87 (vq).toInt.toNat), .unset]) rfl ?_
            show own_s p e below T136 m 140 #[iv i0, iv i1, iv i2, rv sa1, rv sa11, iv (16 : Int32), iv (0 : Int32), iv cc, iv v116, iv (1 : Int32), iv vq, iv (own_G 87 (vq).toInt.toNat), .unset] [] _
            refine XS.iload X136.here hx rfl (hb hby at_140) rfl ?_
            show own_s p e below T136 m 142 #[iv i0, iv i1, iv i2, rv sa1, rv sa11, iv (16 : Int32), iv (0 : Int32), iv cc, iv v116, iv (1 : Int32), iv vq, iv (own_G 87 (vq).toInt.toNat), .unset] [(.int (own_G 87 (vq).toInt.toNat))] _
            refine XS.iload X136.here hx rfl (hb hby at_142) rfl ?_
            exact kX
          obtain ⟨_, _, ⟨T140, L140, k140, n140⟩, -, X140, ⟨Lc140, hQ140, l140, y140, z140⟩, st140⟩ := Jvm.LawKit.callS X136 hx (y := (⟨"com/example/osier/osier/xml/XmlChars", "digitValue", "(CI)I"⟩ : MethodName)) hown (mvT hZ (hw _ (List.mem_of_getElem? (i := 9) rfl))) (mvT hZ (hw _ (List.mem_of_getElem? (i := 10) rfl))) (mvT hZ (hw _ (List.mem_of_getElem? (i := 11) rfl))) (mvT hZ (hw _ (List.mem_of_getElem? (i := 12) rfl))) (by decide) (backOf (W := 0) (rm1 l s a0 hw [] (own_G 87 (vq).toInt.toNat) (16 : Int32)  h11 n0 Z19 (by omega) (by omega)) hZ (hw _ (List.mem_of_getElem? (i := 12) rfl)) (hw _ (List.mem_of_getElem? (i := 11) rfl)) (by decide) (by decide)) (g := (mkF m 144 #[iv i0, iv i1, iv i2, rv sa1, rv sa11, iv (16 : Int32), iv (0 : Int32), iv cc, iv v116, iv (1 : Int32), iv vq, iv (own_G 87 (vq).toInt.toNat), .unset] [(.int (16 : Int32)), (.int (own_G 87 (vq).toInt.toNat))])) rfl (by rw [hml]; rfl) (argsL := [(.int (own_G 87 (vq).toInt.toNat)), (.int (16 : Int32))]) (rest := []) (lenOf pd0_0 rfl) rfl (by show 2 * 0 + _ ≤ _; exact Nat.le_of_eq rfl) (hb hby at_144) (fun _ _ => ⟨rfl, e136, (by decide : 4 + 0 ≤ _), (by decide : 136 + 0 ≤ _)⟩)
          dsimp only [Pt.U, Pt.locs, Pt.cells, Pt.slots] at X140 l140 y140 z140 st140 hQ140
          subst l140 y140 z140
          obtain ⟨⟨v140, rfl, B140⟩, Nq140, e140⟩ := hQ140
          unfold own_DV at B140
          have N140 := Fr.app N136 Nq140
          have pre141 : ∀ t, own_s p e below T140 m 147 #[iv i0, iv i1, iv i2, rv sa1, rv sa11, iv (16 : Int32), iv (0 : Int32), iv cc, iv v116, iv (1 : Int32), iv vq, iv (own_G 87 (vq).toInt.toNat), .unset] [(.int v140)] t → Steps p.tables e below S0 t := fun tX kX => pre139 _ (st140 _ kX)
          have pre142 : ∀ t, own_s p e below T140 m 174 #[iv i0, iv i1, iv i2, rv sa1, rv sa11, iv (16 : Int32), iv (0 : Int32), iv cc, iv v116, iv (1 : Int32), iv vq, iv (own_G 87 (vq).toInt.toNat), iv (1 : Int32)] [(.int (1 : Int32))] t → Steps p.tables e below S0 t := by
            intro tX kX
            refine pre141 _ ?_
            show own_s p e below T140 m 147 #[iv i0, iv i1, iv i2, rv sa1, rv sa11, iv (16 : Int32), iv (0 : Int32), iv cc, iv v116, iv (1 : Int32), iv vq, iv (own_G 87 (vq).toInt.toNat), .unset] [(.int v140)] _
            refine XS.iload X140.here hx rfl (hb hby at_147) rfl ?_
            show own_s p e below T140 m 149 #[iv i0, iv i1, iv i2, rv sa1, rv sa11, iv (16 : Int32), iv (0 : Int32), iv cc, iv v116, iv (1 : Int32), iv vq, iv (own_G 87 (vq).toInt.toNat), .unset] [(.int vq), (.int v140)] _
            refine XS.icmpNo X140.here hx rfl (hb hby at_149) rfl (teq (own_eqI (show (v140).toInt = (vq).toInt from (by omega : (v140).toInt = (vq).toInt)))).2 ?_
            show own_s p e below T140 m 152 #[iv i0, iv i1, iv i2, rv sa1, rv sa11, iv (16 : Int32), iv (0 : Int32), iv cc, iv v116, iv (1 : Int32), iv vq, iv (own_G 87 (vq).toInt.toNat), .unset] [] _
            refine XS.iconst X140.here hx rfl (hb hby at_152) ?_
            show own_s p e below T140 m 153 #[iv i0, iv i1, iv i2, rv sa1, rv sa11, iv (16 : Int32), iv (0 : Int32), iv cc, iv v116, iv (1 : Int32), iv vq, iv (own_G 87 (vq).toInt.toNat), .unset] [(.int (1 : Int32))] _
            refine XS.goto X140.here hx rfl (pc0 := 153) (pc' := 157) rfl (hb hby at_153) (by decide) (by decide) ?_
            show own_s p e below T140 m 157 #[iv i0, iv i1, iv i2, rv sa1, rv sa11, iv (16 : Int32), iv (0 : Int32), iv cc, iv v116, iv (1 : Int32), iv vq, iv (own_G 87 (vq).toInt.toNat), .unset] [(.int (1 : Int32))] _
            refine XS.istore X140.here hx rfl (hb hby at_157) rfl (l' := #[iv i0, iv i1, iv i2, rv sa1, rv sa11, iv (16 : Int32), iv (0 : Int32), iv cc, iv v116, iv (1 : Int32), iv vq, iv (own_G 87 (vq).toInt.toNat), iv (1 : Int32)]) rfl ?_
            show own_s p e below T140 m 159 #[iv i0, iv i1, iv i2, rv sa1, rv sa11, iv (16 : Int32), iv (0 : Int32), iv cc, iv v116, iv (1 : Int32), iv vq, iv (own_G 87 (vq).toInt.toNat), iv (1 : Int32)] [] _
            refine XS.iload X140.here hx rfl (hb hby at_159) rfl ?_
            show own_s p e below T140 m 161 #[iv i0, iv i1, iv i2, rv sa1, rv sa11, iv (16 : Int32), iv (0 : Int32), iv cc, iv v116, iv (1 : Int32), iv vq, iv (own_G 87 (vq).toInt.toNat), iv (1 : Int32)] [(.int (1 : Int32))] _
            refine XS.ifNo X140.here hx rfl (hb hby at_161) rfl ((if0 _ _).trans (feq (by decide : ¬ ((1 : Int32) = (0 : Int32)))).1) ?_
            show own_s p e below T140 m 164 #[iv i0, iv i1, iv i2, rv sa1, rv sa11, iv (16 : Int32), iv (0 : Int32), iv cc, iv v116, iv (1 : Int32), iv vq, iv (own_G 87 (vq).toInt.toNat), iv (1 : Int32)] [] _
            refine XS.iload X140.here hx rfl (hb hby at_164) rfl ?_
            show own_s p e below T140 m 166 #[iv i0, iv i1, iv i2, rv sa1, rv sa11, iv (16 : Int32), iv (0 : Int32), iv cc, iv v116, iv (1 : Int32), iv vq, iv (own_G 87 (vq).toInt.toNat), iv (1 : Int32)] [(.int (1 : Int32))] _
            refine XS.ifNo X140.here hx rfl (hb hby at_166) rfl ((if0 _ _).trans (feq (by decide : ¬ ((1 : Int32) = (0 : Int32)))).1) ?_
            show own_s p e below T140 m 169 #[iv i0, iv i1, iv i2, rv sa1, rv sa11, iv (16 : Int32), iv (0 : Int32), iv cc, iv v116, iv (1 : Int32), iv vq, iv (own_G 87 (vq).toInt.toNat), iv (1 : Int32)] [] _
            refine XS.iconst X140.here hx rfl (hb hby at_169) ?_
            show own_s p e below T140 m 170 #[iv i0, iv i1, iv i2, rv sa1, rv sa11, iv (16 : Int32), iv (0 : Int32), iv cc, iv v116, iv (1 : Int32), iv vq, iv (own_G 87 (vq).toInt.toNat), iv (1 : Int32)] [(.int (1 : Int32))] _
            refine XS.goto X140.here hx rfl (pc0 := 170) (pc' := 174) rfl (hb hby at_170) (by decide) (by decide) ?_
            exact kX
          subst hS0
          obtain ⟨fs, hr, hrun, hended, hend⟩ := X140.leaveW hS (by rw [e140]; exact hk11) (v := (some (.int (1 : Int32)))) (fun h => by rw [Bd.returns] at h; cases h)
          exact ⟨_, _, pre142 _ (retN X140 hx (t := .boolean) Bd.returns (by simp) (hb hby at_174) hr), hrun, hended, _, _, rfl, ⟨rfl, hn0 ▸ N140⟩, hend⟩
        · skip
          have ihc133 : ¬ ((cc).toInt = ((own_G 87 (v116).toInt.toNat)).toInt) := fun q => hc133 (Int32.toInt_inj.mp q)
          have pre143 : ∀ t, own_s p e below T130 m 89 #[iv i0, iv i1, iv i2, rv sa1, rv sa11, iv (16 : Int32), iv (0 : Int32), iv cc, iv v116, .unset, .unset, .unset, .unset] [(.int v116), (.ref sa11), (.int cc)] t → Steps p.tables e below S0 t := by
            intro tX kX
            refine pre132 _ ?_
            show own_s p e below T130 m 80 #[iv i0, iv i1, iv i2, rv sa1, rv sa11, iv (16 : Int32), iv (0 : Int32), iv cc, iv v116, .unset, .unset, .unset, .unset] [(.int (own_G 87 (v116).toInt.toNat)), (.int cc)] _
            refine XS.icmpNo X130.here hx rfl (hb hby at_80) rfl (feq hc133).1 ?_
            show own_s p e below T130 m 83 #[iv i0, iv i1, iv i2, rv sa1, rv sa11, iv (16 : Int32), iv (0 : Int32), iv cc, iv v116, .unset, .unset, .unset, .unset] [] _
            refine XS.iload X130.here hx rfl (hb hby at_83) rfl ?_
            show own_s p e below T130 m 85 #[iv i0, iv i1, iv i2, rv sa1, rv sa11, iv (16 : Int32), iv (0 : Int32), iv cc, iv v116, .unset, .unset, .unset, .unset] [(.int cc)] _
            refine XS.aload X130.here hx rfl (hb hby at_85) rfl rfl ?_
            show own_s p e below T130 m 87 #[iv i0, iv i1, iv i2, rv sa1, rv sa11, iv (16 : Int32), iv (0 : Int32), iv cc, iv v116, .unset, .unset, .unset, .unset] [(.ref sa11), (.int cc)] _
            refine XS.iload X130.here hx rfl (hb hby at_87) rfl ?_
            exact kX
          have gI145 := own_GI (u := 55) (j := (v116).toInt.toNat) (by decide) (by omega)
          obtain ⟨cq144, kq144, q144a, q144b, q144c⟩ := isOf hZ e130 f20_E
          obtain ⟨_, _, ⟨T144, L144, k144, n144⟩, -, X144, ⟨Lc144, hQ144, l144, y144, z144⟩, st144⟩ := X130.virtualBack hx (y := (⟨"java/lang/String", "charAt", "(I)C"⟩ : MethodName)) (z := (⟨"java/lang/String", "charAt", "(I)C"⟩ : MethodName)) hown (mvT hZ (hw _ (List.mem_of_getElem? (i := 14) rfl))) (mvT hZ (hw _ (List.mem_of_getElem? (i := 15) rfl))) (notFace_of_selects (args := #[]) (mvT hZ (hw _ (List.mem_of_getElem? (i := 17) rfl)))) (mvT hZ (hw _ (List.mem_of_getElem? (i := 17) rfl))) (mvT hZ (hw _ (List.mem_of_getElem? (i := 16) rfl))) (by decide) (backOf (W := 1) (rm6 l s a0 hw [] sa11 v116 sb11 (own_G 55) (v116).toInt.toNat w cs h11 n0 Z19 f20_E f21_F f22_F hv f13_S f14_S hc f23_A (fun j hj => by have := own_GI (u := 55) (by decide) hj; omega) (by omega) (by omega)) hZ (hw _ (List.mem_of_getElem? (i := 18) rfl)) (hw _ (List.mem_of_getElem? (i := 1) rfl)) (by decide) (by decide)) q144a q144c (g := (mkF m 89 #[iv i0, iv i1, iv i2, rv sa1, rv sa11, iv (16 : Int32), iv (0 : Int32), iv cc, iv v116, .unset, .unset, .unset, .unset] [(.int v116), (.ref sa11), (.int cc)])) rfl (by rw [hml]; rfl) (Steps.refl _) (argsL := [(.int v116)]) (rest := [(.int cc)]) (lenOf pd0_1 rfl) rfl (by show 2 * 0 + _ ≤ _; exact Nat.le_of_eq rfl) (hb hby at_89) (fun _ _ => ⟨rfl, e130, (by decide : 4 + 0 ≤ _), (by decide : 136 + 0 ≤ _)⟩)
          dsimp only [Pt.U, Pt.locs, Pt.cells, Pt.slots] at X144 l144 y144 z144 st144 hQ144
          subst l144 y144 z144
          obtain ⟨rfl, Nq144, e144⟩ := hQ144
          have N144 := Fr.app N130 Nq144
          have pre146 : ∀ t, own_s p e below T144 m 92 #[iv i0, iv i1, iv i2, rv sa1, rv sa11, iv (16 : Int32), iv (0 : Int32), iv cc, iv v116, .unset, .unset, .unset, .unset] [(.int (own_G 55 (v116).toInt.toNat)), (.int cc)] t → Steps p.tables e below S0 t := fun tX kX => pre143 _ (st144.trans kX)
          have pre147 : ∀ t, own_s p e below T144 m 115 #[iv i0, iv i1, iv i2, rv sa1, rv sa11, iv (16 : Int32), iv (0 : Int32), iv cc, iv v116, iv (1 : Int32), .unset, .unset, .unset] [(.int ((i2 &&& (2147483647 : Int32)) % (16 : Int32)))] t → Steps p.tables e below S0 t := by
            intro tX kX
            refine pre146 _ ?_
            show own_s p e below T144 m 92 #[iv i0, iv i1, iv i2, rv sa1, rv sa11, iv (16 : Int32), iv (0 : Int32), iv cc, iv v116, .unset, .unset, .unset, .unset] [(.int (own_G 55 (v116).toInt.toNat)), (.int cc)] _
            refine XS.icmpNo X144.here hx rfl (hb hby at_92) rfl (teq (own_eqI (show (cc).toInt = ((own_G 55 (v116).toInt.toNat)).toInt from (by omega : (cc).toInt = ((own_G 55 (v116).toInt.toNat)).toInt)))).2 ?_
            show own_s p e below T144 m 95 #[iv i0, iv i1, iv i2, rv sa1, rv sa11, iv (16 : Int32), iv (0 : Int32), iv cc, iv v116, .unset, .unset, .unset, .unset] [] _
            refine XS.iconst X144.here hx rfl (hb hby at_95) ?_
            show own_s p e below T144 m 96 #[iv i0, iv i1, iv i2, rv sa1, rv sa11, iv (16 : Int32), iv (0 : Int32), iv cc, iv v116, .unset, .unset, .unset, .unset] [(.int (1 : Int32))] _
            refine XS.goto X144.here hx rfl (pc0 := 96) (pc' := 100) rfl (hb hby at_96) (by decide) (by decide) ?_
            show own_s p e below T144 m 100 #[iv i0, iv i1, iv i2, rv sa1, rv sa11, iv (16 : Int32), iv (0 : Int32), iv cc, iv v116, .unset, .unset, .unset, .unset] [(.int (1 : Int32))] _
            refine XS.istore X144.here hx rfl (hb hby at_100) rfl (l' := #[iv i0, iv i1, iv i2, rv sa1, rv sa11, iv (16 : Int32), iv (0 : Int32), iv cc, iv v116, iv (1 : Int32), .unset, .unset, .unset]) rfl ?_
            show own_s p e below T144 m 102 #[iv i0, iv i1, iv i2, rv sa1, rv sa11, iv (16 : Int32), iv (0 : Int32), iv cc, iv v116, iv (1 : Int32), .unset, .unset, .unset] [] _
            refine XS.goto X144.here hx rfl (pc0 := 102) (pc' := 108) rfl (hb hby at_102) (by decide) (by decide) ?_
            show own_s p e below T144 m 108 #[iv i0, iv i1, iv i2, rv sa1, rv sa11, iv (16 : Int32), iv (0 : Int32), iv cc, iv v116, iv (1 : Int32), .unset, .unset, .unset] [] _
            refine XS.iloadN X144.here hx rfl (hb hby at_108) rfl ?_
            show own_s p e below T144 m 109 #[iv i0, iv i1, iv i2, rv sa1, rv sa11, iv (16 : Int32), iv (0 : Int32), iv cc, iv v116, iv (1 : Int32), .unset, .unset, .unset] [(.int i2)] _
            refine X144.ldcInt hx hown (mvT hZ (hw _ (List.mem_of_getElem? (i := 13) rfl))) (g := (mkF m 109 #[iv i0, iv i1, iv i2, rv sa1, rv sa11, iv (16 : Int32), iv (0 : Int32), iv cc, iv v116, iv (1 : Int32), .unset, .unset, .unset] [(.int i2)])) rfl (hb hby at_109) _ ?_
            show own_s p e below T144 m 111 #[iv i0, iv i1, iv i2, rv sa1, rv sa11, iv (16 : Int32), iv (0 : Int32), iv cc, iv v116, iv (1 : Int32), .unset, .unset, .unset] [(.int (2147483647 : Int32)), (.int i2)] _
            refine XS.iand X144.here hx rfl (hb hby at_111) rfl ?_
            show own_s p e below T144 m 112 #[iv i0, iv i1, iv i2, rv sa1, rv sa11, iv (16 : Int32), iv (0 : Int32), iv cc, iv v116, iv (1 : Int32), .unset, .unset, .unset] [(.int (i2 &&& (2147483647 : Int32)))] _
            refine XS.iload X144.here hx rfl (hb hby at_112) rfl ?_
            show own_s p e below T144 m 114 #[iv i0, iv i1, iv i2, rv sa1, rv sa11, iv (16 : Int32), iv (0 : Int32), iv cc, iv v116, iv (1 : Int32), .unset, .unset, .unset] [(.int (16 : Int32)), (.int (i2 &&& (2147483647 : Int32)))] _
            refine iremM X144 hx rfl (hb hby at_114) rfl (by decide) ?_
            exact kX
          obtain ⟨vq, hvq⟩ : ∃ z : Int32, z = ((i2 &&& (2147483647 : Int32)) % (16 : Int32)) := ⟨_, rfl⟩
          rw [← hvq] at pre147
          have mk := c_mask i2 2147483647 31 (by decide) (by decide)
          have rr := (c_irem (i2 &&& 2147483647) 16 16 (by decide)).1 (by omega)
          rw [← hvq] at rr
          have pre148 : ∀ t, own_s p e below T144 m 135 #[iv i0, iv i1, iv i2, rv sa1, rv sa11, iv (16 : Int32), iv (0 : Int32), iv cc, iv v116, iv (1 : Int32), iv vq, .unset, .unset] [(.int vq), (.ref sa1)] t → Steps p.tables e below S0 t := by
            intro tX kX
            refine pre147 _ ?_
            show own_s p e below T144 m 115 #[iv i0, iv i1, iv i2, rv sa1, rv sa11, iv (16 : Int32), iv (0 : Int32), iv cc, iv v116, iv (1 : Int32), .unset, .unset, .unset] [(.int vq)] _
            refine XS.istore X144.here hx rfl (hb hby at_115) rfl (l' := #[iv i0, iv i1, iv i2, rv sa1, rv sa11, iv (16 : Int32), iv (0 : Int32), iv cc, iv v116, iv (1 : Int32), iv vq, .unset, .unset]) rfl ?_
            show own_s p e below T144 m 117 #[iv i0, iv i1, iv i2, rv sa1, rv sa11, iv (16 : Int32), iv (0 : Int32), iv cc, iv v116, iv (1 : Int32), iv vq, .unset, .unset] [] _
            refine XS.iload X144.here hx rfl (hb hby at_117) rfl ?_
            show own_s p e below T144 m 119 #[iv i0, iv i1, iv i2, rv sa1, rv sa11, iv (16 : Int32), iv (0 : Int32), iv cc, iv v116, iv (1 : Int32), iv vq, .unset, .unset] [(.int (0 : Int32))] _
            refine XS.ifYes X144.here hx rfl (pc0 := 119) (pc' := 132) rfl (hb hby at_119) rfl ((if0 _ _).trans (teq (by decide : (0 : Int32) = (0 : Int32))).1) (by decide) (by decide) ?_
            show own_s p e below T144 m 132 #[iv i0, iv i1, iv i2, rv sa1, rv sa11, iv (16 : Int32), iv (0 : Int32), iv cc, iv v116, iv (1 : Int32), iv vq, .unset, .unset] [] _
            refine XS.aloadN X144.here hx rfl (hb hby at_132) rfl rfl ?_
            show own_s p e below T144 m 133 #[iv i0, iv i1, iv i2, rv sa1, rv sa11, iv (16 : Int32), iv (0 : Int32), iv cc, iv v116, iv (1 : Int32), iv vq, .unset, .unset] [(.ref sa1)] _
            refine XS.iload X144.here hx rfl (hb hby at_133) rfl ?_
            exact kX
          have gI150 := own_GI (u := 87) (j := (vq).toInt.toNat) (by decide) (by omega)
          obtain ⟨cq149, kq149, q149a, q149b, q149c⟩ := isOf hZ e144 f15_E
          obtain ⟨_, _, ⟨T149, L149, k149, n149⟩, -, X149, ⟨Lc149, hQ149, l149, y149, z149⟩, st149⟩ := X144.virtualBack hx (y := (⟨"java/lang/String", "charAt", "(I)C"⟩ : MethodName)) (z := (⟨"java/lang/String", "charAt", "(I)C"⟩ : MethodName)) hown (mvT hZ (hw _ (List.mem_of_getElem? (i := 14) rfl))) (mvT hZ (hw _ (List.mem_of_getElem? (i := 15) rfl))) (notFace_of_selects (args := #[]) (mvT hZ (hw _ (List.mem_of_getElem? (i := 17) rfl)))) (mvT hZ (hw _ (List.mem_of_getElem? (i := 17) rfl))) (mvT hZ (hw _ (List.mem_of_getElem? (i := 16) rfl))) (by decide) (backOf (W := 0) (rm6 l s a0 hw [] sa1 vq sb1 (own_G 87) (vq).toInt.toNat w cs h11 n0 Z19 f15_E f16_F f17_F hv f13_S f14_S hc f18_A (fun j hj => by have := own_GI (u := 87) (by decide) hj; omega) (by omega) (by omega)) hZ (hw _ (List.mem_of_getElem? (i := 18) rfl)) (hw _ (List.mem_of_getElem? (i := 1) rfl)) (by decide) (by decide)) q149a q149c (g := (mkF m 135 #[iv i0, iv i1, iv i2, rv sa1, rv sa11, iv (16 : Int32), iv (0 : Int32), iv cc, iv v116, iv (1 : Int32), iv vq, .unset, .unset] [(.int vq), (.ref sa1)])) rfl (by rw [hml]; rfl) (Steps.refl _) (argsL := [(.int vq)]) (rest := []) (lenOf pd0_1 rfl) rfl (by show 2 * 0 + _ ≤ _; exact Nat.le_of_eq rfl) (hb hby at_135) (fun _ _ => ⟨rfl, e144, (by decide : 4 + 0 ≤ _), (by decide : 136 + 0 ≤ _)⟩)
          dsimp only [Pt.U, Pt.locs, Pt.cells, Pt.slots] at X149 l149 y149 z149 st149 hQ149
          subst l149 y149 z149
          obtain ⟨rfl, Nq149, e149⟩ := hQ149
          have N149 := Fr.app N144 Nq149
          have pre151 : ∀ t, own_s p e below T149 m 138 #[iv i0, iv i1, iv i2, rv sa1, rv sa11, iv (16 : Int32), iv (0 : Int32), iv cc, iv v116, iv (1 : Int32), iv vq, .unset, .unset] [(.int (own_G 87 (vq).toInt.toNat))] t → Steps p.tables e below S0 t := fun tX kX => pre148 _ (st149.trans kX)
          have pre152 : ∀ t, own_s p e below T149 m 144 #[iv i0, iv i1, iv i2, rv sa1, rv sa11, iv (16 : Int32), iv (0 : Int32), iv cc, iv v116, iv (1 : Int32), iv vq, iv (own_G 87 (vq).toInt.toNat), .unset] [(.int (16 : Int32)), (.int (own_G 87 (vq).toInt.toNat))] t → Steps p.tables e below S0 t := by
            intro tX kX
            refine pre151 _ ?_
            show own_s p e below T149 m 138 #[iv i0, iv i1, iv i2, rv sa1, rv sa11, iv (16 : Int32), iv (0 : Int32), iv cc, iv v116, iv (1 : Int32), iv vq, .unset, .unset] [(.int (own_G 87 (vq).toInt.toNat))] _
            refine XS.istore X149.here hx rfl (hb hby at_138) rfl (l' := #[iv i0, iv i1, iv i2, rv sa1, rv sa11, iv (16 : Int32), iv (0 : Int32), iv cc, iv v116, iv (1 : Int32), iv vq, iv (own_G 87 (vq).toInt.toNat), .unset]) rfl ?_
            show own_s p e below T149 m 140 #[iv i0, iv i1, iv i2, rv sa1, rv sa11, iv (16 : Int32), iv (0 : Int32), iv cc, iv v116, iv (1 : Int32), iv vq, iv (own_G 87 (vq).toInt.toNat), .unset] [] _
            refine XS.iload X149.here hx rfl (hb hby at_140) rfl ?_
            show own_s p e below T149 m 142 #[iv i0, iv i1, iv i2, rv sa1, rv sa11, iv (16 : Int32), iv (0 : Int32), iv cc, iv v116, iv (1 : Int32), iv vq, iv (own_G 87 (vq).toInt.toNat), .unset] [(.int (own_G 87 (vq).toInt.toNat))] _
            refine XS.iload X149.here hx rfl (hb hby at_142) rfl ?_
            exact kX
          obtain ⟨_, _, ⟨T153, L153, k153, n153⟩, -, X153, ⟨Lc153, hQ153, l153, y153, z153⟩, st153⟩ := Jvm.LawKit.callS X149 hx (y := (⟨"com/example/osier/osier/xml/XmlChars", "digitValue", "(CI)I"⟩ : MethodName)) hown (mvT hZ (hw _ (List.mem_of_getElem? (i := 9) rfl))) (mvT hZ (hw _ (List.mem_of_getElem? (i := 10) rfl))) (mvT hZ (hw _ (List.mem_of_getElem? (i := 11) rfl))) (mvT hZ (hw _ (List.mem_of_getElem? (i := 12) rfl))) (by decide) (backOf (W := 0) (rm1 l s a0 hw [] (own_G 87 (vq).toInt.toNat) (16 : Int32)  h11 n0 Z19 (by omega) (by omega)) hZ (hw _ (List.mem_of_getElem? (i := 12) rfl)) (hw _ (List.mem_of_getElem? (i := 11) rfl)) (by decide) (by decide)) (g := (mkF m 144 #[iv i0, iv i1, iv i2, rv sa1, rv sa11, iv (16 : Int32), iv (0 : Int32), iv cc, iv v116, iv (1 : Int32), iv vq, iv (own_G 87 (vq).toInt.toNat), .unset] [(.int (16 : Int32)), (.int (own_G 87 (vq).toInt.toNat))])) rfl (by rw [hml]; rfl) (argsL := [(.int (own_G 87 (vq).toInt.toNat)), (.int (16 : Int32))]) (rest := []) (lenOf pd0_0 rfl) rfl (by show 2 * 0 + _ ≤ _; exact Nat.le_of_eq rfl) (hb hby at_144) (fun _ _ => ⟨rfl, e149, (by decide : 4 + 0 ≤ _), (by decide : 136 + 0 ≤ _)⟩)
          dsimp only [Pt.U, Pt.locs, Pt.cells, Pt.slots] at X153 l153 y153 z153 st153 hQ153
          subst l153 y153 z153
          obtain ⟨⟨v153, rfl, B153⟩, Nq153, e153⟩ := hQ153
          unfold own_DV at B153
          have N153 := Fr.app N149 Nq153
          have pre154 : ∀ t, own_s p e below T153 m 147 #[iv i0, iv i1, iv i2, rv sa1, rv sa11, iv (16 : Int32), iv (0 : Int32), iv cc, iv v116, iv (1 : Int32), iv vq, iv (own_G 87 (vq).toInt.toNat), .unset] [(.int v153)] t → Steps p.tables e below S0 t := fun tX kX => pre152 _ (st153 _ kX)
          have pre155 : ∀ t, own_s p e below T153 m 174 #[iv i0, iv i1, iv i2, rv sa1, rv sa11, iv (16 : Int32), iv (0 : Int32), iv cc, iv v116, iv (1 : Int32), iv vq, iv (own_G 87 (vq).toInt.toNat), iv (1 : Int32)] [(.int (1 : Int32))] t → Steps p.tables e below S0 t := by
            intro tX kX
            refine pre154 _ ?_
            show own_s p e below T153 m 147 #[iv i0, iv i1, iv i2, rv sa1, rv sa11, iv (16 : Int32), iv (0 : Int32), iv cc, iv v116, iv (1 : Int32), iv vq, iv (own_G 87 (vq).toInt.toNat), .unset] [(.int v153)] _
            refine XS.iload X153.here hx rfl (hb hby at_147) rfl ?_
            show own_s p e below T153 m 149 #[iv i0, iv i1, iv i2, rv sa1, rv sa11, iv (16 : Int32), iv (0 : Int32), iv cc, iv v116, iv (1 : Int32), iv vq, iv (own_G 87 (vq).toInt.toNat), .unset] [(.int vq), (.int v153)] _
            refine XS.icmpNo X153.here hx rfl (hb hby at_149) rfl (teq (own_eqI (show (v153).toInt = (vq).toInt from (by omega : (v153).toInt = (vq).toInt)))).2 ?_
            show own_s p e below T153 m 152 #[iv i0, iv i1, iv i2, rv sa1, rv sa11, iv (16 : Int32), iv (0 : Int32), iv cc, iv v116, iv (1 : Int32), iv vq, iv (own_G 87 (vq).toInt.toNat), .unset] [] _
            refine XS.iconst X153.here hx rfl (hb hby at_152) ?_
            show own_s p e below T153 m 153 #[iv i0, iv i1, iv i2, rv sa1, rv sa11, iv (16 : Int32), iv (0 : Int32), iv cc, iv v116, iv (1 : Int32), iv vq, iv (own_G 87 (vq).toInt.toNat), .unset] [(.int (1 : Int32))] _
            refine XS.goto X153.here hx rfl (pc0 := 153) (pc' := 157) rfl (hb hby at_153) (by decide) (by decide) ?_
            show own_s p e below T153 m 157 #[iv i0, iv i1, iv i2, rv sa1, rv sa11, iv (16 : Int32), iv (0 : Int32), iv cc, iv v116, iv (1 : Int32), iv vq, iv (own_G 87 (vq).toInt.toNat), .unset] [(.int (1 : Int32))] _
            refine XS.istore X153.here hx rfl (hb hby at_157) rfl (l' := #[iv i0, iv i1, iv i2, rv sa1, rv sa11, iv (16 : Int32), iv (0 : Int32), iv cc, iv v116, iv (1 : Int32), iv vq, iv (own_G 87 (vq).toInt.toNat), iv (1 : Int32)]) rfl ?_
            show own_s p e below T153 m 159 #[iv i0, iv i1, iv i2, rv sa1, rv sa11, iv (16 : Int32), iv (0 : Int32), iv cc, iv v116, iv (1 : Int32), iv vq, iv (own_G 87 (vq).toInt.toNat), iv (1 : Int32)] [] _
            refine XS.iload X153.here hx rfl (hb hby at_159) rfl ?_
            show own_s p e below T153 m 161 #[iv i0, iv i1, iv i2, rv sa1, rv sa11, iv (16 : Int32), iv (0 : Int32), iv cc, iv v116, iv (1 : Int32), iv vq, iv (own_G 87 (vq).toInt.toNat), iv (1 : Int32)] [(.int (1 : Int32))] _
            refine XS.ifNo X153.here hx rfl (hb hby at_161) rfl ((if0 _ _).trans (feq (by decide : ¬ ((1 : Int32) = (0 : Int32)))).1) ?_
            show own_s p e below T153 m 164 #[iv i0, iv i1, iv i2, rv sa1, rv sa11, iv (16 : Int32), iv (0 : Int32), iv cc, iv v116, iv (1 : Int32), iv vq, iv (own_G 87 (vq).toInt.toNat), iv (1 : Int32)] [] _
            refine XS.iload X153.here hx rfl (hb hby at_164) rfl ?_
            show own_s p e below T153 m 166 #[iv i0, iv i1, iv i2, rv sa1, rv sa11, iv (16 : Int32), iv (0 : Int32), iv cc, iv v116, iv (1 : Int32), iv vq, iv (own_G 87 (vq).toInt.toNat), iv (1 : Int32)] [(.int (1 : Int32))] _
            refine XS.ifNo X153.here hx rfl (hb hby at_166) rfl ((if0 _ _).trans (feq (by decide : ¬ ((1 : Int32) = (0 : Int32)))).1) ?_
            show own_s p e below T153 m 169 #[iv i0, iv i1, iv i2, rv sa1, rv sa11, iv (16 : Int32), iv (0 : Int32), iv cc, iv v116, iv (1 : Int32), iv vq, iv (own_G 87 (vq).toInt.toNat), iv (1 : Int32)] [] _
            refine XS.iconst X153.here hx rfl (hb hby at_169) ?_
            show own_s p e below T153 m 170 #[iv i0, iv i1, iv i2, rv sa1, rv sa11, iv (16 : Int32), iv (0 : Int32), iv cc, iv v116, iv (1 : Int32), iv vq, iv (own_G 87 (vq).toInt.toNat), iv (1 : Int32)] [(.int (1 : Int32))] _
            refine XS.goto X153.here hx rfl (pc0 := 170) (pc' := 174) rfl (hb hby at_170) (by decide) (by decide) ?_
            exact kX
          subst hS0
          obtain ⟨fs, hr, hrun, hended, hend⟩ := X153.leaveW hS (by rw [e153]; exact hk11) (v := (some (.int (1 : Int32)))) (fun h => by rw [Bd.returns] at h; cases h)
          exact ⟨_, _, pre155 _ (retN X153 hx (t := .boolean) Bd.returns (by simp) (hb hby at_174) hr), hrun, hended, _, _, rfl, ⟨rfl, hn0 ▸ N153⟩, hend⟩
    · skip
      have ihc113 : ¬ (((i1 &&& (2 : Int32))).toInt = (0 : Int)) := fun q => hc113 (Int32.toInt_inj.mp q)
      have pre156 : ∀ t, own_s p e below T11 m 37 #[iv i0, iv i1, iv i2, rv sa1, rv sa11, iv (16 : Int32), iv (1 : Int32), .unset, .unset, .unset, .unset, .unset, .unset] [(.int (i0.toUInt32.toUInt16.toUInt32.toInt32))] t → Steps p.tables e below S0 t := by
        intro tX kX
        refine pre112 _ ?_
        show own_s p e below T11 m 25 #[iv i0, iv i1, iv i2, rv sa1, rv sa11, iv (16 : Int32), .unset, .unset, .unset, .unset, .unset, .unset, .unset] [(.int (i1 &&& (2 : Int32)))] _
        refine XS.ifNo X11.here hx rfl (hb hby at_25) rfl ((if0 _ _).trans (feq hc113).1) ?_
        show own_s p e below T11 m 28 #[iv i0, iv i1, iv i2, rv sa1, rv sa11, iv (16 : Int32), .unset, .unset, .unset, .unset, .unset, .unset, .unset] [] _
        refine XS.iconst X11.here hx rfl (hb hby at_28) ?_
        show own_s p e below T11 m 29 #[iv i0, iv i1, iv i2, rv sa1, rv sa11, iv (16 : Int32), .unset, .unset, .unset, .unset, .unset, .unset, .unset] [(.int (1 : Int32))] _
        refine XS.goto X11.here hx rfl (pc0 := 29) (pc' := 33) rfl (hb hby at_29) (by decide) (by decide) ?_
        show own_s p e below T11 m 33 #[iv i0, iv i1, iv i2, rv sa1, rv sa11, iv (16 : Int32), .unset, .unset, .unset, .unset, .unset, .unset, .unset] [(.int (1 : Int32))] _
        refine XS.istore X11.here hx rfl (hb hby at_33) rfl (l' := #[iv i0, iv i1, iv i2, rv sa1, rv sa11, iv (16 : Int32), iv (1 : Int32), .unset, .unset, .unset, .unset, .unset, .unset]) rfl ?_
        show own_s p e below T11 m 35 #[iv i0, iv i1, iv i2, rv sa1, rv sa11, iv (16 : Int32), iv (1 : Int32), .unset, .unset, .unset, .unset, .unset, .unset] [] _
        refine XS.iloadN X11.here hx rfl (hb hby at_35) rfl ?_
        show own_s p e below T11 m 36 #[iv i0, iv i1, iv i2, rv sa1, rv sa11, iv (16 : Int32), iv (1 : Int32), .unset, .unset, .unset, .unset, .unset, .unset] [(.int i0)] _
        refine XS.i2c X11.here hx rfl (hb hby at_36) rfl ?_
        exact kX
      obtain ⟨cc, hcc⟩ : ∃ z : Int32, z = (i0.toUInt32.toUInt16.toUInt32.toInt32) := ⟨_, rfl⟩
      rw [← hcc] at pre156
      have bc := c_i2c i0
      rw [← hcc] at bc
      have pre157 : ∀ t, own_s p e below T11 m 43 #[iv i0, iv i1, iv i2, rv sa1, rv sa11, iv (16 : Int32), iv (1 : Int32), iv cc, .unset, .unset, .unset, .unset, .unset] [(.int (16 : Int32)), (.int cc)] t → Steps p.tables e below S0 t := by
        intro tX kX
        refine pre156 _ ?_
        show own_s p e below T11 m 37 #[iv i0, iv i1, iv i2, rv sa1, rv sa11, iv (16 : Int32), iv (1 : Int32), .unset, .unset, .unset, .unset, .unset, .unset] [(.int cc)] _
        refine XS.istore X11.here hx rfl (hb hby at_37) rfl (l' := #[iv i0, iv i1, iv i2, rv sa1, rv sa11, iv (16 : Int32), iv (1 : Int32), iv cc, .unset, .unset, .unset, .unset, .unset]) rfl ?_
        show own_s p e below T11 m 39 #[iv i0, iv i1, iv i2, rv sa1, rv sa11, iv (16 : Int32), iv (1 : Int32), iv cc, .unset, .unset, .unset, .unset, .unset] [] _
        refine XS.iload X11.here hx rfl (hb hby at_39) rfl ?_
        show own_s p e below T11 m 41 #[iv i0, iv i1, iv i2, rv sa1, rv sa11, iv (16 : Int32), iv (1 : Int32), iv cc, .unset, .unset, .unset, .unset, .unset] [(.int cc)] _
        refine XS.iload X11.here hx rfl (hb hby at_41) rfl ?_
        exact kX
      obtain ⟨_, _, ⟨T158, L158, k158, n158⟩, -, X158, ⟨Lc158, hQ158, l158, y158, z158⟩, st158⟩ := Jvm.LawKit.callS X11 hx (y := (⟨"com/example/osier/osier/xml/XmlChars", "digitValue", "(CI)I"⟩ : MethodName)) hown (mvT hZ (hw _ (List.mem_of_getElem? (i := 9) rfl))) (mvT hZ (hw _ (List.mem_of_getElem? (i := 10) rfl))) (mvT hZ (hw _ (List.mem_of_getElem? (i := 11) rfl))) (mvT hZ (hw _ (List.mem_of_getElem? (i := 12) rfl))) (by decide) (backOf (W := 0) (rm1 l s a0 hw [] cc (16 : Int32)  h11 n0 Z19 (by omega) (by omega)) hZ (hw _ (List.mem_of_getElem? (i := 12) rfl)) (hw _ (List.mem_of_getElem? (i := 11) rfl)) (by decide) (by decide)) (g := (mkF m 43 #[iv i0, iv i1, iv i2, rv sa1, rv sa11, iv (16 : Int32), iv (1 : Int32), iv cc, .unset, .unset, .unset, .unset, .unset] [(.int (16 : Int32)), (.int cc)])) rfl (by rw [hml]; rfl) (argsL := [(.int cc), (.int (16 : Int32))]) (rest := []) (lenOf pd0_0 rfl) rfl (by show 2 * 0 + _ ≤ _; exact Nat.le_of_eq rfl) (hb hby at_43) (fun _ _ => ⟨rfl, e11, (by decide : 4 + 0 ≤ _), (by decide : 136 + 0 ≤ _)⟩)
      dsimp only [Pt.U, Pt.locs, Pt.cells, Pt.slots] at X158 l158 y158 z158 st158 hQ158
      subst l158 y158 z158
      obtain ⟨⟨v158, rfl, B158⟩, Nq158, e158⟩ := hQ158
      unfold own_DV at B158
      have N158 := Fr.app N0 Nq158
      have pre159 : ∀ t, own_s p e below T158 m 46 #[iv i0, iv i1, iv i2, rv sa1, rv sa11, iv (16 : Int32), iv (1 : Int32), iv cc, .unset, .unset, .unset, .unset, .unset] [(.int v158)] t → Steps p.tables e below S0 t := fun tX kX => pre157 _ (st158 _ kX)
      have pre160 : ∀ t, own_s p e below T158 m 51 #[iv i0, iv i1, iv i2, rv sa1, rv sa11, iv (16 : Int32), iv (1 : Int32), iv cc, iv v158, .unset, .unset, .unset, .unset] [(.int (-1 : Int32)), (.int v158)] t → Steps p.tables e below S0 t := by
        intro tX kX
        refine pre159 _ ?_
        show own_s p e below T158 m 46 #[iv i0, iv i1, iv i2, rv sa1, rv sa11, iv (16 : Int32), iv (1 : Int32), iv cc, .unset, .unset, .unset, .unset, .unset] [(.int v158)] _
        refine XS.istore X158.here hx rfl (hb hby at_46) rfl (l' := #[iv i0, iv i1, iv i2, rv sa1, rv sa11, iv (16 : Int32), iv (1 : Int32), iv cc, iv v158, .unset, .unset, .unset, .unset]) rfl ?_
        show own_s p e below T158 m 48 #[iv i0, iv i1, iv i2, rv sa1, rv sa11, iv (16 : Int32), iv (1 : Int32), iv cc, iv v158, .unset, .unset, .unset, .unset] [] _
        refine XS.iload X158.here hx rfl (hb hby at_48) rfl ?_
        show own_s p e below T158 m 50 #[iv i0, iv i1, iv i2, rv sa1, rv sa11, iv (16 : Int32), iv (1 : Int32), iv cc, iv v158, .unset, .unset, .unset, .unset] [(.int v158)] _
        refine XS.iconst X158.here hx rfl (hb hby at_50) ?_
        exact kX
      by_cases hc161 : v158 = (-1 : Int32)
      · skip
        have ihc161 : (v158).toInt = (-1 : Int) := congrArg Int32.toInt hc161
        have pre162 : ∀ t, own_s p e below T158 m 115 #[iv i0, iv i1, iv i2, rv sa1, rv sa11, iv (16 : Int32), iv (1 : Int32), iv cc, iv v158, iv (1 : Int32), .unset, .unset, .unset] [(.int ((i2 &&& (2147483647 : Int32)) % (16 : Int32)))] t → Steps p.tables e below S0 t := by
          intro tX kX
          refine pre160 _ ?_
          show own_s p e below T158 m 51 #[iv i0, iv i1, iv i2, rv sa1, rv sa11, iv (16 : Int32), iv (1 : Int32), iv cc, iv v158, .unset, .unset, .unset, .unset] [(.int (-1 : Int32)), (.int v158)] _
          refine XS.icmpNo X158.here hx rfl (hb hby at_51) rfl (teq hc161).2 ?_
          show own_s p e below T158 m 54 #[iv i0, iv i1, iv i2, rv sa1, rv sa11, iv (16 : Int32), iv (1 : Int32), iv cc, iv v158, .unset, .unset, .unset, .unset] [] _
          refine XS.iconst X158.here hx rfl (hb hby at_54) ?_
          show own_s p e below T158 m 55 #[iv i0, iv i1, iv i2, rv sa1, rv sa11, iv (16 : Int32), iv (1 : Int32), iv cc, iv v158, .unset, .unset, .unset, .unset] [(.int (1 : Int32))] _
          refine XS.istore X158.here hx rfl (hb hby at_55) rfl (l' := #[iv i0, iv i1, iv i2, rv sa1, rv sa11, iv (16 : Int32), iv (1 : Int32), iv cc, iv v158, iv (1 : Int32), .unset, .unset, .unset]) rfl ?_
          show own_s p e below T158 m 57 #[iv i0, iv i1, iv i2, rv sa1, rv sa11, iv (16 : Int32), iv (1 : Int32), iv cc, iv v158, iv (1 : Int32), .unset, .unset, .unset] [] _
          refine XS.goto X158.here hx rfl (pc0 := 57) (pc' := 108) rfl (hb hby at_57) (by decide) (by decide) ?_
          show own_s p e below T158 m 108 #[iv i0, iv i1, iv i2, rv sa1, rv sa11, iv (16 : Int32), iv (1 : Int32), iv cc, iv v158, iv (1 : Int32), .unset, .unset, .unset] [] _
          refine XS.iloadN X158.here hx rfl (hb hby at_108) rfl ?_
          show own_s p e below T158 m 109 #[iv i0, iv i1, iv i2, rv sa1, rv sa11, iv (16 : Int32), iv (1 : Int32), iv cc, iv v158, iv (1 : Int32), .unset, .unset, .unset] [(.int i2)] _
          refine X158.ldcInt hx hown (mvT hZ (hw _ (List.mem_of_getElem? (i := 13) rfl))) (g := (mkF m 109 #[iv i0, iv i1, iv i2, rv sa1, rv sa11, iv (16 : Int32), iv (1 : Int32), iv cc, iv v158, iv (1 : Int32), .unset, .unset, .unset] [(.int i2)])) rfl (hb hby at_109) _ ?_
          show own_s p e below T158 m 111 #[iv i0, iv i1, iv i2, rv sa1, rv sa11, iv (16 : Int32), iv (1 : Int32), iv cc, iv v158, iv (1 : Int32), .unset, .unset, .unset] [(.int (2147483647 : Int32)), (.int i2)] _
          refine XS.iand X158.here hx rfl (hb hby at_111) rfl ?_
          show own_s p e below T158 m 112 #[iv i0, iv i1, iv i2, rv sa1, rv sa11, iv (16 : Int32), iv (1 : Int32), iv cc, iv v158, iv (1 : Int32), .unset, .unset, .unset] [(.int (i2 &&& (2147483647 : Int32)))] _
          refine XS.iload X158.here hx rfl (hb hby at_112) rfl ?_
          show own_s p e below T158 m 114 #[iv i0, iv i1, iv i2, rv sa1, rv sa11, iv (16 : Int32), iv (1 : Int32), iv cc, iv v158, iv (1 : Int32), .unset, .unset, .unset] [(.int (16 : Int32)), (.int (i2 &&& (2147483647 : Int32)))] _
          refine iremM X158 hx rfl (hb hby at_114) rfl (by decide) ?_
          exact kX
        obtain ⟨vq, hvq⟩ : ∃ z : Int32, z = ((i2 &&& (2147483647 : Int32)) % (16 : Int32)) := ⟨_, rfl⟩
        rw [← hvq] at pre162
        have mk := c_mask i2 2147483647 31 (by decide) (by decide)
        have rr := (c_irem (i2 &&& 2147483647) 16 16 (by decide)).1 (by omega)
        rw [← hvq] at rr
        have pre163 : ∀ t, own_s p e below T158 m 126 #[iv i0, iv i1, iv i2, rv sa1, rv sa11, iv (16 : Int32), iv (1 : Int32), iv cc, iv v158, iv (1 : Int32), iv vq, .unset, .unset] [(.int vq), (.ref sa11)] t → Steps p.tables e below S0 t := by
          intro tX kX
          refine pre162 _ ?_
          show own_s p e below T158 m 115 #[iv i0, iv i1, iv i2, rv sa1, rv sa11, iv (16 : Int32), iv (1 : Int32), iv cc, iv v158, iv (1 : Int32), .unset, .unset, .unset] [(.int vq)] _
          refine XS.istore X158.here hx rfl (hb hby at_115) rfl (l' := #[iv i0, iv i1, iv i2, rv sa1, rv sa11, iv (16 : Int32), iv (1 : Int32), iv cc, iv v158, iv (1 : Int32), iv vq, .unset, .unset]) rfl ?_
          show own_s p e below T158 m 117 #[iv i0, iv i1, iv i2, rv sa1, rv sa11, iv (16 : Int32), iv (1 : Int32), iv cc, iv v158, iv (1 : Int32), iv vq, .unset, .unset] [] _
          refine XS.iload X158.here hx rfl (hb hby at_117) rfl ?_
          show own_s p e below T158 m 119 #[iv i0, iv i1, iv i2, rv sa1, rv sa11, iv (16 : Int32), iv (1 : Int32), iv cc, iv v158, iv (1 : Int32), iv vq, .unset, .unset] [(.int (1 : Int32))] _
          refine XS.ifNo X158.here hx rfl (hb hby at_119) rfl ((if0 _ _).trans (feq (by decide : ¬ ((1 : Int32) = (0 : Int32)))).1) ?_
          show own_s p e below T158 m 122 #[iv i0, iv i1, iv i2, rv sa1, rv sa11, iv (16 : Int32), iv (1 : Int32), iv cc, iv v158, iv (1 : Int32), iv vq, .unset, .unset] [] _
          refine XS.aload X158.here hx rfl (hb hby at_122) rfl rfl ?_
          show own_s p e below T158 m 124 #[iv i0, iv i1, iv i2, rv sa1, rv sa11, iv (16 : Int32), iv (1 : Int32), iv cc, iv v158, iv (1 : Int32), iv vq, .unset, .unset] [(.ref sa11)] _
          refine XS.iload X158.here hx rfl (hb hby at_124) rfl ?_
          exact kX
        have gI165 := own_GI (u := 55) (j := (vq).toInt.toNat) (by decide) (by omega)
        obtain ⟨cq164, kq164, q164a, q164b, q164c⟩ := isOf hZ e158 f20_E
        obtain ⟨_, _, ⟨T164, L164, k164, n164⟩, -, X164, ⟨Lc164, hQ164, l164, y164, z164⟩, st164⟩ := X158.virtualBack hx (y := (⟨"java/lang/String", "charAt", "(I)C"⟩ : MethodName)) (z := (⟨"java/lang/String", "charAt", "(I)C"⟩ : MethodName)) hown (mvT hZ (hw _ (List.mem_of_getElem? (i := 14) rfl))) (mvT hZ (hw _ (List.mem_of_getElem? (i := 15) rfl))) (notFace_of_selects (args := #[]) (mvT hZ (hw _ (List.mem_of_getElem? (i := 17) rfl)))) (mvT hZ (hw _ (List.mem_of_getElem? (i := 17) rfl))) (mvT hZ (hw _ (List.mem_of_getElem? (i := 16) rfl))) (by decide) (backOf (W := 0) (rm6 l s a0 hw [] sa11 vq sb11 (own_G 55) (vq).toInt.toNat w cs h11 n0 Z19 f20_E f21_F f22_F hv f13_S f14_S hc f23_A (fun j hj => by have := own_GI (u := 55) (by decide) hj; omega) (by omega) (by omega)) hZ (hw _ (List.mem_of_getElem? (i := 18) rfl)) (hw _ (List.mem_of_getElem? (i := 1) rfl)) (by decide) (by decide)) q164a q164c (g := (mkF m 126 #[iv i0, iv i1, iv i2, rv sa1, rv sa11, iv (16 : Int32), iv (1 : Int32), iv cc, iv v158, iv (1 : Int32), iv vq, .unset, .unset] [(.int vq), (.ref sa11)])) rfl (by rw [hml]; rfl) (Steps.refl _) (argsL := [(.int vq)]) (rest := []) (lenOf pd0_1 rfl) rfl (by show 2 * 0 + _ ≤ _; exact Nat.le_of_eq rfl) (hb hby at_126) (fun _ _ => ⟨rfl, e158, (by decide : 4 + 0 ≤ _), (by decide : 136 + 0 ≤ _)⟩)
        dsimp only [Pt.U, Pt.locs, Pt.cells, Pt.slots] at X164 l164 y164 z164 st164 hQ164
        subst l164 y164 z164
        obtain ⟨rfl, Nq164, e164⟩ := hQ164
        have N164 := Fr.app N158 Nq164
        have pre166 : ∀ t, own_s p e below T164 m 129 #[iv i0, iv i1, iv i2, rv sa1, rv sa11, iv (16 : Int32), iv (1 : Int32), iv cc, iv v158, iv (1 : Int32), iv vq, .unset, .unset] [(.int (own_G 55 (vq).toInt.toNat))] t → Steps p.tables e below S0 t := fun tX kX => pre163 _ (st164.trans kX)
        have pre167 : ∀ t, own_s p e below T164 m 144 #[iv i0, iv i1, iv i2, rv sa1, rv sa11, iv (16 : Int32), iv (1 : Int32), iv cc, iv v158, iv (1 : Int32), iv vq, iv (own_G 55 (vq).toInt.toNat), .unset] [(.int (16 : Int32)), (.int (own_G 55 (vq).toInt.toNat))] t → Steps p.tables e below S0 t := by
          intro tX kX
          refine pre166 _ ?_
          show own_s p e below T164 m 129 #[iv i0, iv i1, iv i2, rv sa1, rv sa11, iv (16 : Int32), iv (1 : Int32), iv cc, iv v158, iv (1 : Int32), iv vq, .unset, .unset] [(.int (own_G 55 (vq).toInt.toNat))] _
          refine XS.goto X164.here hx rfl (pc0 := 129) (pc' := 138) rfl (hb hby at_129) (by decide) (by decide) ?_
          show own_s p e below T164 m 138 #[iv i0, iv i1, iv i2, rv sa1, rv sa11, iv (16 : Int32), iv (1 : Int32), iv cc, iv v158, iv (1 : Int32), iv vq, .unset, .unset] [(.int (own_G 55 (vq).toInt.toNat))] _
          refine XS.istore X164.here hx rfl (hb hby at_138) rfl (l' := #[iv i0, iv i1, iv i2, rv sa1, rv sa11, iv (16 : Int32), iv (1 : Int32), iv cc, iv v158, iv (1 : Int32), iv vq, iv (own_G 55 (vq).toInt.toNat), .unset]) rfl ?_
          show own_s p e below T164 m 140 #[iv i0, iv i1, iv i2, rv sa1, rv sa11, iv (16 : Int32), iv (1 : Int32), iv cc, iv v158, iv (1 : Int32), iv vq, iv (own_G 55 (vq).toInt.toNat), .unset] [] _
          refine XS.iload X164.here hx rfl (hb hby at_140) rfl ?_
          show own_s p e below T164 m 142 #[iv i0, iv i1, iv i2, rv sa1, rv sa11, iv (16 : Int32), iv (1 : Int32), iv cc, iv v158, iv (1 : Int32), iv vq, iv (own_G 55 (vq).toInt.toNat), .unset] [(.int (own_G 55 (vq).toInt.toNat))] _
          refine XS.iload X164.here hx rfl (hb hby at_142) rfl ?_
          exact kX
        obtain ⟨_, _, ⟨T168, L168, k168, n168⟩, -, X168, ⟨Lc168, hQ168, l168, y168, z168⟩, st168⟩ := Jvm.LawKit.callS X164 hx (y := (⟨"com/example/osier/osier/xml/XmlChars", "digitValue", "(CI)I"⟩ : MethodName)) hown (mvT hZ (hw _ (List.mem_of_getElem? (i := 9) rfl))) (mvT hZ (hw _ (List.mem_of_getElem? (i := 10) rfl))) (mvT hZ (hw _ (List.mem_of_getElem? (i := 11) rfl))) (mvT hZ (hw _ (List.mem_of_getElem? (i := 12) rfl))) (by decide) (backOf (W := 0) (rm1 l s a0 hw [] (own_G 55 (vq).toInt.toNat) (16 : Int32)  h11 n0 Z19 (by omega) (by omega)) hZ (hw _ (List.mem_of_getElem? (i := 12) rfl)) (hw _ (List.mem_of_getElem? (i := 11) rfl)) (by decide) (by decide)) (g := (mkF m 144 #[iv i0, iv i1, iv i2, rv sa1, rv sa11, iv (16 : Int32), iv (1 : Int32), iv cc, iv v158, iv (1 : Int32), iv vq, iv (own_G 55 (vq).toInt.toNat), .unset] [(.int (16 : Int32)), (.int (own_G 55 (vq).toInt.toNat))])) rfl (by rw [hml]; rfl) (argsL := [(.int (own_G 55 (vq).toInt.toNat)), (.int (16 : Int32))]) (rest := []) (lenOf pd0_0 rfl) rfl (by show 2 * 0 + _ ≤ _; exact Nat.le_of_eq rfl) (hb hby at_144) (fun _ _ => ⟨rfl, e164, (by decide : 4 + 0 ≤ _), (by decide : 136 + 0 ≤ _)⟩)
        dsimp only [Pt.U, Pt.locs, Pt.cells, Pt.slots] at X168 l168 y168 z168 st168 hQ168
        subst l168 y168 z168
        obtain ⟨⟨v168, rfl, B168⟩, Nq168, e168⟩ := hQ168
        unfold own_DV at B168
        have N168 := Fr.app N164 Nq168
        have pre169 : ∀ t, own_s p e below T168 m 147 #[iv i0, iv i1, iv i2, rv sa1, rv sa11, iv (16 : Int32), iv (1 : Int32), iv cc, iv v158, iv (1 : Int32), iv vq, iv (own_G 55 (vq).toInt.toNat), .unset] [(.int v168)] t → Steps p.tables e below S0 t := fun tX kX => pre167 _ (st168 _ kX)
        have pre170 : ∀ t, own_s p e below T168 m 174 #[iv i0, iv i1, iv i2, rv sa1, rv sa11, iv (16 : Int32), iv (1 : Int32), iv cc, iv v158, iv (1 : Int32), iv vq, iv (own_G 55 (vq).toInt.toNat), iv (1 : Int32)] [(.int (1 : Int32))] t → Steps p.tables e below S0 t := by
          intro tX kX
          refine pre169 _ ?_
          show own_s p e below T168 m 147 #[iv i0, iv i1, iv i2, rv sa1, rv sa11, iv (16 : Int32), iv (1 : Int32), iv cc, iv v158, iv (1 : Int32), iv vq, iv (own_G 55 (vq).toInt.toNat), .unset] [(.int v168)] _
          refine XS.iload X168.here hx rfl (hb hby at_147) rfl ?_
          show own_s p e below T168 m 149 #[iv i0, iv i1, iv i2, rv sa1, rv sa11, iv (16 : Int32), iv (1 : Int32), iv cc, iv v158, iv (1 : Int32), iv vq, iv (own_G 55 (vq).toInt.toNat), .unset] [(.int vq), (.int v168)] _
          refine XS.icmpNo X168.here hx rfl (hb hby at_149) rfl (teq (own_eqI (show (v168).toInt = (vq).toInt from (by omega : (v168).toInt = (vq).toInt)))).2 ?_
          show own_s p e below T168 m 152 #[iv i0, iv i1, iv i2, rv sa1, rv sa11, iv (16 : Int32), iv (1 : Int32), iv cc, iv v158, iv (1 : Int32), iv vq, iv (own_G 55 (vq).toInt.toNat), .unset] [] _
          refine XS.iconst X168.here hx rfl (hb hby at_152) ?_
          show own_s p e below T168 m 153 #[iv i0, iv i1, iv i2, rv sa1, rv sa11, iv (16 : Int32), iv (1 : Int32), iv cc, iv v158, iv (1 : Int32), iv vq, iv (own_G 55 (vq).toInt.toNat), .unset] [(.int (1 : Int32))] _
          refine XS.goto X168.here hx rfl (pc0 := 153) (pc' := 157) rfl (hb hby at_153) (by decide) (by decide) ?_
          show own_s p e below T168 m 157 #[iv i0, iv i1, iv i2, rv sa1, rv sa11, iv (16 : Int32), iv (1 : Int32), iv cc, iv v158, iv (1 : Int32), iv vq, iv (own_G 55 (vq).toInt.toNat), .unset] [(.int (1 : Int32))] _
          refine XS.istore X168.here hx rfl (hb hby at_157) rfl (l' := #[iv i0, iv i1, iv i2, rv sa1, rv sa11, iv (16 : Int32), iv (1 : Int32), iv cc, iv v158, iv (1 : Int32), iv vq, iv (own_G 55 (vq).toInt.toNat), iv (1 : Int32)]) rfl ?_
          show own_s p e below T168 m 159 #[iv i0, iv i1, iv i2, rv sa1, rv sa11, iv (16 : Int32), iv (1 : Int32), iv cc, iv v158, iv (1 : Int32), iv vq, iv (own_G 55 (vq).toInt.toNat), iv (1 : Int32)] [] _
          refine XS.iload X168.here hx rfl (hb hby at_159) rfl ?_
          show own_s p e below T168 m 161 #[iv i0, iv i1, iv i2, rv sa1, rv sa11, iv (16 : Int32), iv (1 : Int32), iv cc, iv v158, iv (1 : Int32), iv vq, iv (own_G 55 (vq).toInt.toNat), iv (1 : Int32)] [(.int (1 : Int32))] _
          refine XS.ifNo X168.here hx rfl (hb hby at_161) rfl ((if0 _ _).trans (feq (by decide : ¬ ((1 : Int32) = (0 : Int32)))).1) ?_
          show own_s p e below T168 m 164 #[iv i0, iv i1, iv i2, rv sa1, rv sa11, iv (16 : Int32), iv (1 : Int32), iv cc, iv v158, iv (1 : Int32), iv vq, iv (own_G 55 (vq).toInt.toNat), iv (1 : Int32)] [] _
          refine XS.iload X168.here hx rfl (hb hby at_164) rfl ?_
          show own_s p e below T168 m 166 #[iv i0, iv i1, iv i2, rv sa1, rv sa11, iv (16 : Int32), iv (1 : Int32), iv cc, iv v158, iv (1 : Int32), iv vq, iv (own_G 55 (vq).toInt.toNat), iv (1 : Int32)] [(.int (1 : Int32))] _
          refine XS.ifNo X168.here hx rfl (hb hby at_166) rfl ((if0 _ _).trans (feq (by decide : ¬ ((1 : Int32) = (0 : Int32)))).1) ?_
          show own_s p e below T168 m 169 #[iv i0, iv i1, iv i2, rv sa1, rv sa11, iv (16 : Int32), iv (1 : Int32), iv cc, iv v158, iv (1 : Int32), iv vq, iv (own_G 55 (vq).toInt.toNat), iv (1 : Int32)] [] _
          refine XS.iconst X168.here hx rfl (hb hby at_169) ?_
          show own_s p e below T168 m 170 #[iv i0, iv i1, iv i2, rv sa1, rv sa11, iv (16 : Int32), iv (1 : Int32), iv cc, iv v158, iv (1 : Int32), iv vq, iv (own_G 55 (vq).toInt.toNat), iv (1 : Int32)] [(.int (1 : Int32))] _
          refine XS.goto X168.here hx rfl (pc0 := 170) (pc' := 174) rfl (hb hby at_170) (by decide) (by decide) ?_
          exact kX
        subst hS0
        obtain ⟨fs, hr, hrun, hended, hend⟩ := X168.leaveW hS (by rw [e168]; exact hk11) (v := (some (.int (1 : Int32)))) (fun h => by rw [Bd.returns] at h; cases h)
        exact ⟨_, _, pre170 _ (retN X168 hx (t := .boolean) Bd.returns (by simp) (hb hby at_174) hr), hrun, hended, _, _, rfl, ⟨rfl, hn0 ▸ N168⟩, hend⟩
      · skip
        have ihc161 : ¬ ((v158).toInt = (-1 : Int)) := fun q => hc161 (Int32.toInt_inj.mp q)
        have pre171 : ∀ t, own_s p e below T158 m 77 #[iv i0, iv i1, iv i2, rv sa1, rv sa11, iv (16 : Int32), iv (1 : Int32), iv cc, iv v158, .unset, .unset, .unset, .unset] [(.int v158), (.ref sa1), (.int cc)] t → Steps p.tables e below S0 t := by
          intro tX kX
          refine pre160 _ ?_
          show own_s p e below T158 m 51 #[iv i0, iv i1, iv i2, rv sa1, rv sa11, iv (16 : Int32), iv (1 : Int32), iv cc, iv v158, .unset, .unset, .unset, .unset] [(.int (-1 : Int32)), (.int v158)] _
          refine XS.icmpYes X158.here hx rfl (pc0 := 51) (pc' := 60) rfl (hb hby at_51) rfl (feq hc161).2 (by decide) (by decide) ?_
          show own_s p e below T158 m 60 #[iv i0, iv i1, iv i2, rv sa1, rv sa11, iv (16 : Int32), iv (1 : Int32), iv cc, iv v158, .unset, .unset, .unset, .unset] [] _
          refine XS.iload X158.here hx rfl (hb hby at_60) rfl ?_
          show own_s p e below T158 m 62 #[iv i0, iv i1, iv i2, rv sa1, rv sa11, iv (16 : Int32), iv (1 : Int32), iv cc, iv v158, .unset, .unset, .unset, .unset] [(.int v158)] _
          refine XS.ifNo X158.here hx rfl (hb hby at_62) rfl ((if0 _ _).trans (flt (fun q => absurd (show (v158).toInt < (0 : Int) from Int32.lt_iff_toInt_lt.mp q) (by omega))).1) ?_
          show own_s p e below T158 m 65 #[iv i0, iv i1, iv i2, rv sa1, rv sa11, iv (16 : Int32), iv (1 : Int32), iv cc, iv v158, .unset, .unset, .unset, .unset] [] _
          refine XS.iload X158.here hx rfl (hb hby at_65) rfl ?_
          show own_s p e below T158 m 67 #[iv i0, iv i1, iv i2, rv sa1, rv sa11, iv (16 : Int32), iv (1 : Int32), iv cc, iv v158, .unset, .unset, .unset, .unset] [(.int v158)] _
          refine XS.iload X158.here hx rfl (hb hby at_67) rfl ?_
          show own_s p e below T158 m 69 #[iv i0, iv i1, iv i2, rv sa1, rv sa11, iv (16 : Int32), iv (1 : Int32), iv cc, iv v158, .unset, .unset, .unset, .unset] [(.int (16 : Int32)), (.int v158)] _
          refine XS.icmpNo X158.here hx rfl (hb hby at_69) rfl (tlt (show v158 < (16 : Int32) from Int32.lt_iff_toInt_lt.mpr (by omega : (v158).toInt < (16 : Int)))).2.1 ?_
          show own_s p e below T158 m 72 #[iv i0, iv i1, iv i2, rv sa1, rv sa11, iv (16 : Int32), iv (1 : Int32), iv cc, iv v158, .unset, .unset, .unset, .unset] [] _
          refine XS.iload X158.here hx rfl (hb hby at_72) rfl ?_
          show own_s p e below T158 m 74 #[iv i0, iv i1, iv i2, rv sa1, rv sa11, iv (16 : Int32), iv (1 : Int32), iv cc, iv v158, .unset, .unset, .unset, .unset] [(.int cc)] _
          refine XS.aloadN X158.here hx rfl (hb hby at_74) rfl rfl ?_
          show own_s p e below T158 m 75 #[iv i0, iv i1, iv i2, rv sa1, rv sa11, iv (16 : Int32), iv (1 : Int32), iv cc, iv v158, .unset, .unset, .unset, .unset] [(.ref sa1), (.int cc)] _
          refine XS.iload X158.here hx rfl (hb hby at_75) rfl ?_
          exact kX
        have gI173 := own_GI (u := 87) (j := (v158).toInt.toNat) (by decide) (by omega)
        obtain ⟨cq172, kq172, q172a, q172b, q172c⟩ := isOf hZ e158 f15_E
        obtain ⟨_, _, ⟨T172, L172, k172, n172⟩, -, X172, ⟨Lc172, hQ172, l172, y172, z172⟩, st172⟩ := X158.virtualBack hx (y := (⟨"java/lang/String", "charAt", "(I)C"⟩ : MethodName)) (z := (⟨"java/lang/String", "charAt", "(I)C"⟩ : MethodName)) hown (mvT hZ (hw _ (List.mem_of_getElem? (i := 14) rfl))) (mvT hZ (hw _ (List.mem_of_getElem? (i := 15) rfl))) (notFace_of_selects (args := #[]) (mvT hZ (hw _ (List.mem_of_getElem? (i := 17) rfl)))) (mvT hZ (hw _ (List.mem_of_getElem? (i := 17) rfl))) (mvT hZ (hw _ (List.mem_of_getElem? (i := 16) rfl))) (by decide) (backOf (W := 1) (rm6 l s a0 hw [] sa1 v158 sb1 (own_G 87) (v158).toInt.toNat w cs h11 n0 Z19 f15_E f16_F f17_F hv f13_S f14_S hc f18_A (fun j hj => by have := own_GI (u := 87) (by decide) hj; omega) (by omega) (by omega)) hZ (hw _ (List.mem_of_getElem? (i := 18) rfl)) (hw _ (List.mem_of_getElem? (i := 1) rfl)) (by decide) (by decide)) q172a q172c (g := (mkF m 77 #[iv i0, iv i1, iv i2, rv sa1, rv sa11, iv (16 : Int32), iv (1 : Int32), iv cc, iv v158, .unset, .unset, .unset, .unset] [(.int v158), (.ref sa1), (.int cc)])) rfl (by rw [hml]; rfl) (Steps.refl _) (argsL := [(.int v158)]) (rest := [(.int cc)]) (lenOf pd0_1 rfl) rfl (by show 2 * 0 + _ ≤ _; exact Nat.le_of_eq rfl) (hb hby at_77) (fun _ _ => ⟨rfl, e158, (by decide : 4 + 0 ≤ _), (by decide : 136 + 0 ≤ _)⟩)
        dsimp only [Pt.U, Pt.locs, Pt.cells, Pt.slots] at X172 l172 y172 z172 st172 hQ172
        subst l172 y172 z172
        obtain ⟨rfl, Nq172, e172⟩ := hQ172
        have N172 := Fr.app N158 Nq172
        have pre174 : ∀ t, own_s p e below T172 m 80 #[iv i0, iv i1, iv i2, rv sa1, rv sa11, iv (16 : Int32), iv (1 : Int32), iv cc, iv v158, .unset, .unset, .unset, .unset] [(.int (own_G 87 (v158).toInt.toNat)), (.int cc)] t → Steps p.tables e below S0 t := fun tX kX => pre171 _ (st172.trans kX)
        by_cases hc175 : cc = (own_G 87 (v158).toInt.toNat)
        · skip
          have ihc175 : (cc).toInt = ((own_G 87 (v158).toInt.toNat)).toInt := congrArg Int32.toInt hc175
          have pre176 : ∀ t, own_s p e below T172 m 115 #[iv i0, iv i1, iv i2, rv sa1, rv sa11, iv (16 : Int32), iv (1 : Int32), iv cc, iv v158, iv (1 : Int32), .unset, .unset, .unset] [(.int ((i2 &&& (2147483647 : Int32)) % (16 : Int32)))] t → Steps p.tables e below S0 t := by
            intro tX kX
            refine pre174 _ ?_
            show own_s p e below T172 m 80 #[iv i0, iv i1, iv i2, rv sa1, rv sa11, iv (16 : Int32), iv (1 : Int32), iv cc, iv v158, .unset, .unset, .unset, .unset] [(.int (own_G 87 (v158).toInt.toNat)), (.int cc)] _
            refine XS.icmpYes X172.here hx rfl (pc0 := 80) (pc' := 95) rfl (hb hby at_80) rfl (teq hc175).1 (by decide) (by decide) ?_
            show own_s p e below T172 m 95 #[iv i0, iv i1, iv i2, rv sa1, rv sa11, iv (16 : Int32), iv (1 : Int32), iv cc, iv v158, .unset, .unset, .unset, .unset] [] _
            refine XS.iconst X172.here hx rfl (hb hby at_95) ?_
            show own_s p e below T172 m 96 #[iv i0, iv i1, iv i2, rv sa1, rv sa11, iv (16 : Int32), iv (1 : Int32), iv cc, iv v158, .unset, .unset, .unset, .unset] [(.int (1 : Int32))] _
            refine XS.goto X172.here hx rfl (pc0 := 96) (pc' := 100) rfl (hb hby at_96) (by decide) (by decide) ?_
            show own_s p e below T172 m 100 #[iv i0, iv i1, iv i2, rv sa1, rv sa11, iv (16 : Int32), iv (1 : Int32), iv cc, iv v158, .unset, .unset, .unset, .unset] [(.int (1 : Int32))] _
            refine XS.istore X172.here hx rfl (hb hby at_100) rfl (l' := #[iv i0, iv i1, iv i2, rv sa1, rv sa11, iv (16 : Int32), iv (1 : Int32), iv cc, iv v158, iv (1 : Int32), .unset, .unset, .unset]) rfl ?_
            show own_s p e below T172 m 102 #[iv i0, iv i1, iv i2, rv sa1, rv sa11, iv (16 : Int32), iv (1 : Int32), iv cc, iv v158, iv (1 : Int32), .unset, .unset, .unset] [] _
            refine XS.goto X172.here hx rfl (pc0 := 102) (pc' := 108) rfl (hb hby at_102) (by decide) (by decide) ?_
            show own_s p e below T172 m 108 #[iv i0, iv i1, iv i2, rv sa1, rv sa11, iv (16 : Int32), iv (1 : Int32), iv cc, iv v158, iv (1 : Int32), .unset, .unset, .unset] [] _
            refine XS.iloadN X172.here hx rfl (hb hby at_108) rfl ?_
            show own_s p e below T172 m 109 #[iv i0, iv i1, iv i2, rv sa1, rv sa11, iv (16 : Int32), iv (1 : Int32), iv cc, iv v158, iv (1 : Int32), .unset, .unset, .unset] [(.int i2)] _
            refine X172.ldcInt hx hown (mvT hZ (hw _ (List.mem_of_getElem? (i := 13) rfl))) (g := (mkF m 109 #[iv i0, iv i1, iv i2, rv sa1, rv sa11, iv (16 : Int32), iv (1 : Int32), iv cc, iv v158, iv (1 : Int32), .unset, .unset, .unset] [(.int i2)])) rfl (hb hby at_109) _ ?_
            show own_s p e below T172 m 111 #[iv i0, iv i1, iv i2, rv sa1, rv sa11, iv (16 : Int32), iv (1 : Int32), iv cc, iv v158, iv (1 : Int32), .unset, .unset, .unset] [(.int (2147483647 : Int32)), (.int i2)] _
            refine XS.iand X172.here hx rfl (hb hby at_111) rfl ?_
            show own_s p e below T172 m 112 #[iv i0, iv i1, iv i2, rv sa1, rv sa11, iv (16 : Int32), iv (1 : Int32), iv cc, iv v158, iv (1 : Int32), .unset, .unset, .unset] [(.int (i2 &&& (2147483647 : Int32)))] _
            refine XS.iload X172.here hx rfl (hb hby at_112) rfl ?_
            show own_s p e below T172 m 114 #[iv i0, iv i1, iv i2, rv sa1, rv sa11, iv (16 : Int32), iv (1 : Int32), iv cc, iv v158, iv (1 : Int32), .unset, .unset, .unset] [(.int (16 : Int32)), (.int (i2 &&& (2147483647 : Int32)))] _
            refine iremM X172 hx rfl (hb hby at_114) rfl (by decide) ?_
            exact kX
          obtain ⟨vq, hvq⟩ : ∃ z : Int32, z = ((i2 &&& (2147483647 : Int32)) % (16 : Int32)) := ⟨_, rfl⟩
          rw [← hvq] at pre176
          have mk := c_mask i2 2147483647 31 (by decide) (by decide)
          have rr := (c_irem (i2 &&& 2147483647) 16 16 (by decide)).1 (by omega)
          rw [← hvq] at rr
          have pre177 : ∀ t, own_s p e below T172 m 126 #[iv i0, iv i1, iv i2, rv sa1, rv sa11, iv (16 : Int32), iv (1 : Int32), iv cc, iv v158, iv (1 : Int32), iv vq, .unset, .unset] [(.int vq), (.ref sa11)] t → Steps p.tables e below S0 t := by
            intro tX kX
            refine pre176 _ ?_
            show own_s p e below T172 m 115 #[iv i0, iv i1, iv i2, rv sa1, rv sa11, iv (16 : Int32), iv (1 : Int32), iv cc, iv v158, iv (1 : Int32), .unset, .unset, .unset] [(.int vq)] _
            refine XS.istore X172.here hx rfl (hb hby at_115) rfl (l' := #[iv i0, iv i1, iv i2, rv sa1, rv sa11, iv (16 : Int32), iv (1 : Int32), iv cc, iv v158, iv (1 : Int32), iv vq, .unset, .unset]) rfl ?_
            show own_s p e below T172 m 117 #[iv i0, iv i1, iv i2, rv sa1, rv sa11, iv (16 : Int32), iv (1 : Int32), iv cc, iv v158, iv (1 : Int32), iv vq, .unset, .unset] [] _
            refine XS.iload X172.here hx rfl (hb hby at_117) rfl ?_
            show own_s p e below T172 m 119 #[iv i0, iv i1, iv i2, rv sa1, rv sa11, iv (16 : Int32), iv (1 : Int32), iv cc, iv v158, iv (1 : Int32), iv vq, .unset, .unset] [(.int (1 : Int32))] _
            refine XS.ifNo X172.here hx rfl (hb hby at_119) rfl ((if0 _ _).trans (feq (by decide : ¬ ((1 : Int32) = (0 : Int32)))).1) ?_
            show own_s p e below T172 m 122 #[iv i0, iv i1, iv i2, rv sa1, rv sa11, iv (16 : Int32), iv (1 : Int32), iv cc, iv v158, iv (1 : Int32), iv vq, .unset, .unset] [] _
            refine XS.aload X172.here hx rfl (hb hby at_122) rfl rfl ?_
            show own_s p e below T172 m 124 #[iv i0, iv i1, iv i2, rv sa1, rv sa11, iv (16 : Int32), iv (1 : Int32), iv cc, iv v158, iv (1 : Int32), iv vq, .unset, .unset] [(.ref sa11)] _
            refine XS.iload X172.here hx rfl (hb hby at_124) rfl ?_
            exact kX
          have gI179 := own_GI (u := 55) (j := (vq).toInt.toNat) (by decide) (by omega)
          obtain ⟨cq178, kq178, q178a, q178b, q178c⟩ := isOf hZ e172 f20_E
          obtain ⟨_, _, ⟨T178, L178, k178, n178⟩, -, X178, ⟨Lc178, hQ178, l178, y178, z178⟩, st178⟩ := X172.virtualBack hx (y := (⟨"java/lang/String", "charAt", "(I)C"⟩ : MethodName)) (z := (⟨"java/lang/String", "charAt", "(I)C"⟩ : MethodName)) hown (mvT hZ (hw _ (List.mem_of_getElem? (i := 14) rfl))) (mvT hZ (hw _ (List.mem_of_getElem? (i := 15) rfl))) (notFace_of_selects (args := #[]) (mvT hZ (hw _ (List.mem_of_getElem? (i := 17) rfl)))) (mvT hZ (hw _ (List.mem_of_getElem? (i := 17) rfl))) (mvT hZ (hw _ (List.mem_of_getElem? (i := 16) rfl))) (by decide) (backOf (W := 0) (rm6 l s a0 hw [] sa11 vq sb11 (own_G 55) (vq).toInt.toNat w cs h11 n0 Z19 f20_E f21_F f22_F hv f13_S f14_S hc f23_A (fun j hj => by have := own_GI (u := 55) (by decide) hj; omega) (by omega) (by omega)) hZ (hw _ (List.mem_of_getElem? (i := 18) rfl)) (hw _ (List.mem_of_getElem? (i := 1) rfl)) (by decide) (by decide)) q178a q178c (g := (mkF m 126 #[iv i0, iv i1, iv i2, rv sa1, rv sa11, iv (16 : Int32), iv (1 : Int32), iv cc, iv v158, iv (1 : Int32), iv vq, .unset, .unset] [(.int vq), (.ref sa11)])) rfl (by rw [hml]; rfl) (Steps.refl _) (argsL := [(.int vq)]) (rest := []) (lenOf pd0_1 rfl) rfl (by show 2 * 0 + _ ≤ _; exact Nat.le_of_eq rfl) (hb hby at_126) (fun _ _ => ⟨rfl, e172, (by decide : 4 + 0 ≤ _), (by decide : 136 + 0 ≤ _)⟩)
          dsimp only [Pt.U, Pt.locs, Pt.cells, Pt.slots] at X178 l178 y178 z178 st178 hQ178
          subst l178 y178 z178
          obtain ⟨rfl, Nq178, e178⟩ := hQ178
          have N178 := Fr.app N172 Nq178
          have pre180 : ∀ t, own_s p e below T178 m 129 #[iv i0, iv i1, iv i2, rv sa1, rv sa11, iv (16 : Int32), iv (1 : Int32), iv cc, iv v158, iv (1 : Int32), iv vq, .unset, .unset] [(.int (own_G 55 (vq).toInt.toNat))] t → Steps p.tables e below S0 t := fun tX kX => pre177 _ (st178.trans kX)
          have pre181 : ∀ t, own_s p e below T178 m 144 #[iv i0, iv i1, iv i2, rv sa1, rv sa11, iv (16 : Int32), iv (1 : Int32), iv cc, iv v158, iv (1 : Int32), iv vq, iv (own_G 55 (vq).toInt.toNat), .unset] [(.int (16 : Int32)), (.int (own_G 55 (vq).toInt.toNat))] t → Steps p.tables e below S0 t := by
            intro tX kX
            refine pre180 _ ?_
            show own_s p e below T178 m 129 #[iv i0, iv i1, iv i2, rv sa1, rv sa11, iv (16 : Int32), iv (1 : Int32), iv cc, iv v158, iv (1 : Int32), iv vq, .unset, .unset] [(.int (own_G 55 (vq).toInt.toNat))] _
            refine XS.goto X178.here hx rfl (pc0 := 129) (pc' := 138) rfl (hb hby at_129) (by decide) (by decide) ?_
            show own_s p e below T178 m 138 #[iv i0, iv i1, iv i2, rv sa1, rv sa11, iv (16 : Int32), iv (1 : Int32), iv cc, iv v158, iv (1 : Int32), iv vq, .unset, .unset] [(.int (own_G 55 (vq).toInt.toNat))] _
            refine XS.istore X178.here hx rfl (hb hby at_138) rfl (l' := #[iv i0, iv i1, iv i2, rv sa1, rv sa11, iv (16 : Int32), iv (1 : Int32), iv cc, iv v158, iv (1 : Int32), iv vq, iv (own_G 55 (vq).toInt.toNat), .unset]) rfl ?_
            show own_s p e below T178 m 140 #[iv i0, iv i1, iv i2, rv sa1, rv sa11, iv (16 : Int32), iv (1 : Int32), iv cc, iv v158, iv (1 : Int32), iv vq, iv (own_G 55 (vq).toInt.toNat), .unset] [] _
            refine XS.iload X178.here hx rfl (hb hby at_140) rfl ?_
            show own_s p e below T178 m 142 #[iv i0, iv i1, iv i2, rv sa1, rv sa11, iv (16 : Int32), iv (1 : Int32), iv cc, iv v158, iv (1 : Int32), iv vq, iv (own_G 55 (vq).toInt.toNat), .unset] [(.int (own_G 55 (vq).toInt.toNat))] _
            refine XS.iload X178.here hx rfl (hb hby at_142) rfl ?_
            exact kX
          obtain ⟨_, _, ⟨T182, L182, k182, n182⟩, -, X182, ⟨Lc182, hQ182, l182, y182, z182⟩, st182⟩ := Jvm.LawKit.callS X178 hx (y := (⟨"com/example/osier/osier/xml/XmlChars", "digitValue", "(CI)I"⟩ : MethodName)) hown (mvT hZ (hw _ (List.mem_of_getElem? (i := 9) rfl))) (mvT hZ (hw _ (List.mem_of_getElem? (i := 10) rfl))) (mvT hZ (hw _ (List.mem_of_getElem? (i := 11) rfl))) (mvT hZ (hw _ (List.mem_of_getElem? (i := 12) rfl))) (by decide) (backOf (W := 0) (rm1 l s a0 hw [] (own_G 55 (vq).toInt.toNat) (16 : Int32)  h11 n0 Z19 (by omega) (by omega)) hZ (hw _ (List.mem_of_getElem? (i := 12) rfl)) (hw _ (List.mem_of_getElem? (i := 11) rfl)) (by decide) (by decide)) (g := (mkF m 144 #[iv i0, iv i1, iv i2, rv sa1, rv sa11, iv (16 : Int32), iv (1 : Int32), iv cc, iv v158, iv (1 : Int32), iv vq, iv (own_G 55 (vq).toInt.toNat), .unset] [(.int (16 : Int32)), (.int (own_G 55 (vq).toInt.toNat))])) rfl (by rw [hml]; rfl) (argsL := [(.int (own_G 55 (vq).toInt.toNat)), (.int (16 : Int32))]) (rest := []) (lenOf pd0_0 rfl) rfl (by show 2 * 0 + _ ≤ _; exact Nat.le_of_eq rfl) (hb hby at_144) (fun _ _ => ⟨rfl, e178, (by decide : 4 + 0 ≤ _), (by decide : 136 + 0 ≤ _)⟩)
          dsimp only [Pt.U, Pt.locs, Pt.cells, Pt.slots] at X182 l182 y182 z182 st182 hQ182
          subst l182 y182 z182
          obtain ⟨⟨v182, rfl, B182⟩, Nq182, e182⟩ := hQ182
          unfold own_DV at B182
          have N182 := Fr.app N178 Nq182
          have pre183 : ∀ t, own_s p e below T182 m 147 #[iv i0, iv i1, iv i2, rv sa1, rv sa11, iv (16 : Int32), iv (1 : Int32), iv cc, iv v158, iv (1 : Int32), iv vq, iv (own_G 55 (vq).toInt.toNat), .unset] [(.int v182)] t → Steps p.tables e below S0 t := fun tX kX => pre181 _ (st182 _ kX)
          have pre184 : ∀ t, own_s p e below T182 m 174 #[iv i0, iv i1, iv i2, rv sa1, rv sa11, iv (16 : Int32), iv (1 : Int32), iv cc, iv v158, iv (1 : Int32), iv vq, iv (own_G 55 (vq).toInt.toNat), iv (1 : Int32)] [(.int (1 : Int32))] t → Steps p.tables e below S0 t := by
            intro tX kX
            refine pre183 _ ?_
            show own_s p e below T182 m 147 #[iv i0, iv i1, iv i2, rv sa1, rv sa11, iv (16 : Int32), iv (1 : Int32), iv cc, iv v158, iv (1 : Int32), iv vq, iv (own_G 55 (vq).toInt.toNat), .unset] [(.int v182)] _
            refine XS.iload X182.here hx rfl (hb hby at_147) rfl ?_
            show own_s p e below T182 m 149 #[iv i0, iv i1, iv i2, rv sa1, rv sa11, iv (16 : Int32), iv (1 : Int32), iv cc, iv v158, iv (1 : Int32), iv vq, iv (own_G 55 (vq).toInt.toNat), .unset] [(.int vq), (.int v182)] _
            refine XS.icmpNo X182.here hx rfl (hb hby at_149) rfl (teq (own_eqI (show (v182).toInt = (vq).toInt from (by omega : (v182).toInt = (vq).toInt)))).2 ?_
            show own_s p e below T182 m 152 #[iv i0, iv i1, iv i2, rv sa1, rv sa11, iv (16 : Int32), iv (1 : Int32), iv cc, iv v158, iv (1 : Int32), iv vq, iv (own_G 55 (vq).toInt.toNat), .unset] [] _
            refine XS.iconst X182.here hx rfl (hb hby at_152) ?_
            show own_s p e below T182 m 153 #[iv i0, iv i1, iv i2, rv sa1, rv sa11, iv (16 : Int32), iv (1 : Int32), iv cc, iv v158, iv (1 : Int32), iv vq, iv (own_G 55 (vq).toInt.toNat), .unset] [(.int (1 : Int32))] _
            refine XS.goto X182.here hx rfl (pc0 := 153) (pc' := 157) rfl (hb hby at_153) (by decide) (by decide) ?_
            show own_s p e below T182 m 157 #[iv i0, iv i1, iv i2, rv sa1, rv sa11, iv (16 : Int32), iv (1 : Int32), iv cc, iv v158, iv (1 : Int32), iv vq, iv (own_G 55 (vq).toInt.toNat), .unset] [(.int (1 : Int32))] _
            refine XS.istore X182.here hx rfl (hb hby at_157) rfl (l' := #[iv i0, iv i1, iv i2, rv sa1, rv sa11, iv (16 : Int32), iv (1 : Int32), iv cc, iv v158, iv (1 : Int32), iv vq, iv (own_G 55 (vq).toInt.toNat), iv (1 : Int32)]) rfl ?_
            show own_s p e below T182 m 159 #[iv i0, iv i1, iv i2, rv sa1, rv sa11, iv (16 : Int32), iv (1 : Int32), iv cc, iv v158, iv (1 : Int32), iv vq, iv (own_G 55 (vq).toInt.toNat), iv (1 : Int32)] [] _
            refine XS.iload X182.here hx rfl (hb hby at_159) rfl ?_
            show own_s p e below T182 m 161 #[iv i0, iv i1, iv i2, rv sa1, rv sa11, iv (16 : Int32), iv (1 : Int32), iv cc, iv v158, iv (1 : Int32), iv vq, iv (own_G 55 (vq).toInt.toNat), iv (1 : Int32)] [(.int (1 : Int32))] _
            refine XS.ifNo X182.here hx rfl (hb hby at_161) rfl ((if0 _ _).trans (feq (by decide : ¬ ((1 : Int32) = (0 : Int32)))).1) ?_
            show own_s p e below T182 m 164 #[iv i0, iv i1, iv i2, rv sa1, rv sa11, iv (16 : Int32), iv (1 : Int32), iv cc, iv v158, iv (1 : Int32), iv vq, iv (own_G 55 (vq).toInt.toNat), iv (1 : Int32)] [] _
            refine XS.iload X182.here hx rfl (hb hby at_164) rfl ?_
            show own_s p e below T182 m 166 #[iv i0, iv i1, iv i2, rv sa1, rv sa11, iv (16 : Int32), iv (1 : Int32), iv cc, iv v158, iv (1 : Int32), iv vq, iv (own_G 55 (vq).toInt.toNat), iv (1 : Int32)] [(.int (1 : Int32))] _
            refine XS.ifNo X182.here hx rfl (hb hby at_166) rfl ((if0 _ _).trans (feq (by decide : ¬ ((1 : Int32) = (0 : Int32)))).1) ?_
            show own_s p e below T182 m 169 #[iv i0, iv i1, iv i2, rv sa1, rv sa11, iv (16 : Int32), iv (1 : Int32), iv cc, iv v158, iv (1 : Int32), iv vq, iv (own_G 55 (vq).toInt.toNat), iv (1 : Int32)] [] _
            refine XS.iconst X182.here hx rfl (hb hby at_169) ?_
            show own_s p e below T182 m 170 #[iv i0, iv i1, iv i2, rv sa1, rv sa11, iv (16 : Int32), iv (1 : Int32), iv cc, iv v158, iv (1 : Int32), iv vq, iv (own_G 55 (vq).toInt.toNat), iv (1 : Int32)] [(.int (1 : Int32))] _
            refine XS.goto X182.here hx rfl (pc0 := 170) (pc' := 174) rfl (hb hby at_170) (by decide) (by decide) ?_
            exact kX
          subst hS0
          obtain ⟨fs, hr, hrun, hended, hend⟩ := X182.leaveW hS (by rw [e182]; exact hk11) (v := (some (.int (1 : Int32)))) (fun h => by rw [Bd.returns] at h; cases h)
          exact ⟨_, _, pre184 _ (retN X182 hx (t := .boolean) Bd.returns (by simp) (hb hby at_174) hr), hrun, hended, _, _, rfl, ⟨rfl, hn0 ▸ N182⟩, hend⟩
        · skip
          have ihc175 : ¬ ((cc).toInt = ((own_G 87 (v158).toInt.toNat)).toInt) := fun q => hc175 (Int32.toInt_inj.mp q)
          have pre185 : ∀ t, own_s p e below T172 m 89 #[iv i0, iv i1, iv i2, rv sa1, rv sa11, iv (16 : Int32), iv (1 : Int32), iv cc, iv v158, .unset, .unset, .unset, .unset] [(.int v158), (.ref sa11), (.int cc)] t → Steps p.tables e below S0 t := by
            intro tX kX
            refine pre174 _ ?_
            show own_s p e below T172 m 80 #[iv i0, iv i1, iv i2, rv sa1, rv sa11, iv (16 : Int32), iv (1 : Int32), iv cc, iv v158, .unset, .unset, .unset, .unset] [(.int (own_G 87 (v158).toInt.toNat)), (.int cc)] _
            refine XS.icmpNo X172.here hx rfl (hb hby at_80) rfl (feq hc175).1 ?_
            show own_s p e below T172 m 83 #[iv i0, iv i1, iv i2, rv sa1, rv sa11, iv (16 : Int32), iv (1 : Int32), iv cc, iv v158, .unset, .unset, .unset, .unset] [] _
            refine XS.iload X172.here hx rfl (hb hby at_83) rfl ?_
            show own_s p e below T172 m 85 #[iv i0, iv i1, iv i2, rv sa1, rv sa11, iv (16 : Int32), iv (1 : Int32), iv cc, iv v158, .unset, .unset, .unset, .unset] [(.int cc)] _
            refine XS.aload X172.here hx rfl (hb hby at_85) rfl rfl ?_
            show own_s p e below T172 m 87 #[iv i0, iv i1, iv i2, rv sa1, rv sa11, iv (16 : Int32), iv (1 : Int32), iv cc, iv v158, .unset, .unset, .unset, .unset] [(.ref sa11), (.int cc)] _
            refine XS.iload X172.here hx rfl (hb hby at_87) rfl ?_
            exact kX
          have gI187 := own_GI (u := 55) (j := (v158).toInt.toNat) (by decide) (by omega)
          obtain ⟨cq186, kq186, q186a, q186b, q186c⟩ := isOf hZ e172 f20_E
          obtain ⟨_, _, ⟨T186, L186, k186, n186⟩, -, X186, ⟨Lc186, hQ186, l186, y186, z186⟩, st186⟩ := X172.virtualBack hx (y := (⟨"java/lang/String", "charAt", "(I)C"⟩ : MethodName)) (z := (⟨"java/lang/String", "charAt", "(I)C"⟩ : MethodName)) hown (mvT hZ (hw _ (List.mem_of_getElem? (i := 14) rfl))) (mvT hZ (hw _ (List.mem_of_getElem? (i := 15) rfl))) (notFace_of_selects (args := #[]) (mvT hZ (hw _ (List.mem_of_getElem? (i := 17) rfl)))) (mvT hZ (hw _ (List.mem_of_getElem? (i := 17) rfl))) (mvT hZ (hw _ (List.mem_of_getElem? (i := 16) rfl))) (by decide) (backOf (W := 1) (rm6 l s a0 hw [] sa11 v158 sb11 (own_G 55) (v158).toInt.toNat w cs h11 n0 Z19 f20_E f21_F f22_F hv f13_S f14_S hc f23_A (fun j hj => by have := own_GI (u := 55) (by decide) hj; omega) (by omega) (by omega)) hZ (hw _ (List.mem_of_getElem? (i := 18) rfl)) (hw _ (List.mem_of_getElem? (i := 1) rfl)) (by decide) (by decide)) q186a q186c (g := (mkF m 89 #[iv i0, iv i1, iv i2, rv sa1, rv sa11, iv (16 : Int32), iv (1 : Int32), iv cc, iv v158, .unset, .unset, .unset, .unset] [(.int v158), (.ref sa11), (.int cc)])) rfl (by rw [hml]; rfl) (Steps.refl _) (argsL := [(.int v158)]) (rest := [(.int cc)]) (lenOf pd0_1 rfl) rfl (by show 2 * 0 + _ ≤ _; exact Nat.le_of_eq rfl) (hb hby at_89) (fun _ _ => ⟨rfl, e172, (by decide : 4 + 0 ≤ _), (by decide : 136 + 0 ≤ _)⟩)
          dsimp only [Pt.U, Pt.locs, Pt.cells, Pt.slots] at X186 l186 y186 z186 st186 hQ186
          subst l186 y186 z186
          obtain ⟨rfl, Nq186, e186⟩ := hQ186
          have N186 := Fr.app N172 Nq186
          have pre188 : ∀ t, own_s p e below T186 m 92 #[iv i0, iv i1, iv i2, rv sa1, rv sa11, iv (16 : Int32), iv (1 : Int32), iv cc, iv v158, .unset, .unset, .unset, .unset] [(.int (own_G 55 (v158).toInt.toNat)), (.int cc)] t → Steps p.tables e below S0 t := fun tX kX => pre185 _ (st186.trans kX)
          have pre189 : ∀ t, own_s p e below T186 m 115 #[iv i0, iv i1, iv i2, rv sa1, rv sa11, iv (16 : Int32), iv (1 : Int32), iv cc, iv v158, iv (1 : Int32), .unset, .unset, .unset] [(.int ((i2 &&& (2147483647 : Int32)) % (16 : Int32)))] t → Steps p.tables e below S0 t := by
            intro tX kX
            refine pre188 _ ?_
            show own_s p e below T186 m 92 #[iv i0, iv i1, iv i2, rv sa1, rv sa11, iv (16 : Int32), iv (1 : Int32), iv cc, iv v158, .unset, .unset, .unset, .unset] [(.int (own_G 55 (v158).toInt.toNat)), (.int cc)] _
            refine XS.icmpNo X186.here hx rfl (hb hby at_92) rfl (teq (own_eqI (show (cc).toInt = ((own_G 55 (v158).toInt.toNat)).toInt from (by omega : (cc).toInt = ((own_G 55 (v158).toInt.toNat)).toInt)))).2 ?_
            show own_s p e below T186 m 95 #[iv i0, iv i1, iv i2, rv sa1, rv sa11, iv (16 : Int32), iv (1 : Int32), iv cc, iv v158, .unset, .unset, .unset, .unset] [] _
            refine XS.iconst X186.here hx rfl (hb hby at_95) ?_
            show own_s p e below T186 m 96 #[iv i0, iv i1, iv i2, rv sa1, rv sa11, iv (16 : Int32), iv (1 : Int32), iv cc, iv v158, .unset, .unset, .unset, .unset] [(.int (1 : Int32))] _
            refine XS.goto X186.here hx rfl (pc0 := 96) (pc' := 100) rfl (hb hby at_96) (by decide) (by decide) ?_
            show own_s p e below T186 m 100 #[iv i0, iv i1, iv i2, rv sa1, rv sa11, iv (16 : Int32), iv (1 : Int32), iv cc, iv v158, .unset, .unset, .unset, .unset] [(.int (1 : Int32))] _
            refine XS.istore X186.here hx rfl (hb hby at_100) rfl (l' := #[iv i0, iv i1, iv i2, rv sa1, rv sa11, iv (16 : Int32), iv (1 : Int32), iv cc, iv v158, iv (1 : Int32), .unset, .unset, .unset]) rfl ?_
            show own_s p e below T186 m 102 #[iv i0, iv i1, iv i2, rv sa1, rv sa11, iv (16 : Int32), iv (1 : Int32), iv cc, iv v158, iv (1 : Int32), .unset, .unset, .unset] [] _
            refine XS.goto X186.here hx rfl (pc0 := 102) (pc' := 108) rfl (hb hby at_102) (by decide) (by decide) ?_
            show own_s p e below T186 m 108 #[iv i0, iv i1, iv i2, rv sa1, rv sa11, iv (16 : Int32), iv (1 : Int32), iv cc, iv v158, iv (1 : Int32), .unset, .unset, .unset] [] _
            refine XS.iloadN X186.here hx rfl (hb hby at_108) rfl ?_
            show own_s p e below T186 m 109 #[iv i0, iv i1, iv i2, rv sa1, rv sa11, iv (16 : Int32), iv (1 : Int32), iv cc, iv v158, iv (1 : Int32), .unset, .unset, .unset] [(.int i2)] _
            refine X186.ldcInt hx hown (mvT hZ (hw _ (List.mem_of_getElem? (i := 13) rfl))) (g := (mkF m 109 #[iv i0, iv i1, iv i2, rv sa1, rv sa11, iv (16 : Int32), iv (1 : Int32), iv cc, iv v158, iv (1 : Int32), .unset, .unset, .unset] [(.int i2)])) rfl (hb hby at_109) _ ?_
            show own_s p e below T186 m 111 #[iv i0, iv i1, iv i2, rv sa1, rv sa11, iv (16 : Int32), iv (1 : Int32), iv cc, iv v158, iv (1 : Int32), .unset, .unset, .unset] [(.int (2147483647 : Int32)), (.int i2)] _
            refine XS.iand X186.here hx rfl (hb hby at_111) rfl ?_
            show own_s p e below T186 m 112 #[iv i0, iv i1, iv i2, rv sa1, rv sa11, iv (16 : Int32), iv (1 : Int32), iv cc, iv v158, iv (1 : Int32), .unset, .unset, .unset] [(.int (i2 &&& (2147483647 : Int32)))] _
            refine XS.iload X186.here hx rfl (hb hby at_112) rfl ?_
            show own_s p e below T186 m 114 #[iv i0, iv i1, iv i2, rv sa1, rv sa11, iv (16 : Int32), iv (1 : Int32), iv cc, iv v158, iv (1 : Int32), .unset, .unset, .unset] [(.int (16 : Int32)), (.int (i2 &&& (2147483647 : Int32)))] _
            refine iremM X186 hx rfl (hb hby at_114) rfl (by decide) ?_
            exact kX
          obtain ⟨vq, hvq⟩ : ∃ z : Int32, z = ((i2 &&& (2147483647 : Int32)) % (16 : Int32)) := ⟨_, rfl⟩
          rw [← hvq] at pre189
          have mk := c_mask i2 2147483647 31 (by decide) (by decide)
          have rr := (c_irem (i2 &&& 2147483647) 16 16 (by decide)).1 (by omega)
          rw [← hvq] at rr
          have pre190 : ∀ t, own_s p e below T186 m 126 #[iv i0, iv i1, iv i2, rv sa1, rv sa11, iv (16 : Int32), iv (1 : Int32), iv cc, iv v158, iv (1 : Int32), iv vq, .unset, .unset] [(.int vq), (.ref sa11)] t → Steps p.tables e below S0 t := by
            intro tX kX
            refine pre189 _ ?_
            show own_s p e below T186 m 115 #[iv i0, iv i1, iv i2, rv sa1, rv sa11, iv (16 : Int32), iv (1 : Int32), iv cc, iv v158, iv (1 : Int32), .unset, .unset, .unset] [(.int vq)] _
            refine XS.istore X186.here hx rfl (hb hby at_115) rfl (l' := #[iv i0, iv i1, iv i2, rv sa1, rv sa11, iv (16 : Int32), iv (1 : Int32), iv cc, iv v158, iv (1 : Int32), iv vq, .unset, .unset]) rfl ?_
            show own_s p e below T186 m 117 #[iv i0, iv i1, iv i2, rv sa1, rv sa11, iv (16 : Int32), iv (1 : Int32), iv cc, iv v158, iv (1 : Int32), iv vq, .unset, .unset] [] _
            refine XS.iload X186.here hx rfl (hb hby at_117) rfl ?_
            show own_s p e below T186 m 119 #[iv i0, iv i1, iv i2, rv sa1, rv sa11, iv (16 : Int32), iv (1 : Int32), iv cc, iv v158, iv (1 : Int32), iv vq, .unset, .unset] [(.int (1 : Int32))] _
            refine XS.ifNo X186.here hx rfl (hb hby at_119) rfl ((if0 _ _).trans (feq (by decide : ¬ ((1 : Int32) = (0 : Int32)))).1) ?_
            show own_s p e below T186 m 122 #[iv i0, iv i1, iv i2, rv sa1, rv sa11, iv (16 : Int32), iv (1 : Int32), iv cc, iv v158, iv (1 : Int32), iv vq, .unset, .unset] [] _
            refine XS.aload X186.here hx rfl (hb hby at_122) rfl rfl ?_
            show own_s p e below T186 m 124 #[iv i0, iv i1, iv i2, rv sa1, rv sa11, iv (16 : Int32), iv (1 : Int32), iv cc, iv v158, iv (1 : Int32), iv vq, .unset, .unset] [(.ref sa11)] _
            refine XS.iload X186.here hx rfl (hb hby at_124) rfl ?_
            exact kX
          have gI192 := own_GI (u := 55) (j := (vq).toInt.toNat) (by decide) (by omega)
          obtain ⟨cq191, kq191, q191a, q191b, q191c⟩ := isOf hZ e186 f20_E
          obtain ⟨_, _, ⟨T191, L191, k191, n191⟩, -, X191, ⟨Lc191, hQ191, l191, y191, z191⟩, st191⟩ := X186.virtualBack hx (y := (⟨"java/lang/String", "charAt", "(I)C"⟩ : MethodName)) (z := (⟨"java/lang/String", "charAt", "(I)C"⟩ : MethodName)) hown (mvT hZ (hw _ (List.mem_of_getElem? (i := 14) rfl))) (mvT hZ (hw _ (List.mem_of_getElem? (i := 15) rfl))) (notFace_of_selects (args := #[]) (mvT hZ (hw _ (List.mem_of_getElem? (i := 17) rfl)))) (mvT hZ (hw _ (List.mem_of_getElem? (i := 17) rfl))) (mvT hZ (hw _ (List.mem_of_getElem? (i := 16) rfl))) (by decide) (backOf (W := 0) (rm6 l s a0 hw [] sa11 vq sb11 (own_G 55) (vq).toInt.toNat w cs h11 n0 Z19 f20_E f21_F f22_F hv f13_S f14_S hc f23_A (fun j hj => by have := own_GI (u := 55) (by decide) hj; omega) (by omega) (by omega)) hZ (hw _ (List.mem_of_getElem? (i := 18) rfl)) (hw _ (List.mem_of_getElem? (i := 1) rfl)) (by decide) (by decide)) q191a q191c (g := (mkF m 126 #[iv i0, iv i1, iv i2, rv sa1, rv sa11, iv (16 : Int32), iv (1 : Int32), iv cc, iv v158, iv (1 : Int32), iv vq, .unset, .unset] [(.int vq), (.ref sa11)])) rfl (by rw [hml]; rfl) (Steps.refl _) (argsL := [(.int vq)]) (rest := []) (lenOf pd0_1 rfl) rfl (by show 2 * 0 + _ ≤ _; exact Nat.le_of_eq rfl) (hb hby at_126) (fun _ _ => ⟨rfl, e186, (by decide : 4 + 0 ≤ _), (by decide : 136 + 0 ≤ _)⟩)
          dsimp only [Pt.U, Pt.locs, Pt.cells, Pt.slots] at X191 l191 y191 z191 st191 hQ191
          subst l191 y191 z191
          obtain ⟨rfl, Nq191, e191⟩ := hQ191
          have N191 := Fr.app N186 Nq191
          have pre193 : ∀ t, own_s p e below T191 m 129 #[iv i0, iv i1, iv i2, rv sa1, rv sa11, iv (16 : Int32), iv (1 : Int32), iv cc, iv v158, iv (1 : Int32), iv vq, .unset, .unset] [(.int (own_G 55 (vq).toInt.toNat))] t → Steps p.tables e below S0 t := fun tX kX => pre190 _ (st191.trans kX)
          have pre194 : ∀ t, own_s p e below T191 m 144 #[iv i0, iv i1, iv i2, rv sa1, rv sa11, iv (16 : Int32), iv (1 : Int32), iv cc, iv v158, iv (1 : Int32), iv vq, iv (own_G 55 (vq).toInt.toNat), .unset] [(.int (16 : Int32)), (.int (own_G 55 (vq).toInt.toNat))] t → Steps p.tables e below S0 t := by
            intro tX kX
            refine pre193 _ ?_
            show own_s p e below T191 m 129 #[iv i0, iv i1, iv i2, rv sa1, rv sa11, iv (16 : Int32), iv (1 : Int32), iv cc, iv v158, iv (1 : Int32), iv vq, .unset, .unset] [(.int (own_G 55 (vq).toInt.toNat))] _
            refine XS.goto X191.here hx rfl (pc0 := 129) (pc' := 138) rfl (hb hby at_129) (by decide) (by decide) ?_
            show own_s p e below T191 m 138 #[iv i0, iv i1, iv i2, rv sa1, rv sa11, iv (16 : Int32), iv (1 : Int32), iv cc, iv v158, iv (1 : Int32), iv vq, .unset, .unset] [(.int (own_G 55 (vq).toInt.toNat))] _
            refine XS.istore X191.here hx rfl (hb hby at_138) rfl (l' := #[iv i0, iv i1, iv i2, rv sa1, rv sa11, iv (16 : Int32), iv (1 : Int32), iv cc, iv v158, iv (1 : Int32), iv vq, iv (own_G 55 (vq).toInt.toNat), .unset]) rfl ?_
            show own_s p e below T191 m 140 #[iv i0, iv i1, iv i2, rv sa1, rv sa11, iv (16 : Int32), iv (1 : Int32), iv cc, iv v158, iv (1 : Int32), iv vq, iv (own_G 55 (vq).toInt.toNat), .unset] [] _
            refine XS.iload X191.here hx rfl (hb hby at_140) rfl ?_
            show own_s p e below T191 m 142 #[iv i0, iv i1, iv i2, rv sa1, rv sa11, iv (16 : Int32), iv (1 : Int32), iv cc, iv v158, iv (1 : Int32), iv vq, iv (own_G 55 (vq).toInt.toNat), .unset] [(.int (own_G 55 (vq).toInt.toNat))] _
            refine XS.iload X191.here hx rfl (hb hby at_142) rfl ?_
            exact kX
          obtain ⟨_, _, ⟨T195, L195, k195, n195⟩, -, X195, ⟨Lc195, hQ195, l195, y195, z195⟩, st195⟩ := Jvm.LawKit.callS X191 hx (y := (⟨"com/example/osier/osier/xml/XmlChars", "digitValue", "(CI)I"⟩ : MethodName)) hown (mvT hZ (hw _ (List.mem_of_getElem? (i := 9) rfl))) (mvT hZ (hw _ (List.mem_of_getElem? (i := 10) rfl))) (mvT hZ (hw _ (List.mem_of_getElem? (i := 11) rfl))) (mvT hZ (hw _ (List.mem_of_getElem? (i := 12) rfl))) (by decide) (backOf (W := 0) (rm1 l s a0 hw [] (own_G 55 (vq).toInt.toNat) (16 : Int32)  h11 n0 Z19 (by omega) (by omega)) hZ (hw _ (List.mem_of_getElem? (i := 12) rfl)) (hw _ (List.mem_of_getElem? (i := 11) rfl)) (by decide) (by decide)) (g := (mkF m 144 #[iv i0, iv i1, iv i2, rv sa1, rv sa11, iv (16 : Int32), iv (1 : Int32), iv cc, iv v158, iv (1 : Int32), iv vq, iv (own_G 55 (vq).toInt.toNat), .unset] [(.int (16 : Int32)), (.int (own_G 55 (vq).toInt.toNat))])) rfl (by rw [hml]; rfl) (argsL := [(.int (own_G 55 (vq).toInt.toNat)), (.int (16 : Int32))]) (rest := []) (lenOf pd0_0 rfl) rfl (by show 2 * 0 + _ ≤ _; exact Nat.le_of_eq rfl) (hb hby at_144) (fun _ _ => ⟨rfl, e191, (by decide : 4 + 0 ≤ _), (by decide : 136 + 0 ≤ _)⟩)
          dsimp only [Pt.U, Pt.locs, Pt.cells, Pt.slots] at X195 l195 y195 z195 st195 hQ195
          subst l195 y195 z195
          obtain ⟨⟨v195, rfl, B195⟩, Nq195, e195⟩ := hQ195
          unfold own_DV at B195
          have N195 := Fr.app N191 Nq195
          have pre196 : ∀ t, own_s p e below T195 m 147 #[iv i0, iv i1, iv i2, rv sa1, rv sa11, iv (16 : Int32), iv (1 : Int32), iv cc, iv v158, iv (1 : Int32), iv vq, iv (own_G 55 (vq).toInt.toNat), .unset] [(.int v195)] t → Steps p.tables e below S0 t := fun tX kX => pre194 _ (st195 _ kX)
          have pre197 : ∀ t, own_s p e below T195 m 174 #[iv i0, iv i1, iv i2, rv sa1, rv sa11, iv (16 : Int32), iv (1 : Int32), iv cc, iv v158, iv (1 : Int32), iv vq, iv (own_G 55 (vq).toInt.toNat), iv (1 : Int32)] [(.int (1 : Int32))] t → Steps p.tables e below S0 t := by
            intro tX kX
            refine pre196 _ ?_
            show own_s p e below T195 m 147 #[iv i0, iv i1, iv i2, rv sa1, rv sa11, iv (16 : Int32), iv (1 : Int32), iv cc, iv v158, iv (1 : Int32), iv vq, iv (own_G 55 (vq).toInt.toNat), .unset] [(.int v195)] _
            refine XS.iload X195.here hx rfl (hb hby at_147) rfl ?_
            show own_s p e below T195 m 149 #[iv i0, iv i1, iv i2, rv sa1, rv sa11, iv (16 : Int32), iv (1 : Int32), iv cc, iv v158, iv (1 : Int32), iv vq, iv (own_G 55 (vq).toInt.toNat), .unset] [(.int vq), (.int v195)] _
            refine XS.icmpNo X195.here hx rfl (hb hby at_149) rfl (teq (own_eqI (show (v195).toInt = (vq).toInt from (by omega : (v195).toInt = (vq).toInt)))).2 ?_
            show own_s p e below T195 m 152 #[iv i0, iv i1, iv i2, rv sa1, rv sa11, iv (16 : Int32), iv (1 : Int32), iv cc, iv v158, iv (1 : Int32), iv vq, iv (own_G 55 (vq).toInt.toNat), .unset] [] _
            refine XS.iconst X195.here hx rfl (hb hby at_152) ?_
            show own_s p e below T195 m 153 #[iv i0, iv i1, iv i2, rv sa1, rv sa11, iv (16 : Int32), iv (1 : Int32), iv cc, iv v158, iv (1 : Int32), iv vq, iv (own_G 55 (vq).toInt.toNat), .unset] [(.int (1 : Int32))] _
            refine XS.goto X195.here hx rfl (pc0 := 153) (pc' := 157) rfl (hb hby at_153) (by decide) (by decide) ?_
            show own_s p e below T195 m 157 #[iv i0, iv i1, iv i2, rv sa1, rv sa11, iv (16 : Int32), iv (1 : Int32), iv cc, iv v158, iv (1 : Int32), iv vq, iv (own_G 55 (vq).toInt.toNat), .unset] [(.int (1 : Int32))] _
            refine XS.istore X195.here hx rfl (hb hby at_157) rfl (l' := #[iv i0, iv i1, iv i2, rv sa1, rv sa11, iv (16 : Int32), iv (1 : Int32), iv cc, iv v158, iv (1 : Int32), iv vq, iv (own_G 55 (vq).toInt.toNat), iv (1 : Int32)]) rfl ?_
            show own_s p e below T195 m 159 #[iv i0, iv i1, iv i2, rv sa1, rv sa11, iv (16 : Int32), iv (1 : Int32), iv cc, iv v158, iv (1 : Int32), iv vq, iv (own_G 55 (vq).toInt.toNat), iv (1 : Int32)] [] _
            refine XS.iload X195.here hx rfl (hb hby at_159) rfl ?_
            show own_s p e below T195 m 161 #[iv i0, iv i1, iv i2, rv sa1, rv sa11, iv (16 : Int32), iv (1 : Int32), iv cc, iv v158, iv (1 : Int32), iv vq, iv (own_G 55 (vq).toInt.toNat), iv (1 : Int32)] [(.int (1 : Int32))] _
            refine XS.ifNo X195.here hx rfl (hb hby at_161) rfl ((if0 _ _).trans (feq (by decide : ¬ ((1 : Int32) = (0 : Int32)))).1) ?_
            show own_s p e below T195 m 164 #[iv i0, iv i1, iv i2, rv sa1, rv sa11, iv (16 : Int32), iv (1 : Int32), iv cc, iv v158, iv (1 : Int32), iv vq, iv (own_G 55 (vq).toInt.toNat), iv (1 : Int32)] [] _
            refine XS.iload X195.here hx rfl (hb hby at_164) rfl ?_
            show own_s p e below T195 m 166 #[iv i0, iv i1, iv i2, rv sa1, rv sa11, iv (16 : Int32), iv (1 : Int32), iv cc, iv v158, iv (1 : Int32), iv vq, iv (own_G 55 (vq).toInt.toNat), iv (1 : Int32)] [(.int (1 : Int32))] _
            refine XS.ifNo X195.here hx rfl (hb hby at_166) rfl ((if0 _ _).trans (feq (by decide : ¬ ((1 : Int32) = (0 : Int32)))).1) ?_
            show own_s p e below T195 m 169 #[iv i0, iv i1, iv i2, rv sa1, rv sa11, iv (16 : Int32), iv (1 : Int32), iv cc, iv v158, iv (1 : Int32), iv vq, iv (own_G 55 (vq).toInt.toNat), iv (1 : Int32)] [] _
            refine XS.iconst X195.here hx rfl (hb hby at_169) ?_
            show own_s p e below T195 m 170 #[iv i0, iv i1, iv i2, rv sa1, rv sa11, iv (16 : Int32), iv (1 : Int32), iv cc, iv v158, iv (1 : Int32), iv vq, iv (own_G 55 (vq).toInt.toNat), iv (1 : Int32)] [(.int (1 : Int32))] _
            refine XS.goto X195.here hx rfl (pc0 := 170) (pc' := 174) rfl (hb hby at_170) (by decide) (by decide) ?_
            exact kX
          subst hS0
          obtain ⟨fs, hr, hrun, hended, hend⟩ := X195.leaveW hS (by rw [e195]; exact hk11) (v := (some (.int (1 : Int32)))) (fun h => by rw [Bd.returns] at h; cases h)
          exact ⟨_, _, pre197 _ (retN X195 hx (t := .boolean) Bd.returns (by simp) (hb hby at_174) hr), hrun, hended, _, _, rfl, ⟨rfl, hn0 ▸ N195⟩, hend⟩
set_option maxRecDepth 65536 in
set_option maxHeartbeats 40000000 in
theorem comes_1 {Post : Tables → Env → Array Value → State → Outcome → State → Prop} (hpost : ∀ tb e args s v u, (limb_1_1.after args s (.returned v) u = true ∧ limb_1_2.after args s (.returned v) u = true ∧ True) → FramedW s (.returned v) u (Jvm.fieldLocs frame_1_writes args s ++ Jvm.arrayLocs frame_1_arrays args s ++ Jvm.staticLocs frame_1_statics s) 8 2112 → Post tb e args s (.returned v) u) :
    ArmFor flags0 classFile x code maxLocals ret World_1 tables_1 room_1 Calls_1 rest_1 Pre_1 Post := by
  intro l hfl _ _ p e ha hc hk s m args below hf hA hF happ hP
  obtain ⟨hcalls, hrest, hpre⟩ := hP
  obtain ⟨-, -, -, hnamed, -, -, -, hat⟩ := (Spec.applies_iff hf).mp happ
  obtain ⟨hg, hn⟩ := and_e (Cond.before_iff.mp (show (Jvm.Cond.and given_1 narrow_1).before args s = true from hpre))
  obtain ⟨hcnt, q0⟩ := and_e hg
  obtain ⟨ha0, q1⟩ := and_e q0
  obtain ⟨ha1, q2⟩ := and_e q1
  have ha2 := q2
  obtain ⟨w0, w1, w2, rfl⟩ : ∃ w0 w1 w2 : Value, args = #[w0, w1, w2] := by
    have hs : args.size = 3 := by simpa [Cond.value, given_1] using hcnt
    obtain ⟨L⟩ := args
    match L, hs with
    | [w0, w1, w2], _ => exact ⟨w0, w1, w2, rfl⟩
  have hw := fun d (hd : d ∈ tables_1) => atoms_spec (ws := Jvm.Cond.code x code maxLocals ret :: tables_1) hat d (List.mem_cons_of_mem _ hd)
  have hfit : Fit s := fun {y c} hc i hi => by
    obtain ⟨ha, rfl⟩ := Array.getElem?_eq_some_iff.mp hc
    have q := List.all_eq_true.mp ((Array.all_eq_true_iff_forall_mem.mp hF) _ (Array.getElem_mem ha)) i (List.mem_range.mpr hi)
    simpa [Array.getElem?_eq_getElem hi] using q
  obtain ⟨i0, ei0⟩ := is_v ha0
  obtain rfl : w0 = (.int i0) := Option.some.inj ei0
  obtain ⟨i1, ei1⟩ := is_v ha1
  obtain rfl : w1 = (.int i1) := Option.some.inj ei1
  obtain ⟨i2, ei2⟩ := is_v ha2
  obtain rfl : w2 = (.int i2) := Option.some.inj ei2
  obtain ⟨hsets, hown0⟩ := atoms_of _ (rest_1_c_eq ▸ (show rest_1_c.before _ s = true from hrest))
  have hS := fun k (hk : k ∈ jdkStatics_1) => Cond.before_iff.mp (hsets k hk)
  obtain ⟨cs, evc⟩ := is_v (hS _ (List.mem_of_getElem? (i := 1) rfl))
  have S_c := Sta.start evc (Or.inl (hsets _ (List.mem_of_getElem? (i := 0) rfl)))
  obtain ⟨w, evw, hv⟩ := isR_v (hS _ (List.mem_of_getElem? (i := 8) rfl))
  have S_f := Sta.start evw (Or.inl (hsets _ (List.mem_of_getElem? (i := 7) rfl)))
  have hcw : Jvm.Lit.compactW.before _ s = true := hsets _ (List.mem_of_getElem? (i := 2) rfl)
  have hcz : ¬ cs = 0 := fun q => by
    have h2 := not_v (hS _ (List.mem_of_getElem? (i := 2) rfl))
    rw [eq_i evc (Term.int_eval 0) (congrArg Value.int q)] at h2
    cases h2
  obtain ⟨n, o, h1, h2, h3, _, L, rfl, ⟨rfl, N⟩, hq⟩ := rm0 l s _ hw tables_1 i0 i1 i2 w cs hv S_f S_c hcz (fun q hq => hcalls.1 q hq) hcw p e ha hc hk s m _ below hf ((Spec.applies_iff_loose hf).mp happ).1 ⟨rfl, rfl⟩ trivial
  refine ⟨n, _, h1, h2, h3, hpost _ _ _ _ _ _ ⟨Cond.after_iff.mpr rfl, Cond.after_iff.mpr (eq_i res_at (Term.int_eval (1)) rfl), trivial⟩ ⟨hq.1, hq.2.1, hq.2.2.1, (hq.2.2.2.sift fun y hy => Or.inr (N y hy)).mono (by decide) (by decide)⟩⟩
theorem main_1_1 : Claimed_1_1 := comes_1 fun _ _ _ _ _ _ h hF => ⟨h.1, hF⟩
theorem main_1_2 : Claimed_1_2 := comes_1 fun _ _ _ _ _ _ h hF => ⟨h.2.1, hF⟩
end Jvm.Pilot.@@N@@
namespace Jvm.Pilot.@@N@@
open Jvm Jvm.ClassFile Sem Op Lib Jvm.Free Jvm.Stand Jvm.Pilot.@@N@@.Jvm.D
/-! MADE BY PROGRAM (witnessworld.py) out of the Statement's table words and the real class files: 17 classes; the members and pool entries that the words name. The judged class is class 1, her method 1. -/
namespace start1
open Jvm.ClassFile
def u (s : String) : CpInfo := .utf8 (stringToUtf16 s)
/-- a pool by its gaps: so many unusable entries, then the entry; so many at the end -/
def gap : Nat → List CpInfo → List CpInfo
  | 0, r => r
  | n + 1, r => .unusable :: gap n r
def poolList (es : List (Nat × CpInfo)) (last : Nat) : List CpInfo := es.foldr (fun e r => gap e.1 (e.2 :: r)) (gap last [])
def pool (es : List (Nat × CpInfo)) (last : Nat) : Array CpInfo := ⟨poolList es last⟩
def fileOf (pool : Array CpInfo) (this : Nat) (attrs : Array Attribute := #[]) (ms : Array MethodInfo := #[]) (fl : Nat := 33) (sup : Nat := 0) (ifs : Array Nat := #[]) (fds : Array FieldInfo := #[]) : ClassFile where
  minorVersion := 0
  majorVersion := 65
  constantPool := pool
  accessFlags := fl
  thisClass := this
  superClass := sup
  interfaces := ifs
  fields := fds
  methods := ms
  attributes := attrs
def plain (name : String) (sup : Option ClassId) : Class where
  name := name
  kind := .ordinary
  loader := none
  accessFlags := 33
  super := sup
  interfaces := #[]
  cf := none
  fields := #[]
  methods := #[]
  instanceTypes := #[]
  staticTypes := #[]
  resolved := #[]
  callSites := []
  init := .initialized
  statics := none
  mirror := none

def pool0 : Array CpInfo := pool [(5, u "<init>"), (0, u "()V"), (1, .class_ 10), (1, u "java/lang/Object")] 113

def k0m0 : Method := { name := "<init>", desc := "()V", sig := { parameters := [], returnType := none }, accessFlags := 1, code := none }
/-- java/lang/Object -/
def k0 : Class := { plain "java/lang/Object" none with
  accessFlags := 33
  interfaces := #[]
  cf := some (fileOf pool0 8 #[] #[{ accessFlags := 1, nameIndex := 5, descriptorIndex := 6, attributes := #[] }] 33 0 #[] #[])
  fields := #[]
  methods := #[k0m0]
  instanceTypes := #[]
  staticTypes := #[]
  resolved := Array.replicate 124 none
  statics := none }

def pool1 : Array CpInfo := pool [(2, .class_ 4), (1, u "java/lang/Object"), (0, u "<init>"), (0, u "()V"), (0, .string 8), (0, u "0123456789abcdef"), (0, .string 10), (0, u "0123456789ABCDEF"), (0, .methodref 12 13), (0, .class_ 14), (0, .nameAndType 15 16), (0, u "com/example/osier/osier/xml/XmlChars"), (0, u "digitValue"), (0, u "(CI)I"), (0, .methodref 18 19), (0, .class_ 20), (0, .nameAndType 21 22), (0, u "java/lang/String"), (0, u "charAt"), (0, u "(I)C"), (0, .integer 2147483647), (0, .class_ 25), (0, u "com/example/osier/osier/xml/XmlCharsDigitValuePinLaw"), (2, u "law"), (0, u "(III)Z")] 3

def k1m0 : Method := { name := "<init>", desc := "()V", sig := { parameters := [], returnType := none }, accessFlags := 2, code := none }
def k1c1 : Code := { maxStack := 3, maxLocals := 13, code := code, exceptionTable := #[], attributes := #[] }
def k1m1 : Method := { name := "law", desc := "(III)Z", sig := { parameters := [.int, .int, .int], returnType := some .boolean }, accessFlags := 9, code := some k1c1 }
/-- com/example/osier/osier/xml/XmlCharsDigitValuePinLaw -/
def k1 : Class := { plain "com/example/osier/osier/xml/XmlCharsDigitValuePinLaw" (some 0) with
  accessFlags := 49
  interfaces := #[]
  cf := some (fileOf pool1 24 #[] #[{ accessFlags := 2, nameIndex := 5, descriptorIndex := 6, attributes := #[] }, { accessFlags := 9, nameIndex := 28, descriptorIndex := 29, attributes := #[] }] 49 2 #[] #[])
  fields := #[]
  methods := #[k1m0, k1m1]
  instanceTypes := #[]
  staticTypes := #[]
  resolved := Array.replicate 33 none
  statics := none }

def pool2 : Array CpInfo := pool [(1, .class_ 2), (0, u "java/io/Serializable"), (0, .class_ 4), (0, u "java/lang/Object")] 2

/-- java/io/Serializable -/
def k2 : Class := { plain "java/io/Serializable" (some 0) with
  accessFlags := 1537
  interfaces := #[]
  cf := some (fileOf pool2 1 #[] #[] 1537 3 #[] #[])
  fields := #[]
  methods := #[]
  instanceTypes := #[]
  staticTypes := #[]
  resolved := Array.replicate 7 none
  statics := none }

def pool3 : Array CpInfo := pool [(1, .class_ 2), (0, u "java/lang/Comparable"), (0, .class_ 4), (0, u "java/lang/Object")] 7

/-- java/lang/Comparable -/
def k3 : Class := { plain "java/lang/Comparable" (some 0) with
  accessFlags := 1537
  interfaces := #[]
  cf := some (fileOf pool3 1 #[] #[] 1537 3 #[] #[])
  fields := #[]
  methods := #[]
  instanceTypes := #[]
  staticTypes := #[]
  resolved := Array.replicate 12 none
  statics := none }

def pool4 : Array CpInfo := pool [(2, .class_ 4), (1, u "java/lang/CharSequence"), (42, .class_ 48), (0, u "java/lang/CharSequence$1CodePointIterator"), (10, .class_ 60), (0, u "java/lang/CharSequence$1CharIterator"), (5, .class_ 67), (0, u "java/lang/Object")] 63

/-- java/lang/CharSequence -/
def k4 : Class := { plain "java/lang/CharSequence" (some 0) with
  accessFlags := 1537
  interfaces := #[]
  cf := some (fileOf pool4 2 #[.nestMembers #[47, 59]] #[] 1537 66 #[] #[])
  fields := #[]
  methods := #[]
  instanceTypes := #[]
  staticTypes := #[]
  resolved := Array.replicate 131 none
  statics := none }

def pool5 : Array CpInfo := pool [(1, .class_ 2), (0, u "java/lang/constant/Constable"), (0, .class_ 4), (0, u "java/lang/Object")] 6

/-- java/lang/constant/Constable -/
def k5 : Class := { plain "java/lang/constant/Constable" (some 0) with
  accessFlags := 1537
  interfaces := #[]
  cf := some (fileOf pool5 1 #[] #[] 1537 3 #[] #[])
  fields := #[]
  methods := #[]
  instanceTypes := #[]
  staticTypes := #[]
  resolved := Array.replicate 11 none
  statics := none }

def pool6 : Array CpInfo := pool [(1, .class_ 2), (0, u "java/lang/constant/ConstantDesc"), (0, .class_ 4), (0, u "java/lang/Object")] 32

/-- java/lang/constant/ConstantDesc -/
def k6 : Class := { plain "java/lang/constant/ConstantDesc" (some 0) with
  accessFlags := 1537
  interfaces := #[]
  cf := some (fileOf pool6 1 #[] #[] 1537 3 #[] #[])
  fields := #[]
  methods := #[]
  instanceTypes := #[]
  staticTypes := #[]
  resolved := Array.replicate 37 none
  statics := none }

def pool7 : Array CpInfo := pool [(2, .class_ 4), (1, u "java/lang/Object"), (0, u "<init>"), (0, u "()V"), (2, .fieldref 10 11), (0, .class_ 12), (0, .nameAndType 13 14), (0, u "java/lang/String"), (0, u "value"), (0, u "[B"), (0, .fieldref 10 16), (0, .nameAndType 17 18), (0, u "coder"), (0, u "B"), (2, u "hash"), (0, u "I"), (2, u "hashIsZero"), (0, u "Z"), (11, .fieldref 10 39), (0, .nameAndType 40 26), (0, u "COMPACT_STRINGS"), (66, .class_ 109), (1, u "java/lang/StringLatin1"), (32, u "()Z"), (220, u "([BI)C"), (27, u "(II)V"), (35, u "(I)C"), (64, .methodref 10 493), (0, .nameAndType 494 142), (0, u "isLatin1"), (0, .methodref 107 496), (0, .nameAndType 497 363), (0, u "charAt"), (3, u "checkIndex"), (73, .class_ 576), (0, u "java/lang/CharSequence"), (22, u "CASE_INSENSITIVE_ORDER"), (0, u "Ljava/util/Comparator;"), (452, .fieldref 1054 1055), (0, .class_ 1056), (0, .nameAndType 1057 1058), (0, u "jdk/internal/util/Preconditions"), (0, u "SIOOBE_FORMATTER"), (0, u "Ljava/util/function/BiFunction;"), (0, .methodref 1054 1060), (0, .nameAndType 501 1061), (0, u "(IILjava/util/function/BiFunction;)I"), (39, u "serialPersistentFields"), (0, u "[Ljava/io/ObjectStreamField;"), (0, .class_ 1104), (0, u "java/lang/String$CaseInsensitiveComparator"), (1, .class_ 1107), (0, u "java/io/Serializable"), (0, .class_ 1109), (0, u "java/lang/Comparable"), (0, .class_ 1111), (0, u "java/lang/constant/Constable"), (0, .class_ 1113), (0, u "java/lang/constant/ConstantDesc"), (2, u "serialVersionUID"), (0, u "J"), (3, u "REPL"), (0, u "C"), (2, u "LATIN1"), (1, u "UTF16")] 323

def k7m0 : Method := { name := "<init>", desc := "()V", sig := { parameters := [], returnType := none }, accessFlags := 1, code := none }
def k7c1 : Code := { maxStack := 2, maxLocals := 2, code := jdk_42_method_56_code, exceptionTable := #[], attributes := #[] }
def k7m1 : Method := { name := "charAt", desc := "(I)C", sig := { parameters := [.int], returnType := some .char }, accessFlags := 1, code := some k7c1 }
def k7c2 : Code := { maxStack := 1, maxLocals := 1, code := jdk_42_method_154_code, exceptionTable := #[], attributes := #[] }
def k7m2 : Method := { name := "isLatin1", desc := "()Z", sig := { parameters := [], returnType := some .boolean }, accessFlags := 0, code := some k7c2 }
def k7c3 : Code := { maxStack := 3, maxLocals := 2, code := jdk_42_method_155_code, exceptionTable := #[], attributes := #[] }
def k7m3 : Method := { name := "checkIndex", desc := "(II)V", sig := { parameters := [.int, .int], returnType := none }, accessFlags := 8, code := some k7c3 }
/-- java/lang/String -/
def k7 : Class := { plain "java/lang/String" (some 0) with
  accessFlags := 49
  interfaces := #[2, 3, 4, 5, 6]
  cf := some (fileOf pool7 10 #[.nestMembers #[1103]] #[{ accessFlags := 1, nameIndex := 5, descriptorIndex := 6, attributes := #[] }, { accessFlags := 1, nameIndex := 497, descriptorIndex := 427, attributes := #[] }, { accessFlags := 0, nameIndex := 494, descriptorIndex := 142, attributes := #[] }, { accessFlags := 8, nameIndex := 501, descriptorIndex := 391, attributes := #[] }] 49 2 #[1106, 1108, 575, 1110, 1112] #[{ accessFlags := 18, nameIndex := 13, descriptorIndex := 14, attributes := #[] }, { accessFlags := 18, nameIndex := 17, descriptorIndex := 18, attributes := #[] }, { accessFlags := 2, nameIndex := 21, descriptorIndex := 22, attributes := #[] }, { accessFlags := 2, nameIndex := 25, descriptorIndex := 26, attributes := #[] }, { accessFlags := 26, nameIndex := 1116, descriptorIndex := 1117, attributes := #[] }, { accessFlags := 24, nameIndex := 40, descriptorIndex := 26, attributes := #[] }, { accessFlags := 26, nameIndex := 1101, descriptorIndex := 1102, attributes := #[] }, { accessFlags := 26, nameIndex := 1121, descriptorIndex := 1122, attributes := #[] }, { accessFlags := 25, nameIndex := 599, descriptorIndex := 600, attributes := #[] }, { accessFlags := 24, nameIndex := 1125, descriptorIndex := 18, attributes := #[] }, { accessFlags := 24, nameIndex := 1127, descriptorIndex := 18, attributes := #[] }])
  fields := #[{ name := "value", type := (.array .byte), accessFlags := 18, slot := 0, constantValue := 0 }, { name := "coder", type := .byte, accessFlags := 18, slot := 1, constantValue := 0 }, { name := "hash", type := .int, accessFlags := 2, slot := 2, constantValue := 0 }, { name := "hashIsZero", type := .boolean, accessFlags := 2, slot := 3, constantValue := 0 }, { name := "serialVersionUID", type := .long, accessFlags := 26, slot := 0, constantValue := 0 }, { name := "COMPACT_STRINGS", type := .boolean, accessFlags := 24, slot := 1, constantValue := 0 }, { name := "serialPersistentFields", type := (.array (.object "java/io/ObjectStreamField")), accessFlags := 26, slot := 2, constantValue := 0 }, { name := "REPL", type := .char, accessFlags := 26, slot := 3, constantValue := 0 }, { name := "CASE_INSENSITIVE_ORDER", type := (.object "java/util/Comparator"), accessFlags := 25, slot := 4, constantValue := 0 }, { name := "LATIN1", type := .byte, accessFlags := 24, slot := 5, constantValue := 0 }, { name := "UTF16", type := .byte, accessFlags := 24, slot := 6, constantValue := 0 }]
  methods := #[k7m0, k7m1, k7m2, k7m3]
  instanceTypes := #[(.array .byte), .byte, .int, .boolean]
  staticTypes := #[.long, .boolean, (.array (.object "java/io/ObjectStreamField")), .char, (.object "java/util/Comparator"), .byte, .byte]
  resolved := Array.replicate 1451 none
  statics := some 0 }

def pool8 : Array CpInfo := pool [(2, .class_ 4), (1, u "java/lang/Object"), (0, u "<init>"), (0, u "()V"), (16, .class_ 25), (1, u "com/example/osier/osier/xml/XmlChars"), (0, u "NAME_CHARS"), (0, u "[B"), (45, u "NAME_START"), (0, u "B"), (2, u "NAME_PART"), (13, u "digitValue"), (0, u "(CI)I")] 4

def k8m0 : Method := { name := "<init>", desc := "()V", sig := { parameters := [], returnType := none }, accessFlags := 2, code := none }
def k8c1 : Code := { maxStack := 2, maxLocals := 3, code := prog_51_method_8_code, exceptionTable := #[], attributes := #[] }
def k8m1 : Method := { name := "digitValue", desc := "(CI)I", sig := { parameters := [.char, .int], returnType := some .int }, accessFlags := 8, code := some k8c1 }
/-- com/example/osier/osier/xml/XmlChars -/
def k8 : Class := { plain "com/example/osier/osier/xml/XmlChars" (some 0) with
  accessFlags := 33
  interfaces := #[]
  cf := some (fileOf pool8 23 #[] #[{ accessFlags := 2, nameIndex := 5, descriptorIndex := 6, attributes := #[] }, { accessFlags := 8, nameIndex := 91, descriptorIndex := 92, attributes := #[] }] 33 2 #[] #[{ accessFlags := 26, nameIndex := 73, descriptorIndex := 74, attributes := #[] }, { accessFlags := 26, nameIndex := 77, descriptorIndex := 74, attributes := #[] }, { accessFlags := 26, nameIndex := 26, descriptorIndex := 27, attributes := #[] }])
  fields := #[{ name := "NAME_START", type := .byte, accessFlags := 26, slot := 0, constantValue := 0 }, { name := "NAME_PART", type := .byte, accessFlags := 26, slot := 1, constantValue := 0 }, { name := "NAME_CHARS", type := (.array .byte), accessFlags := 26, slot := 2, constantValue := 0 }]
  methods := #[k8m0, k8m1]
  instanceTypes := #[]
  staticTypes := #[.byte, .byte, (.array .byte)]
  resolved := Array.replicate 97 none
  statics := none }

def pool9 : Array CpInfo := pool [(1, .class_ 2), (0, u "java/lang/String"), (1, .class_ 6), (1, u "java/lang/Object"), (0, u "<init>"), (0, u "()V"), (0, .methodref 1 10), (0, .nameAndType 11 12), (0, u "checkIndex"), (0, u "(II)V"), (1, .class_ 16), (1, u "java/lang/StringLatin1"), (36, u "([BI)C"), (67, u "$assertionsDisabled"), (0, u "Z"), (98, .class_ 223), (1, u "java/lang/StringLatin1$LinesSpliterator"), (28, u "charAt"), (137, .class_ 391), (0, u "java/lang/StringLatin1$CharsSpliterator")] 3

def k9m0 : Method := { name := "<init>", desc := "()V", sig := { parameters := [], returnType := none }, accessFlags := 0, code := none }
def k9c1 : Code := { maxStack := 2, maxLocals := 2, code := jdk_43_method_2_code, exceptionTable := #[], attributes := #[] }
def k9m1 : Method := { name := "charAt", desc := "([BI)C", sig := { parameters := [(.array .byte), .int], returnType := some .char }, accessFlags := 9, code := some k9c1 }
/-- java/lang/StringLatin1 -/
def k9 : Class := { plain "java/lang/StringLatin1" (some 0) with
  accessFlags := 48
  interfaces := #[]
  cf := some (fileOf pool9 14 #[.nestMembers #[390, 221]] #[{ accessFlags := 0, nameIndex := 7, descriptorIndex := 8, attributes := #[] }, { accessFlags := 9, nameIndex := 252, descriptorIndex := 53, attributes := #[] }] 48 4 #[] #[{ accessFlags := 4120, nameIndex := 121, descriptorIndex := 122, attributes := #[] }])
  fields := #[{ name := "$assertionsDisabled", type := .boolean, accessFlags := 4120, slot := 0, constantValue := 0 }]
  methods := #[k9m0, k9m1]
  instanceTypes := #[]
  staticTypes := #[.boolean]
  resolved := Array.replicate 395 none
  statics := none }

def pool10 : Array CpInfo := pool [(2, .class_ 4), (1, u "java/lang/Object"), (0, u "<init>"), (0, u "()V"), (17, .class_ 26), (1, u "jdk/internal/util/Preconditions"), (6, u "checkIndex"), (21, .class_ 56), (0, u "jdk/internal/util/Preconditions$4"), (57, .class_ 115), (0, u "jdk/internal/util/Preconditions$1"), (7, u "SIOOBE_FORMATTER"), (0, u "Ljava/util/function/BiFunction;"), (0, .class_ 126), (0, u "jdk/internal/util/Preconditions$2"), (3, u "AIOOBE_FORMATTER"), (0, .class_ 132), (0, u "jdk/internal/util/Preconditions$3"), (3, u "IOOBE_FORMATTER"), (41, u "(IILjava/util/function/BiFunction;)I")] 15

def k10m0 : Method := { name := "<init>", desc := "()V", sig := { parameters := [], returnType := none }, accessFlags := 1, code := none }
def k10c1 : Code := { maxStack := 3, maxLocals := 3, code := jdk_41_method_11_code, exceptionTable := #[], attributes := #[] }
def k10m1 : Method := { name := "checkIndex", desc := "(IILjava/util/function/BiFunction;)I", sig := { parameters := [.int, .int, (.object "java/util/function/BiFunction")], returnType := some .int }, accessFlags := 9, code := some k10c1 }
/-- jdk/internal/util/Preconditions -/
def k10 : Class := { plain "jdk/internal/util/Preconditions" (some 0) with
  accessFlags := 33
  interfaces := #[]
  cf := some (fileOf pool10 24 #[.nestMembers #[55, 131, 125, 114]] #[{ accessFlags := 1, nameIndex := 5, descriptorIndex := 6, attributes := #[] }, { accessFlags := 9, nameIndex := 33, descriptorIndex := 178, attributes := #[] }] 33 2 #[] #[{ accessFlags := 25, nameIndex := 123, descriptorIndex := 124, attributes := #[] }, { accessFlags := 25, nameIndex := 130, descriptorIndex := 124, attributes := #[] }, { accessFlags := 25, nameIndex := 136, descriptorIndex := 124, attributes := #[] }])
  fields := #[{ name := "SIOOBE_FORMATTER", type := (.object "java/util/function/BiFunction"), accessFlags := 25, slot := 0, constantValue := 0 }, { name := "AIOOBE_FORMATTER", type := (.object "java/util/function/BiFunction"), accessFlags := 25, slot := 1, constantValue := 0 }, { name := "IOOBE_FORMATTER", type := (.object "java/util/function/BiFunction"), accessFlags := 25, slot := 2, constantValue := 0 }]
  methods := #[k10m0, k10m1]
  instanceTypes := #[]
  staticTypes := #[(.object "java/util/function/BiFunction"), (.object "java/util/function/BiFunction"), (.object "java/util/function/BiFunction")]
  resolved := Array.replicate 194 none
  statics := some 1 }

def pool11 : Array CpInfo := pool [(9, u "<init>"), (6, .class_ 18), (1, u "java/lang/Object"), (0, u "()V"), (1, .class_ 23), (1, u "jdk/internal/util/ArraysSupport"), (0, u "LOG2_ARRAY_LONG_INDEX_SCALE"), (0, u "I"), (2, u "U"), (0, u "Ljdk/internal/misc/Unsafe;"), (8, u "BIG_ENDIAN"), (0, u "Z"), (8, u "LOG2_BYTE_BIT_SIZE"), (4, u "LOG2_ARRAY_INT_INDEX_SCALE"), (54, u "JLA"), (0, u "Ljdk/internal/access/JavaLangAccess;"), (11, u "LOG2_ARRAY_BOOLEAN_INDEX_SCALE"), (9, u "LOG2_ARRAY_BYTE_INDEX_SCALE"), (5, u "LOG2_ARRAY_CHAR_INDEX_SCALE"), (5, u "LOG2_ARRAY_SHORT_INDEX_SCALE"), (18, u "LOG2_ARRAY_FLOAT_INDEX_SCALE"), (24, u "LOG2_ARRAY_DOUBLE_INDEX_SCALE"), (89, u "T_BOOLEAN"), (2, u "T_CHAR"), (1, u "T_FLOAT"), (1, u "T_DOUBLE"), (1, u "T_BYTE"), (1, u "T_SHORT"), (1, u "T_INT"), (1, u "T_LONG"), (1, u "SOFT_MAX_ARRAY_LENGTH")] 83

def k11m0 : Method := { name := "<init>", desc := "()V", sig := { parameters := [], returnType := none }, accessFlags := 2, code := none }
/-- jdk/internal/util/ArraysSupport -/
def k11 : Class := { plain "jdk/internal/util/ArraysSupport" (some 0) with
  accessFlags := 33
  interfaces := #[]
  cf := some (fileOf pool11 21 #[] #[{ accessFlags := 2, nameIndex := 9, descriptorIndex := 19, attributes := #[] }] 33 16 #[] #[{ accessFlags := 24, nameIndex := 28, descriptorIndex := 29, attributes := #[] }, { accessFlags := 26, nameIndex := 38, descriptorIndex := 39, attributes := #[] }, { accessFlags := 25, nameIndex := 121, descriptorIndex := 25, attributes := #[] }, { accessFlags := 25, nameIndex := 131, descriptorIndex := 25, attributes := #[] }, { accessFlags := 25, nameIndex := 137, descriptorIndex := 25, attributes := #[] }, { accessFlags := 25, nameIndex := 143, descriptorIndex := 25, attributes := #[] }, { accessFlags := 25, nameIndex := 53, descriptorIndex := 25, attributes := #[] }, { accessFlags := 25, nameIndex := 24, descriptorIndex := 25, attributes := #[] }, { accessFlags := 25, nameIndex := 162, descriptorIndex := 25, attributes := #[] }, { accessFlags := 25, nameIndex := 187, descriptorIndex := 25, attributes := #[] }, { accessFlags := 26, nameIndex := 48, descriptorIndex := 25, attributes := #[] }, { accessFlags := 25, nameIndex := 277, descriptorIndex := 25, attributes := #[] }, { accessFlags := 25, nameIndex := 280, descriptorIndex := 25, attributes := #[] }, { accessFlags := 25, nameIndex := 282, descriptorIndex := 25, attributes := #[] }, { accessFlags := 25, nameIndex := 284, descriptorIndex := 25, attributes := #[] }, { accessFlags := 25, nameIndex := 286, descriptorIndex := 25, attributes := #[] }, { accessFlags := 25, nameIndex := 288, descriptorIndex := 25, attributes := #[] }, { accessFlags := 25, nameIndex := 290, descriptorIndex := 25, attributes := #[] }, { accessFlags := 25, nameIndex := 292, descriptorIndex := 25, attributes := #[] }, { accessFlags := 26, nameIndex := 108, descriptorIndex := 109, attributes := #[] }, { accessFlags := 25, nameIndex := 294, descriptorIndex := 25, attributes := #[] }])
  fields := #[{ name := "U", type := (.object "jdk/internal/misc/Unsafe"), accessFlags := 24, slot := 0, constantValue := 0 }, { name := "BIG_ENDIAN", type := .boolean, accessFlags := 26, slot := 1, constantValue := 0 }, { name := "LOG2_ARRAY_BOOLEAN_INDEX_SCALE", type := .int, accessFlags := 25, slot := 2, constantValue := 0 }, { name := "LOG2_ARRAY_BYTE_INDEX_SCALE", type := .int, accessFlags := 25, slot := 3, constantValue := 0 }, { name := "LOG2_ARRAY_CHAR_INDEX_SCALE", type := .int, accessFlags := 25, slot := 4, constantValue := 0 }, { name := "LOG2_ARRAY_SHORT_INDEX_SCALE", type := .int, accessFlags := 25, slot := 5, constantValue := 0 }, { name := "LOG2_ARRAY_INT_INDEX_SCALE", type := .int, accessFlags := 25, slot := 6, constantValue := 0 }, { name := "LOG2_ARRAY_LONG_INDEX_SCALE", type := .int, accessFlags := 25, slot := 7, constantValue := 0 }, { name := "LOG2_ARRAY_FLOAT_INDEX_SCALE", type := .int, accessFlags := 25, slot := 8, constantValue := 0 }, { name := "LOG2_ARRAY_DOUBLE_INDEX_SCALE", type := .int, accessFlags := 25, slot := 9, constantValue := 0 }, { name := "LOG2_BYTE_BIT_SIZE", type := .int, accessFlags := 26, slot := 10, constantValue := 0 }, { name := "T_BOOLEAN", type := .int, accessFlags := 25, slot := 11, constantValue := 0 }, { name := "T_CHAR", type := .int, accessFlags := 25, slot := 12, constantValue := 0 }, { name := "T_FLOAT", type := .int, accessFlags := 25, slot := 13, constantValue := 0 }, { name := "T_DOUBLE", type := .int, accessFlags := 25, slot := 14, constantValue := 0 }, { name := "T_BYTE", type := .int, accessFlags := 25, slot := 15, constantValue := 0 }, { name := "T_SHORT", type := .int, accessFlags := 25, slot := 16, constantValue := 0 }, { name := "T_INT", type := .int, accessFlags := 25, slot := 17, constantValue := 0 }, { name := "T_LONG", type := .int, accessFlags := 25, slot := 18, constantValue := 0 }, { name := "JLA", type := (.object "jdk/internal/access/JavaLangAccess"), accessFlags := 26, slot := 19, constantValue := 0 }, { name := "SOFT_MAX_ARRAY_LENGTH", type := .int, accessFlags := 25, slot := 20, constantValue := 0 }]
  methods := #[k11m0]
  instanceTypes := #[]
  staticTypes := #[(.object "jdk/internal/misc/Unsafe"), .boolean, .int, .int, .int, .int, .int, .int, .int, .int, .int, .int, .int, .int, .int, .int, .int, .int, .int, (.object "jdk/internal/access/JavaLangAccess"), .int]
  resolved := Array.replicate 378 none
  statics := none }

def pool12 : Array CpInfo := pool [(1, u "java/lang/Cloneable"), (0, .class_ 1), (0, u "java/lang/Object"), (0, .class_ 3)] 3

/-- java/lang/Cloneable -/
def k12 : Class := { plain "java/lang/Cloneable" (some 0) with
  accessFlags := 1537
  interfaces := #[]
  cf := some (fileOf pool12 2 #[] #[] 1537 4 #[] #[])
  fields := #[]
  methods := #[]
  instanceTypes := #[]
  staticTypes := #[]
  resolved := Array.replicate 8 none
  statics := none }

/-- the primitive byte -/
def k13 : Class := { plain "byte" none with kind := .primitive 'B', accessFlags := 0x411 }
/-- [B -/
def k14 : Class := { plain "[B" (some 0) with kind := .array 13 .byte, interfaces := #[12, 2], accessFlags := 1041 }

/-- the primitive int -/
def k15 : Class := { plain "int" none with kind := .primitive 'I', accessFlags := 0x411 }
/-- [I -/
def k16 : Class := { plain "[I" (some 0) with kind := .array 15 .int, interfaces := #[12, 2], accessFlags := 1041 }

def heap : Heap := #[{ cls := 7, slots := #[.long 0, .int 1, .null, .int 0, .null, .int 0, .int 0], vm := .statics 7 },
  { cls := 10, slots := #[.null, .null, .null], vm := .statics 10 }]
def classes : Array Class := #[k0, k1, k2, k3, k4, k5, k6, k7, k8, k9, k10, k11, k12, k13, k14, k15, k16]
def interned : List (Array UInt16 × Addr) := []
def slotsUsed : Nat := 10
def theMethod : MethodId := ⟨1, 1⟩
def args0 : Array Value := #[.int 65, .int 3, .int 7]
def aboutOver (below : List Frame) : State where
  vm := { classes := classes, interned := interned.toArray }
  heap := heap
  slotsUsed := slotsUsed
  threads := #[{ frames := .invoking theMethod args0 :: below }]
def below0 : List Frame := [.native { method := ⟨0, 0⟩, args := #[] }]
def about1 : State := aboutOver below0
def p0 : Program := .bare "" "" ""
def e0 : Env := launch0.env 0 0 0
theorem w_frames : about1.frames = Frame.invoking theMethod args0 :: below0 := rfl
set_option maxRecDepth 65536 in
theorem w_args : argsFit about1.vm theMethod args0 = true := by decide +kernel
set_option maxRecDepth 65536 in
theorem w_heap : heapFits about1 = true := by decide +kernel
set_option maxRecDepth 65536 in
theorem w_runnable : about1.curStatus? = some .runnable := by decide +kernel
set_option maxRecDepth 65536 in
theorem w_alone : about1.alone = true := by decide +kernel
set_option maxRecDepth 65536 in
theorem w_named : about1.methodNamed? x = some theMethod := by decide +kernel
set_option maxRecDepth 65536 in
theorem w_hears : about1.hears theMethod below0 = true := by decide +kernel
set_option maxRecDepth 65536 in
theorem w_ripe : about1.ripe theMethod args0 below0 = true := by decide +kernel
theorem w_running : about1.status = .running := rfl
set_option maxRecDepth 65536 in
theorem w_room : about1.hasRoom e0.platform room_1 = true :=
  launch0.hasRoom_least _ room_1 (by decide +kernel) (by decide +kernel) (by decide +kernel) (by decide +kernel) (by decide +kernel) (by decide +kernel)
theorem allAtoms_all (ts : List Jvm.Cond) (a : Array Jvm.Value) (st : Jvm.State) : (allAtoms ts).before a st = ts.all (fun c => c.before a st) := by
  induction ts with
  | nil => rfl
  | cons c t ih =>
    show (Jvm.Cond.and c (allAtoms t)).before a st = _
    rw [Jvm.Cond.before_and, ih, List.all_cons]
def words1 : List Jvm.Cond := Jvm.Cond.code x code maxLocals ret :: tables_1
/-- a 'code' word, met by the world's own term for the bytes: nothing is compared byte by byte -/
theorem code_word {y : MethodName} {bytes : ByteArray} {mx : Nat} {rt : Option FieldType} {a : Array Value} {s : State} {m : MethodId} {meth : Method} {c : Code} (h1 : s.methodNamed? y = some m) (h2 : s.vm.method? m = some meth) (h3 : meth.code = some c) (h4 : c.code = bytes)
    (h5 : (c.maxLocals == mx && c.exceptionTable.isEmpty && decide (c.maxStack ≤ mostOperands) && decide (meth.sig.returnType = rt) && !meth.locks && decide (parseMethodDescriptor y.desc = some meth.sig)) = true) : (Jvm.Cond.code y bytes mx rt).before a s = true := by
  simp only [Bool.and_eq_true, beq_iff_eq, Bool.not_eq_true', decide_eq_true_eq] at h5
  obtain ⟨⟨⟨⟨⟨g1, g2⟩, g3⟩, g4⟩, g5⟩, g6⟩ := h5
  simp [Cond.before, Cond.holds, Cond.value, h1, h2, h3, h4, g1, g2, g3, g4, g5, g6]
def isCode : Jvm.Cond → Bool
  | .code _ _ _ _ => true
  | _ => false
theorem all_split {L : List Jvm.Cond} {P : Jvm.Cond → Bool} (h1 : L.all (fun c => isCode c || P c) = true) (h2 : ∀ c ∈ L.filter isCode, P c = true) : L.all P = true := by
  refine List.all_eq_true.mpr fun c hc => ?_
  have h := List.all_eq_true.mp h1 c hc
  rcases Bool.eq_false_or_eq_true (isCode c) with hi | hi
  · exact h2 c (List.mem_filter.mpr ⟨hc, hi⟩)
  · simpa [hi] using h
set_option maxRecDepth 65536 in
theorem w_c0 : (Jvm.Cond.code x code maxLocals ret).before args0 about1 = true := code_word (m := ⟨1, 1⟩) (meth := k1m1) (c := k1c1) (by decide +kernel) rfl rfl rfl (by decide +kernel)
set_option maxRecDepth 65536 in
theorem w_c1 : (Jvm.Cond.code ({ cls := "com/example/osier/osier/xml/XmlChars", name := "digitValue", desc := "(CI)I" } : Jvm.MethodName) prog_51_method_8_code (3 : Nat) (Option.some Jvm.ClassFile.FieldType.int)).before args0 about1 = true := code_word (m := ⟨8, 1⟩) (meth := k8m1) (c := k8c1) (by decide +kernel) rfl rfl rfl (by decide +kernel)
set_option maxRecDepth 65536 in
theorem w_c2 : (Jvm.Cond.code ({ cls := "java/lang/String", name := "charAt", desc := "(I)C" } : Jvm.MethodName) jdk_42_method_56_code (2 : Nat) (Option.some Jvm.ClassFile.FieldType.char)).before args0 about1 = true := code_word (m := ⟨7, 1⟩) (meth := k7m1) (c := k7c1) (by decide +kernel) rfl rfl rfl (by decide +kernel)
set_option maxRecDepth 65536 in
theorem w_c3 : (Jvm.Cond.code ({ cls := "java/lang/String", name := "isLatin1", desc := "()Z" } : Jvm.MethodName) jdk_42_method_154_code (1 : Nat) (Option.some Jvm.ClassFile.FieldType.boolean)).before args0 about1 = true := code_word (m := ⟨7, 2⟩) (meth := k7m2) (c := k7c2) (by decide +kernel) rfl rfl rfl (by decide +kernel)
set_option maxRecDepth 65536 in
theorem w_c4 : (Jvm.Cond.code ({ cls := "java/lang/StringLatin1", name := "charAt", desc := "([BI)C" } : Jvm.MethodName) jdk_43_method_2_code (2 : Nat) (Option.some Jvm.ClassFile.FieldType.char)).before args0 about1 = true := code_word (m := ⟨9, 1⟩) (meth := k9m1) (c := k9c1) (by decide +kernel) rfl rfl rfl (by decide +kernel)
set_option maxRecDepth 65536 in
theorem w_c5 : (Jvm.Cond.code ({ cls := "java/lang/String", name := "checkIndex", desc := "(II)V" } : Jvm.MethodName) jdk_42_method_155_code (2 : Nat) (Option.none : Option Jvm.ClassFile.FieldType)).before args0 about1 = true := code_word (m := ⟨7, 3⟩) (meth := k7m3) (c := k7c3) (by decide +kernel) rfl rfl rfl (by decide +kernel)
set_option maxRecDepth 65536 in
theorem w_c6 : (Jvm.Cond.code ({ cls := "jdk/internal/util/Preconditions", name := "checkIndex", desc := "(IILjava/util/function/BiFunction;)I" } : Jvm.MethodName) jdk_41_method_11_code (3 : Nat) (Option.some Jvm.ClassFile.FieldType.int)).before args0 about1 = true := code_word (m := ⟨10, 1⟩) (meth := k10m1) (c := k10c1) (by decide +kernel) rfl rfl rfl (by decide +kernel)
def codes1 : List Jvm.Cond := [Jvm.Cond.code x code maxLocals ret, Jvm.Cond.code ({ cls := "com/example/osier/osier/xml/XmlChars", name := "digitValue", desc := "(CI)I" } : Jvm.MethodName) prog_51_method_8_code (3 : Nat) (Option.some Jvm.ClassFile.FieldType.int), Jvm.Cond.code ({ cls := "java/lang/String", name := "charAt", desc := "(I)C" } : Jvm.MethodName) jdk_42_method_56_code (2 : Nat) (Option.some Jvm.ClassFile.FieldType.char), Jvm.Cond.code ({ cls := "java/lang/String", name := "isLatin1", desc := "()Z" } : Jvm.MethodName) jdk_42_method_154_code (1 : Nat) (Option.some Jvm.ClassFile.FieldType.boolean), Jvm.Cond.code ({ cls := "java/lang/StringLatin1", name := "charAt", desc := "([BI)C" } : Jvm.MethodName) jdk_43_method_2_code (2 : Nat) (Option.some Jvm.ClassFile.FieldType.char), Jvm.Cond.code ({ cls := "java/lang/String", name := "checkIndex", desc := "(II)V" } : Jvm.MethodName) jdk_42_method_155_code (2 : Nat) (Option.none : Option Jvm.ClassFile.FieldType), Jvm.Cond.code ({ cls := "jdk/internal/util/Preconditions", name := "checkIndex", desc := "(IILjava/util/function/BiFunction;)I" } : Jvm.MethodName) jdk_41_method_11_code (3 : Nat) (Option.some Jvm.ClassFile.FieldType.int)]
set_option maxRecDepth 65536 in
theorem codes_eq : words1.filter isCode = codes1 := rfl
theorem w_codes : ∀ c ∈ words1.filter isCode, c.before args0 about1 = true := by
  rw [codes_eq]
  intro c hc
  simp only [codes1, List.mem_cons, List.not_mem_nil, or_false] at hc
  rcases hc with rfl | rfl | rfl | rfl | rfl | rfl | rfl
  · exact w_c0
  · exact w_c1
  · exact w_c2
  · exact w_c3
  · exact w_c4
  · exact w_c5
  · exact w_c6
set_option maxRecDepth 65536 in
theorem w_t1 : (words1.take 24).all (fun c => isCode c || c.before args0 about1) = true := by decide +kernel
set_option maxRecDepth 65536 in
theorem w_t2 : (words1.drop 24).all (fun c => isCode c || c.before args0 about1) = true := by decide +kernel
theorem w_tables : (allAtoms (Jvm.Cond.code x code maxLocals ret :: tables_1)).before args0 about1 = true := by
  rw [allAtoms_all]
  show words1.all (fun c => c.before args0 about1) = true
  refine all_split ?_ w_codes
  rw [← List.take_append_drop 24 words1, List.all_append, w_t1, w_t2]
  rfl
set_option maxRecDepth 65536 in
theorem w_rest : rest_1_c.before args0 about1 = true := by decide +kernel
set_option maxRecDepth 65536 in
theorem w_case : (Jvm.Cond.and given_1 narrow_1).before args0 about1 = true := by decide +kernel
set_option maxRecDepth 65536 in
theorem w_consts : constsHeld consts_1 about1 := Jvm.Lit.constsHeldB_iff.mp (by decide +kernel)
theorem w_applies : (headSpec (Jvm.Cond.code x code maxLocals ret :: tables_1) room_1).applies x e0.platform about1 = true :=
  (Spec.applies_iff w_frames).mpr ⟨w_running, w_runnable, w_alone, w_named, w_hears, w_ripe, w_room, w_tables⟩
theorem atStart : AtStart classFile x code maxLocals ret World_1 tables_1 room_1 Calls_1 rest_1 Pre_1 launch0 p0 e0 about1 theMethod args0 below0 :=
  ⟨lists_1, trivial, launch0.admits_env _ _ _, launch0.least_env, fairChoices_fair.cas, fairChoices_fair.clock, w_frames, w_args, w_heap, w_applies, ⟨w_consts, trivial⟩, w_rest, w_case⟩
end start1
theorem witness_1 : WitnessClaimed_1 := ⟨start1.p0, start1.e0, start1.about1, start1.theMethod, start1.args0, start1.below0, start1.atStart⟩
end Jvm.Pilot.@@N@@
