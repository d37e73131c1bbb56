import JvmDerived
import JvmDerived.Pilot.@@N@@Statement
import JvmDerived.Pilot.@@N@@Code
set_option linter.unusedVariables false
set_option linter.unusedSimpArgs false
namespace Jvm.RoadKit
open Sem ClassFile Op Lib Jvm.Stand Jvm.Free Jvm.LawKit
section New
variable {p : Program} {l : Launch} {e : Env} {R : Room} {s : State} {m : MethodId} {args : Array Value} {below : List Frame} {meth : Method} {c : Code} {T : State} {locs : List Loc} {cells slots : Nat}
theorem retI (X : Stand p l e R s m args below meth c T locs cells slots) (hx : p.tables.exec = Jvm.exec) {pc : Nat} {Ls : Array Slot} {z : Int32} {rest : List Value} (hret : meth.sig.returnType = some .int) (hd : decode c.code pc = .ok (.ireturn, 1)) {fs : List Frame}
    (hl : ∀ (f : JFrame) (acts : List Action), f.method = m → f.locked = none → f.entered = [] → (doReturn e (T.setTop f) acts (some (.int z))).1 = T.setFrames fs) : Steps p.tables e below (T.setTop (mkF m pc Ls (.int z :: rest))) (T.setFrames fs) := by
  have hm' : T.vm.method? m = some meth := X.method'
  have hn : narrow .int (.int z) = .int z := rfl
  show Steps p.tables e below (T.setTop { method := m, pc := pc, locals := Ls, stack := _ :: rest, locked := none }) _
  jvm_step X.here [X.here.top, hx, hd, hm', hret, hn]
  first | (intro acts; rw [hl _ acts rfl rfl rfl]) | rw [hl _ _ rfl rfl rfl]
  exact Steps.refl _
end New
end Jvm.RoadKit
namespace Jvm.Pilot.@@N@@
open Jvm Jvm.ClassFile Sem Op Lib Jvm.Free Jvm.Stand Jvm.LawKit Jvm.RoadKit Bundle Jvm.Pilot.@@N@@.Jvm.D
abbrev own_s (p : Program) (e : Env) (below : List Frame) (T : State) (m : MethodId) (pc : Nat) (L : Array Slot) (S : List Value) (t : State) : Prop := Steps p.tables e below (T.setTop (mkF m pc L S)) t
def own_up (f : Nat → Value) (i : Nat) (v : Value) : Nat → Value := fun j => if j = i then v else f j
def own_Af (Z : State) (h : Heap) (a : Addr) (ty : FieldType) (n : Nat) (f : Nat → Value) : Prop := ∃ c : Cell, Arr Z h a c ty ∧ c.slots.size = n ∧ n < 2 ^ 31 ∧ ∀ j, j < n → c.slots[j]? = some (f j)
theorem own_Af.lt {Z : State} {h : Heap} {a : Addr} {ty : FieldType} {n : Nat} {f : Nat → Value} (F : own_Af Z h a ty n f) : a < h.size := by obtain ⟨c, A, -⟩ := F; exact A.lt
theorem own_Af.ext {Z : State} {h h' : Heap} {a : Addr} {ty : FieldType} {n : Nat} {f : Nat → Value} (F : own_Af Z h a ty n f) (E : Ext h h') : own_Af Z h' a ty n f := by obtain ⟨c, A, r⟩ := F; exact ⟨c, A.ext E, r⟩
theorem own_Af.other {Z : State} {h h' : Heap} {a b : Addr} {ty : FieldType} {n : Nat} {f : Nat → Value} {sl : Nat} {v : Value} (F : own_Af Z h b ty n f) (W : Wr h h' a sl v) (q : b ≠ a) : own_Af Z h' b ty n f := by obtain ⟨c, A, r⟩ := F; exact ⟨c, A.other W q, r⟩
theorem own_Af.keep {Z : State} {h h' : Heap} {a : Addr} {ty : FieldType} {n : Nat} {f : Nat → Value} {ws : List Addr} (F : own_Af Z h a ty n f) (K : Keep h h' ws) (q : a ∉ ws) : own_Af Z h' a ty n f := by obtain ⟨c, A, r⟩ := F; exact ⟨c, ⟨K.2.1 a c A.1 q, A.2⟩, r⟩
theorem own_Af.new {Z : State} {h : Heap} {a : Addr} {ty : FieldType} {k : ClassId} {z : Int32} {n : Nat} {d : Value} (A : Arr Z h a (newA k ty z) ty) (q : ¬ z < 0) (hn : z.toNatClampNeg = n) (hd : defaultValue ty = d := by rfl) : own_Af Z h a ty n (fun _ => d) := by
  subst hn hd
  refine ⟨_, A, sz_new _ _ _, (back32 q).2, fun j hj => ?_⟩
  simp [newA, hj]
theorem own_Af.set {Z : State} {h h' : Heap} {a : Addr} {ty : FieldType} {n i : Nat} {f : Nat → Value} {v : Value} {c : Cell} (A : Arr Z h a c ty) (S : c.slots.size = n) (M : n < 2 ^ 31) (H : ∀ j, j < n → c.slots[j]? = some (f j)) (W : Wr h h' a i v) : own_Af Z h' a ty n (own_up f i v) := by
  refine ⟨_, A.same W, by rw [sz_set]; exact S, M, fun j hj => ?_⟩
  have := H j hj
  simp only [own_up, Cell.setSlot]
  by_cases e : j = i
  · subst e; simp [Array.getElem?_setIfInBounds, S, hj]
  · rw [if_neg e, Array.getElem?_setIfInBounds, if_neg (fun q => e q.symm)]; exact this
theorem own_inb {c : Cell} {n : Nat} {j : Int32} (S : c.slots.size = n) (M : n < 2 ^ 31) (q : ¬ j < 0 ∧ j.toNatClampNeg < n) : ¬ (j < 0 ∨ c.slots.size ≤ j.toNatClampNeg) := by
  rw [S]; exact fun z => z.elim q.1 (fun w => absurd q.2 (Nat.not_lt.mpr w))
theorem own_get {c : Cell} {n : Nat} {f : Nat → Value} {j : Int32} {v : Value} (H : ∀ j, j < n → c.slots[j]? = some (f j)) (S : c.slots.size = n) (q : ¬ j < 0 ∧ j.toNatClampNeg < n) (e : f j.toNatClampNeg = v) : c.slots[j.toNatClampNeg]? = some v := by
  rw [H _ q.2, e]
theorem own_b01 {c : Prop} [Decidable c] : (if c then (0 : Int32) else 1) = 0 ∨ (if c then (0 : Int32) else 1) = 1 := by
  by_cases h : c
  · exact Or.inl (if_pos h)
  · exact Or.inr (if_neg h)
theorem own_narB {x : Int32} (h : x = 0 ∨ x = 1) : narrow .boolean (.int x) = .int x := by rcases h with rfl | rfl <;> rfl
theorem own_fitB {x : Int32} (h : x = 0 ∨ x = 1) : fits .boolean (.int x) = true := by rcases h with rfl | rfl <;> rfl
theorem d1_0 : decode prog_13_method_1_code 0 = .ok (.aload_n 0, 1) := by decide +kernel
theorem d1_1 : decode prog_13_method_1_code 1 = .ok (.invokespecial 1, 3) := by decide +kernel
theorem d1_4 : decode prog_13_method_1_code 4 = .ok (.aload_n 0, 1) := by decide +kernel
theorem d1_5 : decode prog_13_method_1_code 5 = .ok (.bipush 16, 2) := by decide +kernel
theorem d1_7 : decode prog_13_method_1_code 7 = .ok (.newarray .long, 2) := by decide +kernel
theorem d1_9 : decode prog_13_method_1_code 9 = .ok (.putfield 7, 3) := by decide +kernel
theorem d1_12 : decode prog_13_method_1_code 12 = .ok (.aload_n 0, 1) := by decide +kernel
theorem d1_13 : decode prog_13_method_1_code 13 = .ok (.bipush 16, 2) := by decide +kernel
theorem d1_15 : decode prog_13_method_1_code 15 = .ok (.newarray .long, 2) := by decide +kernel
theorem d1_17 : decode prog_13_method_1_code 17 = .ok (.putfield 13, 3) := by decide +kernel
theorem d1_20 : decode prog_13_method_1_code 20 = .ok (.aload_n 0, 1) := by decide +kernel
theorem d1_21 : decode prog_13_method_1_code 21 = .ok (.bipush 16, 2) := by decide +kernel
theorem d1_23 : decode prog_13_method_1_code 23 = .ok (.newarray .int, 2) := by decide +kernel
theorem d1_25 : decode prog_13_method_1_code 25 = .ok (.putfield 16, 3) := by decide +kernel
theorem d1_28 : decode prog_13_method_1_code 28 = .ok (.return_, 1) := by decide +kernel
theorem pn_1 : plainName "com/example/weaverbird/weaverbird/engine/Frame" = true := by first | (simp [plainName, overriddenIn]; done) | decide +kernel
theorem ef_1 (m : MethodId) (a : Addr) : entryFrame m #[(.ref a)] 1 = mkF m 0 #[rv a] [] := by first | (simp [entryFrame, mkF, argsToLocals, Value.category]; done) | rfl
def Q1 (Z : State) (a : Addr) (h0 : Heap) (n0 : Nat) (v : Option Value) (h : Heap) (L : List Loc) : Prop := v = none ∧ Fr n0 L ∧ Keep h0 h [a] ∧ ∃ b1 b2 b3 : Addr, n0 ≤ b1 ∧ n0 ≤ b2 ∧ n0 ≤ b3 ∧ b1 ≠ b2 ∧ b1 ≠ b3 ∧ b2 ≠ b3 ∧ a ≠ b1 ∧ a ≠ b2 ∧ a ≠ b3 ∧ Exa Z h a "com/example/weaverbird/weaverbird/engine/Frame" ∧ Fld Z h a "com/example/weaverbird/weaverbird/engine/Frame" "state" "[J" (.ref b1) ∧ Fld Z h a "com/example/weaverbird/weaverbird/engine/Frame" "next" "[J" (.ref b2) ∧ Fld Z h a "com/example/weaverbird/weaverbird/engine/Frame" "trail" "[I" (.ref b3) ∧ Fld Z h a "com/example/weaverbird/weaverbird/engine/Frame" "size" "I" (.int (0 : Int32)) ∧ Fld Z h a "com/example/weaverbird/weaverbird/engine/Frame" "nextSize" "I" (.int (0 : Int32)) ∧ Fld Z h a "com/example/weaverbird/weaverbird/engine/Frame" "lost" "Z" (.int (0 : Int32)) ∧ Fld Z h a "com/example/weaverbird/weaverbird/engine/Frame" "textFaulted" "Z" (.int (0 : Int32)) ∧ Fld Z h a "com/example/weaverbird/weaverbird/engine/Frame" "learned" "Lcom/example/weaverbird/weaverbird/engine/LearnedStates$State;" .null ∧ Fld Z h a "com/example/weaverbird/weaverbird/engine/Frame" "model" "Lcom/example/weaverbird/weaverbird/engine/ContentModel;" .null ∧ Fld Z h a "com/example/weaverbird/weaverbird/engine/Frame" "namespace" "Ljava/lang/String;" .null ∧ Fld Z h a "com/example/weaverbird/weaverbird/engine/Frame" "localName" "Ljava/lang/String;" .null ∧ own_Af Z h b1 .long 16 (fun _ => (.long (0 : Int64))) ∧ own_Af Z h b2 .long 16 (fun _ => (.long (0 : Int64))) ∧ own_Af Z h b3 .int 16 (fun _ => (.int (0 : Int32)))
set_option maxRecDepth 65536 in
set_option maxHeartbeats 40000000 in
theorem rm1 (l : Launch) (Z : State) (a0 : Array Value) (hw : ∀ d ∈ tables_1, d.before a0 Z = true) (ws : List Jvm.Cond) (a : Addr) (h0 : Heap) (n0 : Nat) (Z0 : n0 ≤ h0.size) (E_a : Exa Z h0 a "com/example/weaverbird/weaverbird/engine/Frame") (F_state : Fld Z h0 a "com/example/weaverbird/weaverbird/engine/Frame" "state" "[J" .null) (F_next : Fld Z h0 a "com/example/weaverbird/weaverbird/engine/Frame" "next" "[J" .null) (F_trail : Fld Z h0 a "com/example/weaverbird/weaverbird/engine/Frame" "trail" "[I" .null) (F_size : Fld Z h0 a "com/example/weaverbird/weaverbird/engine/Frame" "size" "I" (.int (0 : Int32))) (F_nextSize : Fld Z h0 a "com/example/weaverbird/weaverbird/engine/Frame" "nextSize" "I" (.int (0 : Int32))) (F_lost : Fld Z h0 a "com/example/weaverbird/weaverbird/engine/Frame" "lost" "Z" (.int (0 : Int32))) (F_textFaulted : Fld Z h0 a "com/example/weaverbird/weaverbird/engine/Frame" "textFaulted" "Z" (.int (0 : Int32))) (F_learned : Fld Z h0 a "com/example/weaverbird/weaverbird/engine/Frame" "learned" "Lcom/example/weaverbird/weaverbird/engine/LearnedStates$State;" .null) (F_model : Fld Z h0 a "com/example/weaverbird/weaverbird/engine/Frame" "model" "Lcom/example/weaverbird/weaverbird/engine/ContentModel;" .null) (F_namespace : Fld Z h0 a "com/example/weaverbird/weaverbird/engine/Frame" "namespace" "Ljava/lang/String;" .null) (F_localName : Fld Z h0 a "com/example/weaverbird/weaverbird/engine/Frame" "localName" "Ljava/lang/String;" .null) (g_a : n0 ≤ a) :
    MetFree l (⟨"com/example/weaverbird/weaverbird/engine/Frame", "<init>", "()V"⟩ : MethodName) (head1 (Jvm.Cond.code (⟨"com/example/weaverbird/weaverbird/engine/Frame", "<init>", "()V"⟩ : MethodName) prog_13_method_1_code 1 none :: ws) ({ frames := 1, cells := 3, slots := 48, locals := 13 } : Room)) (fun aX UX => aX = #[(.ref a)] ∧ Z.Warmed39 UX.vm ∧ UX.heap = h0) (fun _ _ _ _ _ => True) (fun _ UX oX UY => ∃ vX LX, oX = .returned vX ∧ Q1 Z a h0 n0 vX UY.heap LX ∧ FrameEnd UX oX UY LX ({ frames := 1, cells := 3, slots := 48, locals := 13 } : Room).cells ({ frames := 1, cells := 3, slots := 48, locals := 13 } : Room).slots) := by
  refine MetFree.of_bodySF (plainFor_of_name pn_1) hisR ?_
  intro p e s m args below meth c s₁ Bd hml0 hP hK
  obtain ⟨rfl, hZ, hh⟩ := hP
  have hx := Bd.exec
  have hby := Bd.bytes
  have hml : c.maxLocals = 1 := hml0
  have hown : s.vm.findClass "com/example/weaverbird/weaverbird/engine/Frame" = some m.cls := findClass_of_methodNamed Bd.named
  have hnm := (name_of_methodNamed Bd.named Bd.method).1
  have X0 : Stand p l e ({ frames := 1, cells := 3, slots := 48, locals := 13 } : Room) s m #[(.ref a)] below meth c s₁ [] 0 0 := Stand.of_body Bd
  have e0 : s₁.heap = h0 := by rw [← hh, Bd.state]; rfl
  have N0 := Fr.nil n0
  have pre0 : ∀ t, Steps p.tables e below (s₁.setTop (mkF m 0 #[rv a] [])) t → Steps p.tables e below (s₁.setTop (entryFrame m #[(.ref a)] 1)) t := fun t k => castTop (ef_1 m a) k
  obtain ⟨S0, hS0⟩ : ∃ z, z = (s₁.setTop (entryFrame m #[(.ref a)] 1)) := ⟨_, rfl⟩
  rw [← hS0] at pre0
  have K0 : Keep h0 h0 [a] := Keep.refl h0 _
  have pre1 : ∀ t, own_s p e below s₁ m 1 #[rv a] [(.ref a)] t → Steps p.tables e below S0 t := by
    intro tX kX
    refine pre0 _ ?_
    show own_s p e below s₁ m 0 #[rv a] [] _
    refine XS.aloadN X0.here hx rfl (hb hby d1_0) rfl rfl ?_
    exact kX
  obtain ⟨T2, X2, e2, st2⟩ := initO X0 hx hZ hown (hw _ (List.mem_of_getElem? (i := 6) rfl)) (hw _ (List.mem_of_getElem? (i := 7) rfl)) (hw _ (List.mem_of_getElem? (i := 8) rfl)) e0 (g := (mkF m 1 #[rv a] [(.ref a)])) rfl (by rw [hml]; rfl) rfl (hb hby d1_1) (by decide) (W := 0) (by show 2 * 0 + _ ≤ _; exact Nat.le_of_eq rfl) (by decide)
  have pre3 : ∀ t, own_s p e below T2 m 4 #[rv a] [] t → Steps p.tables e below S0 t := fun tX kX => pre1 _ (st2 _ kX)
  have pre4 : ∀ t, own_s p e below T2 m 7 #[rv a] [(.int (16 : Int32)), (.ref a)] t → Steps p.tables e below S0 t := by
    intro tX kX
    refine pre3 _ ?_
    show own_s p e below T2 m 4 #[rv a] [] _
    refine XS.aloadN X2.here hx rfl (hb hby d1_4) rfl rfl ?_
    show own_s p e below T2 m 5 #[rv a] [(.ref a)] _
    refine XS.bipush X2.here hx rfl (hb hby d1_5) ?_
    exact kX
  obtain ⟨T5, h5, k5, X5, e5, E5, A5, st5⟩ := newP X2 hx hZ (hw _ (List.mem_of_getElem? (i := 9) rfl)) e2 (g := (mkF m 7 #[rv a] [(.int (16 : Int32)), (.ref a)])) rfl (hb hby d1_7) rfl (by decide) (cap := 16) (by decide) (by decide) (by decide) (by decide)
  obtain ⟨b5, g5⟩ : ∃ z, z = h0.size := ⟨_, rfl⟩
  rw [← g5] at A5 st5
  have ne6 : a ≠ b5 := Nat.ne_of_lt (Nat.lt_of_lt_of_le E_a.lt (Nat.le_of_eq g5.symm))
  have g_b5 : n0 ≤ b5 := Nat.le_trans Z0 (Nat.le_of_eq g5.symm)
  have sz_b5 : h0.size ≤ b5 := Nat.le_trans K0.1 (Nat.le_of_eq g5.symm)
  have pre7 : ∀ t, own_s p e below T5 m 9 #[rv a] [(.ref b5), (.ref a)] t → Steps p.tables e below S0 t := fun tX kX => pre4 _ (st5 _ kX)
  have f8_E : Exa Z h5 a "com/example/weaverbird/weaverbird/engine/Frame" := E_a.ext E5
  have f9_F : Fld Z h5 a "com/example/weaverbird/weaverbird/engine/Frame" "state" "[J" .null := F_state.ext E5
  have f10_F : Fld Z h5 a "com/example/weaverbird/weaverbird/engine/Frame" "next" "[J" .null := F_next.ext E5
  have f11_F : Fld Z h5 a "com/example/weaverbird/weaverbird/engine/Frame" "trail" "[I" .null := F_trail.ext E5
  have f12_F : Fld Z h5 a "com/example/weaverbird/weaverbird/engine/Frame" "size" "I" (.int (0 : Int32)) := F_size.ext E5
  have f13_F : Fld Z h5 a "com/example/weaverbird/weaverbird/engine/Frame" "nextSize" "I" (.int (0 : Int32)) := F_nextSize.ext E5
  have f14_F : Fld Z h5 a "com/example/weaverbird/weaverbird/engine/Frame" "lost" "Z" (.int (0 : Int32)) := F_lost.ext E5
  have f15_F : Fld Z h5 a "com/example/weaverbird/weaverbird/engine/Frame" "textFaulted" "Z" (.int (0 : Int32)) := F_textFaulted.ext E5
  have f16_F : Fld Z h5 a "com/example/weaverbird/weaverbird/engine/Frame" "learned" "Lcom/example/weaverbird/weaverbird/engine/LearnedStates$State;" .null := F_learned.ext E5
  have f17_F : Fld Z h5 a "com/example/weaverbird/weaverbird/engine/Frame" "model" "Lcom/example/weaverbird/weaverbird/engine/ContentModel;" .null := F_model.ext E5
  have f18_F : Fld Z h5 a "com/example/weaverbird/weaverbird/engine/Frame" "namespace" "Ljava/lang/String;" .null := F_namespace.ext E5
  have f19_F : Fld Z h5 a "com/example/weaverbird/weaverbird/engine/Frame" "localName" "Ljava/lang/String;" .null := F_localName.ext E5
  have Z20 : n0 ≤ h5.size := Nat.le_trans Z0 E5.1
  have K21 : Keep h0 h5 [a] := K0.ext E5
  have f22_A : own_Af Z h5 b5 .long 16 (fun _ => (.long (0 : Int64))) := own_Af.new A5 (by decide) rfl
  obtain ⟨T23, h23, X23, e23, W23, st23⟩ := putF X5 hx hZ hown (host := "") (Or.inl (hw _ (List.mem_of_getElem? (i := 10) rfl))) Via.refl e5 f9_F f8_E (Or.inl (hw _ (List.mem_of_getElem? (i := 11) rfl))) (hw _ (List.mem_of_getElem? (i := 1) rfl)) (ty := (.array .long)) (by decide) rfl rfl (g := (mkF m 9 #[rv a] [(.ref b5), (.ref a)])) rfl rfl (hb hby d1_9)
  have pre24 : ∀ t, own_s p e below T23 m 12 #[rv a] [] t → Steps p.tables e below S0 t := fun tX kX => pre7 _ (st23 _ kX)
  have N25 := Fr.snoc X23 N0 g_a
  have f26_E : Exa Z h23 a "com/example/weaverbird/weaverbird/engine/Frame" := f8_E.wr W23
  have f27_F : Fld Z h23 a "com/example/weaverbird/weaverbird/engine/Frame" "next" "[J" .null := f10_F.other W23 (Or.inr (slot_ne (Or.inl (hw _ (List.mem_of_getElem? (i := 13) rfl))) (Or.inl (hw _ (List.mem_of_getElem? (i := 11) rfl))) (by decide) (t := (.array .long)) (t' := (.array .long)) (by decide) (by decide)))
  have f28_F : Fld Z h23 a "com/example/weaverbird/weaverbird/engine/Frame" "trail" "[I" .null := f11_F.other W23 (Or.inr (slot_ne (Or.inl (hw _ (List.mem_of_getElem? (i := 16) rfl))) (Or.inl (hw _ (List.mem_of_getElem? (i := 11) rfl))) (by decide) (t := (.array .int)) (t' := (.array .long)) (by decide) (by decide)))
  have f29_F : Fld Z h23 a "com/example/weaverbird/weaverbird/engine/Frame" "size" "I" (.int (0 : Int32)) := f12_F.other W23 (Or.inr (slot_ne (Or.inl (hw _ (List.mem_of_getElem? (i := 21) rfl))) (Or.inl (hw _ (List.mem_of_getElem? (i := 11) rfl))) (by decide) (t := .int) (t' := (.array .long)) (by decide) (by decide)))
  have f30_F : Fld Z h23 a "com/example/weaverbird/weaverbird/engine/Frame" "nextSize" "I" (.int (0 : Int32)) := f13_F.other W23 (Or.inr (slot_ne (Or.inl (hw _ (List.mem_of_getElem? (i := 23) rfl))) (Or.inl (hw _ (List.mem_of_getElem? (i := 11) rfl))) (by decide) (t := .int) (t' := (.array .long)) (by decide) (by decide)))
  have f31_F : Fld Z h23 a "com/example/weaverbird/weaverbird/engine/Frame" "lost" "Z" (.int (0 : Int32)) := f14_F.other W23 (Or.inr (slot_ne (Or.inl (hw _ (List.mem_of_getElem? (i := 25) rfl))) (Or.inl (hw _ (List.mem_of_getElem? (i := 11) rfl))) (by decide) (t := .boolean) (t' := (.array .long)) (by decide) (by decide)))
  have f32_F : Fld Z h23 a "com/example/weaverbird/weaverbird/engine/Frame" "textFaulted" "Z" (.int (0 : Int32)) := f15_F.other W23 (Or.inr (slot_ne (Or.inl (hw _ (List.mem_of_getElem? (i := 27) rfl))) (Or.inl (hw _ (List.mem_of_getElem? (i := 11) rfl))) (by decide) (t := .boolean) (t' := (.array .long)) (by decide) (by decide)))
  have f33_F : Fld Z h23 a "com/example/weaverbird/weaverbird/engine/Frame" "learned" "Lcom/example/weaverbird/weaverbird/engine/LearnedStates$State;" .null := f16_F.other W23 (Or.inr (slot_ne (Or.inl (hw _ (List.mem_of_getElem? (i := 36) rfl))) (Or.inl (hw _ (List.mem_of_getElem? (i := 11) rfl))) (by decide) (t := (.object "com/example/weaverbird/weaverbird/engine/LearnedStates$State")) (t' := (.array .long)) (by decide) (by decide)))
  have f34_F : Fld Z h23 a "com/example/weaverbird/weaverbird/engine/Frame" "model" "Lcom/example/weaverbird/weaverbird/engine/ContentModel;" .null := f17_F.other W23 (Or.inr (slot_ne (Or.inl (hw _ (List.mem_of_getElem? (i := 38) rfl))) (Or.inl (hw _ (List.mem_of_getElem? (i := 11) rfl))) (by decide) (t := (.object "com/example/weaverbird/weaverbird/engine/ContentModel")) (t' := (.array .long)) (by decide) (by decide)))
  have f35_F : Fld Z h23 a "com/example/weaverbird/weaverbird/engine/Frame" "namespace" "Ljava/lang/String;" .null := f18_F.other W23 (Or.inr (slot_ne (Or.inl (hw _ (List.mem_of_getElem? (i := 40) rfl))) (Or.inl (hw _ (List.mem_of_getElem? (i := 11) rfl))) (by decide) (t := (.object "java/lang/String")) (t' := (.array .long)) (by decide) (by decide)))
  have f36_F : Fld Z h23 a "com/example/weaverbird/weaverbird/engine/Frame" "localName" "Ljava/lang/String;" .null := f19_F.other W23 (Or.inr (slot_ne (Or.inl (hw _ (List.mem_of_getElem? (i := 42) rfl))) (Or.inl (hw _ (List.mem_of_getElem? (i := 11) rfl))) (by decide) (t := (.object "java/lang/String")) (t' := (.array .long)) (by decide) (by decide)))
  have f37_A : own_Af Z h23 b5 .long 16 (fun _ => (.long (0 : Int64))) := f22_A.other W23 (Ne.symm ne6)
  have Z38 : n0 ≤ h23.size := Nat.le_trans Z20 (Keep.of_wr W23).1
  have K39 : Keep h0 h23 [a] := K21.wr W23 (Or.inl (List.mem_of_getElem? (i := 0) rfl))
  have f40_F : Fld Z h23 a "com/example/weaverbird/weaverbird/engine/Frame" "state" "[J" (.ref b5) := f9_F.same W23
  have pre41 : ∀ t, own_s p e below T23 m 15 #[rv a] [(.int (16 : Int32)), (.ref a)] t → Steps p.tables e below S0 t := by
    intro tX kX
    refine pre24 _ ?_
    show own_s p e below T23 m 12 #[rv a] [] _
    refine XS.aloadN X23.here hx rfl (hb hby d1_12) rfl rfl ?_
    show own_s p e below T23 m 13 #[rv a] [(.ref a)] _
    refine XS.bipush X23.here hx rfl (hb hby d1_13) ?_
    exact kX
  obtain ⟨T42, h42, k42, X42, e42, E42, A42, st42⟩ := newP X23 hx hZ (hw _ (List.mem_of_getElem? (i := 9) rfl)) e23 (g := (mkF m 15 #[rv a] [(.int (16 : Int32)), (.ref a)])) rfl (hb hby d1_15) rfl (by decide) (cap := 16) (by decide) (by decide) (by decide) (by decide)
  obtain ⟨b42, g42⟩ : ∃ z, z = h23.size := ⟨_, rfl⟩
  rw [← g42] at A42 st42
  have ne43 : a ≠ b42 := Nat.ne_of_lt (Nat.lt_of_lt_of_le f26_E.lt (Nat.le_of_eq g42.symm))
  have ne44 : b5 ≠ b42 := Nat.ne_of_lt (Nat.lt_of_lt_of_le f37_A.lt (Nat.le_of_eq g42.symm))
  have g_b42 : n0 ≤ b42 := Nat.le_trans Z38 (Nat.le_of_eq g42.symm)
  have sz_b42 : h0.size ≤ b42 := Nat.le_trans K39.1 (Nat.le_of_eq g42.symm)
  have pre45 : ∀ t, own_s p e below T42 m 17 #[rv a] [(.ref b42), (.ref a)] t → Steps p.tables e below S0 t := fun tX kX => pre41 _ (st42 _ kX)
  have f46_E : Exa Z h42 a "com/example/weaverbird/weaverbird/engine/Frame" := f26_E.ext E42
  have f47_F : Fld Z h42 a "com/example/weaverbird/weaverbird/engine/Frame" "next" "[J" .null := f27_F.ext E42
  have f48_F : Fld Z h42 a "com/example/weaverbird/weaverbird/engine/Frame" "trail" "[I" .null := f28_F.ext E42
  have f49_F : Fld Z h42 a "com/example/weaverbird/weaverbird/engine/Frame" "size" "I" (.int (0 : Int32)) := f29_F.ext E42
  have f50_F : Fld Z h42 a "com/example/weaverbird/weaverbird/engine/Frame" "nextSize" "I" (.int (0 : Int32)) := f30_F.ext E42
  have f51_F : Fld Z h42 a "com/example/weaverbird/weaverbird/engine/Frame" "lost" "Z" (.int (0 : Int32)) := f31_F.ext E42
  have f52_F : Fld Z h42 a "com/example/weaverbird/weaverbird/engine/Frame" "textFaulted" "Z" (.int (0 : Int32)) := f32_F.ext E42
  have f53_F : Fld Z h42 a "com/example/weaverbird/weaverbird/engine/Frame" "learned" "Lcom/example/weaverbird/weaverbird/engine/LearnedStates$State;" .null := f33_F.ext E42
  have f54_F : Fld Z h42 a "com/example/weaverbird/weaverbird/engine/Frame" "model" "Lcom/example/weaverbird/weaverbird/engine/ContentModel;" .null := f34_F.ext E42
  have f55_F : Fld Z h42 a "com/example/weaverbird/weaverbird/engine/Frame" "namespace" "Ljava/lang/String;" .null := f35_F.ext E42
  have f56_F : Fld Z h42 a "com/example/weaverbird/weaverbird/engine/Frame" "localName" "Ljava/lang/String;" .null := f36_F.ext E42
  have f57_A : own_Af Z h42 b5 .long 16 (fun _ => (.long (0 : Int64))) := f37_A.ext E42
  have f58_F : Fld Z h42 a "com/example/weaverbird/weaverbird/engine/Frame" "state" "[J" (.ref b5) := f40_F.ext E42
  have Z59 : n0 ≤ h42.size := Nat.le_trans Z38 E42.1
  have K60 : Keep h0 h42 [a] := K39.ext E42
  have f61_A : own_Af Z h42 b42 .long 16 (fun _ => (.long (0 : Int64))) := own_Af.new A42 (by decide) rfl
  obtain ⟨T62, h62, X62, e62, W62, st62⟩ := putF X42 hx hZ hown (host := "") (Or.inl (hw _ (List.mem_of_getElem? (i := 12) rfl))) Via.refl e42 f47_F f46_E (Or.inl (hw _ (List.mem_of_getElem? (i := 13) rfl))) (hw _ (List.mem_of_getElem? (i := 1) rfl)) (ty := (.array .long)) (by decide) rfl rfl (g := (mkF m 17 #[rv a] [(.ref b42), (.ref a)])) rfl rfl (hb hby d1_17)
  have pre63 : ∀ t, own_s p e below T62 m 20 #[rv a] [] t → Steps p.tables e below S0 t := fun tX kX => pre45 _ (st62 _ kX)
  have N64 := Fr.snoc X62 N25 g_a
  have f65_E : Exa Z h62 a "com/example/weaverbird/weaverbird/engine/Frame" := f46_E.wr W62
  have f66_F : Fld Z h62 a "com/example/weaverbird/weaverbird/engine/Frame" "trail" "[I" .null := f48_F.other W62 (Or.inr (slot_ne (Or.inl (hw _ (List.mem_of_getElem? (i := 16) rfl))) (Or.inl (hw _ (List.mem_of_getElem? (i := 13) rfl))) (by decide) (t := (.array .int)) (t' := (.array .long)) (by decide) (by decide)))
  have f67_F : Fld Z h62 a "com/example/weaverbird/weaverbird/engine/Frame" "size" "I" (.int (0 : Int32)) := f49_F.other W62 (Or.inr (slot_ne (Or.inl (hw _ (List.mem_of_getElem? (i := 21) rfl))) (Or.inl (hw _ (List.mem_of_getElem? (i := 13) rfl))) (by decide) (t := .int) (t' := (.array .long)) (by decide) (by decide)))
  have f68_F : Fld Z h62 a "com/example/weaverbird/weaverbird/engine/Frame" "nextSize" "I" (.int (0 : Int32)) := f50_F.other W62 (Or.inr (slot_ne (Or.inl (hw _ (List.mem_of_getElem? (i := 23) rfl))) (Or.inl (hw _ (List.mem_of_getElem? (i := 13) rfl))) (by decide) (t := .int) (t' := (.array .long)) (by decide) (by decide)))
  have f69_F : Fld Z h62 a "com/example/weaverbird/weaverbird/engine/Frame" "lost" "Z" (.int (0 : Int32)) := f51_F.other W62 (Or.inr (slot_ne (Or.inl (hw _ (List.mem_of_getElem? (i := 25) rfl))) (Or.inl (hw _ (List.mem_of_getElem? (i := 13) rfl))) (by decide) (t := .boolean) (t' := (.array .long)) (by decide) (by decide)))
  have f70_F : Fld Z h62 a "com/example/weaverbird/weaverbird/engine/Frame" "textFaulted" "Z" (.int (0 : Int32)) := f52_F.other W62 (Or.inr (slot_ne (Or.inl (hw _ (List.mem_of_getElem? (i := 27) rfl))) (Or.inl (hw _ (List.mem_of_getElem? (i := 13) rfl))) (by decide) (t := .boolean) (t' := (.array .long)) (by decide) (by decide)))
  have f71_F : Fld Z h62 a "com/example/weaverbird/weaverbird/engine/Frame" "learned" "Lcom/example/weaverbird/weaverbird/engine/LearnedStates$State;" .null := f53_F.other W62 (Or.inr (slot_ne (Or.inl (hw _ (List.mem_of_getElem? (i := 36) rfl))) (Or.inl (hw _ (List.mem_of_getElem? (i := 13) rfl))) (by decide) (t := (.object "com/example/weaverbird/weaverbird/engine/LearnedStates$State")) (t' := (.array .long)) (by decide) (by decide)))
  have f72_F : Fld Z h62 a "com/example/weaverbird/weaverbird/engine/Frame" "model" "Lcom/example/weaverbird/weaverbird/engine/ContentModel;" .null := f54_F.other W62 (Or.inr (slot_ne (Or.inl (hw _ (List.mem_of_getElem? (i := 38) rfl))) (Or.inl (hw _ (List.mem_of_getElem? (i := 13) rfl))) (by decide) (t := (.object "com/example/weaverbird/weaverbird/engine/ContentModel")) (t' := (.array .long)) (by decide) (by decide)))
  have f73_F : Fld Z h62 a "com/example/weaverbird/weaverbird/engine/Frame" "namespace" "Ljava/lang/String;" .null := f55_F.other W62 (Or.inr (slot_ne (Or.inl (hw _ (List.mem_of_getElem? (i := 40) rfl))) (Or.inl (hw _ (List.mem_of_getElem? (i := 13) rfl))) (by decide) (t := (.object "java/lang/String")) (t' := (.array .long)) (by decide) (by decide)))
  have f74_F : Fld Z h62 a "com/example/weaverbird/weaverbird/engine/Frame" "localName" "Ljava/lang/String;" .null := f56_F.other W62 (Or.inr (slot_ne (Or.inl (hw _ (List.mem_of_getElem? (i := 42) rfl))) (Or.inl (hw _ (List.mem_of_getElem? (i := 13) rfl))) (by decide) (t := (.object "java/lang/String")) (t' := (.array .long)) (by decide) (by decide)))
  have f75_A : own_Af Z h62 b5 .long 16 (fun _ => (.long (0 : Int64))) := f57_A.other W62 (Ne.symm ne6)
  have f76_F : Fld Z h62 a "com/example/weaverbird/weaverbird/engine/Frame" "state" "[J" (.ref b5) := f58_F.other W62 (Or.inr (slot_ne (Or.inl (hw _ (List.mem_of_getElem? (i := 11) rfl))) (Or.inl (hw _ (List.mem_of_getElem? (i := 13) rfl))) (by decide) (t := (.array .long)) (t' := (.array .long)) (by decide) (by decide)))
  have f77_A : own_Af Z h62 b42 .long 16 (fun _ => (.long (0 : Int64))) := f61_A.other W62 (Ne.symm ne43)
  have Z78 : n0 ≤ h62.size := Nat.le_trans Z59 (Keep.of_wr W62).1
  have K79 : Keep h0 h62 [a] := K60.wr W62 (Or.inl (List.mem_of_getElem? (i := 0) rfl))
  have f80_F : Fld Z h62 a "com/example/weaverbird/weaverbird/engine/Frame" "next" "[J" (.ref b42) := f47_F.same W62
  have pre81 : ∀ t, own_s p e below T62 m 23 #[rv a] [(.int (16 : Int32)), (.ref a)] t → Steps p.tables e below S0 t := by
    intro tX kX
    refine pre63 _ ?_
    show own_s p e below T62 m 20 #[rv a] [] _
    refine XS.aloadN X62.here hx rfl (hb hby d1_20) rfl rfl ?_
    show own_s p e below T62 m 21 #[rv a] [(.ref a)] _
    refine XS.bipush X62.here hx rfl (hb hby d1_21) ?_
    exact kX
  obtain ⟨T82, h82, k82, X82, e82, E82, A82, st82⟩ := newP X62 hx hZ (hw _ (List.mem_of_getElem? (i := 14) rfl)) e62 (g := (mkF m 23 #[rv a] [(.int (16 : Int32)), (.ref a)])) rfl (hb hby d1_23) rfl (by decide) (cap := 16) (by decide) (by decide) (by decide) (by decide)
  obtain ⟨b82, g82⟩ : ∃ z, z = h62.size := ⟨_, rfl⟩
  rw [← g82] at A82 st82
  have ne83 : a ≠ b82 := Nat.ne_of_lt (Nat.lt_of_lt_of_le f65_E.lt (Nat.le_of_eq g82.symm))
  have ne84 : b5 ≠ b82 := Nat.ne_of_lt (Nat.lt_of_lt_of_le f75_A.lt (Nat.le_of_eq g82.symm))
  have ne85 : b42 ≠ b82 := Nat.ne_of_lt (Nat.lt_of_lt_of_le f77_A.lt (Nat.le_of_eq g82.symm))
  have g_b82 : n0 ≤ b82 := Nat.le_trans Z78 (Nat.le_of_eq g82.symm)
  have sz_b82 : h0.size ≤ b82 := Nat.le_trans K79.1 (Nat.le_of_eq g82.symm)
  have pre86 : ∀ t, own_s p e below T82 m 25 #[rv a] [(.ref b82), (.ref a)] t → Steps p.tables e below S0 t := fun tX kX => pre81 _ (st82 _ kX)
  have f87_E : Exa Z h82 a "com/example/weaverbird/weaverbird/engine/Frame" := f65_E.ext E82
  have f88_F : Fld Z h82 a "com/example/weaverbird/weaverbird/engine/Frame" "trail" "[I" .null := f66_F.ext E82
  have f89_F : Fld Z h82 a "com/example/weaverbird/weaverbird/engine/Frame" "size" "I" (.int (0 : Int32)) := f67_F.ext E82
  have f90_F : Fld Z h82 a "com/example/weaverbird/weaverbird/engine/Frame" "nextSize" "I" (.int (0 : Int32)) := f68_F.ext E82
  have f91_F : Fld Z h82 a "com/example/weaverbird/weaverbird/engine/Frame" "lost" "Z" (.int (0 : Int32)) := f69_F.ext E82
  have f92_F : Fld Z h82 a "com/example/weaverbird/weaverbird/engine/Frame" "textFaulted" "Z" (.int (0 : Int32)) := f70_F.ext E82
  have f93_F : Fld Z h82 a "com/example/weaverbird/weaverbird/engine/Frame" "learned" "Lcom/example/weaverbird/weaverbird/engine/LearnedStates$State;" .null := f71_F.ext E82
  have f94_F : Fld Z h82 a "com/example/weaverbird/weaverbird/engine/Frame" "model" "Lcom/example/weaverbird/weaverbird/engine/ContentModel;" .null := f72_F.ext E82
  have f95_F : Fld Z h82 a "com/example/weaverbird/weaverbird/engine/Frame" "namespace" "Ljava/lang/String;" .null := f73_F.ext E82
  have f96_F : Fld Z h82 a "com/example/weaverbird/weaverbird/engine/Frame" "localName" "Ljava/lang/String;" .null := f74_F.ext E82
  have f97_A : own_Af Z h82 b5 .long 16 (fun _ => (.long (0 : Int64))) := f75_A.ext E82
  have f98_F : Fld Z h82 a "com/example/weaverbird/weaverbird/engine/Frame" "state" "[J" (.ref b5) := f76_F.ext E82
  have f99_A : own_Af Z h82 b42 .long 16 (fun _ => (.long (0 : Int64))) := f77_A.ext E82
  have f100_F : Fld Z h82 a "com/example/weaverbird/weaverbird/engine/Frame" "next" "[J" (.ref b42) := f80_F.ext E82
  have Z101 : n0 ≤ h82.size := Nat.le_trans Z78 E82.1
  have K102 : Keep h0 h82 [a] := K79.ext E82
  have f103_A : own_Af Z h82 b82 .int 16 (fun _ => (.int (0 : Int32))) := own_Af.new A82 (by decide) rfl
  obtain ⟨T104, h104, X104, e104, W104, st104⟩ := putF X82 hx hZ hown (host := "") (Or.inl (hw _ (List.mem_of_getElem? (i := 15) rfl))) Via.refl e82 f88_F f87_E (Or.inl (hw _ (List.mem_of_getElem? (i := 16) rfl))) (hw _ (List.mem_of_getElem? (i := 1) rfl)) (ty := (.array .int)) (by decide) rfl rfl (g := (mkF m 25 #[rv a] [(.ref b82), (.ref a)])) rfl rfl (hb hby d1_25)
  have pre105 : ∀ t, own_s p e below T104 m 28 #[rv a] [] t → Steps p.tables e below S0 t := fun tX kX => pre86 _ (st104 _ kX)
  have N106 := Fr.snoc X104 N64 g_a
  have f107_E : Exa Z h104 a "com/example/weaverbird/weaverbird/engine/Frame" := f87_E.wr W104
  have f108_F : Fld Z h104 a "com/example/weaverbird/weaverbird/engine/Frame" "size" "I" (.int (0 : Int32)) := f89_F.other W104 (Or.inr (slot_ne (Or.inl (hw _ (List.mem_of_getElem? (i := 21) rfl))) (Or.inl (hw _ (List.mem_of_getElem? (i := 16) rfl))) (by decide) (t := .int) (t' := (.array .int)) (by decide) (by decide)))
  have f109_F : Fld Z h104 a "com/example/weaverbird/weaverbird/engine/Frame" "nextSize" "I" (.int (0 : Int32)) := f90_F.other W104 (Or.inr (slot_ne (Or.inl (hw _ (List.mem_of_getElem? (i := 23) rfl))) (Or.inl (hw _ (List.mem_of_getElem? (i := 16) rfl))) (by decide) (t := .int) (t' := (.array .int)) (by decide) (by decide)))
  have f110_F : Fld Z h104 a "com/example/weaverbird/weaverbird/engine/Frame" "lost" "Z" (.int (0 : Int32)) := f91_F.other W104 (Or.inr (slot_ne (Or.inl (hw _ (List.mem_of_getElem? (i := 25) rfl))) (Or.inl (hw _ (List.mem_of_getElem? (i := 16) rfl))) (by decide) (t := .boolean) (t' := (.array .int)) (by decide) (by decide)))
  have f111_F : Fld Z h104 a "com/example/weaverbird/weaverbird/engine/Frame" "textFaulted" "Z" (.int (0 : Int32)) := f92_F.other W104 (Or.inr (slot_ne (Or.inl (hw _ (List.mem_of_getElem? (i := 27) rfl))) (Or.inl (hw _ (List.mem_of_getElem? (i := 16) rfl))) (by decide) (t := .boolean) (t' := (.array .int)) (by decide) (by decide)))
  have f112_F : Fld Z h104 a "com/example/weaverbird/weaverbird/engine/Frame" "learned" "Lcom/example/weaverbird/weaverbird/engine/LearnedStates$State;" .null := f93_F.other W104 (Or.inr (slot_ne (Or.inl (hw _ (List.mem_of_getElem? (i := 36) rfl))) (Or.inl (hw _ (List.mem_of_getElem? (i := 16) rfl))) (by decide) (t := (.object "com/example/weaverbird/weaverbird/engine/LearnedStates$State")) (t' := (.array .int)) (by decide) (by decide)))
  have f113_F : Fld Z h104 a "com/example/weaverbird/weaverbird/engine/Frame" "model" "Lcom/example/weaverbird/weaverbird/engine/ContentModel;" .null := f94_F.other W104 (Or.inr (slot_ne (Or.inl (hw _ (List.mem_of_getElem? (i := 38) rfl))) (Or.inl (hw _ (List.mem_of_getElem? (i := 16) rfl))) (by decide) (t := (.object "com/example/weaverbird/weaverbird/engine/ContentModel")) (t' := (.array .int)) (by decide) (by decide)))
  have f114_F : Fld Z h104 a "com/example/weaverbird/weaverbird/engine/Frame" "namespace" "Ljava/lang/String;" .null := f95_F.other W104 (Or.inr (slot_ne (Or.inl (hw _ (List.mem_of_getElem? (i := 40) rfl))) (Or.inl (hw _ (List.mem_of_getElem? (i := 16) rfl))) (by decide) (t := (.object "java/lang/String")) (t' := (.array .int)) (by decide) (by decide)))
  have f115_F : Fld Z h104 a "com/example/weaverbird/weaverbird/engine/Frame" "localName" "Ljava/lang/String;" .null := f96_F.other W104 (Or.inr (slot_ne (Or.inl (hw _ (List.mem_of_getElem? (i := 42) rfl))) (Or.inl (hw _ (List.mem_of_getElem? (i := 16) rfl))) (by decide) (t := (.object "java/lang/String")) (t' := (.array .int)) (by decide) (by decide)))
  have f116_A : own_Af Z h104 b5 .long 16 (fun _ => (.long (0 : Int64))) := f97_A.other W104 (Ne.symm ne6)
  have f117_F : Fld Z h104 a "com/example/weaverbird/weaverbird/engine/Frame" "state" "[J" (.ref b5) := f98_F.other W104 (Or.inr (slot_ne (Or.inl (hw _ (List.mem_of_getElem? (i := 11) rfl))) (Or.inl (hw _ (List.mem_of_getElem? (i := 16) rfl))) (by decide) (t := (.array .long)) (t' := (.array .int)) (by decide) (by decide)))
  have f118_A : own_Af Z h104 b42 .long 16 (fun _ => (.long (0 : Int64))) := f99_A.other W104 (Ne.symm ne43)
  have f119_F : Fld Z h104 a "com/example/weaverbird/weaverbird/engine/Frame" "next" "[J" (.ref b42) := f100_F.other W104 (Or.inr (slot_ne (Or.inl (hw _ (List.mem_of_getElem? (i := 13) rfl))) (Or.inl (hw _ (List.mem_of_getElem? (i := 16) rfl))) (by decide) (t := (.array .long)) (t' := (.array .int)) (by decide) (by decide)))
  have f120_A : own_Af Z h104 b82 .int 16 (fun _ => (.int (0 : Int32))) := f103_A.other W104 (Ne.symm ne83)
  have Z121 : n0 ≤ h104.size := Nat.le_trans Z101 (Keep.of_wr W104).1
  have K122 : Keep h0 h104 [a] := K102.wr W104 (Or.inl (List.mem_of_getElem? (i := 0) rfl))
  have f123_F : Fld Z h104 a "com/example/weaverbird/weaverbird/engine/Frame" "trail" "[I" (.ref b82) := f88_F.same W104
  subst hS0
  obtain ⟨fs, hr, hrun, hended, hW, hsame⟩ := X104.leave (v := none) (fun _ => rfl)
  refine ⟨_, _, pre105 _ (X104.returnOut hx Bd.returns (hb hby d1_28) hr), hrun, hended, _, _, rfl, ?_, ⟨_, rfl⟩, hW, hsame.mono (by decide) (by decide)⟩
  show Q1 Z a h0 n0 none T104.heap _
  rw [e104]
  exact ⟨rfl, N106, K122, b5, b42, b82, g_b5, g_b42, g_b82, ne44, ne84, ne85, ne6, ne43, ne83, f107_E, f117_F, f119_F, f123_F, f108_F, f109_F, f110_F, f111_F, f112_F, f113_F, f114_F, f115_F, f116_A, f118_A, f120_A⟩
theorem d2_0 : decode prog_13_method_8_code 0 = .ok (.aload_n 0, 1) := by decide +kernel
theorem d2_1 : decode prog_13_method_8_code 1 = .ok (.getfield 7, 3) := by decide +kernel
theorem d2_4 : decode prog_13_method_8_code 4 = .ok (.astore_n 1, 1) := by decide +kernel
theorem d2_5 : decode prog_13_method_8_code 5 = .ok (.aload_n 0, 1) := by decide +kernel
theorem d2_6 : decode prog_13_method_8_code 6 = .ok (.aload_n 0, 1) := by decide +kernel
theorem d2_7 : decode prog_13_method_8_code 7 = .ok (.getfield 13, 3) := by decide +kernel
theorem d2_10 : decode prog_13_method_8_code 10 = .ok (.putfield 7, 3) := by decide +kernel
theorem d2_13 : decode prog_13_method_8_code 13 = .ok (.aload_n 0, 1) := by decide +kernel
theorem d2_14 : decode prog_13_method_8_code 14 = .ok (.aload_n 0, 1) := by decide +kernel
theorem d2_15 : decode prog_13_method_8_code 15 = .ok (.getfield 85, 3) := by decide +kernel
theorem d2_18 : decode prog_13_method_8_code 18 = .ok (.putfield 60, 3) := by decide +kernel
theorem d2_21 : decode prog_13_method_8_code 21 = .ok (.aload_n 0, 1) := by decide +kernel
theorem d2_22 : decode prog_13_method_8_code 22 = .ok (.aload_n 1, 1) := by decide +kernel
theorem d2_23 : decode prog_13_method_8_code 23 = .ok (.putfield 13, 3) := by decide +kernel
theorem d2_26 : decode prog_13_method_8_code 26 = .ok (.aload_n 0, 1) := by decide +kernel
theorem d2_27 : decode prog_13_method_8_code 27 = .ok (.iconst 0, 1) := by decide +kernel
theorem d2_28 : decode prog_13_method_8_code 28 = .ok (.putfield 85, 3) := by decide +kernel
theorem d2_31 : decode prog_13_method_8_code 31 = .ok (.return_, 1) := by decide +kernel
theorem pn_2 : plainName "com/example/weaverbird/weaverbird/engine/Frame" = true := by first | (simp [plainName, overriddenIn]; done) | decide +kernel
theorem ef_2 (m : MethodId) (a : Addr) : entryFrame m #[(.ref a)] 2 = mkF m 0 #[rv a, .unset] [] := by first | (simp [entryFrame, mkF, argsToLocals, Value.category]; done) | rfl
def Q2 (Z : State) (a : Addr) (s0 : Addr) (x0 : Addr) (t0 : Addr) (sz : Int32) (ns : Int32) (lo : Int32) (tf : Int32) (h0 : Heap) (n0 : Nat) (v : Option Value) (h : Heap) (L : List Loc) : Prop := v = none ∧ Fr n0 L ∧ Keep h0 h [a] ∧ Exa Z h a "com/example/weaverbird/weaverbird/engine/Frame" ∧ Fld Z h a "com/example/weaverbird/weaverbird/engine/Frame" "state" "[J" (.ref x0) ∧ Fld Z h a "com/example/weaverbird/weaverbird/engine/Frame" "next" "[J" (.ref s0) ∧ Fld Z h a "com/example/weaverbird/weaverbird/engine/Frame" "trail" "[I" (.ref t0) ∧ Fld Z h a "com/example/weaverbird/weaverbird/engine/Frame" "size" "I" (.int ns) ∧ Fld Z h a "com/example/weaverbird/weaverbird/engine/Frame" "nextSize" "I" (.int (0 : Int32)) ∧ Fld Z h a "com/example/weaverbird/weaverbird/engine/Frame" "lost" "Z" (.int lo) ∧ Fld Z h a "com/example/weaverbird/weaverbird/engine/Frame" "textFaulted" "Z" (.int tf) ∧ Fld Z h a "com/example/weaverbird/weaverbird/engine/Frame" "learned" "Lcom/example/weaverbird/weaverbird/engine/LearnedStates$State;" .null ∧ Fld Z h a "com/example/weaverbird/weaverbird/engine/Frame" "model" "Lcom/example/weaverbird/weaverbird/engine/ContentModel;" .null ∧ Fld Z h a "com/example/weaverbird/weaverbird/engine/Frame" "namespace" "Ljava/lang/String;" .null ∧ Fld Z h a "com/example/weaverbird/weaverbird/engine/Frame" "localName" "Ljava/lang/String;" .null
set_option maxRecDepth 65536 in
set_option maxHeartbeats 40000000 in
theorem rm2 (l : Launch) (Z : State) (a0 : Array Value) (hw : ∀ d ∈ tables_1, d.before a0 Z = true) (ws : List Jvm.Cond) (a : Addr) (s0 : Addr) (x0 : Addr) (t0 : Addr) (sz : Int32) (ns : Int32) (lo : Int32) (tf : Int32) (h0 : Heap) (n0 : Nat) (Z0 : n0 ≤ h0.size) (E_a : Exa Z h0 a "com/example/weaverbird/weaverbird/engine/Frame") (F_state : Fld Z h0 a "com/example/weaverbird/weaverbird/engine/Frame" "state" "[J" (.ref s0)) (F_next : Fld Z h0 a "com/example/weaverbird/weaverbird/engine/Frame" "next" "[J" (.ref x0)) (F_trail : Fld Z h0 a "com/example/weaverbird/weaverbird/engine/Frame" "trail" "[I" (.ref t0)) (F_size : Fld Z h0 a "com/example/weaverbird/weaverbird/engine/Frame" "size" "I" (.int sz)) (F_nextSize : Fld Z h0 a "com/example/weaverbird/weaverbird/engine/Frame" "nextSize" "I" (.int ns)) (F_lost : Fld Z h0 a "com/example/weaverbird/weaverbird/engine/Frame" "lost" "Z" (.int lo)) (F_textFaulted : Fld Z h0 a "com/example/weaverbird/weaverbird/engine/Frame" "textFaulted" "Z" (.int tf)) (F_learned : Fld Z h0 a "com/example/weaverbird/weaverbird/engine/Frame" "learned" "Lcom/example/weaverbird/weaverbird/engine/LearnedStates$State;" .null) (F_model : Fld Z h0 a "com/example/weaverbird/weaverbird/engine/Frame" "model" "Lcom/example/weaverbird/weaverbird/engine/ContentModel;" .null) (F_namespace : Fld Z h0 a "com/example/weaverbird/weaverbird/engine/Frame" "namespace" "Ljava/lang/String;" .null) (F_localName : Fld Z h0 a "com/example/weaverbird/weaverbird/engine/Frame" "localName" "Ljava/lang/String;" .null) (g_a : n0 ≤ a) :
    MetFree l (⟨"com/example/weaverbird/weaverbird/engine/Frame", "advance", "()V"⟩ : MethodName) (head1 (Jvm.Cond.code (⟨"com/example/weaverbird/weaverbird/engine/Frame", "advance", "()V"⟩ : MethodName) prog_13_method_8_code 2 none :: ws) ({ frames := 0, cells := 0, slots := 0, locals := 0 } : Room)) (fun aX UX => aX = #[(.ref a)] ∧ Z.Warmed39 UX.vm ∧ UX.heap = h0) (fun _ _ _ _ _ => True) (fun _ UX oX UY => ∃ vX LX, oX = .returned vX ∧ Q2 Z a s0 x0 t0 sz ns lo tf h0 n0 vX UY.heap LX ∧ FrameEnd UX oX UY LX ({ frames := 0, cells := 0, slots := 0, locals := 0 } : Room).cells ({ frames := 0, cells := 0, slots := 0, locals := 0 } : Room).slots) := by
  refine MetFree.of_bodySF (plainFor_of_name pn_2) hisR ?_
  intro p e s m args below meth c s₁ Bd hml0 hP hK
  obtain ⟨rfl, hZ, hh⟩ := hP
  have hx := Bd.exec
  have hby := Bd.bytes
  have hml : c.maxLocals = 2 := hml0
  have hown : s.vm.findClass "com/example/weaverbird/weaverbird/engine/Frame" = some m.cls := findClass_of_methodNamed Bd.named
  have hnm := (name_of_methodNamed Bd.named Bd.method).1
  have X0 : Stand p l e ({ frames := 0, cells := 0, slots := 0, locals := 0 } : Room) s m #[(.ref a)] below meth c s₁ [] 0 0 := Stand.of_body Bd
  have e0 : s₁.heap = h0 := by rw [← hh, Bd.state]; rfl
  have N0 := Fr.nil n0
  have pre0 : ∀ t, Steps p.tables e below (s₁.setTop (mkF m 0 #[rv a, .unset] [])) t → Steps p.tables e below (s₁.setTop (entryFrame m #[(.ref a)] 2)) t := fun t k => castTop (ef_2 m a) k
  obtain ⟨S0, hS0⟩ : ∃ z, z = (s₁.setTop (entryFrame m #[(.ref a)] 2)) := ⟨_, rfl⟩
  rw [← hS0] at pre0
  have K0 : Keep h0 h0 [a] := Keep.refl h0 _
  have pre1 : ∀ t, own_s p e below s₁ m 1 #[rv a, .unset] [(.ref a)] t → Steps p.tables e below S0 t := by
    intro tX kX
    refine pre0 _ ?_
    show own_s p e below s₁ m 0 #[rv a, .unset] [] _
    refine XS.aloadN X0.here hx rfl (hb hby d2_0) rfl rfl ?_
    exact kX
  obtain ⟨T2, X2, e2, st2⟩ := getF X0 hx hZ hown (host := "") (Or.inl (hw _ (List.mem_of_getElem? (i := 10) rfl))) Via.refl e0 F_state (g := (mkF m 1 #[rv a, .unset] [(.ref a)])) rfl rfl (hb hby d2_1)
  have pre3 : ∀ t, own_s p e below T2 m 4 #[rv a, .unset] [(.ref s0)] t → Steps p.tables e below S0 t := fun tX kX => pre1 _ (st2 _ kX)
  have pre4 : ∀ t, own_s p e below T2 m 7 #[rv a, rv s0] [(.ref a), (.ref a)] t → Steps p.tables e below S0 t := by
    intro tX kX
    refine pre3 _ ?_
    show own_s p e below T2 m 4 #[rv a, .unset] [(.ref s0)] _
    refine XS.astoreN X2.here hx rfl (hb hby d2_4) rfl rfl (l' := #[rv a, rv s0]) rfl ?_
    show own_s p e below T2 m 5 #[rv a, rv s0] [] _
    refine XS.aloadN X2.here hx rfl (hb hby d2_5) rfl rfl ?_
    show own_s p e below T2 m 6 #[rv a, rv s0] [(.ref a)] _
    refine XS.aloadN X2.here hx rfl (hb hby d2_6) rfl rfl ?_
    exact kX
  obtain ⟨T5, X5, e5, st5⟩ := getF X2 hx hZ hown (host := "") (Or.inl (hw _ (List.mem_of_getElem? (i := 12) rfl))) Via.refl e2 F_next (g := (mkF m 7 #[rv a, rv s0] [(.ref a), (.ref a)])) rfl rfl (hb hby d2_7)
  have pre6 : ∀ t, own_s p e below T5 m 10 #[rv a, rv s0] [(.ref x0), (.ref a)] t → Steps p.tables e below S0 t := fun tX kX => pre4 _ (st5 _ kX)
  obtain ⟨T7, h7, X7, e7, W7, st7⟩ := putF X5 hx hZ hown (host := "") (Or.inl (hw _ (List.mem_of_getElem? (i := 10) rfl))) Via.refl e5 F_state E_a (Or.inl (hw _ (List.mem_of_getElem? (i := 11) rfl))) (hw _ (List.mem_of_getElem? (i := 1) rfl)) (ty := (.array .long)) (by decide) rfl rfl (g := (mkF m 10 #[rv a, rv s0] [(.ref x0), (.ref a)])) rfl rfl (hb hby d2_10)
  have pre8 : ∀ t, own_s p e below T7 m 13 #[rv a, rv s0] [] t → Steps p.tables e below S0 t := fun tX kX => pre6 _ (st7 _ kX)
  have N9 := Fr.snoc X7 N0 g_a
  have f10_E : Exa Z h7 a "com/example/weaverbird/weaverbird/engine/Frame" := E_a.wr W7
  have f11_F : Fld Z h7 a "com/example/weaverbird/weaverbird/engine/Frame" "next" "[J" (.ref x0) := F_next.other W7 (Or.inr (slot_ne (Or.inl (hw _ (List.mem_of_getElem? (i := 13) rfl))) (Or.inl (hw _ (List.mem_of_getElem? (i := 11) rfl))) (by decide) (t := (.array .long)) (t' := (.array .long)) (by decide) (by decide)))
  have f12_F : Fld Z h7 a "com/example/weaverbird/weaverbird/engine/Frame" "trail" "[I" (.ref t0) := F_trail.other W7 (Or.inr (slot_ne (Or.inl (hw _ (List.mem_of_getElem? (i := 16) rfl))) (Or.inl (hw _ (List.mem_of_getElem? (i := 11) rfl))) (by decide) (t := (.array .int)) (t' := (.array .long)) (by decide) (by decide)))
  have f13_F : Fld Z h7 a "com/example/weaverbird/weaverbird/engine/Frame" "size" "I" (.int sz) := F_size.other W7 (Or.inr (slot_ne (Or.inl (hw _ (List.mem_of_getElem? (i := 21) rfl))) (Or.inl (hw _ (List.mem_of_getElem? (i := 11) rfl))) (by decide) (t := .int) (t' := (.array .long)) (by decide) (by decide)))
  have f14_F : Fld Z h7 a "com/example/weaverbird/weaverbird/engine/Frame" "nextSize" "I" (.int ns) := F_nextSize.other W7 (Or.inr (slot_ne (Or.inl (hw _ (List.mem_of_getElem? (i := 23) rfl))) (Or.inl (hw _ (List.mem_of_getElem? (i := 11) rfl))) (by decide) (t := .int) (t' := (.array .long)) (by decide) (by decide)))
  have f15_F : Fld Z h7 a "com/example/weaverbird/weaverbird/engine/Frame" "lost" "Z" (.int lo) := F_lost.other W7 (Or.inr (slot_ne (Or.inl (hw _ (List.mem_of_getElem? (i := 25) rfl))) (Or.inl (hw _ (List.mem_of_getElem? (i := 11) rfl))) (by decide) (t := .boolean) (t' := (.array .long)) (by decide) (by decide)))
  have f16_F : Fld Z h7 a "com/example/weaverbird/weaverbird/engine/Frame" "textFaulted" "Z" (.int tf) := F_textFaulted.other W7 (Or.inr (slot_ne (Or.inl (hw _ (List.mem_of_getElem? (i := 27) rfl))) (Or.inl (hw _ (List.mem_of_getElem? (i := 11) rfl))) (by decide) (t := .boolean) (t' := (.array .long)) (by decide) (by decide)))
  have f17_F : Fld Z h7 a "com/example/weaverbird/weaverbird/engine/Frame" "learned" "Lcom/example/weaverbird/weaverbird/engine/LearnedStates$State;" .null := F_learned.other W7 (Or.inr (slot_ne (Or.inl (hw _ (List.mem_of_getElem? (i := 36) rfl))) (Or.inl (hw _ (List.mem_of_getElem? (i := 11) rfl))) (by decide) (t := (.object "com/example/weaverbird/weaverbird/engine/LearnedStates$State")) (t' := (.array .long)) (by decide) (by decide)))
  have f18_F : Fld Z h7 a "com/example/weaverbird/weaverbird/engine/Frame" "model" "Lcom/example/weaverbird/weaverbird/engine/ContentModel;" .null := F_model.other W7 (Or.inr (slot_ne (Or.inl (hw _ (List.mem_of_getElem? (i := 38) rfl))) (Or.inl (hw _ (List.mem_of_getElem? (i := 11) rfl))) (by decide) (t := (.object "com/example/weaverbird/weaverbird/engine/ContentModel")) (t' := (.array .long)) (by decide) (by decide)))
  have f19_F : Fld Z h7 a "com/example/weaverbird/weaverbird/engine/Frame" "namespace" "Ljava/lang/String;" .null := F_namespace.other W7 (Or.inr (slot_ne (Or.inl (hw _ (List.mem_of_getElem? (i := 40) rfl))) (Or.inl (hw _ (List.mem_of_getElem? (i := 11) rfl))) (by decide) (t := (.object "java/lang/String")) (t' := (.array .long)) (by decide) (by decide)))
  have f20_F : Fld Z h7 a "com/example/weaverbird/weaverbird/engine/Frame" "localName" "Ljava/lang/String;" .null := F_localName.other W7 (Or.inr (slot_ne (Or.inl (hw _ (List.mem_of_getElem? (i := 42) rfl))) (Or.inl (hw _ (List.mem_of_getElem? (i := 11) rfl))) (by decide) (t := (.object "java/lang/String")) (t' := (.array .long)) (by decide) (by decide)))
  have Z21 : n0 ≤ h7.size := Nat.le_trans Z0 (Keep.of_wr W7).1
  have K22 : Keep h0 h7 [a] := K0.wr W7 (Or.inl (List.mem_of_getElem? (i := 0) rfl))
  have f23_F : Fld Z h7 a "com/example/weaverbird/weaverbird/engine/Frame" "state" "[J" (.ref x0) := F_state.same W7
  have pre24 : ∀ t, own_s p e below T7 m 15 #[rv a, rv s0] [(.ref a), (.ref a)] t → Steps p.tables e below S0 t := by
    intro tX kX
    refine pre8 _ ?_
    show own_s p e below T7 m 13 #[rv a, rv s0] [] _
    refine XS.aloadN X7.here hx rfl (hb hby d2_13) rfl rfl ?_
    show own_s p e below T7 m 14 #[rv a, rv s0] [(.ref a)] _
    refine XS.aloadN X7.here hx rfl (hb hby d2_14) rfl rfl ?_
    exact kX
  obtain ⟨T25, X25, e25, st25⟩ := getF X7 hx hZ hown (host := "") (Or.inl (hw _ (List.mem_of_getElem? (i := 33) rfl))) Via.refl e7 f14_F (g := (mkF m 15 #[rv a, rv s0] [(.ref a), (.ref a)])) rfl rfl (hb hby d2_15)
  have pre26 : ∀ t, own_s p e below T25 m 18 #[rv a, rv s0] [(.int ns), (.ref a)] t → Steps p.tables e below S0 t := fun tX kX => pre24 _ (st25 _ kX)
  obtain ⟨T27, h27, X27, e27, W27, st27⟩ := putF X25 hx hZ hown (host := "") (Or.inl (hw _ (List.mem_of_getElem? (i := 34) rfl))) Via.refl e25 f13_F f10_E (Or.inl (hw _ (List.mem_of_getElem? (i := 21) rfl))) (hw _ (List.mem_of_getElem? (i := 1) rfl)) (ty := .int) (by decide) rfl rfl (g := (mkF m 18 #[rv a, rv s0] [(.int ns), (.ref a)])) rfl rfl (hb hby d2_18)
  have pre28 : ∀ t, own_s p e below T27 m 21 #[rv a, rv s0] [] t → Steps p.tables e below S0 t := fun tX kX => pre26 _ (st27 _ kX)
  have N29 := Fr.snoc X27 N9 g_a
  have f30_E : Exa Z h27 a "com/example/weaverbird/weaverbird/engine/Frame" := f10_E.wr W27
  have f31_F : Fld Z h27 a "com/example/weaverbird/weaverbird/engine/Frame" "next" "[J" (.ref x0) := f11_F.other W27 (Or.inr (slot_ne (Or.inl (hw _ (List.mem_of_getElem? (i := 13) rfl))) (Or.inl (hw _ (List.mem_of_getElem? (i := 21) rfl))) (by decide) (t := (.array .long)) (t' := .int) (by decide) (by decide)))
  have f32_F : Fld Z h27 a "com/example/weaverbird/weaverbird/engine/Frame" "trail" "[I" (.ref t0) := f12_F.other W27 (Or.inr (slot_ne (Or.inl (hw _ (List.mem_of_getElem? (i := 16) rfl))) (Or.inl (hw _ (List.mem_of_getElem? (i := 21) rfl))) (by decide) (t := (.array .int)) (t' := .int) (by decide) (by decide)))
  have f33_F : Fld Z h27 a "com/example/weaverbird/weaverbird/engine/Frame" "nextSize" "I" (.int ns) := f14_F.other W27 (Or.inr (slot_ne (Or.inl (hw _ (List.mem_of_getElem? (i := 23) rfl))) (Or.inl (hw _ (List.mem_of_getElem? (i := 21) rfl))) (by decide) (t := .int) (t' := .int) (by decide) (by decide)))
  have f34_F : Fld Z h27 a "com/example/weaverbird/weaverbird/engine/Frame" "lost" "Z" (.int lo) := f15_F.other W27 (Or.inr (slot_ne (Or.inl (hw _ (List.mem_of_getElem? (i := 25) rfl))) (Or.inl (hw _ (List.mem_of_getElem? (i := 21) rfl))) (by decide) (t := .boolean) (t' := .int) (by decide) (by decide)))
  have f35_F : Fld Z h27 a "com/example/weaverbird/weaverbird/engine/Frame" "textFaulted" "Z" (.int tf) := f16_F.other W27 (Or.inr (slot_ne (Or.inl (hw _ (List.mem_of_getElem? (i := 27) rfl))) (Or.inl (hw _ (List.mem_of_getElem? (i := 21) rfl))) (by decide) (t := .boolean) (t' := .int) (by decide) (by decide)))
  have f36_F : Fld Z h27 a "com/example/weaverbird/weaverbird/engine/Frame" "learned" "Lcom/example/weaverbird/weaverbird/engine/LearnedStates$State;" .null := f17_F.other W27 (Or.inr (slot_ne (Or.inl (hw _ (List.mem_of_getElem? (i := 36) rfl))) (Or.inl (hw _ (List.mem_of_getElem? (i := 21) rfl))) (by decide) (t := (.object "com/example/weaverbird/weaverbird/engine/LearnedStates$State")) (t' := .int) (by decide) (by decide)))
  have f37_F : Fld Z h27 a "com/example/weaverbird/weaverbird/engine/Frame" "model" "Lcom/example/weaverbird/weaverbird/engine/ContentModel;" .null := f18_F.other W27 (Or.inr (slot_ne (Or.inl (hw _ (List.mem_of_getElem? (i := 38) rfl))) (Or.inl (hw _ (List.mem_of_getElem? (i := 21) rfl))) (by decide) (t := (.object "com/example/weaverbird/weaverbird/engine/ContentModel")) (t' := .int) (by decide) (by decide)))
  have f38_F : Fld Z h27 a "com/example/weaverbird/weaverbird/engine/Frame" "namespace" "Ljava/lang/String;" .null := f19_F.other W27 (Or.inr (slot_ne (Or.inl (hw _ (List.mem_of_getElem? (i := 40) rfl))) (Or.inl (hw _ (List.mem_of_getElem? (i := 21) rfl))) (by decide) (t := (.object "java/lang/String")) (t' := .int) (by decide) (by decide)))
  have f39_F : Fld Z h27 a "com/example/weaverbird/weaverbird/engine/Frame" "localName" "Ljava/lang/String;" .null := f20_F.other W27 (Or.inr (slot_ne (Or.inl (hw _ (List.mem_of_getElem? (i := 42) rfl))) (Or.inl (hw _ (List.mem_of_getElem? (i := 21) rfl))) (by decide) (t := (.object "java/lang/String")) (t' := .int) (by decide) (by decide)))
  have f40_F : Fld Z h27 a "com/example/weaverbird/weaverbird/engine/Frame" "state" "[J" (.ref x0) := f23_F.other W27 (Or.inr (slot_ne (Or.inl (hw _ (List.mem_of_getElem? (i := 11) rfl))) (Or.inl (hw _ (List.mem_of_getElem? (i := 21) rfl))) (by decide) (t := (.array .long)) (t' := .int) (by decide) (by decide)))
  have Z41 : n0 ≤ h27.size := Nat.le_trans Z21 (Keep.of_wr W27).1
  have K42 : Keep h0 h27 [a] := K22.wr W27 (Or.inl (List.mem_of_getElem? (i := 0) rfl))
  have f43_F : Fld Z h27 a "com/example/weaverbird/weaverbird/engine/Frame" "size" "I" (.int ns) := f13_F.same W27
  have pre44 : ∀ t, own_s p e below T27 m 23 #[rv a, rv s0] [(.ref s0), (.ref a)] t → Steps p.tables e below S0 t := by
    intro tX kX
    refine pre28 _ ?_
    show own_s p e below T27 m 21 #[rv a, rv s0] [] _
    refine XS.aloadN X27.here hx rfl (hb hby d2_21) rfl rfl ?_
    show own_s p e below T27 m 22 #[rv a, rv s0] [(.ref a)] _
    refine XS.aloadN X27.here hx rfl (hb hby d2_22) rfl rfl ?_
    exact kX
  obtain ⟨T45, h45, X45, e45, W45, st45⟩ := putF X27 hx hZ hown (host := "") (Or.inl (hw _ (List.mem_of_getElem? (i := 12) rfl))) Via.refl e27 f31_F f30_E (Or.inl (hw _ (List.mem_of_getElem? (i := 13) rfl))) (hw _ (List.mem_of_getElem? (i := 1) rfl)) (ty := (.array .long)) (by decide) rfl rfl (g := (mkF m 23 #[rv a, rv s0] [(.ref s0), (.ref a)])) rfl rfl (hb hby d2_23)
  have pre46 : ∀ t, own_s p e below T45 m 26 #[rv a, rv s0] [] t → Steps p.tables e below S0 t := fun tX kX => pre44 _ (st45 _ kX)
  have N47 := Fr.snoc X45 N29 g_a
  have f48_E : Exa Z h45 a "com/example/weaverbird/weaverbird/engine/Frame" := f30_E.wr W45
  have f49_F : Fld Z h45 a "com/example/weaverbird/weaverbird/engine/Frame" "trail" "[I" (.ref t0) := f32_F.other W45 (Or.inr (slot_ne (Or.inl (hw _ (List.mem_of_getElem? (i := 16) rfl))) (Or.inl (hw _ (List.mem_of_getElem? (i := 13) rfl))) (by decide) (t := (.array .int)) (t' := (.array .long)) (by decide) (by decide)))
  have f50_F : Fld Z h45 a "com/example/weaverbird/weaverbird/engine/Frame" "nextSize" "I" (.int ns) := f33_F.other W45 (Or.inr (slot_ne (Or.inl (hw _ (List.mem_of_getElem? (i := 23) rfl))) (Or.inl (hw _ (List.mem_of_getElem? (i := 13) rfl))) (by decide) (t := .int) (t' := (.array .long)) (by decide) (by decide)))
  have f51_F : Fld Z h45 a "com/example/weaverbird/weaverbird/engine/Frame" "lost" "Z" (.int lo) := f34_F.other W45 (Or.inr (slot_ne (Or.inl (hw _ (List.mem_of_getElem? (i := 25) rfl))) (Or.inl (hw _ (List.mem_of_getElem? (i := 13) rfl))) (by decide) (t := .boolean) (t' := (.array .long)) (by decide) (by decide)))
  have f52_F : Fld Z h45 a "com/example/weaverbird/weaverbird/engine/Frame" "textFaulted" "Z" (.int tf) := f35_F.other W45 (Or.inr (slot_ne (Or.inl (hw _ (List.mem_of_getElem? (i := 27) rfl))) (Or.inl (hw _ (List.mem_of_getElem? (i := 13) rfl))) (by decide) (t := .boolean) (t' := (.array .long)) (by decide) (by decide)))
  have f53_F : Fld Z h45 a "com/example/weaverbird/weaverbird/engine/Frame" "learned" "Lcom/example/weaverbird/weaverbird/engine/LearnedStates$State;" .null := f36_F.other W45 (Or.inr (slot_ne (Or.inl (hw _ (List.mem_of_getElem? (i := 36) rfl))) (Or.inl (hw _ (List.mem_of_getElem? (i := 13) rfl))) (by decide) (t := (.object "com/example/weaverbird/weaverbird/engine/LearnedStates$State")) (t' := (.array .long)) (by decide) (by decide)))
  have f54_F : Fld Z h45 a "com/example/weaverbird/weaverbird/engine/Frame" "model" "Lcom/example/weaverbird/weaverbird/engine/ContentModel;" .null := f37_F.other W45 (Or.inr (slot_ne (Or.inl (hw _ (List.mem_of_getElem? (i := 38) rfl))) (Or.inl (hw _ (List.mem_of_getElem? (i := 13) rfl))) (by decide) (t := (.object "com/example/weaverbird/weaverbird/engine/ContentModel")) (t' := (.array .long)) (by decide) (by decide)))
  have f55_F : Fld Z h45 a "com/example/weaverbird/weaverbird/engine/Frame" "namespace" "Ljava/lang/String;" .null := f38_F.other W45 (Or.inr (slot_ne (Or.inl (hw _ (List.mem_of_getElem? (i := 40) rfl))) (Or.inl (hw _ (List.mem_of_getElem? (i := 13) rfl))) (by decide) (t := (.object "java/lang/String")) (t' := (.array .long)) (by decide) (by decide)))
  have f56_F : Fld Z h45 a "com/example/weaverbird/weaverbird/engine/Frame" "localName" "Ljava/lang/String;" .null := f39_F.other W45 (Or.inr (slot_ne (Or.inl (hw _ (List.mem_of_getElem? (i := 42) rfl))) (Or.inl (hw _ (List.mem_of_getElem? (i := 13) rfl))) (by decide) (t := (.object "java/lang/String")) (t' := (.array .long)) (by decide) (by decide)))
  have f57_F : Fld Z h45 a "com/example/weaverbird/weaverbird/engine/Frame" "state" "[J" (.ref x0) := f40_F.other W45 (Or.inr (slot_ne (Or.inl (hw _ (List.mem_of_getElem? (i := 11) rfl))) (Or.inl (hw _ (List.mem_of_getElem? (i := 13) rfl))) (by decide) (t := (.array .long)) (t' := (.array .long)) (by decide) (by decide)))
  have f58_F : Fld Z h45 a "com/example/weaverbird/weaverbird/engine/Frame" "size" "I" (.int ns) := f43_F.other W45 (Or.inr (slot_ne (Or.inl (hw _ (List.mem_of_getElem? (i := 21) rfl))) (Or.inl (hw _ (List.mem_of_getElem? (i := 13) rfl))) (by decide) (t := .int) (t' := (.array .long)) (by decide) (by decide)))
  have Z59 : n0 ≤ h45.size := Nat.le_trans Z41 (Keep.of_wr W45).1
  have K60 : Keep h0 h45 [a] := K42.wr W45 (Or.inl (List.mem_of_getElem? (i := 0) rfl))
  have f61_F : Fld Z h45 a "com/example/weaverbird/weaverbird/engine/Frame" "next" "[J" (.ref s0) := f31_F.same W45
  have pre62 : ∀ t, own_s p e below T45 m 28 #[rv a, rv s0] [(.int (0 : Int32)), (.ref a)] t → Steps p.tables e below S0 t := by
    intro tX kX
    refine pre46 _ ?_
    show own_s p e below T45 m 26 #[rv a, rv s0] [] _
    refine XS.aloadN X45.here hx rfl (hb hby d2_26) rfl rfl ?_
    show own_s p e below T45 m 27 #[rv a, rv s0] [(.ref a)] _
    refine XS.iconst X45.here hx rfl (hb hby d2_27) ?_
    exact kX
  obtain ⟨T63, h63, X63, e63, W63, st63⟩ := putF X45 hx hZ hown (host := "") (Or.inl (hw _ (List.mem_of_getElem? (i := 33) rfl))) Via.refl e45 f50_F f48_E (Or.inl (hw _ (List.mem_of_getElem? (i := 23) rfl))) (hw _ (List.mem_of_getElem? (i := 1) rfl)) (ty := .int) (by decide) rfl rfl (g := (mkF m 28 #[rv a, rv s0] [(.int (0 : Int32)), (.ref a)])) rfl rfl (hb hby d2_28)
  have pre64 : ∀ t, own_s p e below T63 m 31 #[rv a, rv s0] [] t → Steps p.tables e below S0 t := fun tX kX => pre62 _ (st63 _ kX)
  have N65 := Fr.snoc X63 N47 g_a
  have f66_E : Exa Z h63 a "com/example/weaverbird/weaverbird/engine/Frame" := f48_E.wr W63
  have f67_F : Fld Z h63 a "com/example/weaverbird/weaverbird/engine/Frame" "trail" "[I" (.ref t0) := f49_F.other W63 (Or.inr (slot_ne (Or.inl (hw _ (List.mem_of_getElem? (i := 16) rfl))) (Or.inl (hw _ (List.mem_of_getElem? (i := 23) rfl))) (by decide) (t := (.array .int)) (t' := .int) (by decide) (by decide)))
  have f68_F : Fld Z h63 a "com/example/weaverbird/weaverbird/engine/Frame" "lost" "Z" (.int lo) := f51_F.other W63 (Or.inr (slot_ne (Or.inl (hw _ (List.mem_of_getElem? (i := 25) rfl))) (Or.inl (hw _ (List.mem_of_getElem? (i := 23) rfl))) (by decide) (t := .boolean) (t' := .int) (by decide) (by decide)))
  have f69_F : Fld Z h63 a "com/example/weaverbird/weaverbird/engine/Frame" "textFaulted" "Z" (.int tf) := f52_F.other W63 (Or.inr (slot_ne (Or.inl (hw _ (List.mem_of_getElem? (i := 27) rfl))) (Or.inl (hw _ (List.mem_of_getElem? (i := 23) rfl))) (by decide) (t := .boolean) (t' := .int) (by decide) (by decide)))
  have f70_F : Fld Z h63 a "com/example/weaverbird/weaverbird/engine/Frame" "learned" "Lcom/example/weaverbird/weaverbird/engine/LearnedStates$State;" .null := f53_F.other W63 (Or.inr (slot_ne (Or.inl (hw _ (List.mem_of_getElem? (i := 36) rfl))) (Or.inl (hw _ (List.mem_of_getElem? (i := 23) rfl))) (by decide) (t := (.object "com/example/weaverbird/weaverbird/engine/LearnedStates$State")) (t' := .int) (by decide) (by decide)))
  have f71_F : Fld Z h63 a "com/example/weaverbird/weaverbird/engine/Frame" "model" "Lcom/example/weaverbird/weaverbird/engine/ContentModel;" .null := f54_F.other W63 (Or.inr (slot_ne (Or.inl (hw _ (List.mem_of_getElem? (i := 38) rfl))) (Or.inl (hw _ (List.mem_of_getElem? (i := 23) rfl))) (by decide) (t := (.object "com/example/weaverbird/weaverbird/engine/ContentModel")) (t' := .int) (by decide) (by decide)))
  have f72_F : Fld Z h63 a "com/example/weaverbird/weaverbird/engine/Frame" "namespace" "Ljava/lang/String;" .null := f55_F.other W63 (Or.inr (slot_ne (Or.inl (hw _ (List.mem_of_getElem? (i := 40) rfl))) (Or.inl (hw _ (List.mem_of_getElem? (i := 23) rfl))) (by decide) (t := (.object "java/lang/String")) (t' := .int) (by decide) (by decide)))
  have f73_F : Fld Z h63 a "com/example/weaverbird/weaverbird/engine/Frame" "localName" "Ljava/lang/String;" .null := f56_F.other W63 (Or.inr (slot_ne (Or.inl (hw _ (List.mem_of_getElem? (i := 42) rfl))) (Or.inl (hw _ (List.mem_of_getElem? (i := 23) rfl))) (by decide) (t := (.object "java/lang/String")) (t' := .int) (by decide) (by decide)))
  have f74_F : Fld Z h63 a "com/example/weaverbird/weaverbird/engine/Frame" "state" "[J" (.ref x0) := f57_F.other W63 (Or.inr (slot_ne (Or.inl (hw _ (List.mem_of_getElem? (i := 11) rfl))) (Or.inl (hw _ (List.mem_of_getElem? (i := 23) rfl))) (by decide) (t := (.array .long)) (t' := .int) (by decide) (by decide)))
  have f75_F : Fld Z h63 a "com/example/weaverbird/weaverbird/engine/Frame" "size" "I" (.int ns) := f58_F.other W63 (Or.inr (slot_ne (Or.inl (hw _ (List.mem_of_getElem? (i := 21) rfl))) (Or.inl (hw _ (List.mem_of_getElem? (i := 23) rfl))) (by decide) (t := .int) (t' := .int) (by decide) (by decide)))
  have f76_F : Fld Z h63 a "com/example/weaverbird/weaverbird/engine/Frame" "next" "[J" (.ref s0) := f61_F.other W63 (Or.inr (slot_ne (Or.inl (hw _ (List.mem_of_getElem? (i := 13) rfl))) (Or.inl (hw _ (List.mem_of_getElem? (i := 23) rfl))) (by decide) (t := (.array .long)) (t' := .int) (by decide) (by decide)))
  have Z77 : n0 ≤ h63.size := Nat.le_trans Z59 (Keep.of_wr W63).1
  have K78 : Keep h0 h63 [a] := K60.wr W63 (Or.inl (List.mem_of_getElem? (i := 0) rfl))
  have f79_F : Fld Z h63 a "com/example/weaverbird/weaverbird/engine/Frame" "nextSize" "I" (.int (0 : Int32)) := f50_F.same W63
  subst hS0
  obtain ⟨fs, hr, hrun, hended, hW, hsame⟩ := X63.leave (v := none) (fun _ => rfl)
  refine ⟨_, _, pre64 _ (X63.returnOut hx Bd.returns (hb hby d2_31) hr), hrun, hended, _, _, rfl, ?_, ⟨_, rfl⟩, hW, hsame.mono (by decide) (by decide)⟩
  show Q2 Z a s0 x0 t0 sz ns lo tf h0 n0 none T63.heap _
  rw [e63]
  exact ⟨rfl, N65, K78, f66_E, f74_F, f76_F, f67_F, f75_F, f79_F, f68_F, f69_F, f70_F, f71_F, f72_F, f73_F⟩
theorem pn_0 : plainName "com/example/weaverbird/weaverbird/engine/FrameAdvancePinLaw" = true := by first | (simp [plainName, overriddenIn]; done) | decide +kernel
theorem pd0_0 : parseMethodDescriptor "()V" = some ⟨[], none⟩ := by decide +kernel
theorem ef_0 (m : MethodId) (i0 : Int64) (i1 : Int64) (i2 : Int64) (i3 : Int64) (i4 : Int32) (i5 : Int32) : entryFrame m #[(.long i0), (.long i1), (.long i2), (.long i3), (.int i4), (.int i5)] maxLocals = mkF m 0 #[.val (.long i0), .second, .val (.long i1), .second, .val (.long i2), .second, .val (.long i3), .second, iv i4, iv i5, .unset, .unset, .unset, .unset, .unset, .unset, .unset, .unset, .unset, .unset] [] := by first | (simp [entryFrame, mkF, argsToLocals, Value.category, maxLocals]; done) | rfl
def Q0 (Z : State) (i0 : Int64) (i1 : Int64) (i2 : Int64) (i3 : Int64) (i4 : Int32) (i5 : Int32) (h0 : Heap) (n0 : Nat) (v : Option Value) (h : Heap) (L : List Loc) : Prop := v = some (.int 1) ∧ Fr n0 L
set_option maxRecDepth 65536 in
set_option maxHeartbeats 40000000 in
theorem rm0 (l : Launch) (Z : State) (a0 : Array Value) (hw : ∀ d ∈ tables_1, d.before a0 Z = true) (ws : List Jvm.Cond) (i0 : Int64) (i1 : Int64) (i2 : Int64) (i3 : Int64) (i4 : Int32) (i5 : Int32) (h0 : Heap) (n0 : Nat) (Z0 : n0 ≤ h0.size)  :
    MetFree l x (head1 (Jvm.Cond.code x code maxLocals ret :: ws) room_1) (fun aX UX => aX = #[(.long i0), (.long i1), (.long i2), (.long i3), (.int i4), (.int i5)] ∧ Z.Warmed39 UX.vm ∧ UX.heap = h0) (fun _ _ _ _ _ => True) (fun _ UX oX UY => ∃ vX LX, oX = .returned vX ∧ Q0 Z i0 i1 i2 i3 i4 i5 h0 n0 vX UY.heap LX ∧ FrameEnd UX oX UY LX 4 59) := by
  refine MetFree.of_bodySF (plainFor_of_name pn_0) hisR ?_
  intro p e s m args below meth c s₁ Bd hml0 hP hK
  obtain ⟨rfl, hZ, hh⟩ := hP
  have hx := Bd.exec
  have hby := Bd.bytes
  have hml : c.maxLocals = 20 := hml0
  have hown : s.vm.findClass "com/example/weaverbird/weaverbird/engine/FrameAdvancePinLaw" = some m.cls := findClass_of_methodNamed Bd.named
  have hnm := (name_of_methodNamed Bd.named Bd.method).1
  have X0 : Stand p l e room_1 s m #[(.long i0), (.long i1), (.long i2), (.long i3), (.int i4), (.int i5)] below meth c s₁ [] 0 0 := Stand.of_body Bd
  have e0 : s₁.heap = h0 := by rw [← hh, Bd.state]; rfl
  have N0 := Fr.nil n0
  have pre0 : ∀ t, Steps p.tables e below (s₁.setTop (mkF m 0 #[.val (.long i0), .second, .val (.long i1), .second, .val (.long i2), .second, .val (.long i3), .second, iv i4, iv i5, .unset, .unset, .unset, .unset, .unset, .unset, .unset, .unset, .unset, .unset] [])) t → Steps p.tables e below (s₁.setTop (entryFrame m #[(.long i0), (.long i1), (.long i2), (.long i3), (.int i4), (.int i5)] maxLocals)) t := fun t k => castTop (ef_0 m i0 i1 i2 i3 i4 i5) k
  obtain ⟨S0, hS0⟩ : ∃ z, z = (s₁.setTop (entryFrame m #[(.long i0), (.long i1), (.long i2), (.long i3), (.int i4), (.int i5)] maxLocals)) := ⟨_, rfl⟩
  rw [← hS0] at pre0
  obtain ⟨T1, h1, X1, e1, E1, A1, D1, -, st1⟩ := newO X0 hx hZ hown (hw _ (List.mem_of_getElem? (i := 0) rfl)) (hw _ (List.mem_of_getElem? (i := 1) rfl)) (hw _ (List.mem_of_getElem? (i := 2) rfl)) e0 (g := (mkF m 0 #[.val (.long i0), .second, .val (.long i1), .second, .val (.long i2), .second, .val (.long i3), .second, iv i4, iv i5, .unset, .unset, .unset, .unset, .unset, .unset, .unset, .unset, .unset, .unset] [])) rfl (hb hby at_0) (by decide) (by decide)
  obtain ⟨b1, g1⟩ : ∃ z, z = h0.size := ⟨_, rfl⟩
  rw [← g1] at A1 D1 st1
  have g_b1 : n0 ≤ b1 := Nat.le_trans Z0 (Nat.le_of_eq g1.symm)
  have pre2 : ∀ t, own_s p e below T1 m 3 #[.val (.long i0), .second, .val (.long i1), .second, .val (.long i2), .second, .val (.long i3), .second, iv i4, iv i5, .unset, .unset, .unset, .unset, .unset, .unset, .unset, .unset, .unset, .unset] [(.ref b1)] t → Steps p.tables e below S0 t := fun tX kX => pre0 _ (st1 _ kX)
  have Z3 : n0 ≤ h1.size := Nat.le_trans Z0 E1.1
  have f4_E : Exa Z h1 b1 "com/example/weaverbird/weaverbird/engine/Frame" := A1
  have f5_F : Fld Z h1 b1 "com/example/weaverbird/weaverbird/engine/Frame" "state" "[J" .null := D1 (Or.inl (hw _ (List.mem_of_getElem? (i := 11) rfl))) (ty := (.array .long)) (by decide)
  have f6_F : Fld Z h1 b1 "com/example/weaverbird/weaverbird/engine/Frame" "next" "[J" .null := D1 (Or.inl (hw _ (List.mem_of_getElem? (i := 13) rfl))) (ty := (.array .long)) (by decide)
  have f7_F : Fld Z h1 b1 "com/example/weaverbird/weaverbird/engine/Frame" "trail" "[I" .null := D1 (Or.inl (hw _ (List.mem_of_getElem? (i := 16) rfl))) (ty := (.array .int)) (by decide)
  have f8_F : Fld Z h1 b1 "com/example/weaverbird/weaverbird/engine/Frame" "size" "I" (.int (0 : Int32)) := D1 (Or.inl (hw _ (List.mem_of_getElem? (i := 21) rfl))) (ty := .int) (by decide)
  have f9_F : Fld Z h1 b1 "com/example/weaverbird/weaverbird/engine/Frame" "nextSize" "I" (.int (0 : Int32)) := D1 (Or.inl (hw _ (List.mem_of_getElem? (i := 23) rfl))) (ty := .int) (by decide)
  have f10_F : Fld Z h1 b1 "com/example/weaverbird/weaverbird/engine/Frame" "lost" "Z" (.int (0 : Int32)) := D1 (Or.inl (hw _ (List.mem_of_getElem? (i := 25) rfl))) (ty := .boolean) (by decide)
  have f11_F : Fld Z h1 b1 "com/example/weaverbird/weaverbird/engine/Frame" "textFaulted" "Z" (.int (0 : Int32)) := D1 (Or.inl (hw _ (List.mem_of_getElem? (i := 27) rfl))) (ty := .boolean) (by decide)
  have f12_F : Fld Z h1 b1 "com/example/weaverbird/weaverbird/engine/Frame" "learned" "Lcom/example/weaverbird/weaverbird/engine/LearnedStates$State;" .null := D1 (Or.inl (hw _ (List.mem_of_getElem? (i := 36) rfl))) (ty := (.object "com/example/weaverbird/weaverbird/engine/LearnedStates$State")) (by decide)
  have f13_F : Fld Z h1 b1 "com/example/weaverbird/weaverbird/engine/Frame" "model" "Lcom/example/weaverbird/weaverbird/engine/ContentModel;" .null := D1 (Or.inl (hw _ (List.mem_of_getElem? (i := 38) rfl))) (ty := (.object "com/example/weaverbird/weaverbird/engine/ContentModel")) (by decide)
  have f14_F : Fld Z h1 b1 "com/example/weaverbird/weaverbird/engine/Frame" "namespace" "Ljava/lang/String;" .null := D1 (Or.inl (hw _ (List.mem_of_getElem? (i := 40) rfl))) (ty := (.object "java/lang/String")) (by decide)
  have f15_F : Fld Z h1 b1 "com/example/weaverbird/weaverbird/engine/Frame" "localName" "Ljava/lang/String;" .null := D1 (Or.inl (hw _ (List.mem_of_getElem? (i := 42) rfl))) (ty := (.object "java/lang/String")) (by decide)
  have pre16 : ∀ t, own_s p e below T1 m 4 #[.val (.long i0), .second, .val (.long i1), .second, .val (.long i2), .second, .val (.long i3), .second, iv i4, iv i5, .unset, .unset, .unset, .unset, .unset, .unset, .unset, .unset, .unset, .unset] [(.ref b1), (.ref b1)] t → Steps p.tables e below S0 t := by
    intro tX kX
    refine pre2 _ ?_
    show own_s p e below T1 m 3 #[.val (.long i0), .second, .val (.long i1), .second, .val (.long i2), .second, .val (.long i3), .second, iv i4, iv i5, .unset, .unset, .unset, .unset, .unset, .unset, .unset, .unset, .unset, .unset] [(.ref b1)] _
    refine XS.dup X1.here hx rfl (hb hby at_3) rfl rfl ?_
    exact kX
  obtain ⟨_, _, ⟨T17, L17, k17, n17⟩, -, X17, ⟨Lc17, hQ17, l17, y17, z17⟩, st17⟩ := X1.specialBack hx (y := (⟨"com/example/weaverbird/weaverbird/engine/Frame", "<init>", "()V"⟩ : MethodName)) rfl hown (mvT hZ (hw _ (List.mem_of_getElem? (i := 3) rfl))) (mvT hZ (hw _ (List.mem_of_getElem? (i := 4) rfl))) (mvT hZ (hw _ (List.mem_of_getElem? (i := 5) rfl))) (by decide) (backOf (W := 1) (rm1 l Z a0 hw [] b1  h1 n0 Z3 f4_E f5_F f6_F f7_F f8_F f9_F f10_F f11_F f12_F f13_F f14_F f15_F g_b1) hZ (hw _ (List.mem_of_getElem? (i := 5) rfl)) (hw _ (List.mem_of_getElem? (i := 2) rfl)) (by decide) (by decide)) (g := (mkF m 4 #[.val (.long i0), .second, .val (.long i1), .second, .val (.long i2), .second, .val (.long i3), .second, iv i4, iv i5, .unset, .unset, .unset, .unset, .unset, .unset, .unset, .unset, .unset, .unset] [(.ref b1), (.ref b1)])) rfl (by rw [hml]; rfl) (Steps.refl _) (a := b1) (argsL := []) (rest := [(.ref b1)]) (lenOf pd0_0 rfl) rfl (by show 2 * 0 + _ ≤ _; exact Nat.le_of_eq rfl) (hb hby at_4) (fun _ _ => ⟨rfl, e1, (by decide : 1 + 3 ≤ _), (by decide : 11 + 48 ≤ _)⟩)
  dsimp only [Pt.U, Pt.locs, Pt.cells, Pt.slots] at X17 l17 y17 z17 st17 hQ17
  subst l17 y17 z17
  obtain ⟨rfl, Nq17, Kq17, b17_1, b17_2, b17_3, g_b17_1, g_b17_2, g_b17_3, nq1, nq2, nq3, nq4, nq5, nq6, fE17, f17_state, f17_next, f17_trail, f17_size, f17_nextSize, f17_lost, f17_textFaulted, f17_learned, f17_model, f17_namespace, f17_localName, fA1, fA2, fA3⟩ := hQ17
  have N17 := Fr.app N0 Nq17
  have e17 : T17.heap = T17.heap := rfl
  have Z17 : n0 ≤ T17.heap.size := Nat.le_trans Z3 Kq17.1
  have pre18 : ∀ t, own_s p e below T17 m 7 #[.val (.long i0), .second, .val (.long i1), .second, .val (.long i2), .second, .val (.long i3), .second, iv i4, iv i5, .unset, .unset, .unset, .unset, .unset, .unset, .unset, .unset, .unset, .unset] [(.ref b1)] t → Steps p.tables e below S0 t := fun tX kX => pre16 _ (st17.trans kX)
  have pre19 : ∀ t, own_s p e below T17 m 11 #[.val (.long i0), .second, .val (.long i1), .second, .val (.long i2), .second, .val (.long i3), .second, iv i4, iv i5, rv b1, .unset, .unset, .unset, .unset, .unset, .unset, .unset, .unset, .unset] [(.ref b1)] t → Steps p.tables e below S0 t := by
    intro tX kX
    refine pre18 _ ?_
    show own_s p e below T17 m 7 #[.val (.long i0), .second, .val (.long i1), .second, .val (.long i2), .second, .val (.long i3), .second, iv i4, iv i5, .unset, .unset, .unset, .unset, .unset, .unset, .unset, .unset, .unset, .unset] [(.ref b1)] _
    refine XS.astore X17.here hx rfl (hb hby at_7) rfl rfl (l' := #[.val (.long i0), .second, .val (.long i1), .second, .val (.long i2), .second, .val (.long i3), .second, iv i4, iv i5, rv b1, .unset, .unset, .unset, .unset, .unset, .unset, .unset, .unset, .unset]) rfl ?_
    show own_s p e below T17 m 9 #[.val (.long i0), .second, .val (.long i1), .second, .val (.long i2), .second, .val (.long i3), .second, iv i4, iv i5, rv b1, .unset, .unset, .unset, .unset, .unset, .unset, .unset, .unset, .unset] [] _
    refine XS.aload X17.here hx rfl (hb hby at_9) rfl rfl ?_
    exact kX
  obtain ⟨T20, X20, e20, st20⟩ := getF X17 hx hZ hown (host := "") (Or.inl (hw _ (List.mem_of_getElem? (i := 17) rfl))) Via.refl e17 f17_state (g := (mkF m 11 #[.val (.long i0), .second, .val (.long i1), .second, .val (.long i2), .second, .val (.long i3), .second, iv i4, iv i5, rv b1, .unset, .unset, .unset, .unset, .unset, .unset, .unset, .unset, .unset] [(.ref b1)])) rfl rfl (hb hby at_11)
  have pre21 : ∀ t, own_s p e below T20 m 14 #[.val (.long i0), .second, .val (.long i1), .second, .val (.long i2), .second, .val (.long i3), .second, iv i4, iv i5, rv b1, .unset, .unset, .unset, .unset, .unset, .unset, .unset, .unset, .unset] [(.ref b17_1)] t → Steps p.tables e below S0 t := fun tX kX => pre19 _ (st20 _ kX)
  have pre22 : ∀ t, own_s p e below T20 m 18 #[.val (.long i0), .second, .val (.long i1), .second, .val (.long i2), .second, .val (.long i3), .second, iv i4, iv i5, rv b1, rv b17_1, .unset, .unset, .unset, .unset, .unset, .unset, .unset, .unset] [(.ref b1)] t → Steps p.tables e below S0 t := by
    intro tX kX
    refine pre21 _ ?_
    show own_s p e below T20 m 14 #[.val (.long i0), .second, .val (.long i1), .second, .val (.long i2), .second, .val (.long i3), .second, iv i4, iv i5, rv b1, .unset, .unset, .unset, .unset, .unset, .unset, .unset, .unset, .unset] [(.ref b17_1)] _
    refine XS.astore X20.here hx rfl (hb hby at_14) rfl rfl (l' := #[.val (.long i0), .second, .val (.long i1), .second, .val (.long i2), .second, .val (.long i3), .second, iv i4, iv i5, rv b1, rv b17_1, .unset, .unset, .unset, .unset, .unset, .unset, .unset, .unset]) rfl ?_
    show own_s p e below T20 m 16 #[.val (.long i0), .second, .val (.long i1), .second, .val (.long i2), .second, .val (.long i3), .second, iv i4, iv i5, rv b1, rv b17_1, .unset, .unset, .unset, .unset, .unset, .unset, .unset, .unset] [] _
    refine XS.aload X20.here hx rfl (hb hby at_16) rfl rfl ?_
    exact kX
  obtain ⟨T23, X23, e23, st23⟩ := getF X20 hx hZ hown (host := "") (Or.inl (hw _ (List.mem_of_getElem? (i := 18) rfl))) Via.refl e20 f17_next (g := (mkF m 18 #[.val (.long i0), .second, .val (.long i1), .second, .val (.long i2), .second, .val (.long i3), .second, iv i4, iv i5, rv b1, rv b17_1, .unset, .unset, .unset, .unset, .unset, .unset, .unset, .unset] [(.ref b1)])) rfl rfl (hb hby at_18)
  have pre24 : ∀ t, own_s p e below T23 m 21 #[.val (.long i0), .second, .val (.long i1), .second, .val (.long i2), .second, .val (.long i3), .second, iv i4, iv i5, rv b1, rv b17_1, .unset, .unset, .unset, .unset, .unset, .unset, .unset, .unset] [(.ref b17_2)] t → Steps p.tables e below S0 t := fun tX kX => pre22 _ (st23 _ kX)
  have pre25 : ∀ t, own_s p e below T23 m 25 #[.val (.long i0), .second, .val (.long i1), .second, .val (.long i2), .second, .val (.long i3), .second, iv i4, iv i5, rv b1, rv b17_1, rv b17_2, .unset, .unset, .unset, .unset, .unset, .unset, .unset] [(.ref b1)] t → Steps p.tables e below S0 t := by
    intro tX kX
    refine pre24 _ ?_
    show own_s p e below T23 m 21 #[.val (.long i0), .second, .val (.long i1), .second, .val (.long i2), .second, .val (.long i3), .second, iv i4, iv i5, rv b1, rv b17_1, .unset, .unset, .unset, .unset, .unset, .unset, .unset, .unset] [(.ref b17_2)] _
    refine XS.astore X23.here hx rfl (hb hby at_21) rfl rfl (l' := #[.val (.long i0), .second, .val (.long i1), .second, .val (.long i2), .second, .val (.long i3), .second, iv i4, iv i5, rv b1, rv b17_1, rv b17_2, .unset, .unset, .unset, .unset, .unset, .unset, .unset]) rfl ?_
    show own_s p e below T23 m 23 #[.val (.long i0), .second, .val (.long i1), .second, .val (.long i2), .second, .val (.long i3), .second, iv i4, iv i5, rv b1, rv b17_1, rv b17_2, .unset, .unset, .unset, .unset, .unset, .unset, .unset] [] _
    refine XS.aload X23.here hx rfl (hb hby at_23) rfl rfl ?_
    exact kX
  obtain ⟨T26, X26, e26, st26⟩ := getF X23 hx hZ hown (host := "") (Or.inl (hw _ (List.mem_of_getElem? (i := 19) rfl))) Via.refl e23 f17_trail (g := (mkF m 25 #[.val (.long i0), .second, .val (.long i1), .second, .val (.long i2), .second, .val (.long i3), .second, iv i4, iv i5, rv b1, rv b17_1, rv b17_2, .unset, .unset, .unset, .unset, .unset, .unset, .unset] [(.ref b1)])) rfl rfl (hb hby at_25)
  have pre27 : ∀ t, own_s p e below T26 m 28 #[.val (.long i0), .second, .val (.long i1), .second, .val (.long i2), .second, .val (.long i3), .second, iv i4, iv i5, rv b1, rv b17_1, rv b17_2, .unset, .unset, .unset, .unset, .unset, .unset, .unset] [(.ref b17_3)] t → Steps p.tables e below S0 t := fun tX kX => pre25 _ (st26 _ kX)
  have pre28 : ∀ t, own_s p e below T26 m 35 #[.val (.long i0), .second, .val (.long i1), .second, .val (.long i2), .second, .val (.long i3), .second, iv i4, iv i5, rv b1, rv b17_1, rv b17_2, rv b17_3, .unset, .unset, .unset, .unset, .unset, .unset] [(.int (i4 &&& (15 : Int32)))] t → Steps p.tables e below S0 t := by
    intro tX kX
    refine pre27 _ ?_
    show own_s p e below T26 m 28 #[.val (.long i0), .second, .val (.long i1), .second, .val (.long i2), .second, .val (.long i3), .second, iv i4, iv i5, rv b1, rv b17_1, rv b17_2, .unset, .unset, .unset, .unset, .unset, .unset, .unset] [(.ref b17_3)] _
    refine XS.astore X26.here hx rfl (hb hby at_28) rfl rfl (l' := #[.val (.long i0), .second, .val (.long i1), .second, .val (.long i2), .second, .val (.long i3), .second, iv i4, iv i5, rv b1, rv b17_1, rv b17_2, rv b17_3, .unset, .unset, .unset, .unset, .unset, .unset]) rfl ?_
    show own_s p e below T26 m 30 #[.val (.long i0), .second, .val (.long i1), .second, .val (.long i2), .second, .val (.long i3), .second, iv i4, iv i5, rv b1, rv b17_1, rv b17_2, rv b17_3, .unset, .unset, .unset, .unset, .unset, .unset] [] _
    refine XS.iload X26.here hx rfl (hb hby at_30) rfl ?_
    show own_s p e below T26 m 32 #[.val (.long i0), .second, .val (.long i1), .second, .val (.long i2), .second, .val (.long i3), .second, iv i4, iv i5, rv b1, rv b17_1, rv b17_2, rv b17_3, .unset, .unset, .unset, .unset, .unset, .unset] [(.int i4)] _
    refine XS.bipush X26.here hx rfl (hb hby at_32) ?_
    show own_s p e below T26 m 34 #[.val (.long i0), .second, .val (.long i1), .second, .val (.long i2), .second, .val (.long i3), .second, iv i4, iv i5, rv b1, rv b17_1, rv b17_2, rv b17_3, .unset, .unset, .unset, .unset, .unset, .unset] [(.int (15 : Int32)), (.int i4)] _
    refine XS.iand X26.here hx rfl (hb hby at_34) rfl ?_
    exact kX
  obtain ⟨oldS, holdS⟩ : ∃ z : Int32, z = (i4 &&& (15 : Int32)) := ⟨_, rfl⟩
  rw [← holdS] at pre28
  have pre29 : ∀ t, own_s p e below T26 m 44 #[.val (.long i0), .second, .val (.long i1), .second, .val (.long i2), .second, .val (.long i3), .second, iv i4, iv i5, rv b1, rv b17_1, rv b17_2, rv b17_3, iv oldS, .unset, .unset, .unset, .unset, .unset] [(.int (((i4.toUInt32 >>> ((4 : Int32) &&& 31).toUInt32).toInt32) % (17 : Int32)))] t → Steps p.tables e below S0 t := by
    intro tX kX
    refine pre28 _ ?_
    show own_s p e below T26 m 35 #[.val (.long i0), .second, .val (.long i1), .second, .val (.long i2), .second, .val (.long i3), .second, iv i4, iv i5, rv b1, rv b17_1, rv b17_2, rv b17_3, .unset, .unset, .unset, .unset, .unset, .unset] [(.int oldS)] _
    refine XS.istore X26.here hx rfl (hb hby at_35) rfl (l' := #[.val (.long i0), .second, .val (.long i1), .second, .val (.long i2), .second, .val (.long i3), .second, iv i4, iv i5, rv b1, rv b17_1, rv b17_2, rv b17_3, iv oldS, .unset, .unset, .unset, .unset, .unset]) rfl ?_
    show own_s p e below T26 m 37 #[.val (.long i0), .second, .val (.long i1), .second, .val (.long i2), .second, .val (.long i3), .second, iv i4, iv i5, rv b1, rv b17_1, rv b17_2, rv b17_3, iv oldS, .unset, .unset, .unset, .unset, .unset] [] _
    refine XS.iload X26.here hx rfl (hb hby at_37) rfl ?_
    show own_s p e below T26 m 39 #[.val (.long i0), .second, .val (.long i1), .second, .val (.long i2), .second, .val (.long i3), .second, iv i4, iv i5, rv b1, rv b17_1, rv b17_2, rv b17_3, iv oldS, .unset, .unset, .unset, .unset, .unset] [(.int i4)] _
    refine XS.iconst X26.here hx rfl (hb hby at_39) ?_
    show own_s p e below T26 m 40 #[.val (.long i0), .second, .val (.long i1), .second, .val (.long i2), .second, .val (.long i3), .second, iv i4, iv i5, rv b1, rv b17_1, rv b17_2, rv b17_3, iv oldS, .unset, .unset, .unset, .unset, .unset] [(.int (4 : Int32)), (.int i4)] _
    refine XS.iushr X26.here hx rfl (hb hby at_40) rfl ?_
    show own_s p e below T26 m 41 #[.val (.long i0), .second, .val (.long i1), .second, .val (.long i2), .second, .val (.long i3), .second, iv i4, iv i5, rv b1, rv b17_1, rv b17_2, rv b17_3, iv oldS, .unset, .unset, .unset, .unset, .unset] [(.int ((i4.toUInt32 >>> ((4 : Int32) &&& 31).toUInt32).toInt32))] _
    refine XS.bipush X26.here hx rfl (hb hby at_41) ?_
    show own_s p e below T26 m 43 #[.val (.long i0), .second, .val (.long i1), .second, .val (.long i2), .second, .val (.long i3), .second, iv i4, iv i5, rv b1, rv b17_1, rv b17_2, rv b17_3, iv oldS, .unset, .unset, .unset, .unset, .unset] [(.int (17 : Int32)), (.int ((i4.toUInt32 >>> ((4 : Int32) &&& 31).toUInt32).toInt32))] _
    refine iremM X26 hx rfl (hb hby at_43) rfl (by decide) ?_
    exact kX
  obtain ⟨oldN, holdN⟩ : ∃ z : Int32, z = (((i4.toUInt32 >>> ((4 : Int32) &&& 31).toUInt32).toInt32) % (17 : Int32)) := ⟨_, rfl⟩
  rw [← holdN] at pre29
  have pre30 : ∀ t, own_s p e below T26 m 50 #[.val (.long i0), .second, .val (.long i1), .second, .val (.long i2), .second, .val (.long i3), .second, iv i4, iv i5, rv b1, rv b17_1, rv b17_2, rv b17_3, iv oldS, iv oldN, .unset, .unset, .unset, .unset] [(.long i0), (.int (0 : Int32)), (.ref b17_1)] t → Steps p.tables e below S0 t := by
    intro tX kX
    refine pre29 _ ?_
    show own_s p e below T26 m 44 #[.val (.long i0), .second, .val (.long i1), .second, .val (.long i2), .second, .val (.long i3), .second, iv i4, iv i5, rv b1, rv b17_1, rv b17_2, rv b17_3, iv oldS, .unset, .unset, .unset, .unset, .unset] [(.int oldN)] _
    refine XS.istore X26.here hx rfl (hb hby at_44) rfl (l' := #[.val (.long i0), .second, .val (.long i1), .second, .val (.long i2), .second, .val (.long i3), .second, iv i4, iv i5, rv b1, rv b17_1, rv b17_2, rv b17_3, iv oldS, iv oldN, .unset, .unset, .unset, .unset]) rfl ?_
    show own_s p e below T26 m 46 #[.val (.long i0), .second, .val (.long i1), .second, .val (.long i2), .second, .val (.long i3), .second, iv i4, iv i5, rv b1, rv b17_1, rv b17_2, rv b17_3, iv oldS, iv oldN, .unset, .unset, .unset, .unset] [] _
    refine XS.aload X26.here hx rfl (hb hby at_46) rfl rfl ?_
    show own_s p e below T26 m 48 #[.val (.long i0), .second, .val (.long i1), .second, .val (.long i2), .second, .val (.long i3), .second, iv i4, iv i5, rv b1, rv b17_1, rv b17_2, rv b17_3, iv oldS, iv oldN, .unset, .unset, .unset, .unset] [(.ref b17_1)] _
    refine XS.iconst X26.here hx rfl (hb hby at_48) ?_
    show own_s p e below T26 m 49 #[.val (.long i0), .second, .val (.long i1), .second, .val (.long i2), .second, .val (.long i3), .second, iv i4, iv i5, rv b1, rv b17_1, rv b17_2, rv b17_3, iv oldS, iv oldN, .unset, .unset, .unset, .unset] [(.int (0 : Int32)), (.ref b17_1)] _
    refine XS.lloadN X26.here hx rfl (hb hby at_49) rfl ?_
    exact kX
  obtain ⟨cl31, Ar31, S31, M31, H31⟩ := id fA1
  obtain ⟨T32, h32, X32, e32, W32, st32⟩ := stJ X26 hx hZ e26 Ar31 (j := (0 : Int32)) (own_inb S31 M31 (by decide)) (g := (mkF m 50 #[.val (.long i0), .second, .val (.long i1), .second, .val (.long i2), .second, .val (.long i3), .second, iv i4, iv i5, rv b1, rv b17_1, rv b17_2, rv b17_3, iv oldS, iv oldN, .unset, .unset, .unset, .unset] [(.long i0), (.int (0 : Int32)), (.ref b17_1)])) rfl rfl (hb hby at_50)
  have pre33 : ∀ t, own_s p e below T32 m 51 #[.val (.long i0), .second, .val (.long i1), .second, .val (.long i2), .second, .val (.long i3), .second, iv i4, iv i5, rv b1, rv b17_1, rv b17_2, rv b17_3, iv oldS, iv oldN, .unset, .unset, .unset, .unset] [] t → Steps p.tables e below S0 t := fun tX kX => pre30 _ (st32 _ kX)
  have N34 := Fr.snoc X32 N17 g_b17_1
  have f35_E : Exa Z h32 b1 "com/example/weaverbird/weaverbird/engine/Frame" := fE17.wr W32
  have f36_F : Fld Z h32 b1 "com/example/weaverbird/weaverbird/engine/Frame" "state" "[J" (.ref b17_1) := f17_state.other W32 (Or.inl nq4)
  have f37_F : Fld Z h32 b1 "com/example/weaverbird/weaverbird/engine/Frame" "next" "[J" (.ref b17_2) := f17_next.other W32 (Or.inl nq4)
  have f38_F : Fld Z h32 b1 "com/example/weaverbird/weaverbird/engine/Frame" "trail" "[I" (.ref b17_3) := f17_trail.other W32 (Or.inl nq4)
  have f39_F : Fld Z h32 b1 "com/example/weaverbird/weaverbird/engine/Frame" "size" "I" (.int (0 : Int32)) := f17_size.other W32 (Or.inl nq4)
  have f40_F : Fld Z h32 b1 "com/example/weaverbird/weaverbird/engine/Frame" "nextSize" "I" (.int (0 : Int32)) := f17_nextSize.other W32 (Or.inl nq4)
  have f41_F : Fld Z h32 b1 "com/example/weaverbird/weaverbird/engine/Frame" "lost" "Z" (.int (0 : Int32)) := f17_lost.other W32 (Or.inl nq4)
  have f42_F : Fld Z h32 b1 "com/example/weaverbird/weaverbird/engine/Frame" "textFaulted" "Z" (.int (0 : Int32)) := f17_textFaulted.other W32 (Or.inl nq4)
  have f43_F : Fld Z h32 b1 "com/example/weaverbird/weaverbird/engine/Frame" "learned" "Lcom/example/weaverbird/weaverbird/engine/LearnedStates$State;" .null := f17_learned.other W32 (Or.inl nq4)
  have f44_F : Fld Z h32 b1 "com/example/weaverbird/weaverbird/engine/Frame" "model" "Lcom/example/weaverbird/weaverbird/engine/ContentModel;" .null := f17_model.other W32 (Or.inl nq4)
  have f45_F : Fld Z h32 b1 "com/example/weaverbird/weaverbird/engine/Frame" "namespace" "Ljava/lang/String;" .null := f17_namespace.other W32 (Or.inl nq4)
  have f46_F : Fld Z h32 b1 "com/example/weaverbird/weaverbird/engine/Frame" "localName" "Ljava/lang/String;" .null := f17_localName.other W32 (Or.inl nq4)
  have f47_A : own_Af Z h32 b17_2 .long 16 (fun _ => (.long (0 : Int64))) := fA2.other W32 (Ne.symm nq1)
  have f48_A : own_Af Z h32 b17_3 .int 16 (fun _ => (.int (0 : Int32))) := fA3.other W32 (Ne.symm nq2)
  have Z49 : n0 ≤ h32.size := Nat.le_trans Z17 (Keep.of_wr W32).1
  have f50_A : own_Af Z h32 b17_1 .long 16 (own_up (fun _ => (.long (0 : Int64))) (0 : Int32).toNatClampNeg (.long i0)) := own_Af.set Ar31 S31 M31 H31 W32
  have pre51 : ∀ t, own_s p e below T32 m 56 #[.val (.long i0), .second, .val (.long i1), .second, .val (.long i2), .second, .val (.long i3), .second, iv i4, iv i5, rv b1, rv b17_1, rv b17_2, rv b17_3, iv oldS, iv oldN, .unset, .unset, .unset, .unset] [(.long i1), (.int (15 : Int32)), (.ref b17_1)] t → Steps p.tables e below S0 t := by
    intro tX kX
    refine pre33 _ ?_
    show own_s p e below T32 m 51 #[.val (.long i0), .second, .val (.long i1), .second, .val (.long i2), .second, .val (.long i3), .second, iv i4, iv i5, rv b1, rv b17_1, rv b17_2, rv b17_3, iv oldS, iv oldN, .unset, .unset, .unset, .unset] [] _
    refine XS.aload X32.here hx rfl (hb hby at_51) rfl rfl ?_
    show own_s p e below T32 m 53 #[.val (.long i0), .second, .val (.long i1), .second, .val (.long i2), .second, .val (.long i3), .second, iv i4, iv i5, rv b1, rv b17_1, rv b17_2, rv b17_3, iv oldS, iv oldN, .unset, .unset, .unset, .unset] [(.ref b17_1)] _
    refine XS.bipush X32.here hx rfl (hb hby at_53) ?_
    show own_s p e below T32 m 55 #[.val (.long i0), .second, .val (.long i1), .second, .val (.long i2), .second, .val (.long i3), .second, iv i4, iv i5, rv b1, rv b17_1, rv b17_2, rv b17_3, iv oldS, iv oldN, .unset, .unset, .unset, .unset] [(.int (15 : Int32)), (.ref b17_1)] _
    refine XS.lloadN X32.here hx rfl (hb hby at_55) rfl ?_
    exact kX
  obtain ⟨cl52, Ar52, S52, M52, H52⟩ := id f50_A
  obtain ⟨T53, h53, X53, e53, W53, st53⟩ := stJ X32 hx hZ e32 Ar52 (j := (15 : Int32)) (own_inb S52 M52 (by decide)) (g := (mkF m 56 #[.val (.long i0), .second, .val (.long i1), .second, .val (.long i2), .second, .val (.long i3), .second, iv i4, iv i5, rv b1, rv b17_1, rv b17_2, rv b17_3, iv oldS, iv oldN, .unset, .unset, .unset, .unset] [(.long i1), (.int (15 : Int32)), (.ref b17_1)])) rfl rfl (hb hby at_56)
  have pre54 : ∀ t, own_s p e below T53 m 57 #[.val (.long i0), .second, .val (.long i1), .second, .val (.long i2), .second, .val (.long i3), .second, iv i4, iv i5, rv b1, rv b17_1, rv b17_2, rv b17_3, iv oldS, iv oldN, .unset, .unset, .unset, .unset] [] t → Steps p.tables e below S0 t := fun tX kX => pre51 _ (st53 _ kX)
  have N55 := Fr.snoc X53 N34 g_b17_1
  have f56_E : Exa Z h53 b1 "com/example/weaverbird/weaverbird/engine/Frame" := f35_E.wr W53
  have f57_F : Fld Z h53 b1 "com/example/weaverbird/weaverbird/engine/Frame" "state" "[J" (.ref b17_1) := f36_F.other W53 (Or.inl nq4)
  have f58_F : Fld Z h53 b1 "com/example/weaverbird/weaverbird/engine/Frame" "next" "[J" (.ref b17_2) := f37_F.other W53 (Or.inl nq4)
  have f59_F : Fld Z h53 b1 "com/example/weaverbird/weaverbird/engine/Frame" "trail" "[I" (.ref b17_3) := f38_F.other W53 (Or.inl nq4)
  have f60_F : Fld Z h53 b1 "com/example/weaverbird/weaverbird/engine/Frame" "size" "I" (.int (0 : Int32)) := f39_F.other W53 (Or.inl nq4)
  have f61_F : Fld Z h53 b1 "com/example/weaverbird/weaverbird/engine/Frame" "nextSize" "I" (.int (0 : Int32)) := f40_F.other W53 (Or.inl nq4)
  have f62_F : Fld Z h53 b1 "com/example/weaverbird/weaverbird/engine/Frame" "lost" "Z" (.int (0 : Int32)) := f41_F.other W53 (Or.inl nq4)
  have f63_F : Fld Z h53 b1 "com/example/weaverbird/weaverbird/engine/Frame" "textFaulted" "Z" (.int (0 : Int32)) := f42_F.other W53 (Or.inl nq4)
  have f64_F : Fld Z h53 b1 "com/example/weaverbird/weaverbird/engine/Frame" "learned" "Lcom/example/weaverbird/weaverbird/engine/LearnedStates$State;" .null := f43_F.other W53 (Or.inl nq4)
  have f65_F : Fld Z h53 b1 "com/example/weaverbird/weaverbird/engine/Frame" "model" "Lcom/example/weaverbird/weaverbird/engine/ContentModel;" .null := f44_F.other W53 (Or.inl nq4)
  have f66_F : Fld Z h53 b1 "com/example/weaverbird/weaverbird/engine/Frame" "namespace" "Ljava/lang/String;" .null := f45_F.other W53 (Or.inl nq4)
  have f67_F : Fld Z h53 b1 "com/example/weaverbird/weaverbird/engine/Frame" "localName" "Ljava/lang/String;" .null := f46_F.other W53 (Or.inl nq4)
  have f68_A : own_Af Z h53 b17_2 .long 16 (fun _ => (.long (0 : Int64))) := f47_A.other W53 (Ne.symm nq1)
  have f69_A : own_Af Z h53 b17_3 .int 16 (fun _ => (.int (0 : Int32))) := f48_A.other W53 (Ne.symm nq2)
  have Z70 : n0 ≤ h53.size := Nat.le_trans Z49 (Keep.of_wr W53).1
  have f71_A : own_Af Z h53 b17_1 .long 16 (own_up (own_up (fun _ => (.long (0 : Int64))) (0 : Int32).toNatClampNeg (.long i0)) (15 : Int32).toNatClampNeg (.long i1)) := own_Af.set Ar52 S52 M52 H52 W53
  have pre72 : ∀ t, own_s p e below T53 m 62 #[.val (.long i0), .second, .val (.long i1), .second, .val (.long i2), .second, .val (.long i3), .second, iv i4, iv i5, rv b1, rv b17_1, rv b17_2, rv b17_3, iv oldS, iv oldN, .unset, .unset, .unset, .unset] [(.long i2), (.int (0 : Int32)), (.ref b17_2)] t → Steps p.tables e below S0 t := by
    intro tX kX
    refine pre54 _ ?_
    show own_s p e below T53 m 57 #[.val (.long i0), .second, .val (.long i1), .second, .val (.long i2), .second, .val (.long i3), .second, iv i4, iv i5, rv b1, rv b17_1, rv b17_2, rv b17_3, iv oldS, iv oldN, .unset, .unset, .unset, .unset] [] _
    refine XS.aload X53.here hx rfl (hb hby at_57) rfl rfl ?_
    show own_s p e below T53 m 59 #[.val (.long i0), .second, .val (.long i1), .second, .val (.long i2), .second, .val (.long i3), .second, iv i4, iv i5, rv b1, rv b17_1, rv b17_2, rv b17_3, iv oldS, iv oldN, .unset, .unset, .unset, .unset] [(.ref b17_2)] _
    refine XS.iconst X53.here hx rfl (hb hby at_59) ?_
    show own_s p e below T53 m 60 #[.val (.long i0), .second, .val (.long i1), .second, .val (.long i2), .second, .val (.long i3), .second, iv i4, iv i5, rv b1, rv b17_1, rv b17_2, rv b17_3, iv oldS, iv oldN, .unset, .unset, .unset, .unset] [(.int (0 : Int32)), (.ref b17_2)] _
    refine XS.lload X53.here hx rfl (hb hby at_60) rfl ?_
    exact kX
  obtain ⟨cl73, Ar73, S73, M73, H73⟩ := id f68_A
  obtain ⟨T74, h74, X74, e74, W74, st74⟩ := stJ X53 hx hZ e53 Ar73 (j := (0 : Int32)) (own_inb S73 M73 (by decide)) (g := (mkF m 62 #[.val (.long i0), .second, .val (.long i1), .second, .val (.long i2), .second, .val (.long i3), .second, iv i4, iv i5, rv b1, rv b17_1, rv b17_2, rv b17_3, iv oldS, iv oldN, .unset, .unset, .unset, .unset] [(.long i2), (.int (0 : Int32)), (.ref b17_2)])) rfl rfl (hb hby at_62)
  have pre75 : ∀ t, own_s p e below T74 m 63 #[.val (.long i0), .second, .val (.long i1), .second, .val (.long i2), .second, .val (.long i3), .second, iv i4, iv i5, rv b1, rv b17_1, rv b17_2, rv b17_3, iv oldS, iv oldN, .unset, .unset, .unset, .unset] [] t → Steps p.tables e below S0 t := fun tX kX => pre72 _ (st74 _ kX)
  have N76 := Fr.snoc X74 N55 g_b17_2
  have f77_E : Exa Z h74 b1 "com/example/weaverbird/weaverbird/engine/Frame" := f56_E.wr W74
  have f78_F : Fld Z h74 b1 "com/example/weaverbird/weaverbird/engine/Frame" "state" "[J" (.ref b17_1) := f57_F.other W74 (Or.inl nq5)
  have f79_F : Fld Z h74 b1 "com/example/weaverbird/weaverbird/engine/Frame" "next" "[J" (.ref b17_2) := f58_F.other W74 (Or.inl nq5)
  have f80_F : Fld Z h74 b1 "com/example/weaverbird/weaverbird/engine/Frame" "trail" "[I" (.ref b17_3) := f59_F.other W74 (Or.inl nq5)
  have f81_F : Fld Z h74 b1 "com/example/weaverbird/weaverbird/engine/Frame" "size" "I" (.int (0 : Int32)) := f60_F.other W74 (Or.inl nq5)
  have f82_F : Fld Z h74 b1 "com/example/weaverbird/weaverbird/engine/Frame" "nextSize" "I" (.int (0 : Int32)) := f61_F.other W74 (Or.inl nq5)
  have f83_F : Fld Z h74 b1 "com/example/weaverbird/weaverbird/engine/Frame" "lost" "Z" (.int (0 : Int32)) := f62_F.other W74 (Or.inl nq5)
  have f84_F : Fld Z h74 b1 "com/example/weaverbird/weaverbird/engine/Frame" "textFaulted" "Z" (.int (0 : Int32)) := f63_F.other W74 (Or.inl nq5)
  have f85_F : Fld Z h74 b1 "com/example/weaverbird/weaverbird/engine/Frame" "learned" "Lcom/example/weaverbird/weaverbird/engine/LearnedStates$State;" .null := f64_F.other W74 (Or.inl nq5)
  have f86_F : Fld Z h74 b1 "com/example/weaverbird/weaverbird/engine/Frame" "model" "Lcom/example/weaverbird/weaverbird/engine/ContentModel;" .null := f65_F.other W74 (Or.inl nq5)
  have f87_F : Fld Z h74 b1 "com/example/weaverbird/weaverbird/engine/Frame" "namespace" "Ljava/lang/String;" .null := f66_F.other W74 (Or.inl nq5)
  have f88_F : Fld Z h74 b1 "com/example/weaverbird/weaverbird/engine/Frame" "localName" "Ljava/lang/String;" .null := f67_F.other W74 (Or.inl nq5)
  have f89_A : own_Af Z h74 b17_3 .int 16 (fun _ => (.int (0 : Int32))) := f69_A.other W74 (Ne.symm nq3)
  have f90_A : own_Af Z h74 b17_1 .long 16 (own_up (own_up (fun _ => (.long (0 : Int64))) (0 : Int32).toNatClampNeg (.long i0)) (15 : Int32).toNatClampNeg (.long i1)) := f71_A.other W74 nq1
  have Z91 : n0 ≤ h74.size := Nat.le_trans Z70 (Keep.of_wr W74).1
  have f92_A : own_Af Z h74 b17_2 .long 16 (own_up (fun _ => (.long (0 : Int64))) (0 : Int32).toNatClampNeg (.long i2)) := own_Af.set Ar73 S73 M73 H73 W74
  have pre93 : ∀ t, own_s p e below T74 m 69 #[.val (.long i0), .second, .val (.long i1), .second, .val (.long i2), .second, .val (.long i3), .second, iv i4, iv i5, rv b1, rv b17_1, rv b17_2, rv b17_3, iv oldS, iv oldN, .unset, .unset, .unset, .unset] [(.long i3), (.int (15 : Int32)), (.ref b17_2)] t → Steps p.tables e below S0 t := by
    intro tX kX
    refine pre75 _ ?_
    show own_s p e below T74 m 63 #[.val (.long i0), .second, .val (.long i1), .second, .val (.long i2), .second, .val (.long i3), .second, iv i4, iv i5, rv b1, rv b17_1, rv b17_2, rv b17_3, iv oldS, iv oldN, .unset, .unset, .unset, .unset] [] _
    refine XS.aload X74.here hx rfl (hb hby at_63) rfl rfl ?_
    show own_s p e below T74 m 65 #[.val (.long i0), .second, .val (.long i1), .second, .val (.long i2), .second, .val (.long i3), .second, iv i4, iv i5, rv b1, rv b17_1, rv b17_2, rv b17_3, iv oldS, iv oldN, .unset, .unset, .unset, .unset] [(.ref b17_2)] _
    refine XS.bipush X74.here hx rfl (hb hby at_65) ?_
    show own_s p e below T74 m 67 #[.val (.long i0), .second, .val (.long i1), .second, .val (.long i2), .second, .val (.long i3), .second, iv i4, iv i5, rv b1, rv b17_1, rv b17_2, rv b17_3, iv oldS, iv oldN, .unset, .unset, .unset, .unset] [(.int (15 : Int32)), (.ref b17_2)] _
    refine XS.lload X74.here hx rfl (hb hby at_67) rfl ?_
    exact kX
  obtain ⟨cl94, Ar94, S94, M94, H94⟩ := id f92_A
  obtain ⟨T95, h95, X95, e95, W95, st95⟩ := stJ X74 hx hZ e74 Ar94 (j := (15 : Int32)) (own_inb S94 M94 (by decide)) (g := (mkF m 69 #[.val (.long i0), .second, .val (.long i1), .second, .val (.long i2), .second, .val (.long i3), .second, iv i4, iv i5, rv b1, rv b17_1, rv b17_2, rv b17_3, iv oldS, iv oldN, .unset, .unset, .unset, .unset] [(.long i3), (.int (15 : Int32)), (.ref b17_2)])) rfl rfl (hb hby at_69)
  have pre96 : ∀ t, own_s p e below T95 m 70 #[.val (.long i0), .second, .val (.long i1), .second, .val (.long i2), .second, .val (.long i3), .second, iv i4, iv i5, rv b1, rv b17_1, rv b17_2, rv b17_3, iv oldS, iv oldN, .unset, .unset, .unset, .unset] [] t → Steps p.tables e below S0 t := fun tX kX => pre93 _ (st95 _ kX)
  have N97 := Fr.snoc X95 N76 g_b17_2
  have f98_E : Exa Z h95 b1 "com/example/weaverbird/weaverbird/engine/Frame" := f77_E.wr W95
  have f99_F : Fld Z h95 b1 "com/example/weaverbird/weaverbird/engine/Frame" "state" "[J" (.ref b17_1) := f78_F.other W95 (Or.inl nq5)
  have f100_F : Fld Z h95 b1 "com/example/weaverbird/weaverbird/engine/Frame" "next" "[J" (.ref b17_2) := f79_F.other W95 (Or.inl nq5)
  have f101_F : Fld Z h95 b1 "com/example/weaverbird/weaverbird/engine/Frame" "trail" "[I" (.ref b17_3) := f80_F.other W95 (Or.inl nq5)
  have f102_F : Fld Z h95 b1 "com/example/weaverbird/weaverbird/engine/Frame" "size" "I" (.int (0 : Int32)) := f81_F.other W95 (Or.inl nq5)
  have f103_F : Fld Z h95 b1 "com/example/weaverbird/weaverbird/engine/Frame" "nextSize" "I" (.int (0 : Int32)) := f82_F.other W95 (Or.inl nq5)
  have f104_F : Fld Z h95 b1 "com/example/weaverbird/weaverbird/engine/Frame" "lost" "Z" (.int (0 : Int32)) := f83_F.other W95 (Or.inl nq5)
  have f105_F : Fld Z h95 b1 "com/example/weaverbird/weaverbird/engine/Frame" "textFaulted" "Z" (.int (0 : Int32)) := f84_F.other W95 (Or.inl nq5)
  have f106_F : Fld Z h95 b1 "com/example/weaverbird/weaverbird/engine/Frame" "learned" "Lcom/example/weaverbird/weaverbird/engine/LearnedStates$State;" .null := f85_F.other W95 (Or.inl nq5)
  have f107_F : Fld Z h95 b1 "com/example/weaverbird/weaverbird/engine/Frame" "model" "Lcom/example/weaverbird/weaverbird/engine/ContentModel;" .null := f86_F.other W95 (Or.inl nq5)
  have f108_F : Fld Z h95 b1 "com/example/weaverbird/weaverbird/engine/Frame" "namespace" "Ljava/lang/String;" .null := f87_F.other W95 (Or.inl nq5)
  have f109_F : Fld Z h95 b1 "com/example/weaverbird/weaverbird/engine/Frame" "localName" "Ljava/lang/String;" .null := f88_F.other W95 (Or.inl nq5)
  have f110_A : own_Af Z h95 b17_3 .int 16 (fun _ => (.int (0 : Int32))) := f89_A.other W95 (Ne.symm nq3)
  have f111_A : own_Af Z h95 b17_1 .long 16 (own_up (own_up (fun _ => (.long (0 : Int64))) (0 : Int32).toNatClampNeg (.long i0)) (15 : Int32).toNatClampNeg (.long i1)) := f90_A.other W95 nq1
  have Z112 : n0 ≤ h95.size := Nat.le_trans Z91 (Keep.of_wr W95).1
  have f113_A : own_Af Z h95 b17_2 .long 16 (own_up (own_up (fun _ => (.long (0 : Int64))) (0 : Int32).toNatClampNeg (.long i2)) (15 : Int32).toNatClampNeg (.long i3)) := own_Af.set Ar94 S94 M94 H94 W95
  have pre114 : ∀ t, own_s p e below T95 m 74 #[.val (.long i0), .second, .val (.long i1), .second, .val (.long i2), .second, .val (.long i3), .second, iv i4, iv i5, rv b1, rv b17_1, rv b17_2, rv b17_3, iv oldS, iv oldN, .unset, .unset, .unset, .unset] [(.int oldS), (.ref b1)] t → Steps p.tables e below S0 t := by
    intro tX kX
    refine pre96 _ ?_
    show own_s p e below T95 m 70 #[.val (.long i0), .second, .val (.long i1), .second, .val (.long i2), .second, .val (.long i3), .second, iv i4, iv i5, rv b1, rv b17_1, rv b17_2, rv b17_3, iv oldS, iv oldN, .unset, .unset, .unset, .unset] [] _
    refine XS.aload X95.here hx rfl (hb hby at_70) rfl rfl ?_
    show own_s p e below T95 m 72 #[.val (.long i0), .second, .val (.long i1), .second, .val (.long i2), .second, .val (.long i3), .second, iv i4, iv i5, rv b1, rv b17_1, rv b17_2, rv b17_3, iv oldS, iv oldN, .unset, .unset, .unset, .unset] [(.ref b1)] _
    refine XS.iload X95.here hx rfl (hb hby at_72) rfl ?_
    exact kX
  obtain ⟨T115, h115, X115, e115, W115, st115⟩ := putF X95 hx hZ hown (host := "") (Or.inl (hw _ (List.mem_of_getElem? (i := 20) rfl))) Via.refl e95 f102_F f98_E (Or.inl (hw _ (List.mem_of_getElem? (i := 21) rfl))) (hw _ (List.mem_of_getElem? (i := 1) rfl)) (ty := .int) (by decide) rfl rfl (g := (mkF m 74 #[.val (.long i0), .second, .val (.long i1), .second, .val (.long i2), .second, .val (.long i3), .second, iv i4, iv i5, rv b1, rv b17_1, rv b17_2, rv b17_3, iv oldS, iv oldN, .unset, .unset, .unset, .unset] [(.int oldS), (.ref b1)])) rfl rfl (hb hby at_74)
  have pre116 : ∀ t, own_s p e below T115 m 77 #[.val (.long i0), .second, .val (.long i1), .second, .val (.long i2), .second, .val (.long i3), .second, iv i4, iv i5, rv b1, rv b17_1, rv b17_2, rv b17_3, iv oldS, iv oldN, .unset, .unset, .unset, .unset] [] t → Steps p.tables e below S0 t := fun tX kX => pre114 _ (st115 _ kX)
  have N117 := Fr.snoc X115 N97 g_b1
  have f118_E : Exa Z h115 b1 "com/example/weaverbird/weaverbird/engine/Frame" := f98_E.wr W115
  have f119_F : Fld Z h115 b1 "com/example/weaverbird/weaverbird/engine/Frame" "state" "[J" (.ref b17_1) := f99_F.other W115 (Or.inr (slot_ne (Or.inl (hw _ (List.mem_of_getElem? (i := 11) rfl))) (Or.inl (hw _ (List.mem_of_getElem? (i := 21) rfl))) (by decide) (t := (.array .long)) (t' := .int) (by decide) (by decide)))
  have f120_F : Fld Z h115 b1 "com/example/weaverbird/weaverbird/engine/Frame" "next" "[J" (.ref b17_2) := f100_F.other W115 (Or.inr (slot_ne (Or.inl (hw _ (List.mem_of_getElem? (i := 13) rfl))) (Or.inl (hw _ (List.mem_of_getElem? (i := 21) rfl))) (by decide) (t := (.array .long)) (t' := .int) (by decide) (by decide)))
  have f121_F : Fld Z h115 b1 "com/example/weaverbird/weaverbird/engine/Frame" "trail" "[I" (.ref b17_3) := f101_F.other W115 (Or.inr (slot_ne (Or.inl (hw _ (List.mem_of_getElem? (i := 16) rfl))) (Or.inl (hw _ (List.mem_of_getElem? (i := 21) rfl))) (by decide) (t := (.array .int)) (t' := .int) (by decide) (by decide)))
  have f122_F : Fld Z h115 b1 "com/example/weaverbird/weaverbird/engine/Frame" "nextSize" "I" (.int (0 : Int32)) := f103_F.other W115 (Or.inr (slot_ne (Or.inl (hw _ (List.mem_of_getElem? (i := 23) rfl))) (Or.inl (hw _ (List.mem_of_getElem? (i := 21) rfl))) (by decide) (t := .int) (t' := .int) (by decide) (by decide)))
  have f123_F : Fld Z h115 b1 "com/example/weaverbird/weaverbird/engine/Frame" "lost" "Z" (.int (0 : Int32)) := f104_F.other W115 (Or.inr (slot_ne (Or.inl (hw _ (List.mem_of_getElem? (i := 25) rfl))) (Or.inl (hw _ (List.mem_of_getElem? (i := 21) rfl))) (by decide) (t := .boolean) (t' := .int) (by decide) (by decide)))
  have f124_F : Fld Z h115 b1 "com/example/weaverbird/weaverbird/engine/Frame" "textFaulted" "Z" (.int (0 : Int32)) := f105_F.other W115 (Or.inr (slot_ne (Or.inl (hw _ (List.mem_of_getElem? (i := 27) rfl))) (Or.inl (hw _ (List.mem_of_getElem? (i := 21) rfl))) (by decide) (t := .boolean) (t' := .int) (by decide) (by decide)))
  have f125_F : Fld Z h115 b1 "com/example/weaverbird/weaverbird/engine/Frame" "learned" "Lcom/example/weaverbird/weaverbird/engine/LearnedStates$State;" .null := f106_F.other W115 (Or.inr (slot_ne (Or.inl (hw _ (List.mem_of_getElem? (i := 36) rfl))) (Or.inl (hw _ (List.mem_of_getElem? (i := 21) rfl))) (by decide) (t := (.object "com/example/weaverbird/weaverbird/engine/LearnedStates$State")) (t' := .int) (by decide) (by decide)))
  have f126_F : Fld Z h115 b1 "com/example/weaverbird/weaverbird/engine/Frame" "model" "Lcom/example/weaverbird/weaverbird/engine/ContentModel;" .null := f107_F.other W115 (Or.inr (slot_ne (Or.inl (hw _ (List.mem_of_getElem? (i := 38) rfl))) (Or.inl (hw _ (List.mem_of_getElem? (i := 21) rfl))) (by decide) (t := (.object "com/example/weaverbird/weaverbird/engine/ContentModel")) (t' := .int) (by decide) (by decide)))
  have f127_F : Fld Z h115 b1 "com/example/weaverbird/weaverbird/engine/Frame" "namespace" "Ljava/lang/String;" .null := f108_F.other W115 (Or.inr (slot_ne (Or.inl (hw _ (List.mem_of_getElem? (i := 40) rfl))) (Or.inl (hw _ (List.mem_of_getElem? (i := 21) rfl))) (by decide) (t := (.object "java/lang/String")) (t' := .int) (by decide) (by decide)))
  have f128_F : Fld Z h115 b1 "com/example/weaverbird/weaverbird/engine/Frame" "localName" "Ljava/lang/String;" .null := f109_F.other W115 (Or.inr (slot_ne (Or.inl (hw _ (List.mem_of_getElem? (i := 42) rfl))) (Or.inl (hw _ (List.mem_of_getElem? (i := 21) rfl))) (by decide) (t := (.object "java/lang/String")) (t' := .int) (by decide) (by decide)))
  have f129_A : own_Af Z h115 b17_3 .int 16 (fun _ => (.int (0 : Int32))) := f110_A.other W115 (Ne.symm nq6)
  have f130_A : own_Af Z h115 b17_1 .long 16 (own_up (own_up (fun _ => (.long (0 : Int64))) (0 : Int32).toNatClampNeg (.long i0)) (15 : Int32).toNatClampNeg (.long i1)) := f111_A.other W115 (Ne.symm nq4)
  have f131_A : own_Af Z h115 b17_2 .long 16 (own_up (own_up (fun _ => (.long (0 : Int64))) (0 : Int32).toNatClampNeg (.long i2)) (15 : Int32).toNatClampNeg (.long i3)) := f113_A.other W115 (Ne.symm nq5)
  have Z132 : n0 ≤ h115.size := Nat.le_trans Z112 (Keep.of_wr W115).1
  have f133_F : Fld Z h115 b1 "com/example/weaverbird/weaverbird/engine/Frame" "size" "I" (.int oldS) := f102_F.same W115
  have pre134 : ∀ t, own_s p e below T115 m 81 #[.val (.long i0), .second, .val (.long i1), .second, .val (.long i2), .second, .val (.long i3), .second, iv i4, iv i5, rv b1, rv b17_1, rv b17_2, rv b17_3, iv oldS, iv oldN, .unset, .unset, .unset, .unset] [(.int oldN), (.ref b1)] t → Steps p.tables e below S0 t := by
    intro tX kX
    refine pre116 _ ?_
    show own_s p e below T115 m 77 #[.val (.long i0), .second, .val (.long i1), .second, .val (.long i2), .second, .val (.long i3), .second, iv i4, iv i5, rv b1, rv b17_1, rv b17_2, rv b17_3, iv oldS, iv oldN, .unset, .unset, .unset, .unset] [] _
    refine XS.aload X115.here hx rfl (hb hby at_77) rfl rfl ?_
    show own_s p e below T115 m 79 #[.val (.long i0), .second, .val (.long i1), .second, .val (.long i2), .second, .val (.long i3), .second, iv i4, iv i5, rv b1, rv b17_1, rv b17_2, rv b17_3, iv oldS, iv oldN, .unset, .unset, .unset, .unset] [(.ref b1)] _
    refine XS.iload X115.here hx rfl (hb hby at_79) rfl ?_
    exact kX
  obtain ⟨T135, h135, X135, e135, W135, st135⟩ := putF X115 hx hZ hown (host := "") (Or.inl (hw _ (List.mem_of_getElem? (i := 22) rfl))) Via.refl e115 f122_F f118_E (Or.inl (hw _ (List.mem_of_getElem? (i := 23) rfl))) (hw _ (List.mem_of_getElem? (i := 1) rfl)) (ty := .int) (by decide) rfl rfl (g := (mkF m 81 #[.val (.long i0), .second, .val (.long i1), .second, .val (.long i2), .second, .val (.long i3), .second, iv i4, iv i5, rv b1, rv b17_1, rv b17_2, rv b17_3, iv oldS, iv oldN, .unset, .unset, .unset, .unset] [(.int oldN), (.ref b1)])) rfl rfl (hb hby at_81)
  have pre136 : ∀ t, own_s p e below T135 m 84 #[.val (.long i0), .second, .val (.long i1), .second, .val (.long i2), .second, .val (.long i3), .second, iv i4, iv i5, rv b1, rv b17_1, rv b17_2, rv b17_3, iv oldS, iv oldN, .unset, .unset, .unset, .unset] [] t → Steps p.tables e below S0 t := fun tX kX => pre134 _ (st135 _ kX)
  have N137 := Fr.snoc X135 N117 g_b1
  have f138_E : Exa Z h135 b1 "com/example/weaverbird/weaverbird/engine/Frame" := f118_E.wr W135
  have f139_F : Fld Z h135 b1 "com/example/weaverbird/weaverbird/engine/Frame" "state" "[J" (.ref b17_1) := f119_F.other W135 (Or.inr (slot_ne (Or.inl (hw _ (List.mem_of_getElem? (i := 11) rfl))) (Or.inl (hw _ (List.mem_of_getElem? (i := 23) rfl))) (by decide) (t := (.array .long)) (t' := .int) (by decide) (by decide)))
  have f140_F : Fld Z h135 b1 "com/example/weaverbird/weaverbird/engine/Frame" "next" "[J" (.ref b17_2) := f120_F.other W135 (Or.inr (slot_ne (Or.inl (hw _ (List.mem_of_getElem? (i := 13) rfl))) (Or.inl (hw _ (List.mem_of_getElem? (i := 23) rfl))) (by decide) (t := (.array .long)) (t' := .int) (by decide) (by decide)))
  have f141_F : Fld Z h135 b1 "com/example/weaverbird/weaverbird/engine/Frame" "trail" "[I" (.ref b17_3) := f121_F.other W135 (Or.inr (slot_ne (Or.inl (hw _ (List.mem_of_getElem? (i := 16) rfl))) (Or.inl (hw _ (List.mem_of_getElem? (i := 23) rfl))) (by decide) (t := (.array .int)) (t' := .int) (by decide) (by decide)))
  have f142_F : Fld Z h135 b1 "com/example/weaverbird/weaverbird/engine/Frame" "lost" "Z" (.int (0 : Int32)) := f123_F.other W135 (Or.inr (slot_ne (Or.inl (hw _ (List.mem_of_getElem? (i := 25) rfl))) (Or.inl (hw _ (List.mem_of_getElem? (i := 23) rfl))) (by decide) (t := .boolean) (t' := .int) (by decide) (by decide)))
  have f143_F : Fld Z h135 b1 "com/example/weaverbird/weaverbird/engine/Frame" "textFaulted" "Z" (.int (0 : Int32)) := f124_F.other W135 (Or.inr (slot_ne (Or.inl (hw _ (List.mem_of_getElem? (i := 27) rfl))) (Or.inl (hw _ (List.mem_of_getElem? (i := 23) rfl))) (by decide) (t := .boolean) (t' := .int) (by decide) (by decide)))
  have f144_F : Fld Z h135 b1 "com/example/weaverbird/weaverbird/engine/Frame" "learned" "Lcom/example/weaverbird/weaverbird/engine/LearnedStates$State;" .null := f125_F.other W135 (Or.inr (slot_ne (Or.inl (hw _ (List.mem_of_getElem? (i := 36) rfl))) (Or.inl (hw _ (List.mem_of_getElem? (i := 23) rfl))) (by decide) (t := (.object "com/example/weaverbird/weaverbird/engine/LearnedStates$State")) (t' := .int) (by decide) (by decide)))
  have f145_F : Fld Z h135 b1 "com/example/weaverbird/weaverbird/engine/Frame" "model" "Lcom/example/weaverbird/weaverbird/engine/ContentModel;" .null := f126_F.other W135 (Or.inr (slot_ne (Or.inl (hw _ (List.mem_of_getElem? (i := 38) rfl))) (Or.inl (hw _ (List.mem_of_getElem? (i := 23) rfl))) (by decide) (t := (.object "com/example/weaverbird/weaverbird/engine/ContentModel")) (t' := .int) (by decide) (by decide)))
  have f146_F : Fld Z h135 b1 "com/example/weaverbird/weaverbird/engine/Frame" "namespace" "Ljava/lang/String;" .null := f127_F.other W135 (Or.inr (slot_ne (Or.inl (hw _ (List.mem_of_getElem? (i := 40) rfl))) (Or.inl (hw _ (List.mem_of_getElem? (i := 23) rfl))) (by decide) (t := (.object "java/lang/String")) (t' := .int) (by decide) (by decide)))
  have f147_F : Fld Z h135 b1 "com/example/weaverbird/weaverbird/engine/Frame" "localName" "Ljava/lang/String;" .null := f128_F.other W135 (Or.inr (slot_ne (Or.inl (hw _ (List.mem_of_getElem? (i := 42) rfl))) (Or.inl (hw _ (List.mem_of_getElem? (i := 23) rfl))) (by decide) (t := (.object "java/lang/String")) (t' := .int) (by decide) (by decide)))
  have f148_A : own_Af Z h135 b17_3 .int 16 (fun _ => (.int (0 : Int32))) := f129_A.other W135 (Ne.symm nq6)
  have f149_A : own_Af Z h135 b17_1 .long 16 (own_up (own_up (fun _ => (.long (0 : Int64))) (0 : Int32).toNatClampNeg (.long i0)) (15 : Int32).toNatClampNeg (.long i1)) := f130_A.other W135 (Ne.symm nq4)
  have f150_A : own_Af Z h135 b17_2 .long 16 (own_up (own_up (fun _ => (.long (0 : Int64))) (0 : Int32).toNatClampNeg (.long i2)) (15 : Int32).toNatClampNeg (.long i3)) := f131_A.other W135 (Ne.symm nq5)
  have f151_F : Fld Z h135 b1 "com/example/weaverbird/weaverbird/engine/Frame" "size" "I" (.int oldS) := f133_F.other W135 (Or.inr (slot_ne (Or.inl (hw _ (List.mem_of_getElem? (i := 21) rfl))) (Or.inl (hw _ (List.mem_of_getElem? (i := 23) rfl))) (by decide) (t := .int) (t' := .int) (by decide) (by decide)))
  have Z152 : n0 ≤ h135.size := Nat.le_trans Z132 (Keep.of_wr W135).1
  have f153_F : Fld Z h135 b1 "com/example/weaverbird/weaverbird/engine/Frame" "nextSize" "I" (.int oldN) := f122_F.same W135
  have pre154 : ∀ t, own_s p e below T135 m 96 #[.val (.long i0), .second, .val (.long i1), .second, .val (.long i2), .second, .val (.long i3), .second, iv i4, iv i5, rv b1, rv b17_1, rv b17_2, rv b17_3, iv oldS, iv oldN, .unset, .unset, .unset, .unset] [(.int (if (i5 &&& (1 : Int32)) = 0 then (0 : Int32) else 1))] t → Steps p.tables e below S0 t := by
    intro tX kX
    have pre155 : ∀ t, own_s p e below T135 m 88 #[.val (.long i0), .second, .val (.long i1), .second, .val (.long i2), .second, .val (.long i3), .second, iv i4, iv i5, rv b1, rv b17_1, rv b17_2, rv b17_3, iv oldS, iv oldN, .unset, .unset, .unset, .unset] [(.int (i5 &&& (1 : Int32)))] t → Steps p.tables e below S0 t := by
      intro tX kX
      refine pre136 _ ?_
      show own_s p e below T135 m 84 #[.val (.long i0), .second, .val (.long i1), .second, .val (.long i2), .second, .val (.long i3), .second, iv i4, iv i5, rv b1, rv b17_1, rv b17_2, rv b17_3, iv oldS, iv oldN, .unset, .unset, .unset, .unset] [] _
      refine XS.iload X135.here hx rfl (hb hby at_84) rfl ?_
      show own_s p e below T135 m 86 #[.val (.long i0), .second, .val (.long i1), .second, .val (.long i2), .second, .val (.long i3), .second, iv i4, iv i5, rv b1, rv b17_1, rv b17_2, rv b17_3, iv oldS, iv oldN, .unset, .unset, .unset, .unset] [(.int i5)] _
      refine XS.iconst X135.here hx rfl (hb hby at_86) ?_
      show own_s p e below T135 m 87 #[.val (.long i0), .second, .val (.long i1), .second, .val (.long i2), .second, .val (.long i3), .second, iv i4, iv i5, rv b1, rv b17_1, rv b17_2, rv b17_3, iv oldS, iv oldN, .unset, .unset, .unset, .unset] [(.int (1 : Int32)), (.int i5)] _
      refine XS.iand X135.here hx rfl (hb hby at_87) rfl ?_
      exact kX
    by_cases hc156 : (i5 &&& (1 : Int32)) = (0 : Int32)
    · skip
      have pre157 : ∀ t, own_s p e below T135 m 96 #[.val (.long i0), .second, .val (.long i1), .second, .val (.long i2), .second, .val (.long i3), .second, iv i4, iv i5, rv b1, rv b17_1, rv b17_2, rv b17_3, iv oldS, iv oldN, .unset, .unset, .unset, .unset] [(.int (0 : Int32))] t → Steps p.tables e below S0 t := by
        intro tX kX
        refine pre155 _ ?_
        show own_s p e below T135 m 88 #[.val (.long i0), .second, .val (.long i1), .second, .val (.long i2), .second, .val (.long i3), .second, iv i4, iv i5, rv b1, rv b17_1, rv b17_2, rv b17_3, iv oldS, iv oldN, .unset, .unset, .unset, .unset] [(.int (i5 &&& (1 : Int32)))] _
        refine XS.ifYes X135.here hx rfl (pc0 := 88) (pc' := 95) rfl (hb hby at_88) rfl ((if0 _ _).trans (teq hc156).1) (by decide) (by decide) ?_
        show own_s p e below T135 m 95 #[.val (.long i0), .second, .val (.long i1), .second, .val (.long i2), .second, .val (.long i3), .second, iv i4, iv i5, rv b1, rv b17_1, rv b17_2, rv b17_3, iv oldS, iv oldN, .unset, .unset, .unset, .unset] [] _
        refine XS.iconst X135.here hx rfl (hb hby at_95) ?_
        exact kX
      exact pre157 _ (castTop (show (mkF m 96 #[.val (.long i0), .second, .val (.long i1), .second, .val (.long i2), .second, .val (.long i3), .second, iv i4, iv i5, rv b1, rv b17_1, rv b17_2, rv b17_3, iv oldS, iv oldN, .unset, .unset, .unset, .unset] [(.int (0 : Int32))]) = (mkF m 96 #[.val (.long i0), .second, .val (.long i1), .second, .val (.long i2), .second, .val (.long i3), .second, iv i4, iv i5, rv b1, rv b17_1, rv b17_2, rv b17_3, iv oldS, iv oldN, .unset, .unset, .unset, .unset] [(.int (if (i5 &&& (1 : Int32)) = 0 then (0 : Int32) else 1))]) from by rw [if_pos hc156]) kX)
    · skip
      have pre158 : ∀ t, own_s p e below T135 m 96 #[.val (.long i0), .second, .val (.long i1), .second, .val (.long i2), .second, .val (.long i3), .second, iv i4, iv i5, rv b1, rv b17_1, rv b17_2, rv b17_3, iv oldS, iv oldN, .unset, .unset, .unset, .unset] [(.int (1 : Int32))] t → Steps p.tables e below S0 t := by
        intro tX kX
        refine pre155 _ ?_
        show own_s p e below T135 m 88 #[.val (.long i0), .second, .val (.long i1), .second, .val (.long i2), .second, .val (.long i3), .second, iv i4, iv i5, rv b1, rv b17_1, rv b17_2, rv b17_3, iv oldS, iv oldN, .unset, .unset, .unset, .unset] [(.int (i5 &&& (1 : Int32)))] _
        refine XS.ifNo X135.here hx rfl (hb hby at_88) rfl ((if0 _ _).trans (feq hc156).1) ?_
        show own_s p e below T135 m 91 #[.val (.long i0), .second, .val (.long i1), .second, .val (.long i2), .second, .val (.long i3), .second, iv i4, iv i5, rv b1, rv b17_1, rv b17_2, rv b17_3, iv oldS, iv oldN, .unset, .unset, .unset, .unset] [] _
        refine XS.iconst X135.here hx rfl (hb hby at_91) ?_
        show own_s p e below T135 m 92 #[.val (.long i0), .second, .val (.long i1), .second, .val (.long i2), .second, .val (.long i3), .second, iv i4, iv i5, rv b1, rv b17_1, rv b17_2, rv b17_3, iv oldS, iv oldN, .unset, .unset, .unset, .unset] [(.int (1 : Int32))] _
        refine XS.goto X135.here hx rfl (pc0 := 92) (pc' := 96) rfl (hb hby at_92) (by decide) (by decide) ?_
        exact kX
      exact pre158 _ (castTop (show (mkF m 96 #[.val (.long i0), .second, .val (.long i1), .second, .val (.long i2), .second, .val (.long i3), .second, iv i4, iv i5, rv b1, rv b17_1, rv b17_2, rv b17_3, iv oldS, iv oldN, .unset, .unset, .unset, .unset] [(.int (1 : Int32))]) = (mkF m 96 #[.val (.long i0), .second, .val (.long i1), .second, .val (.long i2), .second, .val (.long i3), .second, iv i4, iv i5, rv b1, rv b17_1, rv b17_2, rv b17_3, iv oldS, iv oldN, .unset, .unset, .unset, .unset] [(.int (if (i5 &&& (1 : Int32)) = 0 then (0 : Int32) else 1))]) from by rw [if_neg hc156]) kX)
  obtain ⟨lst, hlst⟩ : ∃ z : Int32, z = (if (i5 &&& (1 : Int32)) = 0 then (0 : Int32) else 1) := ⟨_, rfl⟩
  rw [← hlst] at pre154
  have B_lst : lst = 0 ∨ lst = 1 := by rw [hlst]; exact own_b01
  have pre159 : ∀ t, own_s p e below T135 m 98 #[.val (.long i0), .second, .val (.long i1), .second, .val (.long i2), .second, .val (.long i3), .second, iv i4, iv i5, rv b1, rv b17_1, rv b17_2, rv b17_3, iv oldS, iv oldN, iv lst, .unset, .unset, .unset] [] t → Steps p.tables e below S0 t := by
    intro tX kX
    refine pre154 _ ?_
    show own_s p e below T135 m 96 #[.val (.long i0), .second, .val (.long i1), .second, .val (.long i2), .second, .val (.long i3), .second, iv i4, iv i5, rv b1, rv b17_1, rv b17_2, rv b17_3, iv oldS, iv oldN, .unset, .unset, .unset, .unset] [(.int lst)] _
    refine XS.istore X135.here hx rfl (hb hby at_96) rfl (l' := #[.val (.long i0), .second, .val (.long i1), .second, .val (.long i2), .second, .val (.long i3), .second, iv i4, iv i5, rv b1, rv b17_1, rv b17_2, rv b17_3, iv oldS, iv oldN, iv lst, .unset, .unset, .unset]) rfl ?_
    exact kX
  have pre160 : ∀ t, own_s p e below T135 m 110 #[.val (.long i0), .second, .val (.long i1), .second, .val (.long i2), .second, .val (.long i3), .second, iv i4, iv i5, rv b1, rv b17_1, rv b17_2, rv b17_3, iv oldS, iv oldN, iv lst, .unset, .unset, .unset] [(.int (if (i5 &&& (2 : Int32)) = 0 then (0 : Int32) else 1))] t → Steps p.tables e below S0 t := by
    intro tX kX
    have pre161 : ∀ t, own_s p e below T135 m 102 #[.val (.long i0), .second, .val (.long i1), .second, .val (.long i2), .second, .val (.long i3), .second, iv i4, iv i5, rv b1, rv b17_1, rv b17_2, rv b17_3, iv oldS, iv oldN, iv lst, .unset, .unset, .unset] [(.int (i5 &&& (2 : Int32)))] t → Steps p.tables e below S0 t := by
      intro tX kX
      refine pre159 _ ?_
      show own_s p e below T135 m 98 #[.val (.long i0), .second, .val (.long i1), .second, .val (.long i2), .second, .val (.long i3), .second, iv i4, iv i5, rv b1, rv b17_1, rv b17_2, rv b17_3, iv oldS, iv oldN, iv lst, .unset, .unset, .unset] [] _
      refine XS.iload X135.here hx rfl (hb hby at_98) rfl ?_
      show own_s p e below T135 m 100 #[.val (.long i0), .second, .val (.long i1), .second, .val (.long i2), .second, .val (.long i3), .second, iv i4, iv i5, rv b1, rv b17_1, rv b17_2, rv b17_3, iv oldS, iv oldN, iv lst, .unset, .unset, .unset] [(.int i5)] _
      refine XS.iconst X135.here hx rfl (hb hby at_100) ?_
      show own_s p e below T135 m 101 #[.val (.long i0), .second, .val (.long i1), .second, .val (.long i2), .second, .val (.long i3), .second, iv i4, iv i5, rv b1, rv b17_1, rv b17_2, rv b17_3, iv oldS, iv oldN, iv lst, .unset, .unset, .unset] [(.int (2 : Int32)), (.int i5)] _
      refine XS.iand X135.here hx rfl (hb hby at_101) rfl ?_
      exact kX
    by_cases hc162 : (i5 &&& (2 : Int32)) = (0 : Int32)
    · skip
      have pre163 : ∀ t, own_s p e below T135 m 110 #[.val (.long i0), .second, .val (.long i1), .second, .val (.long i2), .second, .val (.long i3), .second, iv i4, iv i5, rv b1, rv b17_1, rv b17_2, rv b17_3, iv oldS, iv oldN, iv lst, .unset, .unset, .unset] [(.int (0 : Int32))] t → Steps p.tables e below S0 t := by
        intro tX kX
        refine pre161 _ ?_
        show own_s p e below T135 m 102 #[.val (.long i0), .second, .val (.long i1), .second, .val (.long i2), .second, .val (.long i3), .second, iv i4, iv i5, rv b1, rv b17_1, rv b17_2, rv b17_3, iv oldS, iv oldN, iv lst, .unset, .unset, .unset] [(.int (i5 &&& (2 : Int32)))] _
        refine XS.ifYes X135.here hx rfl (pc0 := 102) (pc' := 109) rfl (hb hby at_102) rfl ((if0 _ _).trans (teq hc162).1) (by decide) (by decide) ?_
        show own_s p e below T135 m 109 #[.val (.long i0), .second, .val (.long i1), .second, .val (.long i2), .second, .val (.long i3), .second, iv i4, iv i5, rv b1, rv b17_1, rv b17_2, rv b17_3, iv oldS, iv oldN, iv lst, .unset, .unset, .unset] [] _
        refine XS.iconst X135.here hx rfl (hb hby at_109) ?_
        exact kX
      exact pre163 _ (castTop (show (mkF m 110 #[.val (.long i0), .second, .val (.long i1), .second, .val (.long i2), .second, .val (.long i3), .second, iv i4, iv i5, rv b1, rv b17_1, rv b17_2, rv b17_3, iv oldS, iv oldN, iv lst, .unset, .unset, .unset] [(.int (0 : Int32))]) = (mkF m 110 #[.val (.long i0), .second, .val (.long i1), .second, .val (.long i2), .second, .val (.long i3), .second, iv i4, iv i5, rv b1, rv b17_1, rv b17_2, rv b17_3, iv oldS, iv oldN, iv lst, .unset, .unset, .unset] [(.int (if (i5 &&& (2 : Int32)) = 0 then (0 : Int32) else 1))]) from by rw [if_pos hc162]) kX)
    · skip
      have pre164 : ∀ t, own_s p e below T135 m 110 #[.val (.long i0), .second, .val (.long i1), .second, .val (.long i2), .second, .val (.long i3), .second, iv i4, iv i5, rv b1, rv b17_1, rv b17_2, rv b17_3, iv oldS, iv oldN, iv lst, .unset, .unset, .unset] [(.int (1 : Int32))] t → Steps p.tables e below S0 t := by
        intro tX kX
        refine pre161 _ ?_
        show own_s p e below T135 m 102 #[.val (.long i0), .second, .val (.long i1), .second, .val (.long i2), .second, .val (.long i3), .second, iv i4, iv i5, rv b1, rv b17_1, rv b17_2, rv b17_3, iv oldS, iv oldN, iv lst, .unset, .unset, .unset] [(.int (i5 &&& (2 : Int32)))] _
        refine XS.ifNo X135.here hx rfl (hb hby at_102) rfl ((if0 _ _).trans (feq hc162).1) ?_
        show own_s p e below T135 m 105 #[.val (.long i0), .second, .val (.long i1), .second, .val (.long i2), .second, .val (.long i3), .second, iv i4, iv i5, rv b1, rv b17_1, rv b17_2, rv b17_3, iv oldS, iv oldN, iv lst, .unset, .unset, .unset] [] _
        refine XS.iconst X135.here hx rfl (hb hby at_105) ?_
        show own_s p e below T135 m 106 #[.val (.long i0), .second, .val (.long i1), .second, .val (.long i2), .second, .val (.long i3), .second, iv i4, iv i5, rv b1, rv b17_1, rv b17_2, rv b17_3, iv oldS, iv oldN, iv lst, .unset, .unset, .unset] [(.int (1 : Int32))] _
        refine XS.goto X135.here hx rfl (pc0 := 106) (pc' := 110) rfl (hb hby at_106) (by decide) (by decide) ?_
        exact kX
      exact pre164 _ (castTop (show (mkF m 110 #[.val (.long i0), .second, .val (.long i1), .second, .val (.long i2), .second, .val (.long i3), .second, iv i4, iv i5, rv b1, rv b17_1, rv b17_2, rv b17_3, iv oldS, iv oldN, iv lst, .unset, .unset, .unset] [(.int (1 : Int32))]) = (mkF m 110 #[.val (.long i0), .second, .val (.long i1), .second, .val (.long i2), .second, .val (.long i3), .second, iv i4, iv i5, rv b1, rv b17_1, rv b17_2, rv b17_3, iv oldS, iv oldN, iv lst, .unset, .unset, .unset] [(.int (if (i5 &&& (2 : Int32)) = 0 then (0 : Int32) else 1))]) from by rw [if_neg hc162]) kX)
  obtain ⟨tff, htff⟩ : ∃ z : Int32, z = (if (i5 &&& (2 : Int32)) = 0 then (0 : Int32) else 1) := ⟨_, rfl⟩
  rw [← htff] at pre160
  have B_tff : tff = 0 ∨ tff = 1 := by rw [htff]; exact own_b01
  have pre165 : ∀ t, own_s p e below T135 m 116 #[.val (.long i0), .second, .val (.long i1), .second, .val (.long i2), .second, .val (.long i3), .second, iv i4, iv i5, rv b1, rv b17_1, rv b17_2, rv b17_3, iv oldS, iv oldN, iv lst, iv tff, .unset, .unset] [(.int lst), (.ref b1)] t → Steps p.tables e below S0 t := by
    intro tX kX
    refine pre160 _ ?_
    show own_s p e below T135 m 110 #[.val (.long i0), .second, .val (.long i1), .second, .val (.long i2), .second, .val (.long i3), .second, iv i4, iv i5, rv b1, rv b17_1, rv b17_2, rv b17_3, iv oldS, iv oldN, iv lst, .unset, .unset, .unset] [(.int tff)] _
    refine XS.istore X135.here hx rfl (hb hby at_110) rfl (l' := #[.val (.long i0), .second, .val (.long i1), .second, .val (.long i2), .second, .val (.long i3), .second, iv i4, iv i5, rv b1, rv b17_1, rv b17_2, rv b17_3, iv oldS, iv oldN, iv lst, iv tff, .unset, .unset]) rfl ?_
    show own_s p e below T135 m 112 #[.val (.long i0), .second, .val (.long i1), .second, .val (.long i2), .second, .val (.long i3), .second, iv i4, iv i5, rv b1, rv b17_1, rv b17_2, rv b17_3, iv oldS, iv oldN, iv lst, iv tff, .unset, .unset] [] _
    refine XS.aload X135.here hx rfl (hb hby at_112) rfl rfl ?_
    show own_s p e below T135 m 114 #[.val (.long i0), .second, .val (.long i1), .second, .val (.long i2), .second, .val (.long i3), .second, iv i4, iv i5, rv b1, rv b17_1, rv b17_2, rv b17_3, iv oldS, iv oldN, iv lst, iv tff, .unset, .unset] [(.ref b1)] _
    refine XS.iload X135.here hx rfl (hb hby at_114) rfl ?_
    exact kX
  obtain ⟨T166, h166, X166, e166, W166, st166⟩ := putFN X135 hx hZ hown (hw _ (List.mem_of_getElem? (i := 24) rfl)) Via.refl e135 f142_F f138_E (Or.inl (hw _ (List.mem_of_getElem? (i := 25) rfl))) (hw _ (List.mem_of_getElem? (i := 1) rfl)) (ty := .boolean) (v' := (.int lst)) (by decide) (own_narB B_lst) (own_fitB B_lst) (g := (mkF m 116 #[.val (.long i0), .second, .val (.long i1), .second, .val (.long i2), .second, .val (.long i3), .second, iv i4, iv i5, rv b1, rv b17_1, rv b17_2, rv b17_3, iv oldS, iv oldN, iv lst, iv tff, .unset, .unset] [(.int lst), (.ref b1)])) rfl rfl (hb hby at_116)
  have pre167 : ∀ t, own_s p e below T166 m 119 #[.val (.long i0), .second, .val (.long i1), .second, .val (.long i2), .second, .val (.long i3), .second, iv i4, iv i5, rv b1, rv b17_1, rv b17_2, rv b17_3, iv oldS, iv oldN, iv lst, iv tff, .unset, .unset] [] t → Steps p.tables e below S0 t := fun tX kX => pre165 _ (st166 _ kX)
  have N168 := Fr.snoc X166 N137 g_b1
  have f169_E : Exa Z h166 b1 "com/example/weaverbird/weaverbird/engine/Frame" := f138_E.wr W166
  have f170_F : Fld Z h166 b1 "com/example/weaverbird/weaverbird/engine/Frame" "state" "[J" (.ref b17_1) := f139_F.other W166 (Or.inr (slot_ne (Or.inl (hw _ (List.mem_of_getElem? (i := 11) rfl))) (Or.inl (hw _ (List.mem_of_getElem? (i := 25) rfl))) (by decide) (t := (.array .long)) (t' := .boolean) (by decide) (by decide)))
  have f171_F : Fld Z h166 b1 "com/example/weaverbird/weaverbird/engine/Frame" "next" "[J" (.ref b17_2) := f140_F.other W166 (Or.inr (slot_ne (Or.inl (hw _ (List.mem_of_getElem? (i := 13) rfl))) (Or.inl (hw _ (List.mem_of_getElem? (i := 25) rfl))) (by decide) (t := (.array .long)) (t' := .boolean) (by decide) (by decide)))
  have f172_F : Fld Z h166 b1 "com/example/weaverbird/weaverbird/engine/Frame" "trail" "[I" (.ref b17_3) := f141_F.other W166 (Or.inr (slot_ne (Or.inl (hw _ (List.mem_of_getElem? (i := 16) rfl))) (Or.inl (hw _ (List.mem_of_getElem? (i := 25) rfl))) (by decide) (t := (.array .int)) (t' := .boolean) (by decide) (by decide)))
  have f173_F : Fld Z h166 b1 "com/example/weaverbird/weaverbird/engine/Frame" "textFaulted" "Z" (.int (0 : Int32)) := f143_F.other W166 (Or.inr (slot_ne (Or.inl (hw _ (List.mem_of_getElem? (i := 27) rfl))) (Or.inl (hw _ (List.mem_of_getElem? (i := 25) rfl))) (by decide) (t := .boolean) (t' := .boolean) (by decide) (by decide)))
  have f174_F : Fld Z h166 b1 "com/example/weaverbird/weaverbird/engine/Frame" "learned" "Lcom/example/weaverbird/weaverbird/engine/LearnedStates$State;" .null := f144_F.other W166 (Or.inr (slot_ne (Or.inl (hw _ (List.mem_of_getElem? (i := 36) rfl))) (Or.inl (hw _ (List.mem_of_getElem? (i := 25) rfl))) (by decide) (t := (.object "com/example/weaverbird/weaverbird/engine/LearnedStates$State")) (t' := .boolean) (by decide) (by decide)))
  have f175_F : Fld Z h166 b1 "com/example/weaverbird/weaverbird/engine/Frame" "model" "Lcom/example/weaverbird/weaverbird/engine/ContentModel;" .null := f145_F.other W166 (Or.inr (slot_ne (Or.inl (hw _ (List.mem_of_getElem? (i := 38) rfl))) (Or.inl (hw _ (List.mem_of_getElem? (i := 25) rfl))) (by decide) (t := (.object "com/example/weaverbird/weaverbird/engine/ContentModel")) (t' := .boolean) (by decide) (by decide)))
  have f176_F : Fld Z h166 b1 "com/example/weaverbird/weaverbird/engine/Frame" "namespace" "Ljava/lang/String;" .null := f146_F.other W166 (Or.inr (slot_ne (Or.inl (hw _ (List.mem_of_getElem? (i := 40) rfl))) (Or.inl (hw _ (List.mem_of_getElem? (i := 25) rfl))) (by decide) (t := (.object "java/lang/String")) (t' := .boolean) (by decide) (by decide)))
  have f177_F : Fld Z h166 b1 "com/example/weaverbird/weaverbird/engine/Frame" "localName" "Ljava/lang/String;" .null := f147_F.other W166 (Or.inr (slot_ne (Or.inl (hw _ (List.mem_of_getElem? (i := 42) rfl))) (Or.inl (hw _ (List.mem_of_getElem? (i := 25) rfl))) (by decide) (t := (.object "java/lang/String")) (t' := .boolean) (by decide) (by decide)))
  have f178_A : own_Af Z h166 b17_3 .int 16 (fun _ => (.int (0 : Int32))) := f148_A.other W166 (Ne.symm nq6)
  have f179_A : own_Af Z h166 b17_1 .long 16 (own_up (own_up (fun _ => (.long (0 : Int64))) (0 : Int32).toNatClampNeg (.long i0)) (15 : Int32).toNatClampNeg (.long i1)) := f149_A.other W166 (Ne.symm nq4)
  have f180_A : own_Af Z h166 b17_2 .long 16 (own_up (own_up (fun _ => (.long (0 : Int64))) (0 : Int32).toNatClampNeg (.long i2)) (15 : Int32).toNatClampNeg (.long i3)) := f150_A.other W166 (Ne.symm nq5)
  have f181_F : Fld Z h166 b1 "com/example/weaverbird/weaverbird/engine/Frame" "size" "I" (.int oldS) := f151_F.other W166 (Or.inr (slot_ne (Or.inl (hw _ (List.mem_of_getElem? (i := 21) rfl))) (Or.inl (hw _ (List.mem_of_getElem? (i := 25) rfl))) (by decide) (t := .int) (t' := .boolean) (by decide) (by decide)))
  have f182_F : Fld Z h166 b1 "com/example/weaverbird/weaverbird/engine/Frame" "nextSize" "I" (.int oldN) := f153_F.other W166 (Or.inr (slot_ne (Or.inl (hw _ (List.mem_of_getElem? (i := 23) rfl))) (Or.inl (hw _ (List.mem_of_getElem? (i := 25) rfl))) (by decide) (t := .int) (t' := .boolean) (by decide) (by decide)))
  have Z183 : n0 ≤ h166.size := Nat.le_trans Z152 (Keep.of_wr W166).1
  have f184_F : Fld Z h166 b1 "com/example/weaverbird/weaverbird/engine/Frame" "lost" "Z" (.int lst) := f142_F.same W166
  have pre185 : ∀ t, own_s p e below T166 m 123 #[.val (.long i0), .second, .val (.long i1), .second, .val (.long i2), .second, .val (.long i3), .second, iv i4, iv i5, rv b1, rv b17_1, rv b17_2, rv b17_3, iv oldS, iv oldN, iv lst, iv tff, .unset, .unset] [(.int tff), (.ref b1)] t → Steps p.tables e below S0 t := by
    intro tX kX
    refine pre167 _ ?_
    show own_s p e below T166 m 119 #[.val (.long i0), .second, .val (.long i1), .second, .val (.long i2), .second, .val (.long i3), .second, iv i4, iv i5, rv b1, rv b17_1, rv b17_2, rv b17_3, iv oldS, iv oldN, iv lst, iv tff, .unset, .unset] [] _
    refine XS.aload X166.here hx rfl (hb hby at_119) rfl rfl ?_
    show own_s p e below T166 m 121 #[.val (.long i0), .second, .val (.long i1), .second, .val (.long i2), .second, .val (.long i3), .second, iv i4, iv i5, rv b1, rv b17_1, rv b17_2, rv b17_3, iv oldS, iv oldN, iv lst, iv tff, .unset, .unset] [(.ref b1)] _
    refine XS.iload X166.here hx rfl (hb hby at_121) rfl ?_
    exact kX
  obtain ⟨T186, h186, X186, e186, W186, st186⟩ := putFN X166 hx hZ hown (hw _ (List.mem_of_getElem? (i := 26) rfl)) Via.refl e166 f173_F f169_E (Or.inl (hw _ (List.mem_of_getElem? (i := 27) rfl))) (hw _ (List.mem_of_getElem? (i := 1) rfl)) (ty := .boolean) (v' := (.int tff)) (by decide) (own_narB B_tff) (own_fitB B_tff) (g := (mkF m 123 #[.val (.long i0), .second, .val (.long i1), .second, .val (.long i2), .second, .val (.long i3), .second, iv i4, iv i5, rv b1, rv b17_1, rv b17_2, rv b17_3, iv oldS, iv oldN, iv lst, iv tff, .unset, .unset] [(.int tff), (.ref b1)])) rfl rfl (hb hby at_123)
  have pre187 : ∀ t, own_s p e below T186 m 126 #[.val (.long i0), .second, .val (.long i1), .second, .val (.long i2), .second, .val (.long i3), .second, iv i4, iv i5, rv b1, rv b17_1, rv b17_2, rv b17_3, iv oldS, iv oldN, iv lst, iv tff, .unset, .unset] [] t → Steps p.tables e below S0 t := fun tX kX => pre185 _ (st186 _ kX)
  have N188 := Fr.snoc X186 N168 g_b1
  have f189_E : Exa Z h186 b1 "com/example/weaverbird/weaverbird/engine/Frame" := f169_E.wr W186
  have f190_F : Fld Z h186 b1 "com/example/weaverbird/weaverbird/engine/Frame" "state" "[J" (.ref b17_1) := f170_F.other W186 (Or.inr (slot_ne (Or.inl (hw _ (List.mem_of_getElem? (i := 11) rfl))) (Or.inl (hw _ (List.mem_of_getElem? (i := 27) rfl))) (by decide) (t := (.array .long)) (t' := .boolean) (by decide) (by decide)))
  have f191_F : Fld Z h186 b1 "com/example/weaverbird/weaverbird/engine/Frame" "next" "[J" (.ref b17_2) := f171_F.other W186 (Or.inr (slot_ne (Or.inl (hw _ (List.mem_of_getElem? (i := 13) rfl))) (Or.inl (hw _ (List.mem_of_getElem? (i := 27) rfl))) (by decide) (t := (.array .long)) (t' := .boolean) (by decide) (by decide)))
  have f192_F : Fld Z h186 b1 "com/example/weaverbird/weaverbird/engine/Frame" "trail" "[I" (.ref b17_3) := f172_F.other W186 (Or.inr (slot_ne (Or.inl (hw _ (List.mem_of_getElem? (i := 16) rfl))) (Or.inl (hw _ (List.mem_of_getElem? (i := 27) rfl))) (by decide) (t := (.array .int)) (t' := .boolean) (by decide) (by decide)))
  have f193_F : Fld Z h186 b1 "com/example/weaverbird/weaverbird/engine/Frame" "learned" "Lcom/example/weaverbird/weaverbird/engine/LearnedStates$State;" .null := f174_F.other W186 (Or.inr (slot_ne (Or.inl (hw _ (List.mem_of_getElem? (i := 36) rfl))) (Or.inl (hw _ (List.mem_of_getElem? (i := 27) rfl))) (by decide) (t := (.object "com/example/weaverbird/weaverbird/engine/LearnedStates$State")) (t' := .boolean) (by decide) (by decide)))
  have f194_F : Fld Z h186 b1 "com/example/weaverbird/weaverbird/engine/Frame" "model" "Lcom/example/weaverbird/weaverbird/engine/ContentModel;" .null := f175_F.other W186 (Or.inr (slot_ne (Or.inl (hw _ (List.mem_of_getElem? (i := 38) rfl))) (Or.inl (hw _ (List.mem_of_getElem? (i := 27) rfl))) (by decide) (t := (.object "com/example/weaverbird/weaverbird/engine/ContentModel")) (t' := .boolean) (by decide) (by decide)))
  have f195_F : Fld Z h186 b1 "com/example/weaverbird/weaverbird/engine/Frame" "namespace" "Ljava/lang/String;" .null := f176_F.other W186 (Or.inr (slot_ne (Or.inl (hw _ (List.mem_of_getElem? (i := 40) rfl))) (Or.inl (hw _ (List.mem_of_getElem? (i := 27) rfl))) (by decide) (t := (.object "java/lang/String")) (t' := .boolean) (by decide) (by decide)))
  have f196_F : Fld Z h186 b1 "com/example/weaverbird/weaverbird/engine/Frame" "localName" "Ljava/lang/String;" .null := f177_F.other W186 (Or.inr (slot_ne (Or.inl (hw _ (List.mem_of_getElem? (i := 42) rfl))) (Or.inl (hw _ (List.mem_of_getElem? (i := 27) rfl))) (by decide) (t := (.object "java/lang/String")) (t' := .boolean) (by decide) (by decide)))
  have f197_A : own_Af Z h186 b17_3 .int 16 (fun _ => (.int (0 : Int32))) := f178_A.other W186 (Ne.symm nq6)
  have f198_A : own_Af Z h186 b17_1 .long 16 (own_up (own_up (fun _ => (.long (0 : Int64))) (0 : Int32).toNatClampNeg (.long i0)) (15 : Int32).toNatClampNeg (.long i1)) := f179_A.other W186 (Ne.symm nq4)
  have f199_A : own_Af Z h186 b17_2 .long 16 (own_up (own_up (fun _ => (.long (0 : Int64))) (0 : Int32).toNatClampNeg (.long i2)) (15 : Int32).toNatClampNeg (.long i3)) := f180_A.other W186 (Ne.symm nq5)
  have f200_F : Fld Z h186 b1 "com/example/weaverbird/weaverbird/engine/Frame" "size" "I" (.int oldS) := f181_F.other W186 (Or.inr (slot_ne (Or.inl (hw _ (List.mem_of_getElem? (i := 21) rfl))) (Or.inl (hw _ (List.mem_of_getElem? (i := 27) rfl))) (by decide) (t := .int) (t' := .boolean) (by decide) (by decide)))
  have f201_F : Fld Z h186 b1 "com/example/weaverbird/weaverbird/engine/Frame" "nextSize" "I" (.int oldN) := f182_F.other W186 (Or.inr (slot_ne (Or.inl (hw _ (List.mem_of_getElem? (i := 23) rfl))) (Or.inl (hw _ (List.mem_of_getElem? (i := 27) rfl))) (by decide) (t := .int) (t' := .boolean) (by decide) (by decide)))
  have f202_F : Fld Z h186 b1 "com/example/weaverbird/weaverbird/engine/Frame" "lost" "Z" (.int lst) := f184_F.other W186 (Or.inr (slot_ne (Or.inl (hw _ (List.mem_of_getElem? (i := 25) rfl))) (Or.inl (hw _ (List.mem_of_getElem? (i := 27) rfl))) (by decide) (t := .boolean) (t' := .boolean) (by decide) (by decide)))
  have Z203 : n0 ≤ h186.size := Nat.le_trans Z183 (Keep.of_wr W186).1
  have f204_F : Fld Z h186 b1 "com/example/weaverbird/weaverbird/engine/Frame" "textFaulted" "Z" (.int tff) := f173_F.same W186
  have pre205 : ∀ t, own_s p e below T186 m 128 #[.val (.long i0), .second, .val (.long i1), .second, .val (.long i2), .second, .val (.long i3), .second, iv i4, iv i5, rv b1, rv b17_1, rv b17_2, rv b17_3, iv oldS, iv oldN, iv lst, iv tff, .unset, .unset] [(.ref b1)] t → Steps p.tables e below S0 t := by
    intro tX kX
    refine pre187 _ ?_
    show own_s p e below T186 m 126 #[.val (.long i0), .second, .val (.long i1), .second, .val (.long i2), .second, .val (.long i3), .second, iv i4, iv i5, rv b1, rv b17_1, rv b17_2, rv b17_3, iv oldS, iv oldN, iv lst, iv tff, .unset, .unset] [] _
    refine XS.aload X186.here hx rfl (hb hby at_126) rfl rfl ?_
    exact kX
  obtain ⟨cq206, kq206, q206a, q206b, q206c⟩ := isOf hZ e186 f189_E
  obtain ⟨_, _, ⟨T206, L206, k206, n206⟩, -, X206, ⟨Lc206, hQ206, l206, y206, z206⟩, st206⟩ := X186.virtualBack hx (y := (⟨"com/example/weaverbird/weaverbird/engine/Frame", "advance", "()V"⟩ : MethodName)) (z := (⟨"com/example/weaverbird/weaverbird/engine/Frame", "advance", "()V"⟩ : MethodName)) hown (mvT hZ (hw _ (List.mem_of_getElem? (i := 28) rfl))) (mvT hZ (hw _ (List.mem_of_getElem? (i := 29) rfl))) (notFace_of_selects (args := #[]) (mvT hZ (hw _ (List.mem_of_getElem? (i := 31) rfl)))) (mvT hZ (hw _ (List.mem_of_getElem? (i := 31) rfl))) (mvT hZ (hw _ (List.mem_of_getElem? (i := 30) rfl))) (by decide) (backOf (W := 0) (rm2 l Z a0 hw [] b1 b17_1 b17_2 b17_3 oldS oldN lst tff h186 n0 Z203 f189_E f190_F f191_F f192_F f200_F f201_F f202_F f204_F f193_F f194_F f195_F f196_F g_b1) hZ (hw _ (List.mem_of_getElem? (i := 32) rfl)) (hw _ (List.mem_of_getElem? (i := 2) rfl)) (by decide) (by decide)) q206a q206c (g := (mkF m 128 #[.val (.long i0), .second, .val (.long i1), .second, .val (.long i2), .second, .val (.long i3), .second, iv i4, iv i5, rv b1, rv b17_1, rv b17_2, rv b17_3, iv oldS, iv oldN, iv lst, iv tff, .unset, .unset] [(.ref b1)])) rfl (by rw [hml]; rfl) (Steps.refl _) (argsL := []) (rest := []) (lenOf pd0_0 rfl) rfl (by show 2 * 0 + _ ≤ _; exact Nat.le_of_eq rfl) (hb hby at_128) (fun _ _ => ⟨rfl, e186, (by decide : 4 + 0 ≤ _), (by decide : 59 + 0 ≤ _)⟩)
  dsimp only [Pt.U, Pt.locs, Pt.cells, Pt.slots] at X206 l206 y206 z206 st206 hQ206
  subst l206 y206 z206
  obtain ⟨rfl, Nq206, Kq206, fE206, f206_state, f206_next, f206_trail, f206_size, f206_nextSize, f206_lost, f206_textFaulted, f206_learned, f206_model, f206_namespace, f206_localName⟩ := hQ206
  have N206 := Fr.app N188 Nq206
  have e206 : T206.heap = T206.heap := rfl
  have Z206 : n0 ≤ T206.heap.size := Nat.le_trans Z203 Kq206.1
  have f207_A : own_Af Z T206.heap b17_3 .int 16 (fun _ => (.int (0 : Int32))) := f197_A.keep Kq206 (ninS (Ne.symm nq6) nin0)
  have f208_A : own_Af Z T206.heap b17_1 .long 16 (own_up (own_up (fun _ => (.long (0 : Int64))) (0 : Int32).toNatClampNeg (.long i0)) (15 : Int32).toNatClampNeg (.long i1)) := f198_A.keep Kq206 (ninS (Ne.symm nq4) nin0)
  have f209_A : own_Af Z T206.heap b17_2 .long 16 (own_up (own_up (fun _ => (.long (0 : Int64))) (0 : Int32).toNatClampNeg (.long i2)) (15 : Int32).toNatClampNeg (.long i3)) := f199_A.keep Kq206 (ninS (Ne.symm nq5) nin0)
  have pre210 : ∀ t, own_s p e below T206 m 131 #[.val (.long i0), .second, .val (.long i1), .second, .val (.long i2), .second, .val (.long i3), .second, iv i4, iv i5, rv b1, rv b17_1, rv b17_2, rv b17_3, iv oldS, iv oldN, iv lst, iv tff, .unset, .unset] [] t → Steps p.tables e below S0 t := fun tX kX => pre205 _ (st206.trans kX)
  have pre211 : ∀ t, own_s p e below T206 m 133 #[.val (.long i0), .second, .val (.long i1), .second, .val (.long i2), .second, .val (.long i3), .second, iv i4, iv i5, rv b1, rv b17_1, rv b17_2, rv b17_3, iv oldS, iv oldN, iv lst, iv tff, .unset, .unset] [(.ref b1)] t → Steps p.tables e below S0 t := by
    intro tX kX
    refine pre210 _ ?_
    show own_s p e below T206 m 131 #[.val (.long i0), .second, .val (.long i1), .second, .val (.long i2), .second, .val (.long i3), .second, iv i4, iv i5, rv b1, rv b17_1, rv b17_2, rv b17_3, iv oldS, iv oldN, iv lst, iv tff, .unset, .unset] [] _
    refine XS.aload X206.here hx rfl (hb hby at_131) rfl rfl ?_
    exact kX
  obtain ⟨T212, X212, e212, st212⟩ := getF X206 hx hZ hown (host := "") (Or.inl (hw _ (List.mem_of_getElem? (i := 17) rfl))) Via.refl e206 f206_state (g := (mkF m 133 #[.val (.long i0), .second, .val (.long i1), .second, .val (.long i2), .second, .val (.long i3), .second, iv i4, iv i5, rv b1, rv b17_1, rv b17_2, rv b17_3, iv oldS, iv oldN, iv lst, iv tff, .unset, .unset] [(.ref b1)])) rfl rfl (hb hby at_133)
  have pre213 : ∀ t, own_s p e below T212 m 136 #[.val (.long i0), .second, .val (.long i1), .second, .val (.long i2), .second, .val (.long i3), .second, iv i4, iv i5, rv b1, rv b17_1, rv b17_2, rv b17_3, iv oldS, iv oldN, iv lst, iv tff, .unset, .unset] [(.ref b17_2)] t → Steps p.tables e below S0 t := fun tX kX => pre211 _ (st212 _ kX)
  have pre214 : ∀ t, own_s p e below T212 m 143 #[.val (.long i0), .second, .val (.long i1), .second, .val (.long i2), .second, .val (.long i3), .second, iv i4, iv i5, rv b1, rv b17_1, rv b17_2, rv b17_3, iv oldS, iv oldN, iv lst, iv tff, .unset, .unset] [(.ref b1)] t → Steps p.tables e below S0 t := by
    intro tX kX
    refine pre213 _ ?_
    show own_s p e below T212 m 136 #[.val (.long i0), .second, .val (.long i1), .second, .val (.long i2), .second, .val (.long i3), .second, iv i4, iv i5, rv b1, rv b17_1, rv b17_2, rv b17_3, iv oldS, iv oldN, iv lst, iv tff, .unset, .unset] [(.ref b17_2)] _
    refine XS.aload X212.here hx rfl (hb hby at_136) rfl rfl ?_
    show own_s p e below T212 m 138 #[.val (.long i0), .second, .val (.long i1), .second, .val (.long i2), .second, .val (.long i3), .second, iv i4, iv i5, rv b1, rv b17_1, rv b17_2, rv b17_3, iv oldS, iv oldN, iv lst, iv tff, .unset, .unset] [(.ref b17_2), (.ref b17_2)] _
    refine Jvm.RoadKit.acmp (g := (mkF m 138 #[.val (.long i0), .second, .val (.long i1), .second, .val (.long i2), .second, .val (.long i3), .second, iv i4, iv i5, rv b1, rv b17_1, rv b17_2, rv b17_3, iv oldS, iv oldN, iv lst, iv tff, .unset, .unset] [(.ref b17_2), (.ref b17_2)])) X212 hx rfl rfl rfl (pc0 := 138) (pc' := 141) (same := true) rfl (hb hby at_138) rfl (decide_eq_true (congrArg Value.ref rfl)) (by decide) (by decide) ?_
    show own_s p e below T212 m 141 #[.val (.long i0), .second, .val (.long i1), .second, .val (.long i2), .second, .val (.long i3), .second, iv i4, iv i5, rv b1, rv b17_1, rv b17_2, rv b17_3, iv oldS, iv oldN, iv lst, iv tff, .unset, .unset] [] _
    refine XS.aload X212.here hx rfl (hb hby at_141) rfl rfl ?_
    exact kX
  obtain ⟨T215, X215, e215, st215⟩ := getF X212 hx hZ hown (host := "") (Or.inl (hw _ (List.mem_of_getElem? (i := 18) rfl))) Via.refl e212 f206_next (g := (mkF m 143 #[.val (.long i0), .second, .val (.long i1), .second, .val (.long i2), .second, .val (.long i3), .second, iv i4, iv i5, rv b1, rv b17_1, rv b17_2, rv b17_3, iv oldS, iv oldN, iv lst, iv tff, .unset, .unset] [(.ref b1)])) rfl rfl (hb hby at_143)
  have pre216 : ∀ t, own_s p e below T215 m 146 #[.val (.long i0), .second, .val (.long i1), .second, .val (.long i2), .second, .val (.long i3), .second, iv i4, iv i5, rv b1, rv b17_1, rv b17_2, rv b17_3, iv oldS, iv oldN, iv lst, iv tff, .unset, .unset] [(.ref b17_1)] t → Steps p.tables e below S0 t := fun tX kX => pre214 _ (st215 _ kX)
  have pre217 : ∀ t, own_s p e below T215 m 153 #[.val (.long i0), .second, .val (.long i1), .second, .val (.long i2), .second, .val (.long i3), .second, iv i4, iv i5, rv b1, rv b17_1, rv b17_2, rv b17_3, iv oldS, iv oldN, iv lst, iv tff, .unset, .unset] [(.ref b1)] t → Steps p.tables e below S0 t := by
    intro tX kX
    refine pre216 _ ?_
    show own_s p e below T215 m 146 #[.val (.long i0), .second, .val (.long i1), .second, .val (.long i2), .second, .val (.long i3), .second, iv i4, iv i5, rv b1, rv b17_1, rv b17_2, rv b17_3, iv oldS, iv oldN, iv lst, iv tff, .unset, .unset] [(.ref b17_1)] _
    refine XS.aload X215.here hx rfl (hb hby at_146) rfl rfl ?_
    show own_s p e below T215 m 148 #[.val (.long i0), .second, .val (.long i1), .second, .val (.long i2), .second, .val (.long i3), .second, iv i4, iv i5, rv b1, rv b17_1, rv b17_2, rv b17_3, iv oldS, iv oldN, iv lst, iv tff, .unset, .unset] [(.ref b17_1), (.ref b17_1)] _
    refine Jvm.RoadKit.acmp (g := (mkF m 148 #[.val (.long i0), .second, .val (.long i1), .second, .val (.long i2), .second, .val (.long i3), .second, iv i4, iv i5, rv b1, rv b17_1, rv b17_2, rv b17_3, iv oldS, iv oldN, iv lst, iv tff, .unset, .unset] [(.ref b17_1), (.ref b17_1)])) X215 hx rfl rfl rfl (pc0 := 148) (pc' := 151) (same := true) rfl (hb hby at_148) rfl (decide_eq_true (congrArg Value.ref rfl)) (by decide) (by decide) ?_
    show own_s p e below T215 m 151 #[.val (.long i0), .second, .val (.long i1), .second, .val (.long i2), .second, .val (.long i3), .second, iv i4, iv i5, rv b1, rv b17_1, rv b17_2, rv b17_3, iv oldS, iv oldN, iv lst, iv tff, .unset, .unset] [] _
    refine XS.aload X215.here hx rfl (hb hby at_151) rfl rfl ?_
    exact kX
  obtain ⟨T218, X218, e218, st218⟩ := getF X215 hx hZ hown (host := "") (Or.inl (hw _ (List.mem_of_getElem? (i := 17) rfl))) Via.refl e215 f206_state (g := (mkF m 153 #[.val (.long i0), .second, .val (.long i1), .second, .val (.long i2), .second, .val (.long i3), .second, iv i4, iv i5, rv b1, rv b17_1, rv b17_2, rv b17_3, iv oldS, iv oldN, iv lst, iv tff, .unset, .unset] [(.ref b1)])) rfl rfl (hb hby at_153)
  have pre219 : ∀ t, own_s p e below T218 m 156 #[.val (.long i0), .second, .val (.long i1), .second, .val (.long i2), .second, .val (.long i3), .second, iv i4, iv i5, rv b1, rv b17_1, rv b17_2, rv b17_3, iv oldS, iv oldN, iv lst, iv tff, .unset, .unset] [(.ref b17_2)] t → Steps p.tables e below S0 t := fun tX kX => pre217 _ (st218 _ kX)
  have pre220 : ∀ t, own_s p e below T218 m 158 #[.val (.long i0), .second, .val (.long i1), .second, .val (.long i2), .second, .val (.long i3), .second, iv i4, iv i5, rv b1, rv b17_1, rv b17_2, rv b17_3, iv oldS, iv oldN, iv lst, iv tff, .unset, .unset] [(.ref b1), (.ref b17_2)] t → Steps p.tables e below S0 t := by
    intro tX kX
    refine pre219 _ ?_
    show own_s p e below T218 m 156 #[.val (.long i0), .second, .val (.long i1), .second, .val (.long i2), .second, .val (.long i3), .second, iv i4, iv i5, rv b1, rv b17_1, rv b17_2, rv b17_3, iv oldS, iv oldN, iv lst, iv tff, .unset, .unset] [(.ref b17_2)] _
    refine XS.aload X218.here hx rfl (hb hby at_156) rfl rfl ?_
    exact kX
  obtain ⟨T221, X221, e221, st221⟩ := getF X218 hx hZ hown (host := "") (Or.inl (hw _ (List.mem_of_getElem? (i := 18) rfl))) Via.refl e218 f206_next (g := (mkF m 158 #[.val (.long i0), .second, .val (.long i1), .second, .val (.long i2), .second, .val (.long i3), .second, iv i4, iv i5, rv b1, rv b17_1, rv b17_2, rv b17_3, iv oldS, iv oldN, iv lst, iv tff, .unset, .unset] [(.ref b1), (.ref b17_2)])) rfl rfl (hb hby at_158)
  have pre222 : ∀ t, own_s p e below T221 m 161 #[.val (.long i0), .second, .val (.long i1), .second, .val (.long i2), .second, .val (.long i3), .second, iv i4, iv i5, rv b1, rv b17_1, rv b17_2, rv b17_3, iv oldS, iv oldN, iv lst, iv tff, .unset, .unset] [(.ref b17_1), (.ref b17_2)] t → Steps p.tables e below S0 t := fun tX kX => pre220 _ (st221 _ kX)
  have pre223 : ∀ t, own_s p e below T221 m 166 #[.val (.long i0), .second, .val (.long i1), .second, .val (.long i2), .second, .val (.long i3), .second, iv i4, iv i5, rv b1, rv b17_1, rv b17_2, rv b17_3, iv oldS, iv oldN, iv lst, iv tff, .unset, .unset] [(.ref b1)] t → Steps p.tables e below S0 t := by
    intro tX kX
    refine pre222 _ ?_
    show own_s p e below T221 m 161 #[.val (.long i0), .second, .val (.long i1), .second, .val (.long i2), .second, .val (.long i3), .second, iv i4, iv i5, rv b1, rv b17_1, rv b17_2, rv b17_3, iv oldS, iv oldN, iv lst, iv tff, .unset, .unset] [(.ref b17_1), (.ref b17_2)] _
    refine Jvm.RoadKit.acmp (g := (mkF m 161 #[.val (.long i0), .second, .val (.long i1), .second, .val (.long i2), .second, .val (.long i3), .second, iv i4, iv i5, rv b1, rv b17_1, rv b17_2, rv b17_3, iv oldS, iv oldN, iv lst, iv tff, .unset, .unset] [(.ref b17_1), (.ref b17_2)])) X221 hx rfl rfl rfl (pc0 := 161) (pc' := 164) (same := false) rfl (hb hby at_161) rfl (decide_eq_false (fun q => (Ne.symm nq1) (Value.ref.inj q))) (by decide) (by decide) ?_
    show own_s p e below T221 m 164 #[.val (.long i0), .second, .val (.long i1), .second, .val (.long i2), .second, .val (.long i3), .second, iv i4, iv i5, rv b1, rv b17_1, rv b17_2, rv b17_3, iv oldS, iv oldN, iv lst, iv tff, .unset, .unset] [] _
    refine XS.aload X221.here hx rfl (hb hby at_164) rfl rfl ?_
    exact kX
  obtain ⟨T224, X224, e224, st224⟩ := getF X221 hx hZ hown (host := "") (Or.inl (hw _ (List.mem_of_getElem? (i := 20) rfl))) Via.refl e221 f206_size (g := (mkF m 166 #[.val (.long i0), .second, .val (.long i1), .second, .val (.long i2), .second, .val (.long i3), .second, iv i4, iv i5, rv b1, rv b17_1, rv b17_2, rv b17_3, iv oldS, iv oldN, iv lst, iv tff, .unset, .unset] [(.ref b1)])) rfl rfl (hb hby at_166)
  have pre225 : ∀ t, own_s p e below T224 m 169 #[.val (.long i0), .second, .val (.long i1), .second, .val (.long i2), .second, .val (.long i3), .second, iv i4, iv i5, rv b1, rv b17_1, rv b17_2, rv b17_3, iv oldS, iv oldN, iv lst, iv tff, .unset, .unset] [(.int oldN)] t → Steps p.tables e below S0 t := fun tX kX => pre223 _ (st224 _ kX)
  have pre226 : ∀ t, own_s p e below T224 m 176 #[.val (.long i0), .second, .val (.long i1), .second, .val (.long i2), .second, .val (.long i3), .second, iv i4, iv i5, rv b1, rv b17_1, rv b17_2, rv b17_3, iv oldS, iv oldN, iv lst, iv tff, .unset, .unset] [(.ref b1)] t → Steps p.tables e below S0 t := by
    intro tX kX
    refine pre225 _ ?_
    show own_s p e below T224 m 169 #[.val (.long i0), .second, .val (.long i1), .second, .val (.long i2), .second, .val (.long i3), .second, iv i4, iv i5, rv b1, rv b17_1, rv b17_2, rv b17_3, iv oldS, iv oldN, iv lst, iv tff, .unset, .unset] [(.int oldN)] _
    refine XS.iload X224.here hx rfl (hb hby at_169) rfl ?_
    show own_s p e below T224 m 171 #[.val (.long i0), .second, .val (.long i1), .second, .val (.long i2), .second, .val (.long i3), .second, iv i4, iv i5, rv b1, rv b17_1, rv b17_2, rv b17_3, iv oldS, iv oldN, iv lst, iv tff, .unset, .unset] [(.int oldN), (.int oldN)] _
    refine XS.icmpNo X224.here hx rfl (hb hby at_171) rfl (teq (rfl : oldN = oldN)).2 ?_
    show own_s p e below T224 m 174 #[.val (.long i0), .second, .val (.long i1), .second, .val (.long i2), .second, .val (.long i3), .second, iv i4, iv i5, rv b1, rv b17_1, rv b17_2, rv b17_3, iv oldS, iv oldN, iv lst, iv tff, .unset, .unset] [] _
    refine XS.aload X224.here hx rfl (hb hby at_174) rfl rfl ?_
    exact kX
  obtain ⟨T227, X227, e227, st227⟩ := getF X224 hx hZ hown (host := "") (Or.inl (hw _ (List.mem_of_getElem? (i := 22) rfl))) Via.refl e224 f206_nextSize (g := (mkF m 176 #[.val (.long i0), .second, .val (.long i1), .second, .val (.long i2), .second, .val (.long i3), .second, iv i4, iv i5, rv b1, rv b17_1, rv b17_2, rv b17_3, iv oldS, iv oldN, iv lst, iv tff, .unset, .unset] [(.ref b1)])) rfl rfl (hb hby at_176)
  have pre228 : ∀ t, own_s p e below T227 m 179 #[.val (.long i0), .second, .val (.long i1), .second, .val (.long i2), .second, .val (.long i3), .second, iv i4, iv i5, rv b1, rv b17_1, rv b17_2, rv b17_3, iv oldS, iv oldN, iv lst, iv tff, .unset, .unset] [(.int (0 : Int32))] t → Steps p.tables e below S0 t := fun tX kX => pre226 _ (st227 _ kX)
  have pre229 : ∀ t, own_s p e below T227 m 184 #[.val (.long i0), .second, .val (.long i1), .second, .val (.long i2), .second, .val (.long i3), .second, iv i4, iv i5, rv b1, rv b17_1, rv b17_2, rv b17_3, iv oldS, iv oldN, iv lst, iv tff, .unset, .unset] [(.ref b1)] t → Steps p.tables e below S0 t := by
    intro tX kX
    refine pre228 _ ?_
    show own_s p e below T227 m 179 #[.val (.long i0), .second, .val (.long i1), .second, .val (.long i2), .second, .val (.long i3), .second, iv i4, iv i5, rv b1, rv b17_1, rv b17_2, rv b17_3, iv oldS, iv oldN, iv lst, iv tff, .unset, .unset] [(.int (0 : Int32))] _
    refine XS.ifNo X227.here hx rfl (hb hby at_179) rfl ((if0 _ _).trans (teq (by decide : (0 : Int32) = (0 : Int32))).2) ?_
    show own_s p e below T227 m 182 #[.val (.long i0), .second, .val (.long i1), .second, .val (.long i2), .second, .val (.long i3), .second, iv i4, iv i5, rv b1, rv b17_1, rv b17_2, rv b17_3, iv oldS, iv oldN, iv lst, iv tff, .unset, .unset] [] _
    refine XS.aload X227.here hx rfl (hb hby at_182) rfl rfl ?_
    exact kX
  obtain ⟨T230, X230, e230, st230⟩ := getF X227 hx hZ hown (host := "") (Or.inl (hw _ (List.mem_of_getElem? (i := 17) rfl))) Via.refl e227 f206_state (g := (mkF m 184 #[.val (.long i0), .second, .val (.long i1), .second, .val (.long i2), .second, .val (.long i3), .second, iv i4, iv i5, rv b1, rv b17_1, rv b17_2, rv b17_3, iv oldS, iv oldN, iv lst, iv tff, .unset, .unset] [(.ref b1)])) rfl rfl (hb hby at_184)
  have pre231 : ∀ t, own_s p e below T230 m 187 #[.val (.long i0), .second, .val (.long i1), .second, .val (.long i2), .second, .val (.long i3), .second, iv i4, iv i5, rv b1, rv b17_1, rv b17_2, rv b17_3, iv oldS, iv oldN, iv lst, iv tff, .unset, .unset] [(.ref b17_2)] t → Steps p.tables e below S0 t := fun tX kX => pre229 _ (st230 _ kX)
  obtain ⟨cl232, Ar232, S232, M232, H232⟩ := id f209_A
  have pre233 : ∀ t, own_s p e below T230 m 195 #[.val (.long i0), .second, .val (.long i1), .second, .val (.long i2), .second, .val (.long i3), .second, iv i4, iv i5, rv b1, rv b17_1, rv b17_2, rv b17_3, iv oldS, iv oldN, iv lst, iv tff, .unset, .unset] [(.ref b1)] t → Steps p.tables e below S0 t := by
    intro tX kX
    refine pre231 _ ?_
    show own_s p e below T230 m 187 #[.val (.long i0), .second, .val (.long i1), .second, .val (.long i2), .second, .val (.long i3), .second, iv i4, iv i5, rv b1, rv b17_1, rv b17_2, rv b17_3, iv oldS, iv oldN, iv lst, iv tff, .unset, .unset] [(.ref b17_2)] _
    refine X230.arraylength hx (by rw [e230]; exact Ar232.1) (State.isArrayOf_alike hZ.alike Ar232.2.1) (g := (mkF m 187 #[.val (.long i0), .second, .val (.long i1), .second, .val (.long i2), .second, .val (.long i3), .second, iv i4, iv i5, rv b1, rv b17_1, rv b17_2, rv b17_3, iv oldS, iv oldN, iv lst, iv tff, .unset, .unset] [(.ref b17_2)])) rfl rfl (hb hby at_187) _ ?_
    rw [show cl232.slots.size.toInt32 = (16 : Int32) from by rw [S232]; exact rfl]
    show own_s p e below T230 m 188 #[.val (.long i0), .second, .val (.long i1), .second, .val (.long i2), .second, .val (.long i3), .second, iv i4, iv i5, rv b1, rv b17_1, rv b17_2, rv b17_3, iv oldS, iv oldN, iv lst, iv tff, .unset, .unset] [(.int (16 : Int32))] _
    refine XS.bipush X230.here hx rfl (hb hby at_188) ?_
    show own_s p e below T230 m 190 #[.val (.long i0), .second, .val (.long i1), .second, .val (.long i2), .second, .val (.long i3), .second, iv i4, iv i5, rv b1, rv b17_1, rv b17_2, rv b17_3, iv oldS, iv oldN, iv lst, iv tff, .unset, .unset] [(.int (16 : Int32)), (.int (16 : Int32))] _
    refine XS.icmpNo X230.here hx rfl (hb hby at_190) rfl (teq (by decide : (16 : Int32) = (16 : Int32))).2 ?_
    show own_s p e below T230 m 193 #[.val (.long i0), .second, .val (.long i1), .second, .val (.long i2), .second, .val (.long i3), .second, iv i4, iv i5, rv b1, rv b17_1, rv b17_2, rv b17_3, iv oldS, iv oldN, iv lst, iv tff, .unset, .unset] [] _
    refine XS.aload X230.here hx rfl (hb hby at_193) rfl rfl ?_
    exact kX
  obtain ⟨T234, X234, e234, st234⟩ := getF X230 hx hZ hown (host := "") (Or.inl (hw _ (List.mem_of_getElem? (i := 18) rfl))) Via.refl e230 f206_next (g := (mkF m 195 #[.val (.long i0), .second, .val (.long i1), .second, .val (.long i2), .second, .val (.long i3), .second, iv i4, iv i5, rv b1, rv b17_1, rv b17_2, rv b17_3, iv oldS, iv oldN, iv lst, iv tff, .unset, .unset] [(.ref b1)])) rfl rfl (hb hby at_195)
  have pre235 : ∀ t, own_s p e below T234 m 198 #[.val (.long i0), .second, .val (.long i1), .second, .val (.long i2), .second, .val (.long i3), .second, iv i4, iv i5, rv b1, rv b17_1, rv b17_2, rv b17_3, iv oldS, iv oldN, iv lst, iv tff, .unset, .unset] [(.ref b17_1)] t → Steps p.tables e below S0 t := fun tX kX => pre233 _ (st234 _ kX)
  obtain ⟨cl236, Ar236, S236, M236, H236⟩ := id f208_A
  have pre237 : ∀ t, own_s p e below T234 m 206 #[.val (.long i0), .second, .val (.long i1), .second, .val (.long i2), .second, .val (.long i3), .second, iv i4, iv i5, rv b1, rv b17_1, rv b17_2, rv b17_3, iv oldS, iv oldN, iv lst, iv tff, .unset, .unset] [(.ref b1)] t → Steps p.tables e below S0 t := by
    intro tX kX
    refine pre235 _ ?_
    show own_s p e below T234 m 198 #[.val (.long i0), .second, .val (.long i1), .second, .val (.long i2), .second, .val (.long i3), .second, iv i4, iv i5, rv b1, rv b17_1, rv b17_2, rv b17_3, iv oldS, iv oldN, iv lst, iv tff, .unset, .unset] [(.ref b17_1)] _
    refine X234.arraylength hx (by rw [e234]; exact Ar236.1) (State.isArrayOf_alike hZ.alike Ar236.2.1) (g := (mkF m 198 #[.val (.long i0), .second, .val (.long i1), .second, .val (.long i2), .second, .val (.long i3), .second, iv i4, iv i5, rv b1, rv b17_1, rv b17_2, rv b17_3, iv oldS, iv oldN, iv lst, iv tff, .unset, .unset] [(.ref b17_1)])) rfl rfl (hb hby at_198) _ ?_
    rw [show cl236.slots.size.toInt32 = (16 : Int32) from by rw [S236]; exact rfl]
    show own_s p e below T234 m 199 #[.val (.long i0), .second, .val (.long i1), .second, .val (.long i2), .second, .val (.long i3), .second, iv i4, iv i5, rv b1, rv b17_1, rv b17_2, rv b17_3, iv oldS, iv oldN, iv lst, iv tff, .unset, .unset] [(.int (16 : Int32))] _
    refine XS.bipush X234.here hx rfl (hb hby at_199) ?_
    show own_s p e below T234 m 201 #[.val (.long i0), .second, .val (.long i1), .second, .val (.long i2), .second, .val (.long i3), .second, iv i4, iv i5, rv b1, rv b17_1, rv b17_2, rv b17_3, iv oldS, iv oldN, iv lst, iv tff, .unset, .unset] [(.int (16 : Int32)), (.int (16 : Int32))] _
    refine XS.icmpNo X234.here hx rfl (hb hby at_201) rfl (teq (by decide : (16 : Int32) = (16 : Int32))).2 ?_
    show own_s p e below T234 m 204 #[.val (.long i0), .second, .val (.long i1), .second, .val (.long i2), .second, .val (.long i3), .second, iv i4, iv i5, rv b1, rv b17_1, rv b17_2, rv b17_3, iv oldS, iv oldN, iv lst, iv tff, .unset, .unset] [] _
    refine XS.aload X234.here hx rfl (hb hby at_204) rfl rfl ?_
    exact kX
  obtain ⟨T238, X238, e238, st238⟩ := getF X234 hx hZ hown (host := "") (Or.inl (hw _ (List.mem_of_getElem? (i := 17) rfl))) Via.refl e234 f206_state (g := (mkF m 206 #[.val (.long i0), .second, .val (.long i1), .second, .val (.long i2), .second, .val (.long i3), .second, iv i4, iv i5, rv b1, rv b17_1, rv b17_2, rv b17_3, iv oldS, iv oldN, iv lst, iv tff, .unset, .unset] [(.ref b1)])) rfl rfl (hb hby at_206)
  have pre239 : ∀ t, own_s p e below T238 m 209 #[.val (.long i0), .second, .val (.long i1), .second, .val (.long i2), .second, .val (.long i3), .second, iv i4, iv i5, rv b1, rv b17_1, rv b17_2, rv b17_3, iv oldS, iv oldN, iv lst, iv tff, .unset, .unset] [(.ref b17_2)] t → Steps p.tables e below S0 t := fun tX kX => pre237 _ (st238 _ kX)
  have pre241 : ∀ t, own_s p e below T238 m 210 #[.val (.long i0), .second, .val (.long i1), .second, .val (.long i2), .second, .val (.long i3), .second, iv i4, iv i5, rv b1, rv b17_1, rv b17_2, rv b17_3, iv oldS, iv oldN, iv lst, iv tff, .unset, .unset] [(.int (0 : Int32)), (.ref b17_2)] t → Steps p.tables e below S0 t := by
    intro tX kX
    refine pre239 _ ?_
    show own_s p e below T238 m 209 #[.val (.long i0), .second, .val (.long i1), .second, .val (.long i2), .second, .val (.long i3), .second, iv i4, iv i5, rv b1, rv b17_1, rv b17_2, rv b17_3, iv oldS, iv oldN, iv lst, iv tff, .unset, .unset] [(.ref b17_2)] _
    refine XS.iconst X238.here hx rfl (hb hby at_209) ?_
    exact kX
  obtain ⟨cl240, Ar240, S240, M240, H240⟩ := id f209_A
  have pre242 : ∀ t, own_s p e below T238 m 219 #[.val (.long i0), .second, .val (.long i1), .second, .val (.long i2), .second, .val (.long i3), .second, iv i4, iv i5, rv b1, rv b17_1, rv b17_2, rv b17_3, iv oldS, iv oldN, iv lst, iv tff, .unset, .unset] [(.ref b1)] t → Steps p.tables e below S0 t := by
    intro tX kX
    refine pre241 _ ?_
    show own_s p e below T238 m 210 #[.val (.long i0), .second, .val (.long i1), .second, .val (.long i2), .second, .val (.long i3), .second, iv i4, iv i5, rv b1, rv b17_1, rv b17_2, rv b17_3, iv oldS, iv oldN, iv lst, iv tff, .unset, .unset] [(.int (0 : Int32)), (.ref b17_2)] _
    refine X238.laload hx (j := (0 : Int32)) (v := (.long i2)) (by rw [e238]; exact Ar240.1) (State.isArrayOf_alike hZ.alike Ar240.2.1) Ar240.2.2 (own_inb S240 M240 (by decide)) (own_get H240 S240 (by decide) rfl) (g := (mkF m 210 #[.val (.long i0), .second, .val (.long i1), .second, .val (.long i2), .second, .val (.long i3), .second, iv i4, iv i5, rv b1, rv b17_1, rv b17_2, rv b17_3, iv oldS, iv oldN, iv lst, iv tff, .unset, .unset] [(.int (0 : Int32)), (.ref b17_2)])) rfl rfl (hb hby at_210) _ ?_
    show own_s p e below T238 m 211 #[.val (.long i0), .second, .val (.long i1), .second, .val (.long i2), .second, .val (.long i3), .second, iv i4, iv i5, rv b1, rv b17_1, rv b17_2, rv b17_3, iv oldS, iv oldN, iv lst, iv tff, .unset, .unset] [(.long i2)] _
    refine XS.lload X238.here hx rfl (hb hby at_211) rfl ?_
    show own_s p e below T238 m 213 #[.val (.long i0), .second, .val (.long i1), .second, .val (.long i2), .second, .val (.long i3), .second, iv i4, iv i5, rv b1, rv b17_1, rv b17_2, rv b17_3, iv oldS, iv oldN, iv lst, iv tff, .unset, .unset] [(.long i2), (.long i2)] _
    refine XS.lcmp X238.here hx rfl (hb hby at_213) rfl ?_
    show own_s p e below T238 m 214 #[.val (.long i0), .second, .val (.long i1), .second, .val (.long i2), .second, .val (.long i3), .second, iv i4, iv i5, rv b1, rv b17_1, rv b17_2, rv b17_3, iv oldS, iv oldN, iv lst, iv tff, .unset, .unset] [(.int (lcmpW i2 i2))] _
    refine XS.ifNo X238.here hx rfl (hb hby at_214) rfl ((if0 _ _).trans (teq ((lw_eq _ _).mpr rfl)).2) ?_
    show own_s p e below T238 m 217 #[.val (.long i0), .second, .val (.long i1), .second, .val (.long i2), .second, .val (.long i3), .second, iv i4, iv i5, rv b1, rv b17_1, rv b17_2, rv b17_3, iv oldS, iv oldN, iv lst, iv tff, .unset, .unset] [] _
    refine XS.aload X238.here hx rfl (hb hby at_217) rfl rfl ?_
    exact kX
  obtain ⟨T243, X243, e243, st243⟩ := getF X238 hx hZ hown (host := "") (Or.inl (hw _ (List.mem_of_getElem? (i := 17) rfl))) Via.refl e238 f206_state (g := (mkF m 219 #[.val (.long i0), .second, .val (.long i1), .second, .val (.long i2), .second, .val (.long i3), .second, iv i4, iv i5, rv b1, rv b17_1, rv b17_2, rv b17_3, iv oldS, iv oldN, iv lst, iv tff, .unset, .unset] [(.ref b1)])) rfl rfl (hb hby at_219)
  have pre244 : ∀ t, own_s p e below T243 m 222 #[.val (.long i0), .second, .val (.long i1), .second, .val (.long i2), .second, .val (.long i3), .second, iv i4, iv i5, rv b1, rv b17_1, rv b17_2, rv b17_3, iv oldS, iv oldN, iv lst, iv tff, .unset, .unset] [(.ref b17_2)] t → Steps p.tables e below S0 t := fun tX kX => pre242 _ (st243 _ kX)
  have pre246 : ∀ t, own_s p e below T243 m 224 #[.val (.long i0), .second, .val (.long i1), .second, .val (.long i2), .second, .val (.long i3), .second, iv i4, iv i5, rv b1, rv b17_1, rv b17_2, rv b17_3, iv oldS, iv oldN, iv lst, iv tff, .unset, .unset] [(.int (15 : Int32)), (.ref b17_2)] t → Steps p.tables e below S0 t := by
    intro tX kX
    refine pre244 _ ?_
    show own_s p e below T243 m 222 #[.val (.long i0), .second, .val (.long i1), .second, .val (.long i2), .second, .val (.long i3), .second, iv i4, iv i5, rv b1, rv b17_1, rv b17_2, rv b17_3, iv oldS, iv oldN, iv lst, iv tff, .unset, .unset] [(.ref b17_2)] _
    refine XS.bipush X243.here hx rfl (hb hby at_222) ?_
    exact kX
  obtain ⟨cl245, Ar245, S245, M245, H245⟩ := id f209_A
  have pre247 : ∀ t, own_s p e below T243 m 233 #[.val (.long i0), .second, .val (.long i1), .second, .val (.long i2), .second, .val (.long i3), .second, iv i4, iv i5, rv b1, rv b17_1, rv b17_2, rv b17_3, iv oldS, iv oldN, iv lst, iv tff, .unset, .unset] [(.ref b1)] t → Steps p.tables e below S0 t := by
    intro tX kX
    refine pre246 _ ?_
    show own_s p e below T243 m 224 #[.val (.long i0), .second, .val (.long i1), .second, .val (.long i2), .second, .val (.long i3), .second, iv i4, iv i5, rv b1, rv b17_1, rv b17_2, rv b17_3, iv oldS, iv oldN, iv lst, iv tff, .unset, .unset] [(.int (15 : Int32)), (.ref b17_2)] _
    refine X243.laload hx (j := (15 : Int32)) (v := (.long i3)) (by rw [e243]; exact Ar245.1) (State.isArrayOf_alike hZ.alike Ar245.2.1) Ar245.2.2 (own_inb S245 M245 (by decide)) (own_get H245 S245 (by decide) rfl) (g := (mkF m 224 #[.val (.long i0), .second, .val (.long i1), .second, .val (.long i2), .second, .val (.long i3), .second, iv i4, iv i5, rv b1, rv b17_1, rv b17_2, rv b17_3, iv oldS, iv oldN, iv lst, iv tff, .unset, .unset] [(.int (15 : Int32)), (.ref b17_2)])) rfl rfl (hb hby at_224) _ ?_
    show own_s p e below T243 m 225 #[.val (.long i0), .second, .val (.long i1), .second, .val (.long i2), .second, .val (.long i3), .second, iv i4, iv i5, rv b1, rv b17_1, rv b17_2, rv b17_3, iv oldS, iv oldN, iv lst, iv tff, .unset, .unset] [(.long i3)] _
    refine XS.lload X243.here hx rfl (hb hby at_225) rfl ?_
    show own_s p e below T243 m 227 #[.val (.long i0), .second, .val (.long i1), .second, .val (.long i2), .second, .val (.long i3), .second, iv i4, iv i5, rv b1, rv b17_1, rv b17_2, rv b17_3, iv oldS, iv oldN, iv lst, iv tff, .unset, .unset] [(.long i3), (.long i3)] _
    refine XS.lcmp X243.here hx rfl (hb hby at_227) rfl ?_
    show own_s p e below T243 m 228 #[.val (.long i0), .second, .val (.long i1), .second, .val (.long i2), .second, .val (.long i3), .second, iv i4, iv i5, rv b1, rv b17_1, rv b17_2, rv b17_3, iv oldS, iv oldN, iv lst, iv tff, .unset, .unset] [(.int (lcmpW i3 i3))] _
    refine XS.ifNo X243.here hx rfl (hb hby at_228) rfl ((if0 _ _).trans (teq ((lw_eq _ _).mpr rfl)).2) ?_
    show own_s p e below T243 m 231 #[.val (.long i0), .second, .val (.long i1), .second, .val (.long i2), .second, .val (.long i3), .second, iv i4, iv i5, rv b1, rv b17_1, rv b17_2, rv b17_3, iv oldS, iv oldN, iv lst, iv tff, .unset, .unset] [] _
    refine XS.aload X243.here hx rfl (hb hby at_231) rfl rfl ?_
    exact kX
  obtain ⟨T248, X248, e248, st248⟩ := getF X243 hx hZ hown (host := "") (Or.inl (hw _ (List.mem_of_getElem? (i := 18) rfl))) Via.refl e243 f206_next (g := (mkF m 233 #[.val (.long i0), .second, .val (.long i1), .second, .val (.long i2), .second, .val (.long i3), .second, iv i4, iv i5, rv b1, rv b17_1, rv b17_2, rv b17_3, iv oldS, iv oldN, iv lst, iv tff, .unset, .unset] [(.ref b1)])) rfl rfl (hb hby at_233)
  have pre249 : ∀ t, own_s p e below T248 m 236 #[.val (.long i0), .second, .val (.long i1), .second, .val (.long i2), .second, .val (.long i3), .second, iv i4, iv i5, rv b1, rv b17_1, rv b17_2, rv b17_3, iv oldS, iv oldN, iv lst, iv tff, .unset, .unset] [(.ref b17_1)] t → Steps p.tables e below S0 t := fun tX kX => pre247 _ (st248 _ kX)
  have pre251 : ∀ t, own_s p e below T248 m 237 #[.val (.long i0), .second, .val (.long i1), .second, .val (.long i2), .second, .val (.long i3), .second, iv i4, iv i5, rv b1, rv b17_1, rv b17_2, rv b17_3, iv oldS, iv oldN, iv lst, iv tff, .unset, .unset] [(.int (0 : Int32)), (.ref b17_1)] t → Steps p.tables e below S0 t := by
    intro tX kX
    refine pre249 _ ?_
    show own_s p e below T248 m 236 #[.val (.long i0), .second, .val (.long i1), .second, .val (.long i2), .second, .val (.long i3), .second, iv i4, iv i5, rv b1, rv b17_1, rv b17_2, rv b17_3, iv oldS, iv oldN, iv lst, iv tff, .unset, .unset] [(.ref b17_1)] _
    refine XS.iconst X248.here hx rfl (hb hby at_236) ?_
    exact kX
  obtain ⟨cl250, Ar250, S250, M250, H250⟩ := id f208_A
  have pre252 : ∀ t, own_s p e below T248 m 245 #[.val (.long i0), .second, .val (.long i1), .second, .val (.long i2), .second, .val (.long i3), .second, iv i4, iv i5, rv b1, rv b17_1, rv b17_2, rv b17_3, iv oldS, iv oldN, iv lst, iv tff, .unset, .unset] [(.ref b1)] t → Steps p.tables e below S0 t := by
    intro tX kX
    refine pre251 _ ?_
    show own_s p e below T248 m 237 #[.val (.long i0), .second, .val (.long i1), .second, .val (.long i2), .second, .val (.long i3), .second, iv i4, iv i5, rv b1, rv b17_1, rv b17_2, rv b17_3, iv oldS, iv oldN, iv lst, iv tff, .unset, .unset] [(.int (0 : Int32)), (.ref b17_1)] _
    refine X248.laload hx (j := (0 : Int32)) (v := (.long i0)) (by rw [e248]; exact Ar250.1) (State.isArrayOf_alike hZ.alike Ar250.2.1) Ar250.2.2 (own_inb S250 M250 (by decide)) (own_get H250 S250 (by decide) rfl) (g := (mkF m 237 #[.val (.long i0), .second, .val (.long i1), .second, .val (.long i2), .second, .val (.long i3), .second, iv i4, iv i5, rv b1, rv b17_1, rv b17_2, rv b17_3, iv oldS, iv oldN, iv lst, iv tff, .unset, .unset] [(.int (0 : Int32)), (.ref b17_1)])) rfl rfl (hb hby at_237) _ ?_
    show own_s p e below T248 m 238 #[.val (.long i0), .second, .val (.long i1), .second, .val (.long i2), .second, .val (.long i3), .second, iv i4, iv i5, rv b1, rv b17_1, rv b17_2, rv b17_3, iv oldS, iv oldN, iv lst, iv tff, .unset, .unset] [(.long i0)] _
    refine XS.lloadN X248.here hx rfl (hb hby at_238) rfl ?_
    show own_s p e below T248 m 239 #[.val (.long i0), .second, .val (.long i1), .second, .val (.long i2), .second, .val (.long i3), .second, iv i4, iv i5, rv b1, rv b17_1, rv b17_2, rv b17_3, iv oldS, iv oldN, iv lst, iv tff, .unset, .unset] [(.long i0), (.long i0)] _
    refine XS.lcmp X248.here hx rfl (hb hby at_239) rfl ?_
    show own_s p e below T248 m 240 #[.val (.long i0), .second, .val (.long i1), .second, .val (.long i2), .second, .val (.long i3), .second, iv i4, iv i5, rv b1, rv b17_1, rv b17_2, rv b17_3, iv oldS, iv oldN, iv lst, iv tff, .unset, .unset] [(.int (lcmpW i0 i0))] _
    refine XS.ifNo X248.here hx rfl (hb hby at_240) rfl ((if0 _ _).trans (teq ((lw_eq _ _).mpr rfl)).2) ?_
    show own_s p e below T248 m 243 #[.val (.long i0), .second, .val (.long i1), .second, .val (.long i2), .second, .val (.long i3), .second, iv i4, iv i5, rv b1, rv b17_1, rv b17_2, rv b17_3, iv oldS, iv oldN, iv lst, iv tff, .unset, .unset] [] _
    refine XS.aload X248.here hx rfl (hb hby at_243) rfl rfl ?_
    exact kX
  obtain ⟨T253, X253, e253, st253⟩ := getF X248 hx hZ hown (host := "") (Or.inl (hw _ (List.mem_of_getElem? (i := 18) rfl))) Via.refl e248 f206_next (g := (mkF m 245 #[.val (.long i0), .second, .val (.long i1), .second, .val (.long i2), .second, .val (.long i3), .second, iv i4, iv i5, rv b1, rv b17_1, rv b17_2, rv b17_3, iv oldS, iv oldN, iv lst, iv tff, .unset, .unset] [(.ref b1)])) rfl rfl (hb hby at_245)
  have pre254 : ∀ t, own_s p e below T253 m 248 #[.val (.long i0), .second, .val (.long i1), .second, .val (.long i2), .second, .val (.long i3), .second, iv i4, iv i5, rv b1, rv b17_1, rv b17_2, rv b17_3, iv oldS, iv oldN, iv lst, iv tff, .unset, .unset] [(.ref b17_1)] t → Steps p.tables e below S0 t := fun tX kX => pre252 _ (st253 _ kX)
  have pre256 : ∀ t, own_s p e below T253 m 250 #[.val (.long i0), .second, .val (.long i1), .second, .val (.long i2), .second, .val (.long i3), .second, iv i4, iv i5, rv b1, rv b17_1, rv b17_2, rv b17_3, iv oldS, iv oldN, iv lst, iv tff, .unset, .unset] [(.int (15 : Int32)), (.ref b17_1)] t → Steps p.tables e below S0 t := by
    intro tX kX
    refine pre254 _ ?_
    show own_s p e below T253 m 248 #[.val (.long i0), .second, .val (.long i1), .second, .val (.long i2), .second, .val (.long i3), .second, iv i4, iv i5, rv b1, rv b17_1, rv b17_2, rv b17_3, iv oldS, iv oldN, iv lst, iv tff, .unset, .unset] [(.ref b17_1)] _
    refine XS.bipush X253.here hx rfl (hb hby at_248) ?_
    exact kX
  obtain ⟨cl255, Ar255, S255, M255, H255⟩ := id f208_A
  have pre257 : ∀ t, own_s p e below T253 m 258 #[.val (.long i0), .second, .val (.long i1), .second, .val (.long i2), .second, .val (.long i3), .second, iv i4, iv i5, rv b1, rv b17_1, rv b17_2, rv b17_3, iv oldS, iv oldN, iv lst, iv tff, .unset, .unset] [(.ref b1)] t → Steps p.tables e below S0 t := by
    intro tX kX
    refine pre256 _ ?_
    show own_s p e below T253 m 250 #[.val (.long i0), .second, .val (.long i1), .second, .val (.long i2), .second, .val (.long i3), .second, iv i4, iv i5, rv b1, rv b17_1, rv b17_2, rv b17_3, iv oldS, iv oldN, iv lst, iv tff, .unset, .unset] [(.int (15 : Int32)), (.ref b17_1)] _
    refine X253.laload hx (j := (15 : Int32)) (v := (.long i1)) (by rw [e253]; exact Ar255.1) (State.isArrayOf_alike hZ.alike Ar255.2.1) Ar255.2.2 (own_inb S255 M255 (by decide)) (own_get H255 S255 (by decide) rfl) (g := (mkF m 250 #[.val (.long i0), .second, .val (.long i1), .second, .val (.long i2), .second, .val (.long i3), .second, iv i4, iv i5, rv b1, rv b17_1, rv b17_2, rv b17_3, iv oldS, iv oldN, iv lst, iv tff, .unset, .unset] [(.int (15 : Int32)), (.ref b17_1)])) rfl rfl (hb hby at_250) _ ?_
    show own_s p e below T253 m 251 #[.val (.long i0), .second, .val (.long i1), .second, .val (.long i2), .second, .val (.long i3), .second, iv i4, iv i5, rv b1, rv b17_1, rv b17_2, rv b17_3, iv oldS, iv oldN, iv lst, iv tff, .unset, .unset] [(.long i1)] _
    refine XS.lloadN X253.here hx rfl (hb hby at_251) rfl ?_
    show own_s p e below T253 m 252 #[.val (.long i0), .second, .val (.long i1), .second, .val (.long i2), .second, .val (.long i3), .second, iv i4, iv i5, rv b1, rv b17_1, rv b17_2, rv b17_3, iv oldS, iv oldN, iv lst, iv tff, .unset, .unset] [(.long i1), (.long i1)] _
    refine XS.lcmp X253.here hx rfl (hb hby at_252) rfl ?_
    show own_s p e below T253 m 253 #[.val (.long i0), .second, .val (.long i1), .second, .val (.long i2), .second, .val (.long i3), .second, iv i4, iv i5, rv b1, rv b17_1, rv b17_2, rv b17_3, iv oldS, iv oldN, iv lst, iv tff, .unset, .unset] [(.int (lcmpW i1 i1))] _
    refine XS.ifNo X253.here hx rfl (hb hby at_253) rfl ((if0 _ _).trans (teq ((lw_eq _ _).mpr rfl)).2) ?_
    show own_s p e below T253 m 256 #[.val (.long i0), .second, .val (.long i1), .second, .val (.long i2), .second, .val (.long i3), .second, iv i4, iv i5, rv b1, rv b17_1, rv b17_2, rv b17_3, iv oldS, iv oldN, iv lst, iv tff, .unset, .unset] [] _
    refine XS.aload X253.here hx rfl (hb hby at_256) rfl rfl ?_
    exact kX
  obtain ⟨T258, X258, e258, st258⟩ := getF X253 hx hZ hown (host := "") (Or.inl (hw _ (List.mem_of_getElem? (i := 19) rfl))) Via.refl e253 f206_trail (g := (mkF m 258 #[.val (.long i0), .second, .val (.long i1), .second, .val (.long i2), .second, .val (.long i3), .second, iv i4, iv i5, rv b1, rv b17_1, rv b17_2, rv b17_3, iv oldS, iv oldN, iv lst, iv tff, .unset, .unset] [(.ref b1)])) rfl rfl (hb hby at_258)
  have pre259 : ∀ t, own_s p e below T258 m 261 #[.val (.long i0), .second, .val (.long i1), .second, .val (.long i2), .second, .val (.long i3), .second, iv i4, iv i5, rv b1, rv b17_1, rv b17_2, rv b17_3, iv oldS, iv oldN, iv lst, iv tff, .unset, .unset] [(.ref b17_3)] t → Steps p.tables e below S0 t := fun tX kX => pre257 _ (st258 _ kX)
  have pre260 : ∀ t, own_s p e below T258 m 268 #[.val (.long i0), .second, .val (.long i1), .second, .val (.long i2), .second, .val (.long i3), .second, iv i4, iv i5, rv b1, rv b17_1, rv b17_2, rv b17_3, iv oldS, iv oldN, iv lst, iv tff, .unset, .unset] [(.ref b1)] t → Steps p.tables e below S0 t := by
    intro tX kX
    refine pre259 _ ?_
    show own_s p e below T258 m 261 #[.val (.long i0), .second, .val (.long i1), .second, .val (.long i2), .second, .val (.long i3), .second, iv i4, iv i5, rv b1, rv b17_1, rv b17_2, rv b17_3, iv oldS, iv oldN, iv lst, iv tff, .unset, .unset] [(.ref b17_3)] _
    refine XS.aload X258.here hx rfl (hb hby at_261) rfl rfl ?_
    show own_s p e below T258 m 263 #[.val (.long i0), .second, .val (.long i1), .second, .val (.long i2), .second, .val (.long i3), .second, iv i4, iv i5, rv b1, rv b17_1, rv b17_2, rv b17_3, iv oldS, iv oldN, iv lst, iv tff, .unset, .unset] [(.ref b17_3), (.ref b17_3)] _
    refine Jvm.RoadKit.acmp (g := (mkF m 263 #[.val (.long i0), .second, .val (.long i1), .second, .val (.long i2), .second, .val (.long i3), .second, iv i4, iv i5, rv b1, rv b17_1, rv b17_2, rv b17_3, iv oldS, iv oldN, iv lst, iv tff, .unset, .unset] [(.ref b17_3), (.ref b17_3)])) X258 hx rfl rfl rfl (pc0 := 263) (pc' := 266) (same := true) rfl (hb hby at_263) rfl (decide_eq_true (congrArg Value.ref rfl)) (by decide) (by decide) ?_
    show own_s p e below T258 m 266 #[.val (.long i0), .second, .val (.long i1), .second, .val (.long i2), .second, .val (.long i3), .second, iv i4, iv i5, rv b1, rv b17_1, rv b17_2, rv b17_3, iv oldS, iv oldN, iv lst, iv tff, .unset, .unset] [] _
    refine XS.aload X258.here hx rfl (hb hby at_266) rfl rfl ?_
    exact kX
  obtain ⟨T261, X261, e261, st261⟩ := getF X258 hx hZ hown (host := "") (Or.inl (hw _ (List.mem_of_getElem? (i := 24) rfl))) Via.refl e258 f206_lost (g := (mkF m 268 #[.val (.long i0), .second, .val (.long i1), .second, .val (.long i2), .second, .val (.long i3), .second, iv i4, iv i5, rv b1, rv b17_1, rv b17_2, rv b17_3, iv oldS, iv oldN, iv lst, iv tff, .unset, .unset] [(.ref b1)])) rfl rfl (hb hby at_268)
  have pre262 : ∀ t, own_s p e below T261 m 271 #[.val (.long i0), .second, .val (.long i1), .second, .val (.long i2), .second, .val (.long i3), .second, iv i4, iv i5, rv b1, rv b17_1, rv b17_2, rv b17_3, iv oldS, iv oldN, iv lst, iv tff, .unset, .unset] [(.int lst)] t → Steps p.tables e below S0 t := fun tX kX => pre260 _ (st261 _ kX)
  have pre263 : ∀ t, own_s p e below T261 m 278 #[.val (.long i0), .second, .val (.long i1), .second, .val (.long i2), .second, .val (.long i3), .second, iv i4, iv i5, rv b1, rv b17_1, rv b17_2, rv b17_3, iv oldS, iv oldN, iv lst, iv tff, .unset, .unset] [(.ref b1)] t → Steps p.tables e below S0 t := by
    intro tX kX
    refine pre262 _ ?_
    show own_s p e below T261 m 271 #[.val (.long i0), .second, .val (.long i1), .second, .val (.long i2), .second, .val (.long i3), .second, iv i4, iv i5, rv b1, rv b17_1, rv b17_2, rv b17_3, iv oldS, iv oldN, iv lst, iv tff, .unset, .unset] [(.int lst)] _
    refine XS.iload X261.here hx rfl (hb hby at_271) rfl ?_
    show own_s p e below T261 m 273 #[.val (.long i0), .second, .val (.long i1), .second, .val (.long i2), .second, .val (.long i3), .second, iv i4, iv i5, rv b1, rv b17_1, rv b17_2, rv b17_3, iv oldS, iv oldN, iv lst, iv tff, .unset, .unset] [(.int lst), (.int lst)] _
    refine XS.icmpNo X261.here hx rfl (hb hby at_273) rfl (teq (rfl : lst = lst)).2 ?_
    show own_s p e below T261 m 276 #[.val (.long i0), .second, .val (.long i1), .second, .val (.long i2), .second, .val (.long i3), .second, iv i4, iv i5, rv b1, rv b17_1, rv b17_2, rv b17_3, iv oldS, iv oldN, iv lst, iv tff, .unset, .unset] [] _
    refine XS.aload X261.here hx rfl (hb hby at_276) rfl rfl ?_
    exact kX
  obtain ⟨T264, X264, e264, st264⟩ := getF X261 hx hZ hown (host := "") (Or.inl (hw _ (List.mem_of_getElem? (i := 26) rfl))) Via.refl e261 f206_textFaulted (g := (mkF m 278 #[.val (.long i0), .second, .val (.long i1), .second, .val (.long i2), .second, .val (.long i3), .second, iv i4, iv i5, rv b1, rv b17_1, rv b17_2, rv b17_3, iv oldS, iv oldN, iv lst, iv tff, .unset, .unset] [(.ref b1)])) rfl rfl (hb hby at_278)
  have pre265 : ∀ t, own_s p e below T264 m 281 #[.val (.long i0), .second, .val (.long i1), .second, .val (.long i2), .second, .val (.long i3), .second, iv i4, iv i5, rv b1, rv b17_1, rv b17_2, rv b17_3, iv oldS, iv oldN, iv lst, iv tff, .unset, .unset] [(.int tff)] t → Steps p.tables e below S0 t := fun tX kX => pre263 _ (st264 _ kX)
  have pre266 : ∀ t, own_s p e below T264 m 288 #[.val (.long i0), .second, .val (.long i1), .second, .val (.long i2), .second, .val (.long i3), .second, iv i4, iv i5, rv b1, rv b17_1, rv b17_2, rv b17_3, iv oldS, iv oldN, iv lst, iv tff, .unset, .unset] [(.ref b1)] t → Steps p.tables e below S0 t := by
    intro tX kX
    refine pre265 _ ?_
    show own_s p e below T264 m 281 #[.val (.long i0), .second, .val (.long i1), .second, .val (.long i2), .second, .val (.long i3), .second, iv i4, iv i5, rv b1, rv b17_1, rv b17_2, rv b17_3, iv oldS, iv oldN, iv lst, iv tff, .unset, .unset] [(.int tff)] _
    refine XS.iload X264.here hx rfl (hb hby at_281) rfl ?_
    show own_s p e below T264 m 283 #[.val (.long i0), .second, .val (.long i1), .second, .val (.long i2), .second, .val (.long i3), .second, iv i4, iv i5, rv b1, rv b17_1, rv b17_2, rv b17_3, iv oldS, iv oldN, iv lst, iv tff, .unset, .unset] [(.int tff), (.int tff)] _
    refine XS.icmpNo X264.here hx rfl (hb hby at_283) rfl (teq (rfl : tff = tff)).2 ?_
    show own_s p e below T264 m 286 #[.val (.long i0), .second, .val (.long i1), .second, .val (.long i2), .second, .val (.long i3), .second, iv i4, iv i5, rv b1, rv b17_1, rv b17_2, rv b17_3, iv oldS, iv oldN, iv lst, iv tff, .unset, .unset] [] _
    refine XS.aload X264.here hx rfl (hb hby at_286) rfl rfl ?_
    exact kX
  obtain ⟨T267, X267, e267, st267⟩ := getF X264 hx hZ hown (host := "") (Or.inl (hw _ (List.mem_of_getElem? (i := 35) rfl))) Via.refl e264 f206_learned (g := (mkF m 288 #[.val (.long i0), .second, .val (.long i1), .second, .val (.long i2), .second, .val (.long i3), .second, iv i4, iv i5, rv b1, rv b17_1, rv b17_2, rv b17_3, iv oldS, iv oldN, iv lst, iv tff, .unset, .unset] [(.ref b1)])) rfl rfl (hb hby at_288)
  have pre268 : ∀ t, own_s p e below T267 m 291 #[.val (.long i0), .second, .val (.long i1), .second, .val (.long i2), .second, .val (.long i3), .second, iv i4, iv i5, rv b1, rv b17_1, rv b17_2, rv b17_3, iv oldS, iv oldN, iv lst, iv tff, .unset, .unset] [.null] t → Steps p.tables e below S0 t := fun tX kX => pre266 _ (st267 _ kX)
  have pre269 : ∀ t, own_s p e below T267 m 296 #[.val (.long i0), .second, .val (.long i1), .second, .val (.long i2), .second, .val (.long i3), .second, iv i4, iv i5, rv b1, rv b17_1, rv b17_2, rv b17_3, iv oldS, iv oldN, iv lst, iv tff, .unset, .unset] [(.ref b1)] t → Steps p.tables e below S0 t := by
    intro tX kX
    refine pre268 _ ?_
    show own_s p e below T267 m 291 #[.val (.long i0), .second, .val (.long i1), .second, .val (.long i2), .second, .val (.long i3), .second, iv i4, iv i5, rv b1, rv b17_1, rv b17_2, rv b17_3, iv oldS, iv oldN, iv lst, iv tff, .unset, .unset] [.null] _
    refine XS.ifnonnullNo X267.here hx rfl (hb hby at_291) rfl ?_
    show own_s p e below T267 m 294 #[.val (.long i0), .second, .val (.long i1), .second, .val (.long i2), .second, .val (.long i3), .second, iv i4, iv i5, rv b1, rv b17_1, rv b17_2, rv b17_3, iv oldS, iv oldN, iv lst, iv tff, .unset, .unset] [] _
    refine XS.aload X267.here hx rfl (hb hby at_294) rfl rfl ?_
    exact kX
  obtain ⟨T270, X270, e270, st270⟩ := getF X267 hx hZ hown (host := "") (Or.inl (hw _ (List.mem_of_getElem? (i := 37) rfl))) Via.refl e267 f206_model (g := (mkF m 296 #[.val (.long i0), .second, .val (.long i1), .second, .val (.long i2), .second, .val (.long i3), .second, iv i4, iv i5, rv b1, rv b17_1, rv b17_2, rv b17_3, iv oldS, iv oldN, iv lst, iv tff, .unset, .unset] [(.ref b1)])) rfl rfl (hb hby at_296)
  have pre271 : ∀ t, own_s p e below T270 m 299 #[.val (.long i0), .second, .val (.long i1), .second, .val (.long i2), .second, .val (.long i3), .second, iv i4, iv i5, rv b1, rv b17_1, rv b17_2, rv b17_3, iv oldS, iv oldN, iv lst, iv tff, .unset, .unset] [.null] t → Steps p.tables e below S0 t := fun tX kX => pre269 _ (st270 _ kX)
  have pre272 : ∀ t, own_s p e below T270 m 304 #[.val (.long i0), .second, .val (.long i1), .second, .val (.long i2), .second, .val (.long i3), .second, iv i4, iv i5, rv b1, rv b17_1, rv b17_2, rv b17_3, iv oldS, iv oldN, iv lst, iv tff, .unset, .unset] [(.ref b1)] t → Steps p.tables e below S0 t := by
    intro tX kX
    refine pre271 _ ?_
    show own_s p e below T270 m 299 #[.val (.long i0), .second, .val (.long i1), .second, .val (.long i2), .second, .val (.long i3), .second, iv i4, iv i5, rv b1, rv b17_1, rv b17_2, rv b17_3, iv oldS, iv oldN, iv lst, iv tff, .unset, .unset] [.null] _
    refine XS.ifnonnullNo X270.here hx rfl (hb hby at_299) rfl ?_
    show own_s p e below T270 m 302 #[.val (.long i0), .second, .val (.long i1), .second, .val (.long i2), .second, .val (.long i3), .second, iv i4, iv i5, rv b1, rv b17_1, rv b17_2, rv b17_3, iv oldS, iv oldN, iv lst, iv tff, .unset, .unset] [] _
    refine XS.aload X270.here hx rfl (hb hby at_302) rfl rfl ?_
    exact kX
  obtain ⟨T273, X273, e273, st273⟩ := getF X270 hx hZ hown (host := "") (Or.inl (hw _ (List.mem_of_getElem? (i := 39) rfl))) Via.refl e270 f206_namespace (g := (mkF m 304 #[.val (.long i0), .second, .val (.long i1), .second, .val (.long i2), .second, .val (.long i3), .second, iv i4, iv i5, rv b1, rv b17_1, rv b17_2, rv b17_3, iv oldS, iv oldN, iv lst, iv tff, .unset, .unset] [(.ref b1)])) rfl rfl (hb hby at_304)
  have pre274 : ∀ t, own_s p e below T273 m 307 #[.val (.long i0), .second, .val (.long i1), .second, .val (.long i2), .second, .val (.long i3), .second, iv i4, iv i5, rv b1, rv b17_1, rv b17_2, rv b17_3, iv oldS, iv oldN, iv lst, iv tff, .unset, .unset] [.null] t → Steps p.tables e below S0 t := fun tX kX => pre272 _ (st273 _ kX)
  have pre275 : ∀ t, own_s p e below T273 m 312 #[.val (.long i0), .second, .val (.long i1), .second, .val (.long i2), .second, .val (.long i3), .second, iv i4, iv i5, rv b1, rv b17_1, rv b17_2, rv b17_3, iv oldS, iv oldN, iv lst, iv tff, .unset, .unset] [(.ref b1)] t → Steps p.tables e below S0 t := by
    intro tX kX
    refine pre274 _ ?_
    show own_s p e below T273 m 307 #[.val (.long i0), .second, .val (.long i1), .second, .val (.long i2), .second, .val (.long i3), .second, iv i4, iv i5, rv b1, rv b17_1, rv b17_2, rv b17_3, iv oldS, iv oldN, iv lst, iv tff, .unset, .unset] [.null] _
    refine XS.ifnonnullNo X273.here hx rfl (hb hby at_307) rfl ?_
    show own_s p e below T273 m 310 #[.val (.long i0), .second, .val (.long i1), .second, .val (.long i2), .second, .val (.long i3), .second, iv i4, iv i5, rv b1, rv b17_1, rv b17_2, rv b17_3, iv oldS, iv oldN, iv lst, iv tff, .unset, .unset] [] _
    refine XS.aload X273.here hx rfl (hb hby at_310) rfl rfl ?_
    exact kX
  obtain ⟨T276, X276, e276, st276⟩ := getF X273 hx hZ hown (host := "") (Or.inl (hw _ (List.mem_of_getElem? (i := 41) rfl))) Via.refl e273 f206_localName (g := (mkF m 312 #[.val (.long i0), .second, .val (.long i1), .second, .val (.long i2), .second, .val (.long i3), .second, iv i4, iv i5, rv b1, rv b17_1, rv b17_2, rv b17_3, iv oldS, iv oldN, iv lst, iv tff, .unset, .unset] [(.ref b1)])) rfl rfl (hb hby at_312)
  have pre277 : ∀ t, own_s p e below T276 m 315 #[.val (.long i0), .second, .val (.long i1), .second, .val (.long i2), .second, .val (.long i3), .second, iv i4, iv i5, rv b1, rv b17_1, rv b17_2, rv b17_3, iv oldS, iv oldN, iv lst, iv tff, .unset, .unset] [.null] t → Steps p.tables e below S0 t := fun tX kX => pre275 _ (st276 _ kX)
  have pre278 : ∀ t, own_s p e below T276 m 327 #[.val (.long i0), .second, .val (.long i1), .second, .val (.long i2), .second, .val (.long i3), .second, iv i4, iv i5, rv b1, rv b17_1, rv b17_2, rv b17_3, iv oldS, iv oldN, iv lst, iv tff, iv (1 : Int32), .unset] [(.ref b1)] t → Steps p.tables e below S0 t := by
    intro tX kX
    refine pre277 _ ?_
    show own_s p e below T276 m 315 #[.val (.long i0), .second, .val (.long i1), .second, .val (.long i2), .second, .val (.long i3), .second, iv i4, iv i5, rv b1, rv b17_1, rv b17_2, rv b17_3, iv oldS, iv oldN, iv lst, iv tff, .unset, .unset] [.null] _
    refine XS.ifnonnullNo X276.here hx rfl (hb hby at_315) rfl ?_
    show own_s p e below T276 m 318 #[.val (.long i0), .second, .val (.long i1), .second, .val (.long i2), .second, .val (.long i3), .second, iv i4, iv i5, rv b1, rv b17_1, rv b17_2, rv b17_3, iv oldS, iv oldN, iv lst, iv tff, .unset, .unset] [] _
    refine XS.iconst X276.here hx rfl (hb hby at_318) ?_
    show own_s p e below T276 m 319 #[.val (.long i0), .second, .val (.long i1), .second, .val (.long i2), .second, .val (.long i3), .second, iv i4, iv i5, rv b1, rv b17_1, rv b17_2, rv b17_3, iv oldS, iv oldN, iv lst, iv tff, .unset, .unset] [(.int (1 : Int32))] _
    refine XS.goto X276.here hx rfl (pc0 := 319) (pc' := 323) rfl (hb hby at_319) (by decide) (by decide) ?_
    show own_s p e below T276 m 323 #[.val (.long i0), .second, .val (.long i1), .second, .val (.long i2), .second, .val (.long i3), .second, iv i4, iv i5, rv b1, rv b17_1, rv b17_2, rv b17_3, iv oldS, iv oldN, iv lst, iv tff, .unset, .unset] [(.int (1 : Int32))] _
    refine XS.istore X276.here hx rfl (hb hby at_323) rfl (l' := #[.val (.long i0), .second, .val (.long i1), .second, .val (.long i2), .second, .val (.long i3), .second, iv i4, iv i5, rv b1, rv b17_1, rv b17_2, rv b17_3, iv oldS, iv oldN, iv lst, iv tff, iv (1 : Int32), .unset]) rfl ?_
    show own_s p e below T276 m 325 #[.val (.long i0), .second, .val (.long i1), .second, .val (.long i2), .second, .val (.long i3), .second, iv i4, iv i5, rv b1, rv b17_1, rv b17_2, rv b17_3, iv oldS, iv oldN, iv lst, iv tff, iv (1 : Int32), .unset] [] _
    refine XS.aload X276.here hx rfl (hb hby at_325) rfl rfl ?_
    exact kX
  obtain ⟨cq279, kq279, q279a, q279b, q279c⟩ := isOf hZ e276 fE206
  obtain ⟨_, _, ⟨T279, L279, k279, n279⟩, -, X279, ⟨Lc279, hQ279, l279, y279, z279⟩, st279⟩ := X276.virtualBack hx (y := (⟨"com/example/weaverbird/weaverbird/engine/Frame", "advance", "()V"⟩ : MethodName)) (z := (⟨"com/example/weaverbird/weaverbird/engine/Frame", "advance", "()V"⟩ : MethodName)) hown (mvT hZ (hw _ (List.mem_of_getElem? (i := 28) rfl))) (mvT hZ (hw _ (List.mem_of_getElem? (i := 29) rfl))) (notFace_of_selects (args := #[]) (mvT hZ (hw _ (List.mem_of_getElem? (i := 31) rfl)))) (mvT hZ (hw _ (List.mem_of_getElem? (i := 31) rfl))) (mvT hZ (hw _ (List.mem_of_getElem? (i := 30) rfl))) (by decide) (backOf (W := 0) (rm2 l Z a0 hw [] b1 b17_2 b17_1 b17_3 oldN (0 : Int32) lst tff T206.heap n0 Z206 fE206 f206_state f206_next f206_trail f206_size f206_nextSize f206_lost f206_textFaulted f206_learned f206_model f206_namespace f206_localName g_b1) hZ (hw _ (List.mem_of_getElem? (i := 32) rfl)) (hw _ (List.mem_of_getElem? (i := 2) rfl)) (by decide) (by decide)) q279a q279c (g := (mkF m 327 #[.val (.long i0), .second, .val (.long i1), .second, .val (.long i2), .second, .val (.long i3), .second, iv i4, iv i5, rv b1, rv b17_1, rv b17_2, rv b17_3, iv oldS, iv oldN, iv lst, iv tff, iv (1 : Int32), .unset] [(.ref b1)])) rfl (by rw [hml]; rfl) (Steps.refl _) (argsL := []) (rest := []) (lenOf pd0_0 rfl) rfl (by show 2 * 0 + _ ≤ _; exact Nat.le_of_eq rfl) (hb hby at_327) (fun _ _ => ⟨rfl, e276, (by decide : 4 + 0 ≤ _), (by decide : 59 + 0 ≤ _)⟩)
  dsimp only [Pt.U, Pt.locs, Pt.cells, Pt.slots] at X279 l279 y279 z279 st279 hQ279
  subst l279 y279 z279
  obtain ⟨rfl, Nq279, Kq279, fE279, f279_state, f279_next, f279_trail, f279_size, f279_nextSize, f279_lost, f279_textFaulted, f279_learned, f279_model, f279_namespace, f279_localName⟩ := hQ279
  have N279 := Fr.app N206 Nq279
  have e279 : T279.heap = T279.heap := rfl
  have Z279 : n0 ≤ T279.heap.size := Nat.le_trans Z206 Kq279.1
  have f280_A : own_Af Z T279.heap b17_3 .int 16 (fun _ => (.int (0 : Int32))) := f207_A.keep Kq279 (ninS (Ne.symm nq6) nin0)
  have f281_A : own_Af Z T279.heap b17_1 .long 16 (own_up (own_up (fun _ => (.long (0 : Int64))) (0 : Int32).toNatClampNeg (.long i0)) (15 : Int32).toNatClampNeg (.long i1)) := f208_A.keep Kq279 (ninS (Ne.symm nq4) nin0)
  have f282_A : own_Af Z T279.heap b17_2 .long 16 (own_up (own_up (fun _ => (.long (0 : Int64))) (0 : Int32).toNatClampNeg (.long i2)) (15 : Int32).toNatClampNeg (.long i3)) := f209_A.keep Kq279 (ninS (Ne.symm nq5) nin0)
  have pre283 : ∀ t, own_s p e below T279 m 330 #[.val (.long i0), .second, .val (.long i1), .second, .val (.long i2), .second, .val (.long i3), .second, iv i4, iv i5, rv b1, rv b17_1, rv b17_2, rv b17_3, iv oldS, iv oldN, iv lst, iv tff, iv (1 : Int32), .unset] [] t → Steps p.tables e below S0 t := fun tX kX => pre278 _ (st279.trans kX)
  have pre284 : ∀ t, own_s p e below T279 m 332 #[.val (.long i0), .second, .val (.long i1), .second, .val (.long i2), .second, .val (.long i3), .second, iv i4, iv i5, rv b1, rv b17_1, rv b17_2, rv b17_3, iv oldS, iv oldN, iv lst, iv tff, iv (1 : Int32), .unset] [(.ref b1)] t → Steps p.tables e below S0 t := by
    intro tX kX
    refine pre283 _ ?_
    show own_s p e below T279 m 330 #[.val (.long i0), .second, .val (.long i1), .second, .val (.long i2), .second, .val (.long i3), .second, iv i4, iv i5, rv b1, rv b17_1, rv b17_2, rv b17_3, iv oldS, iv oldN, iv lst, iv tff, iv (1 : Int32), .unset] [] _
    refine XS.aload X279.here hx rfl (hb hby at_330) rfl rfl ?_
    exact kX
  obtain ⟨T285, X285, e285, st285⟩ := getF X279 hx hZ hown (host := "") (Or.inl (hw _ (List.mem_of_getElem? (i := 17) rfl))) Via.refl e279 f279_state (g := (mkF m 332 #[.val (.long i0), .second, .val (.long i1), .second, .val (.long i2), .second, .val (.long i3), .second, iv i4, iv i5, rv b1, rv b17_1, rv b17_2, rv b17_3, iv oldS, iv oldN, iv lst, iv tff, iv (1 : Int32), .unset] [(.ref b1)])) rfl rfl (hb hby at_332)
  have pre286 : ∀ t, own_s p e below T285 m 335 #[.val (.long i0), .second, .val (.long i1), .second, .val (.long i2), .second, .val (.long i3), .second, iv i4, iv i5, rv b1, rv b17_1, rv b17_2, rv b17_3, iv oldS, iv oldN, iv lst, iv tff, iv (1 : Int32), .unset] [(.ref b17_1)] t → Steps p.tables e below S0 t := fun tX kX => pre284 _ (st285 _ kX)
  have pre287 : ∀ t, own_s p e below T285 m 342 #[.val (.long i0), .second, .val (.long i1), .second, .val (.long i2), .second, .val (.long i3), .second, iv i4, iv i5, rv b1, rv b17_1, rv b17_2, rv b17_3, iv oldS, iv oldN, iv lst, iv tff, iv (1 : Int32), .unset] [(.ref b1)] t → Steps p.tables e below S0 t := by
    intro tX kX
    refine pre286 _ ?_
    show own_s p e below T285 m 335 #[.val (.long i0), .second, .val (.long i1), .second, .val (.long i2), .second, .val (.long i3), .second, iv i4, iv i5, rv b1, rv b17_1, rv b17_2, rv b17_3, iv oldS, iv oldN, iv lst, iv tff, iv (1 : Int32), .unset] [(.ref b17_1)] _
    refine XS.aload X285.here hx rfl (hb hby at_335) rfl rfl ?_
    show own_s p e below T285 m 337 #[.val (.long i0), .second, .val (.long i1), .second, .val (.long i2), .second, .val (.long i3), .second, iv i4, iv i5, rv b1, rv b17_1, rv b17_2, rv b17_3, iv oldS, iv oldN, iv lst, iv tff, iv (1 : Int32), .unset] [(.ref b17_1), (.ref b17_1)] _
    refine Jvm.RoadKit.acmp (g := (mkF m 337 #[.val (.long i0), .second, .val (.long i1), .second, .val (.long i2), .second, .val (.long i3), .second, iv i4, iv i5, rv b1, rv b17_1, rv b17_2, rv b17_3, iv oldS, iv oldN, iv lst, iv tff, iv (1 : Int32), .unset] [(.ref b17_1), (.ref b17_1)])) X285 hx rfl rfl rfl (pc0 := 337) (pc' := 340) (same := true) rfl (hb hby at_337) rfl (decide_eq_true (congrArg Value.ref rfl)) (by decide) (by decide) ?_
    show own_s p e below T285 m 340 #[.val (.long i0), .second, .val (.long i1), .second, .val (.long i2), .second, .val (.long i3), .second, iv i4, iv i5, rv b1, rv b17_1, rv b17_2, rv b17_3, iv oldS, iv oldN, iv lst, iv tff, iv (1 : Int32), .unset] [] _
    refine XS.aload X285.here hx rfl (hb hby at_340) rfl rfl ?_
    exact kX
  obtain ⟨T288, X288, e288, st288⟩ := getF X285 hx hZ hown (host := "") (Or.inl (hw _ (List.mem_of_getElem? (i := 18) rfl))) Via.refl e285 f279_next (g := (mkF m 342 #[.val (.long i0), .second, .val (.long i1), .second, .val (.long i2), .second, .val (.long i3), .second, iv i4, iv i5, rv b1, rv b17_1, rv b17_2, rv b17_3, iv oldS, iv oldN, iv lst, iv tff, iv (1 : Int32), .unset] [(.ref b1)])) rfl rfl (hb hby at_342)
  have pre289 : ∀ t, own_s p e below T288 m 345 #[.val (.long i0), .second, .val (.long i1), .second, .val (.long i2), .second, .val (.long i3), .second, iv i4, iv i5, rv b1, rv b17_1, rv b17_2, rv b17_3, iv oldS, iv oldN, iv lst, iv tff, iv (1 : Int32), .unset] [(.ref b17_2)] t → Steps p.tables e below S0 t := fun tX kX => pre287 _ (st288 _ kX)
  have pre290 : ∀ t, own_s p e below T288 m 352 #[.val (.long i0), .second, .val (.long i1), .second, .val (.long i2), .second, .val (.long i3), .second, iv i4, iv i5, rv b1, rv b17_1, rv b17_2, rv b17_3, iv oldS, iv oldN, iv lst, iv tff, iv (1 : Int32), .unset] [(.ref b1)] t → Steps p.tables e below S0 t := by
    intro tX kX
    refine pre289 _ ?_
    show own_s p e below T288 m 345 #[.val (.long i0), .second, .val (.long i1), .second, .val (.long i2), .second, .val (.long i3), .second, iv i4, iv i5, rv b1, rv b17_1, rv b17_2, rv b17_3, iv oldS, iv oldN, iv lst, iv tff, iv (1 : Int32), .unset] [(.ref b17_2)] _
    refine XS.aload X288.here hx rfl (hb hby at_345) rfl rfl ?_
    show own_s p e below T288 m 347 #[.val (.long i0), .second, .val (.long i1), .second, .val (.long i2), .second, .val (.long i3), .second, iv i4, iv i5, rv b1, rv b17_1, rv b17_2, rv b17_3, iv oldS, iv oldN, iv lst, iv tff, iv (1 : Int32), .unset] [(.ref b17_2), (.ref b17_2)] _
    refine Jvm.RoadKit.acmp (g := (mkF m 347 #[.val (.long i0), .second, .val (.long i1), .second, .val (.long i2), .second, .val (.long i3), .second, iv i4, iv i5, rv b1, rv b17_1, rv b17_2, rv b17_3, iv oldS, iv oldN, iv lst, iv tff, iv (1 : Int32), .unset] [(.ref b17_2), (.ref b17_2)])) X288 hx rfl rfl rfl (pc0 := 347) (pc' := 350) (same := true) rfl (hb hby at_347) rfl (decide_eq_true (congrArg Value.ref rfl)) (by decide) (by decide) ?_
    show own_s p e below T288 m 350 #[.val (.long i0), .second, .val (.long i1), .second, .val (.long i2), .second, .val (.long i3), .second, iv i4, iv i5, rv b1, rv b17_1, rv b17_2, rv b17_3, iv oldS, iv oldN, iv lst, iv tff, iv (1 : Int32), .unset] [] _
    refine XS.aload X288.here hx rfl (hb hby at_350) rfl rfl ?_
    exact kX
  obtain ⟨T291, X291, e291, st291⟩ := getF X288 hx hZ hown (host := "") (Or.inl (hw _ (List.mem_of_getElem? (i := 20) rfl))) Via.refl e288 f279_size (g := (mkF m 352 #[.val (.long i0), .second, .val (.long i1), .second, .val (.long i2), .second, .val (.long i3), .second, iv i4, iv i5, rv b1, rv b17_1, rv b17_2, rv b17_3, iv oldS, iv oldN, iv lst, iv tff, iv (1 : Int32), .unset] [(.ref b1)])) rfl rfl (hb hby at_352)
  have pre292 : ∀ t, own_s p e below T291 m 355 #[.val (.long i0), .second, .val (.long i1), .second, .val (.long i2), .second, .val (.long i3), .second, iv i4, iv i5, rv b1, rv b17_1, rv b17_2, rv b17_3, iv oldS, iv oldN, iv lst, iv tff, iv (1 : Int32), .unset] [(.int (0 : Int32))] t → Steps p.tables e below S0 t := fun tX kX => pre290 _ (st291 _ kX)
  have pre293 : ∀ t, own_s p e below T291 m 360 #[.val (.long i0), .second, .val (.long i1), .second, .val (.long i2), .second, .val (.long i3), .second, iv i4, iv i5, rv b1, rv b17_1, rv b17_2, rv b17_3, iv oldS, iv oldN, iv lst, iv tff, iv (1 : Int32), .unset] [(.ref b1)] t → Steps p.tables e below S0 t := by
    intro tX kX
    refine pre292 _ ?_
    show own_s p e below T291 m 355 #[.val (.long i0), .second, .val (.long i1), .second, .val (.long i2), .second, .val (.long i3), .second, iv i4, iv i5, rv b1, rv b17_1, rv b17_2, rv b17_3, iv oldS, iv oldN, iv lst, iv tff, iv (1 : Int32), .unset] [(.int (0 : Int32))] _
    refine XS.ifNo X291.here hx rfl (hb hby at_355) rfl ((if0 _ _).trans (teq (by decide : (0 : Int32) = (0 : Int32))).2) ?_
    show own_s p e below T291 m 358 #[.val (.long i0), .second, .val (.long i1), .second, .val (.long i2), .second, .val (.long i3), .second, iv i4, iv i5, rv b1, rv b17_1, rv b17_2, rv b17_3, iv oldS, iv oldN, iv lst, iv tff, iv (1 : Int32), .unset] [] _
    refine XS.aload X291.here hx rfl (hb hby at_358) rfl rfl ?_
    exact kX
  obtain ⟨T294, X294, e294, st294⟩ := getF X291 hx hZ hown (host := "") (Or.inl (hw _ (List.mem_of_getElem? (i := 22) rfl))) Via.refl e291 f279_nextSize (g := (mkF m 360 #[.val (.long i0), .second, .val (.long i1), .second, .val (.long i2), .second, .val (.long i3), .second, iv i4, iv i5, rv b1, rv b17_1, rv b17_2, rv b17_3, iv oldS, iv oldN, iv lst, iv tff, iv (1 : Int32), .unset] [(.ref b1)])) rfl rfl (hb hby at_360)
  have pre295 : ∀ t, own_s p e below T294 m 363 #[.val (.long i0), .second, .val (.long i1), .second, .val (.long i2), .second, .val (.long i3), .second, iv i4, iv i5, rv b1, rv b17_1, rv b17_2, rv b17_3, iv oldS, iv oldN, iv lst, iv tff, iv (1 : Int32), .unset] [(.int (0 : Int32))] t → Steps p.tables e below S0 t := fun tX kX => pre293 _ (st294 _ kX)
  have pre297 : ∀ t, own_s p e below T294 m 369 #[.val (.long i0), .second, .val (.long i1), .second, .val (.long i2), .second, .val (.long i3), .second, iv i4, iv i5, rv b1, rv b17_1, rv b17_2, rv b17_3, iv oldS, iv oldN, iv lst, iv tff, iv (1 : Int32), .unset] [(.int (0 : Int32)), (.ref b17_1)] t → Steps p.tables e below S0 t := by
    intro tX kX
    refine pre295 _ ?_
    show own_s p e below T294 m 363 #[.val (.long i0), .second, .val (.long i1), .second, .val (.long i2), .second, .val (.long i3), .second, iv i4, iv i5, rv b1, rv b17_1, rv b17_2, rv b17_3, iv oldS, iv oldN, iv lst, iv tff, iv (1 : Int32), .unset] [(.int (0 : Int32))] _
    refine XS.ifNo X294.here hx rfl (hb hby at_363) rfl ((if0 _ _).trans (teq (by decide : (0 : Int32) = (0 : Int32))).2) ?_
    show own_s p e below T294 m 366 #[.val (.long i0), .second, .val (.long i1), .second, .val (.long i2), .second, .val (.long i3), .second, iv i4, iv i5, rv b1, rv b17_1, rv b17_2, rv b17_3, iv oldS, iv oldN, iv lst, iv tff, iv (1 : Int32), .unset] [] _
    refine XS.aload X294.here hx rfl (hb hby at_366) rfl rfl ?_
    show own_s p e below T294 m 368 #[.val (.long i0), .second, .val (.long i1), .second, .val (.long i2), .second, .val (.long i3), .second, iv i4, iv i5, rv b1, rv b17_1, rv b17_2, rv b17_3, iv oldS, iv oldN, iv lst, iv tff, iv (1 : Int32), .unset] [(.ref b17_1)] _
    refine XS.iconst X294.here hx rfl (hb hby at_368) ?_
    exact kX
  obtain ⟨cl296, Ar296, S296, M296, H296⟩ := id f281_A
  have pre299 : ∀ t, own_s p e below T294 m 379 #[.val (.long i0), .second, .val (.long i1), .second, .val (.long i2), .second, .val (.long i3), .second, iv i4, iv i5, rv b1, rv b17_1, rv b17_2, rv b17_3, iv oldS, iv oldN, iv lst, iv tff, iv (1 : Int32), .unset] [(.int (15 : Int32)), (.ref b17_1)] t → Steps p.tables e below S0 t := by
    intro tX kX
    refine pre297 _ ?_
    show own_s p e below T294 m 369 #[.val (.long i0), .second, .val (.long i1), .second, .val (.long i2), .second, .val (.long i3), .second, iv i4, iv i5, rv b1, rv b17_1, rv b17_2, rv b17_3, iv oldS, iv oldN, iv lst, iv tff, iv (1 : Int32), .unset] [(.int (0 : Int32)), (.ref b17_1)] _
    refine X294.laload hx (j := (0 : Int32)) (v := (.long i0)) (by rw [e294]; exact Ar296.1) (State.isArrayOf_alike hZ.alike Ar296.2.1) Ar296.2.2 (own_inb S296 M296 (by decide)) (own_get H296 S296 (by decide) rfl) (g := (mkF m 369 #[.val (.long i0), .second, .val (.long i1), .second, .val (.long i2), .second, .val (.long i3), .second, iv i4, iv i5, rv b1, rv b17_1, rv b17_2, rv b17_3, iv oldS, iv oldN, iv lst, iv tff, iv (1 : Int32), .unset] [(.int (0 : Int32)), (.ref b17_1)])) rfl rfl (hb hby at_369) _ ?_
    show own_s p e below T294 m 370 #[.val (.long i0), .second, .val (.long i1), .second, .val (.long i2), .second, .val (.long i3), .second, iv i4, iv i5, rv b1, rv b17_1, rv b17_2, rv b17_3, iv oldS, iv oldN, iv lst, iv tff, iv (1 : Int32), .unset] [(.long i0)] _
    refine XS.lloadN X294.here hx rfl (hb hby at_370) rfl ?_
    show own_s p e below T294 m 371 #[.val (.long i0), .second, .val (.long i1), .second, .val (.long i2), .second, .val (.long i3), .second, iv i4, iv i5, rv b1, rv b17_1, rv b17_2, rv b17_3, iv oldS, iv oldN, iv lst, iv tff, iv (1 : Int32), .unset] [(.long i0), (.long i0)] _
    refine XS.lcmp X294.here hx rfl (hb hby at_371) rfl ?_
    show own_s p e below T294 m 372 #[.val (.long i0), .second, .val (.long i1), .second, .val (.long i2), .second, .val (.long i3), .second, iv i4, iv i5, rv b1, rv b17_1, rv b17_2, rv b17_3, iv oldS, iv oldN, iv lst, iv tff, iv (1 : Int32), .unset] [(.int (lcmpW i0 i0))] _
    refine XS.ifNo X294.here hx rfl (hb hby at_372) rfl ((if0 _ _).trans (teq ((lw_eq _ _).mpr rfl)).2) ?_
    show own_s p e below T294 m 375 #[.val (.long i0), .second, .val (.long i1), .second, .val (.long i2), .second, .val (.long i3), .second, iv i4, iv i5, rv b1, rv b17_1, rv b17_2, rv b17_3, iv oldS, iv oldN, iv lst, iv tff, iv (1 : Int32), .unset] [] _
    refine XS.aload X294.here hx rfl (hb hby at_375) rfl rfl ?_
    show own_s p e below T294 m 377 #[.val (.long i0), .second, .val (.long i1), .second, .val (.long i2), .second, .val (.long i3), .second, iv i4, iv i5, rv b1, rv b17_1, rv b17_2, rv b17_3, iv oldS, iv oldN, iv lst, iv tff, iv (1 : Int32), .unset] [(.ref b17_1)] _
    refine XS.bipush X294.here hx rfl (hb hby at_377) ?_
    exact kX
  obtain ⟨cl298, Ar298, S298, M298, H298⟩ := id f281_A
  have pre301 : ∀ t, own_s p e below T294 m 388 #[.val (.long i0), .second, .val (.long i1), .second, .val (.long i2), .second, .val (.long i3), .second, iv i4, iv i5, rv b1, rv b17_1, rv b17_2, rv b17_3, iv oldS, iv oldN, iv lst, iv tff, iv (1 : Int32), .unset] [(.int (0 : Int32)), (.ref b17_2)] t → Steps p.tables e below S0 t := by
    intro tX kX
    refine pre299 _ ?_
    show own_s p e below T294 m 379 #[.val (.long i0), .second, .val (.long i1), .second, .val (.long i2), .second, .val (.long i3), .second, iv i4, iv i5, rv b1, rv b17_1, rv b17_2, rv b17_3, iv oldS, iv oldN, iv lst, iv tff, iv (1 : Int32), .unset] [(.int (15 : Int32)), (.ref b17_1)] _
    refine X294.laload hx (j := (15 : Int32)) (v := (.long i1)) (by rw [e294]; exact Ar298.1) (State.isArrayOf_alike hZ.alike Ar298.2.1) Ar298.2.2 (own_inb S298 M298 (by decide)) (own_get H298 S298 (by decide) rfl) (g := (mkF m 379 #[.val (.long i0), .second, .val (.long i1), .second, .val (.long i2), .second, .val (.long i3), .second, iv i4, iv i5, rv b1, rv b17_1, rv b17_2, rv b17_3, iv oldS, iv oldN, iv lst, iv tff, iv (1 : Int32), .unset] [(.int (15 : Int32)), (.ref b17_1)])) rfl rfl (hb hby at_379) _ ?_
    show own_s p e below T294 m 380 #[.val (.long i0), .second, .val (.long i1), .second, .val (.long i2), .second, .val (.long i3), .second, iv i4, iv i5, rv b1, rv b17_1, rv b17_2, rv b17_3, iv oldS, iv oldN, iv lst, iv tff, iv (1 : Int32), .unset] [(.long i1)] _
    refine XS.lloadN X294.here hx rfl (hb hby at_380) rfl ?_
    show own_s p e below T294 m 381 #[.val (.long i0), .second, .val (.long i1), .second, .val (.long i2), .second, .val (.long i3), .second, iv i4, iv i5, rv b1, rv b17_1, rv b17_2, rv b17_3, iv oldS, iv oldN, iv lst, iv tff, iv (1 : Int32), .unset] [(.long i1), (.long i1)] _
    refine XS.lcmp X294.here hx rfl (hb hby at_381) rfl ?_
    show own_s p e below T294 m 382 #[.val (.long i0), .second, .val (.long i1), .second, .val (.long i2), .second, .val (.long i3), .second, iv i4, iv i5, rv b1, rv b17_1, rv b17_2, rv b17_3, iv oldS, iv oldN, iv lst, iv tff, iv (1 : Int32), .unset] [(.int (lcmpW i1 i1))] _
    refine XS.ifNo X294.here hx rfl (hb hby at_382) rfl ((if0 _ _).trans (teq ((lw_eq _ _).mpr rfl)).2) ?_
    show own_s p e below T294 m 385 #[.val (.long i0), .second, .val (.long i1), .second, .val (.long i2), .second, .val (.long i3), .second, iv i4, iv i5, rv b1, rv b17_1, rv b17_2, rv b17_3, iv oldS, iv oldN, iv lst, iv tff, iv (1 : Int32), .unset] [] _
    refine XS.aload X294.here hx rfl (hb hby at_385) rfl rfl ?_
    show own_s p e below T294 m 387 #[.val (.long i0), .second, .val (.long i1), .second, .val (.long i2), .second, .val (.long i3), .second, iv i4, iv i5, rv b1, rv b17_1, rv b17_2, rv b17_3, iv oldS, iv oldN, iv lst, iv tff, iv (1 : Int32), .unset] [(.ref b17_2)] _
    refine XS.iconst X294.here hx rfl (hb hby at_387) ?_
    exact kX
  obtain ⟨cl300, Ar300, S300, M300, H300⟩ := id f282_A
  have pre303 : ∀ t, own_s p e below T294 m 399 #[.val (.long i0), .second, .val (.long i1), .second, .val (.long i2), .second, .val (.long i3), .second, iv i4, iv i5, rv b1, rv b17_1, rv b17_2, rv b17_3, iv oldS, iv oldN, iv lst, iv tff, iv (1 : Int32), .unset] [(.int (15 : Int32)), (.ref b17_2)] t → Steps p.tables e below S0 t := by
    intro tX kX
    refine pre301 _ ?_
    show own_s p e below T294 m 388 #[.val (.long i0), .second, .val (.long i1), .second, .val (.long i2), .second, .val (.long i3), .second, iv i4, iv i5, rv b1, rv b17_1, rv b17_2, rv b17_3, iv oldS, iv oldN, iv lst, iv tff, iv (1 : Int32), .unset] [(.int (0 : Int32)), (.ref b17_2)] _
    refine X294.laload hx (j := (0 : Int32)) (v := (.long i2)) (by rw [e294]; exact Ar300.1) (State.isArrayOf_alike hZ.alike Ar300.2.1) Ar300.2.2 (own_inb S300 M300 (by decide)) (own_get H300 S300 (by decide) rfl) (g := (mkF m 388 #[.val (.long i0), .second, .val (.long i1), .second, .val (.long i2), .second, .val (.long i3), .second, iv i4, iv i5, rv b1, rv b17_1, rv b17_2, rv b17_3, iv oldS, iv oldN, iv lst, iv tff, iv (1 : Int32), .unset] [(.int (0 : Int32)), (.ref b17_2)])) rfl rfl (hb hby at_388) _ ?_
    show own_s p e below T294 m 389 #[.val (.long i0), .second, .val (.long i1), .second, .val (.long i2), .second, .val (.long i3), .second, iv i4, iv i5, rv b1, rv b17_1, rv b17_2, rv b17_3, iv oldS, iv oldN, iv lst, iv tff, iv (1 : Int32), .unset] [(.long i2)] _
    refine XS.lload X294.here hx rfl (hb hby at_389) rfl ?_
    show own_s p e below T294 m 391 #[.val (.long i0), .second, .val (.long i1), .second, .val (.long i2), .second, .val (.long i3), .second, iv i4, iv i5, rv b1, rv b17_1, rv b17_2, rv b17_3, iv oldS, iv oldN, iv lst, iv tff, iv (1 : Int32), .unset] [(.long i2), (.long i2)] _
    refine XS.lcmp X294.here hx rfl (hb hby at_391) rfl ?_
    show own_s p e below T294 m 392 #[.val (.long i0), .second, .val (.long i1), .second, .val (.long i2), .second, .val (.long i3), .second, iv i4, iv i5, rv b1, rv b17_1, rv b17_2, rv b17_3, iv oldS, iv oldN, iv lst, iv tff, iv (1 : Int32), .unset] [(.int (lcmpW i2 i2))] _
    refine XS.ifNo X294.here hx rfl (hb hby at_392) rfl ((if0 _ _).trans (teq ((lw_eq _ _).mpr rfl)).2) ?_
    show own_s p e below T294 m 395 #[.val (.long i0), .second, .val (.long i1), .second, .val (.long i2), .second, .val (.long i3), .second, iv i4, iv i5, rv b1, rv b17_1, rv b17_2, rv b17_3, iv oldS, iv oldN, iv lst, iv tff, iv (1 : Int32), .unset] [] _
    refine XS.aload X294.here hx rfl (hb hby at_395) rfl rfl ?_
    show own_s p e below T294 m 397 #[.val (.long i0), .second, .val (.long i1), .second, .val (.long i2), .second, .val (.long i3), .second, iv i4, iv i5, rv b1, rv b17_1, rv b17_2, rv b17_3, iv oldS, iv oldN, iv lst, iv tff, iv (1 : Int32), .unset] [(.ref b17_2)] _
    refine XS.bipush X294.here hx rfl (hb hby at_397) ?_
    exact kX
  obtain ⟨cl302, Ar302, S302, M302, H302⟩ := id f282_A
  have pre304 : ∀ t, own_s p e below T294 m 428 #[.val (.long i0), .second, .val (.long i1), .second, .val (.long i2), .second, .val (.long i3), .second, iv i4, iv i5, rv b1, rv b17_1, rv b17_2, rv b17_3, iv oldS, iv oldN, iv lst, iv tff, iv (1 : Int32), iv (1 : Int32)] [(.int (1 : Int32))] t → Steps p.tables e below S0 t := by
    intro tX kX
    refine pre303 _ ?_
    show own_s p e below T294 m 399 #[.val (.long i0), .second, .val (.long i1), .second, .val (.long i2), .second, .val (.long i3), .second, iv i4, iv i5, rv b1, rv b17_1, rv b17_2, rv b17_3, iv oldS, iv oldN, iv lst, iv tff, iv (1 : Int32), .unset] [(.int (15 : Int32)), (.ref b17_2)] _
    refine X294.laload hx (j := (15 : Int32)) (v := (.long i3)) (by rw [e294]; exact Ar302.1) (State.isArrayOf_alike hZ.alike Ar302.2.1) Ar302.2.2 (own_inb S302 M302 (by decide)) (own_get H302 S302 (by decide) rfl) (g := (mkF m 399 #[.val (.long i0), .second, .val (.long i1), .second, .val (.long i2), .second, .val (.long i3), .second, iv i4, iv i5, rv b1, rv b17_1, rv b17_2, rv b17_3, iv oldS, iv oldN, iv lst, iv tff, iv (1 : Int32), .unset] [(.int (15 : Int32)), (.ref b17_2)])) rfl rfl (hb hby at_399) _ ?_
    show own_s p e below T294 m 400 #[.val (.long i0), .second, .val (.long i1), .second, .val (.long i2), .second, .val (.long i3), .second, iv i4, iv i5, rv b1, rv b17_1, rv b17_2, rv b17_3, iv oldS, iv oldN, iv lst, iv tff, iv (1 : Int32), .unset] [(.long i3)] _
    refine XS.lload X294.here hx rfl (hb hby at_400) rfl ?_
    show own_s p e below T294 m 402 #[.val (.long i0), .second, .val (.long i1), .second, .val (.long i2), .second, .val (.long i3), .second, iv i4, iv i5, rv b1, rv b17_1, rv b17_2, rv b17_3, iv oldS, iv oldN, iv lst, iv tff, iv (1 : Int32), .unset] [(.long i3), (.long i3)] _
    refine XS.lcmp X294.here hx rfl (hb hby at_402) rfl ?_
    show own_s p e below T294 m 403 #[.val (.long i0), .second, .val (.long i1), .second, .val (.long i2), .second, .val (.long i3), .second, iv i4, iv i5, rv b1, rv b17_1, rv b17_2, rv b17_3, iv oldS, iv oldN, iv lst, iv tff, iv (1 : Int32), .unset] [(.int (lcmpW i3 i3))] _
    refine XS.ifNo X294.here hx rfl (hb hby at_403) rfl ((if0 _ _).trans (teq ((lw_eq _ _).mpr rfl)).2) ?_
    show own_s p e below T294 m 406 #[.val (.long i0), .second, .val (.long i1), .second, .val (.long i2), .second, .val (.long i3), .second, iv i4, iv i5, rv b1, rv b17_1, rv b17_2, rv b17_3, iv oldS, iv oldN, iv lst, iv tff, iv (1 : Int32), .unset] [] _
    refine XS.iconst X294.here hx rfl (hb hby at_406) ?_
    show own_s p e below T294 m 407 #[.val (.long i0), .second, .val (.long i1), .second, .val (.long i2), .second, .val (.long i3), .second, iv i4, iv i5, rv b1, rv b17_1, rv b17_2, rv b17_3, iv oldS, iv oldN, iv lst, iv tff, iv (1 : Int32), .unset] [(.int (1 : Int32))] _
    refine XS.goto X294.here hx rfl (pc0 := 407) (pc' := 411) rfl (hb hby at_407) (by decide) (by decide) ?_
    show own_s p e below T294 m 411 #[.val (.long i0), .second, .val (.long i1), .second, .val (.long i2), .second, .val (.long i3), .second, iv i4, iv i5, rv b1, rv b17_1, rv b17_2, rv b17_3, iv oldS, iv oldN, iv lst, iv tff, iv (1 : Int32), .unset] [(.int (1 : Int32))] _
    refine XS.istore X294.here hx rfl (hb hby at_411) rfl (l' := #[.val (.long i0), .second, .val (.long i1), .second, .val (.long i2), .second, .val (.long i3), .second, iv i4, iv i5, rv b1, rv b17_1, rv b17_2, rv b17_3, iv oldS, iv oldN, iv lst, iv tff, iv (1 : Int32), iv (1 : Int32)]) rfl ?_
    show own_s p e below T294 m 413 #[.val (.long i0), .second, .val (.long i1), .second, .val (.long i2), .second, .val (.long i3), .second, iv i4, iv i5, rv b1, rv b17_1, rv b17_2, rv b17_3, iv oldS, iv oldN, iv lst, iv tff, iv (1 : Int32), iv (1 : Int32)] [] _
    refine XS.iload X294.here hx rfl (hb hby at_413) rfl ?_
    show own_s p e below T294 m 415 #[.val (.long i0), .second, .val (.long i1), .second, .val (.long i2), .second, .val (.long i3), .second, iv i4, iv i5, rv b1, rv b17_1, rv b17_2, rv b17_3, iv oldS, iv oldN, iv lst, iv tff, iv (1 : Int32), iv (1 : Int32)] [(.int (1 : Int32))] _
    refine XS.ifNo X294.here hx rfl (hb hby at_415) rfl ((if0 _ _).trans (feq (by decide : ¬ ((1 : Int32) = (0 : Int32)))).1) ?_
    show own_s p e below T294 m 418 #[.val (.long i0), .second, .val (.long i1), .second, .val (.long i2), .second, .val (.long i3), .second, iv i4, iv i5, rv b1, rv b17_1, rv b17_2, rv b17_3, iv oldS, iv oldN, iv lst, iv tff, iv (1 : Int32), iv (1 : Int32)] [] _
    refine XS.iload X294.here hx rfl (hb hby at_418) rfl ?_
    show own_s p e below T294 m 420 #[.val (.long i0), .second, .val (.long i1), .second, .val (.long i2), .second, .val (.long i3), .second, iv i4, iv i5, rv b1, rv b17_1, rv b17_2, rv b17_3, iv oldS, iv oldN, iv lst, iv tff, iv (1 : Int32), iv (1 : Int32)] [(.int (1 : Int32))] _
    refine XS.ifNo X294.here hx rfl (hb hby at_420) rfl ((if0 _ _).trans (feq (by decide : ¬ ((1 : Int32) = (0 : Int32)))).1) ?_
    show own_s p e below T294 m 423 #[.val (.long i0), .second, .val (.long i1), .second, .val (.long i2), .second, .val (.long i3), .second, iv i4, iv i5, rv b1, rv b17_1, rv b17_2, rv b17_3, iv oldS, iv oldN, iv lst, iv tff, iv (1 : Int32), iv (1 : Int32)] [] _
    refine XS.iconst X294.here hx rfl (hb hby at_423) ?_
    show own_s p e below T294 m 424 #[.val (.long i0), .second, .val (.long i1), .second, .val (.long i2), .second, .val (.long i3), .second, iv i4, iv i5, rv b1, rv b17_1, rv b17_2, rv b17_3, iv oldS, iv oldN, iv lst, iv tff, iv (1 : Int32), iv (1 : Int32)] [(.int (1 : Int32))] _
    refine XS.goto X294.here hx rfl (pc0 := 424) (pc' := 428) rfl (hb hby at_424) (by decide) (by decide) ?_
    exact kX
  subst hS0
  obtain ⟨fs, hr, hrun, hended, hW, hsame⟩ := X294.leave (v := (some (.int (1 : Int32)))) (fun h => by rw [Bd.returns] at h; cases h)
  refine ⟨_, _, pre304 _ (retN X294 hx (t := .boolean) Bd.returns (by simp) (hb hby at_428) hr), hrun, hended, _, _, rfl, ?_, ⟨_, rfl⟩, hW, hsame.mono (by decide) (by decide)⟩
  show Q0 Z i0 i1 i2 i3 i4 i5 h0 n0 (some (.int (1 : Int32))) T294.heap _
  exact ⟨rfl, N279⟩
set_option maxRecDepth 65536 in
set_option maxHeartbeats 40000000 in
theorem comes_1 {Post : Tables → Env → Array Value → State → Outcome → State → Prop} (hpost : ∀ tb e args s v u, (limb_1_1.after args s (.returned v) u = true ∧ limb_1_2.after args s (.returned v) u = true ∧ True) → FrameEnd s (.returned v) u (Jvm.fieldLocs frame_1_writes args s ++ Jvm.arrayLocs frame_1_arrays args s ++ Jvm.staticLocs frame_1_statics s) 16 192 → Post tb e args s (.returned v) u) :
    ArmFor flags0 classFile x code maxLocals ret World_1 tables_1 room_1 Calls_1 rest_1 Pre_1 Post := by
  intro l hfl _ _ p e ha hc hk s m args below hf hA hF happ hP
  obtain ⟨hcalls, hrest, hpre⟩ := hP
  obtain ⟨-, -, -, hnamed, -, -, -, hat⟩ := (Spec.applies_iff hf).mp happ
  obtain ⟨hg, hn⟩ := and_e (Cond.before_iff.mp (show (Jvm.Cond.and given_1 narrow_1).before args s = true from hpre))
  obtain ⟨hcnt, q0⟩ := and_e hg
  obtain ⟨ha0, q1⟩ := and_e q0
  obtain ⟨ha1, q2⟩ := and_e q1
  obtain ⟨ha2, q3⟩ := and_e q2
  obtain ⟨ha3, q4⟩ := and_e q3
  obtain ⟨ha4, q5⟩ := and_e q4
  have ha5 := q5
  obtain ⟨w0, w1, w2, w3, w4, w5, rfl⟩ : ∃ w0 w1 w2 w3 w4 w5 : Value, args = #[w0, w1, w2, w3, w4, w5] := by
    have hs : args.size = 6 := by simpa [Cond.value, given_1] using hcnt
    obtain ⟨L⟩ := args
    match L, hs with
    | [w0, w1, w2, w3, w4, w5], _ => exact ⟨w0, w1, w2, w3, w4, w5, rfl⟩
  have hw := fun d (hd : d ∈ tables_1) => atoms_spec (ws := Jvm.Cond.code x code maxLocals ret :: tables_1) hat d (List.mem_cons_of_mem _ hd)
  have hfit : Fit s := fun {y c} hc i hi => by
    obtain ⟨ha, rfl⟩ := Array.getElem?_eq_some_iff.mp hc
    have q := List.all_eq_true.mp ((Array.all_eq_true_iff_forall_mem.mp hF) _ (Array.getElem_mem ha)) i (List.mem_range.mpr hi)
    simpa [Array.getElem?_eq_getElem hi] using q
  obtain ⟨i0, ei0⟩ := isL_v ha0
  obtain rfl : w0 = (.long i0) := Option.some.inj ei0
  obtain ⟨i1, ei1⟩ := isL_v ha1
  obtain rfl : w1 = (.long i1) := Option.some.inj ei1
  obtain ⟨i2, ei2⟩ := isL_v ha2
  obtain rfl : w2 = (.long i2) := Option.some.inj ei2
  obtain ⟨i3, ei3⟩ := isL_v ha3
  obtain rfl : w3 = (.long i3) := Option.some.inj ei3
  obtain ⟨i4, ei4⟩ := is_v ha4
  obtain rfl : w4 = (.int i4) := Option.some.inj ei4
  obtain ⟨i5, ei5⟩ := is_v ha5
  obtain rfl : w5 = (.int i5) := Option.some.inj ei5
  obtain ⟨n, o, h1, h2, h3, _, L, rfl, ⟨rfl, N⟩, hq⟩ := rm0 l s _ hw tables_1 i0 i1 i2 i3 i4 i5  s.heap s.heap.size (Nat.le_refl _)  p e ha hc hk s m _ below hf ((Spec.applies_iff_loose hf).mp happ).1 ⟨rfl, State.Warmed39.refl s, rfl⟩ trivial
  refine ⟨n, _, h1, h2, h3, hpost _ _ _ _ _ _ ⟨Cond.after_iff.mpr rfl, Cond.after_iff.mpr (eq_i res_at (Term.int_eval (1)) rfl), trivial⟩ ⟨hq.1, hq.2.1, (hq.2.2.sift fun y hy => Or.inr (N y hy)).mono (by decide) (by decide)⟩⟩
theorem main_1_1 : Claimed_1_1 := comes_1 fun _ _ _ _ _ _ h hF => ⟨h.1, hF⟩
theorem main_1_2 : Claimed_1_2 := comes_1 fun _ _ _ _ _ _ h hF => ⟨h.2.1, hF⟩
end Jvm.Pilot.@@N@@
namespace Jvm.Pilot.@@N@@
open Jvm Jvm.ClassFile Sem Op Lib Jvm.Free Jvm.Stand Jvm.Pilot.@@N@@.Jvm.D
/-! MADE BY PROGRAM (witnessworld.py) out of the Statement's table words and the real class files: 11 classes; the members and pool entries that the words name. The judged class is class 1, her method 1. -/
namespace start1
open Jvm.ClassFile
def u (s : String) : CpInfo := .utf8 (stringToUtf16 s)
/-- a pool by its gaps: so many unusable entries, then the entry; so many at the end -/
def gap : Nat → List CpInfo → List CpInfo
  | 0, r => r
  | n + 1, r => .unusable :: gap n r
def poolList (es : List (Nat × CpInfo)) (last : Nat) : List CpInfo := es.foldr (fun e r => gap e.1 (e.2 :: r)) (gap last [])
def pool (es : List (Nat × CpInfo)) (last : Nat) : Array CpInfo := ⟨poolList es last⟩
def fileOf (pool : Array CpInfo) (this : Nat) (attrs : Array Attribute := #[]) (ms : Array MethodInfo := #[]) (fl : Nat := 33) (sup : Nat := 0) (ifs : Array Nat := #[]) (fds : Array FieldInfo := #[]) : ClassFile where
  minorVersion := 0
  majorVersion := 65
  constantPool := pool
  accessFlags := fl
  thisClass := this
  superClass := sup
  interfaces := ifs
  fields := fds
  methods := ms
  attributes := attrs
def plain (name : String) (sup : Option ClassId) : Class where
  name := name
  kind := .ordinary
  loader := none
  accessFlags := 33
  super := sup
  interfaces := #[]
  cf := none
  fields := #[]
  methods := #[]
  instanceTypes := #[]
  staticTypes := #[]
  resolved := #[]
  callSites := []
  init := .initialized
  statics := none
  mirror := none

def pool0 : Array CpInfo := pool [(5, u "<init>"), (0, u "()V"), (1, .class_ 10), (1, u "java/lang/Object")] 113

def k0c0 : Code := { maxStack := 0, maxLocals := 1, code := object_method_1_code, exceptionTable := #[], attributes := #[] }
def k0m0 : Method := { name := "<init>", desc := "()V", sig := { parameters := [], returnType := none }, accessFlags := 1, code := some k0c0 }
/-- java/lang/Object -/
def k0 : Class := { plain "java/lang/Object" none with
  accessFlags := 33
  interfaces := #[]
  cf := some (fileOf pool0 8 #[] #[{ accessFlags := 1, nameIndex := 5, descriptorIndex := 6, attributes := #[] }] 33 0 #[] #[])
  fields := #[]
  methods := #[k0m0]
  instanceTypes := #[]
  staticTypes := #[]
  resolved := Array.replicate 124 none
  statics := none }

def pool1 : Array CpInfo := pool [(2, .class_ 4), (0, .nameAndType 5 6), (0, u "java/lang/Object"), (0, u "<init>"), (0, u "()V"), (0, .class_ 8), (0, u "com/example/weaverbird/weaverbird/engine/Frame"), (0, .methodref 7 3), (0, .fieldref 7 11), (0, .nameAndType 12 13), (0, u "state"), (0, u "[J"), (0, .fieldref 7 15), (0, .nameAndType 16 13), (0, u "next"), (0, .fieldref 7 18), (0, .nameAndType 19 20), (0, u "trail"), (0, u "[I"), (0, .fieldref 7 22), (0, .nameAndType 23 24), (0, u "size"), (0, u "I"), (0, .fieldref 7 26), (0, .nameAndType 27 24), (0, u "nextSize"), (0, .fieldref 7 29), (0, .nameAndType 30 31), (0, u "lost"), (0, u "Z"), (0, .fieldref 7 33), (0, .nameAndType 34 31), (0, u "textFaulted"), (0, .methodref 7 36), (0, .nameAndType 37 6), (0, u "advance"), (0, .fieldref 7 39), (0, .nameAndType 40 41), (0, u "learned"), (0, u "Lcom/example/weaverbird/weaverbird/engine/LearnedStates$State;"), (0, .fieldref 7 43), (0, .nameAndType 44 45), (0, u "model"), (0, u "Lcom/example/weaverbird/weaverbird/engine/ContentModel;"), (0, .fieldref 7 47), (0, .nameAndType 48 49), (0, u "namespace"), (0, u "Ljava/lang/String;"), (0, .fieldref 7 51), (0, .nameAndType 52 49), (0, u "localName"), (0, .class_ 54), (0, u "com/example/weaverbird/weaverbird/engine/FrameAdvancePinLaw"), (2, u "law"), (0, u "(JJJJII)Z")] 11

def k1m0 : Method := { name := "<init>", desc := "()V", sig := { parameters := [], returnType := none }, accessFlags := 1, code := none }
def k1c1 : Code := { maxStack := 4, maxLocals := 20, code := code, exceptionTable := #[], attributes := #[] }
def k1m1 : Method := { name := "law", desc := "(JJJJII)Z", sig := { parameters := [.long, .long, .long, .long, .int, .int], returnType := some .boolean }, accessFlags := 9, code := some k1c1 }
/-- com/example/weaverbird/weaverbird/engine/FrameAdvancePinLaw -/
def k1 : Class := { plain "com/example/weaverbird/weaverbird/engine/FrameAdvancePinLaw" (some 0) with
  accessFlags := 49
  interfaces := #[]
  cf := some (fileOf pool1 53 #[] #[{ accessFlags := 1, nameIndex := 5, descriptorIndex := 6, attributes := #[] }, { accessFlags := 9, nameIndex := 57, descriptorIndex := 58, attributes := #[] }] 49 2 #[] #[])
  fields := #[]
  methods := #[k1m0, k1m1]
  instanceTypes := #[]
  staticTypes := #[]
  resolved := Array.replicate 70 none
  statics := none }

def pool2 : Array CpInfo := pool [(1, .methodref 2 3), (0, .class_ 4), (0, .nameAndType 5 6), (0, u "java/lang/Object"), (0, u "<init>"), (0, u "()V"), (0, .fieldref 8 9), (0, .class_ 10), (0, .nameAndType 11 12), (0, u "com/example/weaverbird/weaverbird/engine/Frame"), (0, u "state"), (0, u "[J"), (0, .fieldref 8 14), (0, .nameAndType 15 12), (0, u "next"), (0, .fieldref 8 17), (0, .nameAndType 18 19), (0, u "trail"), (0, u "[I"), (2, u "model"), (0, u "Lcom/example/weaverbird/weaverbird/engine/ContentModel;"), (2, u "namespace"), (0, u "Ljava/lang/String;"), (2, u "localName"), (2, u "lost"), (0, u "Z"), (2, u "textFaulted"), (12, .class_ 51), (0, u "com/example/weaverbird/weaverbird/engine/Frame$Saved"), (5, u "learned"), (0, u "Lcom/example/weaverbird/weaverbird/engine/LearnedStates$State;"), (1, .fieldref 8 61), (0, .nameAndType 62 63), (0, u "size"), (0, u "I"), (21, .fieldref 8 86), (0, .nameAndType 87 63), (0, u "nextSize"), (38, u "advance")] 27

def k2c0 : Code := { maxStack := 2, maxLocals := 1, code := prog_13_method_1_code, exceptionTable := #[], attributes := #[] }
def k2m0 : Method := { name := "<init>", desc := "()V", sig := { parameters := [], returnType := none }, accessFlags := 0, code := some k2c0 }
def k2c1 : Code := { maxStack := 2, maxLocals := 2, code := prog_13_method_8_code, exceptionTable := #[], attributes := #[] }
def k2m1 : Method := { name := "advance", desc := "()V", sig := { parameters := [], returnType := none }, accessFlags := 0, code := some k2c1 }
/-- com/example/weaverbird/weaverbird/engine/Frame -/
def k2 : Class := { plain "com/example/weaverbird/weaverbird/engine/Frame" (some 0) with
  accessFlags := 32
  interfaces := #[]
  cf := some (fileOf pool2 8 #[.nestMembers #[50]] #[{ accessFlags := 0, nameIndex := 5, descriptorIndex := 6, attributes := #[] }, { accessFlags := 0, nameIndex := 126, descriptorIndex := 6, attributes := #[] }] 32 2 #[] #[{ accessFlags := 0, nameIndex := 22, descriptorIndex := 23, attributes := #[] }, { accessFlags := 0, nameIndex := 11, descriptorIndex := 12, attributes := #[] }, { accessFlags := 0, nameIndex := 62, descriptorIndex := 63, attributes := #[] }, { accessFlags := 0, nameIndex := 15, descriptorIndex := 12, attributes := #[] }, { accessFlags := 0, nameIndex := 87, descriptorIndex := 63, attributes := #[] }, { accessFlags := 0, nameIndex := 18, descriptorIndex := 19, attributes := #[] }, { accessFlags := 0, nameIndex := 57, descriptorIndex := 58, attributes := #[] }, { accessFlags := 0, nameIndex := 26, descriptorIndex := 27, attributes := #[] }, { accessFlags := 0, nameIndex := 30, descriptorIndex := 27, attributes := #[] }, { accessFlags := 0, nameIndex := 33, descriptorIndex := 34, attributes := #[] }, { accessFlags := 0, nameIndex := 37, descriptorIndex := 34, attributes := #[] }])
  fields := #[{ name := "model", type := (.object "com/example/weaverbird/weaverbird/engine/ContentModel"), accessFlags := 0, slot := 0, constantValue := 0 }, { name := "state", type := (.array .long), accessFlags := 0, slot := 1, constantValue := 0 }, { name := "size", type := .int, accessFlags := 0, slot := 2, constantValue := 0 }, { name := "next", type := (.array .long), accessFlags := 0, slot := 3, constantValue := 0 }, { name := "nextSize", type := .int, accessFlags := 0, slot := 4, constantValue := 0 }, { name := "trail", type := (.array .int), accessFlags := 0, slot := 5, constantValue := 0 }, { name := "learned", type := (.object "com/example/weaverbird/weaverbird/engine/LearnedStates$State"), accessFlags := 0, slot := 6, constantValue := 0 }, { name := "namespace", type := (.object "java/lang/String"), accessFlags := 0, slot := 7, constantValue := 0 }, { name := "localName", type := (.object "java/lang/String"), accessFlags := 0, slot := 8, constantValue := 0 }, { name := "lost", type := .boolean, accessFlags := 0, slot := 9, constantValue := 0 }, { name := "textFaulted", type := .boolean, accessFlags := 0, slot := 10, constantValue := 0 }]
  methods := #[k2m0, k2m1]
  instanceTypes := #[(.object "com/example/weaverbird/weaverbird/engine/ContentModel"), (.array .long), .int, (.array .long), .int, (.array .int), (.object "com/example/weaverbird/weaverbird/engine/LearnedStates$State"), (.object "java/lang/String"), (.object "java/lang/String"), .boolean, .boolean]
  staticTypes := #[]
  resolved := Array.replicate 154 none
  statics := none }

def pool3 : Array CpInfo := pool [(1, u "java/lang/Cloneable"), (0, .class_ 1), (0, u "java/lang/Object"), (0, .class_ 3)] 3

/-- java/lang/Cloneable -/
def k3 : Class := { plain "java/lang/Cloneable" (some 0) with
  accessFlags := 1537
  interfaces := #[]
  cf := some (fileOf pool3 2 #[] #[] 1537 4 #[] #[])
  fields := #[]
  methods := #[]
  instanceTypes := #[]
  staticTypes := #[]
  resolved := Array.replicate 8 none
  statics := none }

def pool4 : Array CpInfo := pool [(1, u "java/io/Serializable"), (0, .class_ 1), (0, u "java/lang/Object"), (0, .class_ 3)] 3

/-- java/io/Serializable -/
def k4 : Class := { plain "java/io/Serializable" (some 0) with
  accessFlags := 1537
  interfaces := #[]
  cf := some (fileOf pool4 2 #[] #[] 1537 4 #[] #[])
  fields := #[]
  methods := #[]
  instanceTypes := #[]
  staticTypes := #[]
  resolved := Array.replicate 8 none
  statics := none }

/-- the primitive byte -/
def k5 : Class := { plain "byte" none with kind := .primitive 'B', accessFlags := 0x411 }
/-- [B -/
def k6 : Class := { plain "[B" (some 0) with kind := .array 5 .byte, interfaces := #[3, 4], accessFlags := 1041 }

/-- the primitive int -/
def k7 : Class := { plain "int" none with kind := .primitive 'I', accessFlags := 0x411 }
/-- [I -/
def k8 : Class := { plain "[I" (some 0) with kind := .array 7 .int, interfaces := #[3, 4], accessFlags := 1041 }

/-- the primitive long -/
def k9 : Class := { plain "long" none with kind := .primitive 'J', accessFlags := 0x411 }
/-- [J -/
def k10 : Class := { plain "[J" (some 0) with kind := .array 9 .long, interfaces := #[3, 4], accessFlags := 1041 }

def heap : Heap := #[]
def classes : Array Class := #[k0, k1, k2, k3, k4, k5, k6, k7, k8, k9, k10]
def interned : List (Array UInt16 × Addr) := []
def slotsUsed : Nat := 0
def theMethod : MethodId := ⟨1, 1⟩
def args0 : Array Value := #[.long 5, .long 6, .long 7, .long 8, .int 9, .int 3]
def aboutOver (below : List Frame) : State where
  vm := { classes := classes, interned := interned.toArray }
  heap := heap
  slotsUsed := slotsUsed
  threads := #[{ frames := .invoking theMethod args0 :: below }]
def below0 : List Frame := [.native { method := ⟨0, 0⟩, args := #[] }]
def about1 : State := aboutOver below0
def p0 : Program := .bare "" "" ""
def e0 : Env := launch0.env 0 0 0
theorem w_frames : about1.frames = Frame.invoking theMethod args0 :: below0 := rfl
set_option maxRecDepth 65536 in
theorem w_args : argsFit about1.vm theMethod args0 = true := by decide +kernel
set_option maxRecDepth 65536 in
theorem w_heap : heapFits about1 = true := by decide +kernel
set_option maxRecDepth 65536 in
theorem w_runnable : about1.curStatus? = some .runnable := by decide +kernel
set_option maxRecDepth 65536 in
theorem w_alone : about1.alone = true := by decide +kernel
set_option maxRecDepth 65536 in
theorem w_named : about1.methodNamed? x = some theMethod := by decide +kernel
set_option maxRecDepth 65536 in
theorem w_hears : about1.hears theMethod below0 = true := by decide +kernel
set_option maxRecDepth 65536 in
theorem w_ripe : about1.ripe theMethod args0 below0 = true := by decide +kernel
theorem w_running : about1.status = .running := rfl
set_option maxRecDepth 65536 in
theorem w_room : about1.hasRoom e0.platform room_1 = true :=
  launch0.hasRoom_least _ room_1 (by decide +kernel) (by decide +kernel) (by decide +kernel) (by decide +kernel) (by decide +kernel) (by decide +kernel)
theorem allAtoms_all (ts : List Jvm.Cond) (a : Array Jvm.Value) (st : Jvm.State) : (allAtoms ts).before a st = ts.all (fun c => c.before a st) := by
  induction ts with
  | nil => rfl
  | cons c t ih =>
    show (Jvm.Cond.and c (allAtoms t)).before a st = _
    rw [Jvm.Cond.before_and, ih, List.all_cons]
def words1 : List Jvm.Cond := Jvm.Cond.code x code maxLocals ret :: tables_1
/-- a 'code' word, met by the world's own term for the bytes: nothing is compared byte by byte -/
theorem code_word {y : MethodName} {bytes : ByteArray} {mx : Nat} {rt : Option FieldType} {a : Array Value} {s : State} {m : MethodId} {meth : Method} {c : Code} (h1 : s.methodNamed? y = some m) (h2 : s.vm.method? m = some meth) (h3 : meth.code = some c) (h4 : c.code = bytes)
    (h5 : (c.maxLocals == mx && c.exceptionTable.isEmpty && decide (c.maxStack ≤ mostOperands) && decide (meth.sig.returnType = rt) && !meth.locks && decide (parseMethodDescriptor y.desc = some meth.sig)) = true) : (Jvm.Cond.code y bytes mx rt).before a s = true := by
  simp only [Bool.and_eq_true, beq_iff_eq, Bool.not_eq_true', decide_eq_true_eq] at h5
  obtain ⟨⟨⟨⟨⟨g1, g2⟩, g3⟩, g4⟩, g5⟩, g6⟩ := h5
  simp [Cond.before, Cond.holds, Cond.value, h1, h2, h3, h4, g1, g2, g3, g4, g5, g6]
def isCode : Jvm.Cond → Bool
  | .code _ _ _ _ => true
  | _ => false
theorem all_split {L : List Jvm.Cond} {P : Jvm.Cond → Bool} (h1 : L.all (fun c => isCode c || P c) = true) (h2 : ∀ c ∈ L.filter isCode, P c = true) : L.all P = true := by
  refine List.all_eq_true.mpr fun c hc => ?_
  have h := List.all_eq_true.mp h1 c hc
  rcases Bool.eq_false_or_eq_true (isCode c) with hi | hi
  · exact h2 c (List.mem_filter.mpr ⟨hc, hi⟩)
  · simpa [hi] using h
set_option maxRecDepth 65536 in
theorem w_c0 : (Jvm.Cond.code x code maxLocals ret).before args0 about1 = true := code_word (m := ⟨1, 1⟩) (meth := k1m1) (c := k1c1) (by decide +kernel) rfl rfl rfl (by decide +kernel)
set_option maxRecDepth 65536 in
theorem w_c1 : (Jvm.Cond.code ({ cls := "com/example/weaverbird/weaverbird/engine/Frame", name := "<init>", desc := "()V" } : Jvm.MethodName) prog_13_method_1_code (1 : Nat) (Option.none : Option Jvm.ClassFile.FieldType)).before args0 about1 = true := code_word (m := ⟨2, 0⟩) (meth := k2m0) (c := k2c0) (by decide +kernel) rfl rfl rfl (by decide +kernel)
set_option maxRecDepth 65536 in
theorem w_c2 : (Jvm.Cond.code ({ cls := "java/lang/Object", name := "<init>", desc := "()V" } : Jvm.MethodName) object_method_1_code (1 : Nat) (Option.none : Option Jvm.ClassFile.FieldType)).before args0 about1 = true := code_word (m := ⟨0, 0⟩) (meth := k0m0) (c := k0c0) (by decide +kernel) rfl rfl rfl (by decide +kernel)
set_option maxRecDepth 65536 in
theorem w_c3 : (Jvm.Cond.code ({ cls := "com/example/weaverbird/weaverbird/engine/Frame", name := "advance", desc := "()V" } : Jvm.MethodName) prog_13_method_8_code (2 : Nat) (Option.none : Option Jvm.ClassFile.FieldType)).before args0 about1 = true := code_word (m := ⟨2, 1⟩) (meth := k2m1) (c := k2c1) (by decide +kernel) rfl rfl rfl (by decide +kernel)
def codes1 : List Jvm.Cond := [Jvm.Cond.code x code maxLocals ret, Jvm.Cond.code ({ cls := "com/example/weaverbird/weaverbird/engine/Frame", name := "<init>", desc := "()V" } : Jvm.MethodName) prog_13_method_1_code (1 : Nat) (Option.none : Option Jvm.ClassFile.FieldType), Jvm.Cond.code ({ cls := "java/lang/Object", name := "<init>", desc := "()V" } : Jvm.MethodName) object_method_1_code (1 : Nat) (Option.none : Option Jvm.ClassFile.FieldType), Jvm.Cond.code ({ cls := "com/example/weaverbird/weaverbird/engine/Frame", name := "advance", desc := "()V" } : Jvm.MethodName) prog_13_method_8_code (2 : Nat) (Option.none : Option Jvm.ClassFile.FieldType)]
set_option maxRecDepth 65536 in
theorem codes_eq : words1.filter isCode = codes1 := rfl
theorem w_codes : ∀ c ∈ words1.filter isCode, c.before args0 about1 = true := by
  rw [codes_eq]
  intro c hc
  simp only [codes1, List.mem_cons, List.not_mem_nil, or_false] at hc
  rcases hc with rfl | rfl | rfl | rfl
  · exact w_c0
  · exact w_c1
  · exact w_c2
  · exact w_c3
set_option maxRecDepth 65536 in
theorem w_t1 : (words1.take 24).all (fun c => isCode c || c.before args0 about1) = true := by decide +kernel
set_option maxRecDepth 65536 in
theorem w_t2 : (words1.drop 24).all (fun c => isCode c || c.before args0 about1) = true := by decide +kernel
theorem w_tables : (allAtoms (Jvm.Cond.code x code maxLocals ret :: tables_1)).before args0 about1 = true := by
  rw [allAtoms_all]
  show words1.all (fun c => c.before args0 about1) = true
  refine all_split ?_ w_codes
  rw [← List.take_append_drop 24 words1, List.all_append, w_t1, w_t2]
  rfl
set_option maxRecDepth 65536 in
theorem w_case : (Jvm.Cond.and given_1 narrow_1).before args0 about1 = true := by decide +kernel
theorem w_applies : (headSpec (Jvm.Cond.code x code maxLocals ret :: tables_1) room_1).applies x e0.platform about1 = true :=
  (Spec.applies_iff w_frames).mpr ⟨w_running, w_runnable, w_alone, w_named, w_hears, w_ripe, w_room, w_tables⟩
theorem atStart : AtStart classFile x code maxLocals ret World_1 tables_1 room_1 Calls_1 rest_1 Pre_1 launch0 p0 e0 about1 theMethod args0 below0 :=
  ⟨lists_1, trivial, launch0.admits_env _ _ _, launch0.least_env, fairChoices_fair.cas, fairChoices_fair.clock, w_frames, w_args, w_heap, w_applies, trivial, trivial, w_case⟩
end start1
theorem witness_1 : WitnessClaimed_1 := ⟨start1.p0, start1.e0, start1.about1, start1.theMethod, start1.args0, start1.below0, start1.atStart⟩
end Jvm.Pilot.@@N@@
