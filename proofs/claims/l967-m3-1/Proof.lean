import JvmDerived
import JvmDerived.Pilot.@@N@@Statement
import JvmDerived.Pilot.@@N@@Code
set_option linter.unusedVariables false
set_option linter.unusedSimpArgs false
namespace Jvm.RoadKit
open Sem ClassFile Op Lib Jvm.Stand Jvm.Free Jvm.LawKit
section New
variable {p : Program} {l : Launch} {e : Env} {R : Room} {s : State} {m : MethodId} {args : Array Value} {below : List Frame} {meth : Method} {c : Code} {T : State} {locs : List Loc} {cells slots : Nat}
theorem retI (X : Stand p l e R s m args below meth c T locs cells slots) (hx : p.tables.exec = Jvm.exec) {pc : Nat} {Ls : Array Slot} {z : Int32} {rest : List Value} (hret : meth.sig.returnType = some .int) (hd : decode c.code pc = .ok (.ireturn, 1)) {fs : List Frame}
    (hl : ∀ (f : JFrame) (acts : List Action), f.method = m → f.locked = none → f.entered = [] → (doReturn e (T.setTop f) acts (some (.int z))).1 = T.setFrames fs) : Steps p.tables e below (T.setTop (mkF m pc Ls (.int z :: rest))) (T.setFrames fs) := by
  have hm' : T.vm.method? m = some meth := X.method'
  have hn : narrow .int (.int z) = .int z := rfl
  show Steps p.tables e below (T.setTop { method := m, pc := pc, locals := Ls, stack := _ :: rest, locked := none }) _
  jvm_step X.here [X.here.top, hx, hd, hm', hret, hn]
  first | (intro acts; rw [hl _ acts rfl rfl rfl]) | rw [hl _ _ rfl rfl rfl]
  exact Steps.refl _
end New
end Jvm.RoadKit
namespace Jvm.Pilot.@@N@@
open Jvm Jvm.ClassFile Sem Op Lib Jvm.Free Jvm.Stand Jvm.LawKit Jvm.RoadKit Bundle Jvm.Pilot.@@N@@.Jvm.D
abbrev own_s (p : Program) (e : Env) (below : List Frame) (T : State) (m : MethodId) (pc : Nat) (L : Array Slot) (S : List Value) (t : State) : Prop := Steps p.tables e below (T.setTop (mkF m pc L S)) t
theorem own_fit {C : String} {v : Value} (h : v.isRef = true) : fits (.object C) v = true := by rcases ref_cases h with rfl | ⟨_, rfl⟩ <;> rfl
theorem own_cat1 {v : Value} (h : v.isRef = true) : v.category = 1 := by rcases ref_cases h with rfl | ⟨_, rfl⟩ <;> rfl
theorem own_narR {t : FieldType} {v : Value} (h : v.isRef = true) : narrow t v = v := by cases v <;> first | (cases t <;> rfl) | (cases h)
theorem own_selP {s : State} {args : Array Value} {y : MethodName} {n : Nat} (hins : (Jvm.Cond.instantiable y.cls n).before args s = true) (hpriv : s.PrivateAt y) (hinst : (Jvm.Cond.instanceMethod y).before args s = true) (hy : y.cls ≠ "java/lang/invoke/MethodHandle" ∧ y.cls ≠ "java/lang/invoke/VarHandle") : (Jvm.Cond.selects y.cls y y).before args s = true := by
  obtain ⟨c, k, hc, hk, -, hniab, -, -⟩ := Cond.instantiable_spec hins
  exact selects_self_of_private hc hk (Bool.or_eq_false_iff.mp hniab).1 hpriv hinst hy
def own_up (f : Nat → Value) (i : Nat) (v : Value) : Nat → Value := fun j => if j = i then v else f j
def own_Af (Z : State) (h : Heap) (a : Addr) (ty : FieldType) (n : Nat) (f : Nat → Value) : Prop := ∃ c : Cell, Arr Z h a c ty ∧ c.slots.size = n ∧ n < 2 ^ 31 ∧ ∀ j, j < n → c.slots[j]? = some (f j)
theorem own_Af.lt {Z : State} {h : Heap} {a : Addr} {ty : FieldType} {n : Nat} {f : Nat → Value} (F : own_Af Z h a ty n f) : a < h.size := by obtain ⟨c, A, -⟩ := F; exact A.lt
theorem own_Af.ext {Z : State} {h h' : Heap} {a : Addr} {ty : FieldType} {n : Nat} {f : Nat → Value} (F : own_Af Z h a ty n f) (E : Ext h h') : own_Af Z h' a ty n f := by obtain ⟨c, A, r⟩ := F; exact ⟨c, A.ext E, r⟩
theorem own_Af.other {Z : State} {h h' : Heap} {a b : Addr} {ty : FieldType} {n : Nat} {f : Nat → Value} {sl : Nat} {v : Value} (F : own_Af Z h b ty n f) (W : Wr h h' a sl v) (q : b ≠ a) : own_Af Z h' b ty n f := by obtain ⟨c, A, r⟩ := F; exact ⟨c, A.other W q, r⟩
theorem own_Af.keep {Z : State} {h h' : Heap} {a : Addr} {ty : FieldType} {n : Nat} {f : Nat → Value} {ws : List Addr} (F : own_Af Z h a ty n f) (K : Keep h h' ws) (q : a ∉ ws) : own_Af Z h' a ty n f := by obtain ⟨c, A, r⟩ := F; exact ⟨c, ⟨K.2.1 a c A.1 q, A.2⟩, r⟩
theorem own_Af.new {Z : State} {h : Heap} {a : Addr} {ty : FieldType} {k : ClassId} {z : Int32} {n : Nat} {d : Value} (A : Arr Z h a (newA k ty z) ty) (q : ¬ z < 0) (hn : z.toNatClampNeg = n) (hd : defaultValue ty = d := by rfl) : own_Af Z h a ty n (fun _ => d) := by
  subst hn hd
  refine ⟨_, A, sz_new _ _ _, (back32 q).2, fun j hj => ?_⟩
  simp [newA, hj]
theorem own_Af.set {Z : State} {h h' : Heap} {a : Addr} {ty : FieldType} {n i : Nat} {f : Nat → Value} {v : Value} {c : Cell} (A : Arr Z h a c ty) (S : c.slots.size = n) (M : n < 2 ^ 31) (H : ∀ j, j < n → c.slots[j]? = some (f j)) (W : Wr h h' a i v) : own_Af Z h' a ty n (own_up f i v) := by
  refine ⟨_, A.same W, by rw [sz_set]; exact S, M, fun j hj => ?_⟩
  have := H j hj
  simp only [own_up, Cell.setSlot]
  by_cases e : j = i
  · subst e; simp [Array.getElem?_setIfInBounds, S, hj]
  · rw [if_neg e, Array.getElem?_setIfInBounds, if_neg (fun q => e q.symm)]; exact this
theorem own_inb {c : Cell} {n : Nat} {j : Int32} (S : c.slots.size = n) (M : n < 2 ^ 31) (q : ¬ j < 0 ∧ j.toNatClampNeg < n) : ¬ (j < 0 ∨ c.slots.size ≤ j.toNatClampNeg) := by
  rw [S]; exact fun z => z.elim q.1 (fun w => absurd q.2 (Nat.not_lt.mpr w))
theorem own_get {c : Cell} {n : Nat} {f : Nat → Value} {j : Int32} {v : Value} (H : ∀ j, j < n → c.slots[j]? = some (f j)) (S : c.slots.size = n) (q : ¬ j < 0 ∧ j.toNatClampNeg < n) (e : f j.toNatClampNeg = v) : c.slots[j.toNatClampNeg]? = some v := by
  rw [H _ q.2, e]
theorem own_nat {j : Int32} {n : Nat} (h : j.toInt = n) : j.toNatClampNeg = n := by simp only [Int32.toNatClampNeg]; omega
theorem own_ofn {n : Nat} (h : n < 2 ^ 31) : (Int32.ofNat n).toInt = n := Int32.toInt_ofNat_of_lt h
theorem own_of {j : Int32} {n : Nat} (hn : n < 2 ^ 31) (h : j.toInt = n) : j = Int32.ofNat n := Int32.toInt_inj.mp (h.trans (own_ofn hn).symm)
theorem own_idx {j : Int32} {n : Nat} (h0 : 0 ≤ j.toInt) (h1 : j.toInt < n) : ¬ j < 0 ∧ j.toNatClampNeg < n := by
  have q : ¬ j < 0 := fun w => by have := Int32.lt_iff_toInt_lt.mp w; have e : (0 : Int32).toInt = 0 := rfl; omega
  exact ⟨q, by have := nat_of q; omega⟩
def own_min (x y : Int32) : Int32 := if y < x then y else x
def own_upi (g : Nat → Int32) (i : Nat) (z : Int32) : Nat → Int32 := fun j => if j = i then z else g j
theorem own_upI {g : Nat → Int32} {i : Nat} {z : Int32} : own_up (fun j => .int (g j)) i (.int z) = fun j => .int (own_upi g i z j) := by
  funext j; unfold own_up own_upi; by_cases e : j = i
  · rw [if_pos e, if_pos e]
  · rw [if_neg e, if_neg e]
def own_by (v : Int32) (k : Nat) : Int32 := if k = 0 then ((v.toUInt32 >>> ((24 : Int32) &&& 31).toUInt32).toInt32).toInt8.toInt32 else if k = 1 then ((v.toUInt32 >>> ((16 : Int32) &&& 31).toUInt32).toInt32).toInt8.toInt32 else if k = 2 then ((v.toUInt32 >>> ((8 : Int32) &&& 31).toUInt32).toInt32).toInt8.toInt32 else v.toInt8.toInt32
theorem own_nn (x : Int32) : nar .byte (x.toInt8.toInt32) = x.toInt8.toInt32 := by show x.toInt8.toInt32.toInt8.toInt32 = _; rw [Int8.toInt8_toInt32]
theorem own_fby (v : Int32) (k : Nat) : fits .byte (.int (own_by v k)) = true := by
  unfold own_by; split
  · exact fits_nar_byte _
  · split
    · exact fits_nar_byte _
    · split <;> exact fits_nar_byte _
def own_put (g : Nat → Int32) (i : Nat) (v : Int32) : Nat → Int32 := own_upi (own_upi (own_upi (own_upi g i (own_by v 0)) (i + 1) (own_by v 1)) (i + 2) (own_by v 2)) (i + 3) (own_by v 3)
theorem own_fup {g : Nat → Int32} (h : ∀ j, fits .byte (.int (g j)) = true) (i : Nat) {z : Int32} (hz : fits .byte (.int z) = true) : ∀ j, fits .byte (.int (own_upi g i z j)) = true := fun j => by
  unfold own_upi; by_cases e : j = i
  · rw [if_pos e]; exact hz
  · rw [if_neg e]; exact h j
theorem own_fput {g : Nat → Int32} (h : ∀ j, fits .byte (.int (g j)) = true) (i : Nat) (v : Int32) : ∀ j, fits .byte (.int (own_put g i v j)) = true := own_fup (own_fup (own_fup (own_fup h _ (own_fby _ _)) _ (own_fby _ _)) _ (own_fby _ _)) _ (own_fby _ _)
theorem own_put_out {g : Nat → Int32} {i : Nat} {v : Int32} {j : Nat} (h : j < i ∨ i + 4 ≤ j) : own_put g i v j = g j := by
  unfold own_put own_upi; rw [if_neg (by omega), if_neg (by omega), if_neg (by omega), if_neg (by omega)]
theorem own_put_in {g : Nat → Int32} {i : Nat} {v : Int32} {j : Nat} (h0 : i ≤ j) (h : j < i + 4) : own_put g i v j = own_by v (j - i) := by
  obtain ⟨k, rfl⟩ : ∃ k, j = i + k := ⟨j - i, by omega⟩
  rw [show i + k - i = k from by omega]
  rcases (by omega : k = 0 ∨ k = 1 ∨ k = 2 ∨ k = 3) with rfl | rfl | rfl | rfl
  · unfold own_put own_upi; rw [if_neg (by omega), if_neg (by omega), if_neg (by omega), if_pos (by omega)]
  · unfold own_put own_upi; rw [if_neg (by omega), if_neg (by omega), if_pos (by omega)]
  · unfold own_put own_upi; rw [if_neg (by omega), if_pos (by omega)]
  · unfold own_put own_upi; rw [if_pos (by omega)]
theorem own_arv {Z : State} {h : Heap} {a : Addr} {n : Nat} {g : Nat → Int32} (F : own_Af Z h a .byte n (fun j => .int (g j))) (hg : ∀ j, fits .byte (.int (g j)) = true) : ∃ k, Arv Z h a k .byte (Int32.ofNat n) ((List.range n).map fun j => .int (g j)) (.int (0 : Int32)) := by
  obtain ⟨c, A, S, M, H⟩ := F
  have hv : ∀ i, i < n → ((List.range n).map fun j => Value.int (g j)).getD i (.int (0 : Int32)) = .int (g i) := fun i hi => by simp [List.getD, hi]
  have e := own_ofn M
  refine ⟨c.cls, c, A, rfl, ?_, ?_, ?_, ?_⟩
  · rw [S, own_nat e]
  · exact fun w => by have := Int32.lt_iff_toInt_lt.mp w; have z : (0 : Int32).toInt = 0 := rfl; omega
  · intro i hi; rw [S] at hi; rw [H i hi, hv i hi]
  · intro i hi; rw [S] at hi; rw [hv i hi]; exact hg i
theorem own_ofarv {Z : State} {h : Heap} {a : Addr} {k : ClassId} {ty : FieldType} {z : Int32} {vs : List Value} {d : Value} (F : Arv Z h a k ty z vs d) {n : Nat} (hz : z.toNatClampNeg = n) {f : Nat → Value} (hf : ∀ j, j < n → vs.getD j d = f j) : own_Af Z h a ty n f := by
  obtain ⟨c, A, -, S, N, H, -⟩ := F
  refine ⟨c, A, S.trans hz, hz ▸ (back32 N).2, fun j hj => ?_⟩
  rw [H j (by rw [S, hz]; exact hj), hf j hj]
theorem own_cp {g : Nat → Int32} {S n N : Nat} {sp nn dp : Int32} {vd : List Value} (hs : sp.toNatClampNeg = S) (hn : nn.toNatClampNeg = n) (hd : dp.toNatClampNeg = 0) (hN : S + n ≤ N) : ∀ j, j < n → (vd.take dp.toNatClampNeg ++ ((List.range nn.toNatClampNeg).map fun i => ((List.range N).map fun j => Value.int (g j)).getD (sp.toNatClampNeg + i) (.int (0 : Int32))) ++ vd.drop (dp.toNatClampNeg + nn.toNatClampNeg)).getD j (.int (0 : Int32)) = .int (g (S + j)) := by
  intro j hj
  rw [hs, hn, hd, List.take_zero, List.nil_append, List.getD_eq_getElem?_getD, List.getElem?_append_left (by simpa using hj), List.getElem?_map, List.getElem?_range hj]
  have h2 : S + j < N := by omega
  simp [List.getD, h2]
theorem d1_0 : decode jdk_29_method_69_code 0 = .ok (.iload_n 0, 1) := by decide +kernel
theorem d1_1 : decode jdk_29_method_69_code 1 = .ok (.iload_n 1, 1) := by decide +kernel
theorem d1_2 : decode jdk_29_method_69_code 2 = .ok (.if_icmp .gt 7, 3) := by decide +kernel
theorem d1_5 : decode jdk_29_method_69_code 5 = .ok (.iload_n 0, 1) := by decide +kernel
theorem d1_6 : decode jdk_29_method_69_code 6 = .ok (.goto 4, 3) := by decide +kernel
theorem d1_9 : decode jdk_29_method_69_code 9 = .ok (.iload_n 1, 1) := by decide +kernel
theorem d1_10 : decode jdk_29_method_69_code 10 = .ok (.ireturn, 1) := by decide +kernel
theorem ef_1 (m : MethodId) (p0 : Int32) (p1 : Int32) : entryFrame m #[(.int p0), (.int p1)] 2 = mkF m 0 #[iv p0, iv p1] [] := by first | (simp [entryFrame, mkF, argsToLocals, Value.category]; done) | rfl
def Q1 (Z : State) (p0 : Int32) (p1 : Int32) (h0 : Heap) (n0 : Nat) (v : Option Value) (h : Heap) (L : List Loc) : Prop := v = some (.int (own_min p0 p1)) ∧ Fr n0 L ∧ h = h0
set_option maxRecDepth 65536 in
set_option maxHeartbeats 40000000 in
theorem rm1 (l : Launch) (Z : State) (a0 : Array Value) (hw : ∀ d ∈ tables_1, d.before a0 Z = true) (ws : List Jvm.Cond) (p0 : Int32) (p1 : Int32) (h0 : Heap) (n0 : Nat) (Z0 : n0 ≤ h0.size)  :
    MetFree l (⟨"java/lang/Math", "min", "(II)I"⟩ : MethodName) (head1 (Jvm.Cond.code (⟨"java/lang/Math", "min", "(II)I"⟩ : MethodName) jdk_29_method_69_code 2 (some .int) :: ws) ({ frames := 0, cells := 0, slots := 0, locals := 0 } : Room)) (fun aX UX => aX = #[(.int p0), (.int p1)] ∧ Z.Warmed39 UX.vm ∧ UX.heap = h0) (fun _ _ _ _ _ => True) (fun _ UX oX UY => ∃ vX LX, oX = .returned vX ∧ Q1 Z p0 p1 h0 n0 vX UY.heap LX ∧ FrameEnd UX oX UY LX ({ frames := 0, cells := 0, slots := 0, locals := 0 } : Room).cells ({ frames := 0, cells := 0, slots := 0, locals := 0 } : Room).slots) := by
  refine MetFree.of_bodySF (Jvm.Free.JP.mathPlain rfl (by decide +kernel)) hisR ?_
  intro p e s m args below meth c s₁ Bd hml0 hPX hKX
  obtain ⟨rfl, hZ, hh⟩ := hPX
  have hx := Bd.exec
  have hby := Bd.bytes
  have hml : c.maxLocals = 2 := hml0
  have hown : s.vm.findClass "java/lang/Math" = some m.cls := findClass_of_methodNamed Bd.named
  have hnm := (name_of_methodNamed Bd.named Bd.method).1
  have X0 : Stand p l e ({ frames := 0, cells := 0, slots := 0, locals := 0 } : Room) s m #[(.int p0), (.int p1)] below meth c s₁ [] 0 0 := Stand.of_body Bd
  have e0 : s₁.heap = h0 := by rw [← hh, Bd.state]; rfl
  have N0 := Fr.nil n0
  have pre0 : ∀ t, Steps p.tables e below (s₁.setTop (mkF m 0 #[iv p0, iv p1] [])) t → Steps p.tables e below (s₁.setTop (entryFrame m #[(.int p0), (.int p1)] 2)) t := fun t k => castTop (ef_1 m p0 p1) k
  obtain ⟨S0, hS0⟩ : ∃ z, z = (s₁.setTop (entryFrame m #[(.int p0), (.int p1)] 2)) := ⟨_, rfl⟩
  rw [← hS0] at pre0
  have pre1 : ∀ t, own_s p e below s₁ m 2 #[iv p0, iv p1] [(.int p1), (.int p0)] t → Steps p.tables e below S0 t := by
    intro tX kX
    refine pre0 _ ?_
    show own_s p e below s₁ m 0 #[iv p0, iv p1] [] _
    refine XS.iloadN X0.here hx rfl (hb hby d1_0) rfl ?_
    show own_s p e below s₁ m 1 #[iv p0, iv p1] [(.int p0)] _
    refine XS.iloadN X0.here hx rfl (hb hby d1_1) rfl ?_
    exact kX
  by_cases hc2 : p1 < p0
  · skip
    have pre3 : ∀ t, own_s p e below s₁ m 10 #[iv p0, iv p1] [(.int p1)] t → Steps p.tables e below S0 t := by
      intro tX kX
      refine pre1 _ ?_
      show own_s p e below s₁ m 2 #[iv p0, iv p1] [(.int p1), (.int p0)] _
      refine XS.icmpYes X0.here hx rfl (pc0 := 2) (pc' := 9) rfl (hb hby d1_2) rfl (tlt hc2).2.2.1 (by decide) (by decide) ?_
      show own_s p e below s₁ m 9 #[iv p0, iv p1] [] _
      refine XS.iloadN X0.here hx rfl (hb hby d1_9) rfl ?_
      exact kX
    subst hS0
    obtain ⟨fs, hr, hrun, hended, hW, hsame⟩ := X0.leave (v := (some (.int p1))) (fun h => by rw [Bd.returns] at h; cases h)
    refine ⟨_, _, pre3 _ (retI X0 hx Bd.returns (hb hby d1_10) hr), hrun, hended, _, _, rfl, ?_, ⟨_, rfl⟩, hW, hsame.mono (by decide) (by decide)⟩
    show Q1 Z p0 p1 h0 n0 (some (.int p1)) s₁.heap _
    exact ⟨congrArg (fun z => some (Value.int z)) (show p1 = own_min p0 p1 from (if_pos hc2).symm), N0, e0⟩
  · skip
    have pre4 : ∀ t, own_s p e below s₁ m 10 #[iv p0, iv p1] [(.int p0)] t → Steps p.tables e below S0 t := by
      intro tX kX
      refine pre1 _ ?_
      show own_s p e below s₁ m 2 #[iv p0, iv p1] [(.int p1), (.int p0)] _
      refine XS.icmpNo X0.here hx rfl (hb hby d1_2) rfl (flt hc2).2.2.1 ?_
      show own_s p e below s₁ m 5 #[iv p0, iv p1] [] _
      refine XS.iloadN X0.here hx rfl (hb hby d1_5) rfl ?_
      show own_s p e below s₁ m 6 #[iv p0, iv p1] [(.int p0)] _
      refine XS.goto X0.here hx rfl (pc0 := 6) (pc' := 10) rfl (hb hby d1_6) (by decide) (by decide) ?_
      exact kX
    subst hS0
    obtain ⟨fs, hr, hrun, hended, hW, hsame⟩ := X0.leave (v := (some (.int p0))) (fun h => by rw [Bd.returns] at h; cases h)
    refine ⟨_, _, pre4 _ (retI X0 hx Bd.returns (hb hby d1_10) hr), hrun, hended, _, _, rfl, ?_, ⟨_, rfl⟩, hW, hsame.mono (by decide) (by decide)⟩
    show Q1 Z p0 p1 h0 n0 (some (.int p0)) s₁.heap _
    exact ⟨congrArg (fun z => some (Value.int z)) (show p0 = own_min p0 p1 from (if_neg hc2).symm), N0, e0⟩
theorem d2_0 : decode jdk_65_method_131_code 0 = .ok (.iload_n 1, 1) := by decide +kernel
theorem d2_1 : decode jdk_65_method_131_code 1 = .ok (.iload_n 0, 1) := by decide +kernel
theorem d2_2 : decode jdk_65_method_131_code 2 = .ok (.if_icmp .ge 35, 3) := by decide +kernel
theorem d2_37 : decode jdk_65_method_131_code 37 = .ok (.return_, 1) := by decide +kernel
theorem pn_2 : plainName "java/util/Arrays" = true := by first | (simp [plainName, overriddenIn]; done) | decide +kernel
theorem ef_2 (m : MethodId) (p0 : Int32) (p1 : Int32) : entryFrame m #[(.int p0), (.int p1)] 2 = mkF m 0 #[iv p0, iv p1] [] := by first | (simp [entryFrame, mkF, argsToLocals, Value.category]; done) | rfl
def Q2 (Z : State) (p0 : Int32) (p1 : Int32) (h0 : Heap) (n0 : Nat) (v : Option Value) (h : Heap) (L : List Loc) : Prop := v = none ∧ Fr n0 L ∧ h = h0
set_option maxRecDepth 65536 in
set_option maxHeartbeats 40000000 in
theorem rm2 (l : Launch) (Z : State) (a0 : Array Value) (hw : ∀ d ∈ tables_1, d.before a0 Z = true) (ws : List Jvm.Cond) (p0 : Int32) (p1 : Int32) (h0 : Heap) (n0 : Nat) (Z0 : n0 ≤ h0.size) (hle : ¬ (p1 < p0)) :
    MetFree l (⟨"java/util/Arrays", "checkLength", "(II)V"⟩ : MethodName) (head1 (Jvm.Cond.code (⟨"java/util/Arrays", "checkLength", "(II)V"⟩ : MethodName) jdk_65_method_131_code 2 none :: ws) ({ frames := 0, cells := 0, slots := 0, locals := 0 } : Room)) (fun aX UX => aX = #[(.int p0), (.int p1)] ∧ Z.Warmed39 UX.vm ∧ UX.heap = h0) (fun _ _ _ _ _ => True) (fun _ UX oX UY => ∃ vX LX, oX = .returned vX ∧ Q2 Z p0 p1 h0 n0 vX UY.heap LX ∧ FrameEnd UX oX UY LX ({ frames := 0, cells := 0, slots := 0, locals := 0 } : Room).cells ({ frames := 0, cells := 0, slots := 0, locals := 0 } : Room).slots) := by
  refine MetFree.of_bodySF (plainFor_of_name pn_2) hisR ?_
  intro p e s m args below meth c s₁ Bd hml0 hPX hKX
  obtain ⟨rfl, hZ, hh⟩ := hPX
  have hx := Bd.exec
  have hby := Bd.bytes
  have hml : c.maxLocals = 2 := hml0
  have hown : s.vm.findClass "java/util/Arrays" = some m.cls := findClass_of_methodNamed Bd.named
  have hnm := (name_of_methodNamed Bd.named Bd.method).1
  have X0 : Stand p l e ({ frames := 0, cells := 0, slots := 0, locals := 0 } : Room) s m #[(.int p0), (.int p1)] below meth c s₁ [] 0 0 := Stand.of_body Bd
  have e0 : s₁.heap = h0 := by rw [← hh, Bd.state]; rfl
  have N0 := Fr.nil n0
  have pre0 : ∀ t, Steps p.tables e below (s₁.setTop (mkF m 0 #[iv p0, iv p1] [])) t → Steps p.tables e below (s₁.setTop (entryFrame m #[(.int p0), (.int p1)] 2)) t := fun t k => castTop (ef_2 m p0 p1) k
  obtain ⟨S0, hS0⟩ : ∃ z, z = (s₁.setTop (entryFrame m #[(.int p0), (.int p1)] 2)) := ⟨_, rfl⟩
  rw [← hS0] at pre0
  have pre1 : ∀ t, own_s p e below s₁ m 37 #[iv p0, iv p1] [] t → Steps p.tables e below S0 t := by
    intro tX kX
    refine pre0 _ ?_
    show own_s p e below s₁ m 0 #[iv p0, iv p1] [] _
    refine XS.iloadN X0.here hx rfl (hb hby d2_0) rfl ?_
    show own_s p e below s₁ m 1 #[iv p0, iv p1] [(.int p1)] _
    refine XS.iloadN X0.here hx rfl (hb hby d2_1) rfl ?_
    show own_s p e below s₁ m 2 #[iv p0, iv p1] [(.int p0), (.int p1)] _
    refine XS.icmpYes X0.here hx rfl (pc0 := 2) (pc' := 37) rfl (hb hby d2_2) rfl (flt hle).2.1 (by decide) (by decide) ?_
    exact kX
  subst hS0
  obtain ⟨fs, hr, hrun, hended, hW, hsame⟩ := X0.leave (v := none) (fun _ => rfl)
  refine ⟨_, _, pre1 _ (X0.returnOut hx Bd.returns (hb hby d2_37) hr), hrun, hended, _, _, rfl, ?_, ⟨_, rfl⟩, hW, hsame.mono (by decide) (by decide)⟩
  show Q2 Z p0 p1 h0 n0 none s₁.heap _
  exact ⟨rfl, N0, e0⟩
theorem d3_0 : decode jdk_65_method_133_code 0 = .ok (.iload_n 1, 1) := by decide +kernel
theorem d3_1 : decode jdk_65_method_133_code 1 = .ok (.iload_n 2, 1) := by decide +kernel
theorem d3_2 : decode jdk_65_method_133_code 2 = .ok (.invokestatic 343, 3) := by decide +kernel
theorem d3_5 : decode jdk_65_method_133_code 5 = .ok (.iload_n 2, 1) := by decide +kernel
theorem d3_6 : decode jdk_65_method_133_code 6 = .ok (.iload_n 1, 1) := by decide +kernel
theorem d3_7 : decode jdk_65_method_133_code 7 = .ok (.isub, 1) := by decide +kernel
theorem d3_8 : decode jdk_65_method_133_code 8 = .ok (.istore_n 3, 1) := by decide +kernel
theorem d3_9 : decode jdk_65_method_133_code 9 = .ok (.iload_n 3, 1) := by decide +kernel
theorem d3_10 : decode jdk_65_method_133_code 10 = .ok (.newarray .byte, 2) := by decide +kernel
theorem d3_12 : decode jdk_65_method_133_code 12 = .ok (.astore 4, 2) := by decide +kernel
theorem d3_14 : decode jdk_65_method_133_code 14 = .ok (.aload_n 0, 1) := by decide +kernel
theorem d3_15 : decode jdk_65_method_133_code 15 = .ok (.iload_n 1, 1) := by decide +kernel
theorem d3_16 : decode jdk_65_method_133_code 16 = .ok (.aload 4, 2) := by decide +kernel
theorem d3_18 : decode jdk_65_method_133_code 18 = .ok (.iconst 0, 1) := by decide +kernel
theorem d3_19 : decode jdk_65_method_133_code 19 = .ok (.aload_n 0, 1) := by decide +kernel
theorem d3_20 : decode jdk_65_method_133_code 20 = .ok (.arraylength, 1) := by decide +kernel
theorem d3_21 : decode jdk_65_method_133_code 21 = .ok (.iload_n 1, 1) := by decide +kernel
theorem d3_22 : decode jdk_65_method_133_code 22 = .ok (.isub, 1) := by decide +kernel
theorem d3_23 : decode jdk_65_method_133_code 23 = .ok (.iload_n 3, 1) := by decide +kernel
theorem d3_24 : decode jdk_65_method_133_code 24 = .ok (.invokestatic 304, 3) := by decide +kernel
theorem d3_27 : decode jdk_65_method_133_code 27 = .ok (.invokestatic 150, 3) := by decide +kernel
theorem d3_30 : decode jdk_65_method_133_code 30 = .ok (.aload 4, 2) := by decide +kernel
theorem d3_32 : decode jdk_65_method_133_code 32 = .ok (.areturn, 1) := by decide +kernel
theorem pn_3 : plainName "java/util/Arrays" = true := by first | (simp [plainName, overriddenIn]; done) | decide +kernel
theorem pd3_0 : parseMethodDescriptor "(II)V" = some ⟨[.int, .int], none⟩ := by decide +kernel
theorem pd3_1 : parseMethodDescriptor "(II)I" = some ⟨[.int, .int], some .int⟩ := by decide +kernel
theorem ef_3 (m : MethodId) (b : Addr) (p1 : Int32) (p2 : Int32) : entryFrame m #[(.ref b), (.int p1), (.int p2)] 5 = mkF m 0 #[rv b, iv p1, iv p2, .unset, .unset] [] := by first | (simp [entryFrame, mkF, argsToLocals, Value.category]; done) | rfl
def Q3 (Z : State) (b : Addr) (p1 : Int32) (p2 : Int32) (g : Nat → Int32) (S : Nat) (E : Nat) (h0 : Heap) (n0 : Nat) (v : Option Value) (h : Heap) (L : List Loc) : Prop := ∃ r : Addr, v = some (.ref r) ∧ Fr n0 L ∧ Keep h0 h [] ∧ h0.size ≤ r ∧ n0 ≤ r ∧ own_Af Z h r .byte (E - S) (fun j => .int (g (S + j)))
set_option maxRecDepth 65536 in
set_option maxHeartbeats 40000000 in
theorem rm3 (l : Launch) (Z : State) (a0 : Array Value) (hw : ∀ d ∈ tables_1, d.before a0 Z = true) (ws : List Jvm.Cond) (b : Addr) (p1 : Int32) (p2 : Int32) (g : Nat → Int32) (S : Nat) (E : Nat) (h0 : Heap) (n0 : Nat) (Z0 : n0 ≤ h0.size) (A_b : own_Af Z h0 b .byte 64 (fun j => .int (g j))) (fg : ∀ j, fits .byte (.int (g j)) = true) (hp1 : p1 = Int32.ofNat S) (hp2 : p2 = Int32.ofNat E) (hS : S ≤ E) (hE : E ≤ 64) :
    MetFree l (⟨"java/util/Arrays", "copyOfRangeByte", "([BII)[B"⟩ : MethodName) (head1 (Jvm.Cond.code (⟨"java/util/Arrays", "copyOfRangeByte", "([BII)[B"⟩ : MethodName) jdk_65_method_133_code 5 (some (.array .byte)) :: ws) ({ frames := 1, cells := 1, slots := 64, locals := 50 } : Room)) (fun aX UX => aX = #[(.ref b), (.int p1), (.int p2)] ∧ Z.Warmed39 UX.vm ∧ UX.heap = h0) (fun _ _ _ _ _ => True) (fun _ UX oX UY => ∃ vX LX, oX = .returned vX ∧ Q3 Z b p1 p2 g S E h0 n0 vX UY.heap LX ∧ FrameEnd UX oX UY LX ({ frames := 1, cells := 1, slots := 64, locals := 50 } : Room).cells ({ frames := 1, cells := 1, slots := 64, locals := 50 } : Room).slots) := by
  refine MetFree.of_bodySF (plainFor_of_name pn_3) hisR ?_
  intro p e s m args below meth c s₁ Bd hml0 hPX hKX
  obtain ⟨rfl, hZ, hh⟩ := hPX
  have hx := Bd.exec
  have hby := Bd.bytes
  have hml : c.maxLocals = 5 := hml0
  have hown : s.vm.findClass "java/util/Arrays" = some m.cls := findClass_of_methodNamed Bd.named
  have hnm := (name_of_methodNamed Bd.named Bd.method).1
  have X0 : Stand p l e ({ frames := 1, cells := 1, slots := 64, locals := 50 } : Room) s m #[(.ref b), (.int p1), (.int p2)] below meth c s₁ [] 0 0 := Stand.of_body Bd
  have e0 : s₁.heap = h0 := by rw [← hh, Bd.state]; rfl
  have N0 := Fr.nil n0
  have pre0 : ∀ t, Steps p.tables e below (s₁.setTop (mkF m 0 #[rv b, iv p1, iv p2, .unset, .unset] [])) t → Steps p.tables e below (s₁.setTop (entryFrame m #[(.ref b), (.int p1), (.int p2)] 5)) t := fun t k => castTop (ef_3 m b p1 p2) k
  obtain ⟨S0, hS0⟩ : ∃ z, z = (s₁.setTop (entryFrame m #[(.ref b), (.int p1), (.int p2)] 5)) := ⟨_, rfl⟩
  rw [← hS0] at pre0
  have K0 : Keep h0 h0 [] := Keep.refl h0 _
  have iS : p1.toInt = S := by rw [hp1]; exact own_ofn (by omega)
  have iE : p2.toInt = E := by rw [hp2]; exact own_ofn (by omega)
  have pre1 : ∀ t, own_s p e below s₁ m 2 #[rv b, iv p1, iv p2, .unset, .unset] [(.int p2), (.int p1)] t → Steps p.tables e below S0 t := by
    intro tX kX
    refine pre0 _ ?_
    show own_s p e below s₁ m 0 #[rv b, iv p1, iv p2, .unset, .unset] [] _
    refine XS.iloadN X0.here hx rfl (hb hby d3_0) rfl ?_
    show own_s p e below s₁ m 1 #[rv b, iv p1, iv p2, .unset, .unset] [(.int p1)] _
    refine XS.iloadN X0.here hx rfl (hb hby d3_1) rfl ?_
    exact kX
  obtain ⟨_, _, ⟨T2, L2, k2, n2⟩, -, X2, ⟨Lc2, hQ2, l2, y2, z2⟩, st2⟩ := Jvm.LawKit.callS X0 hx (y := (⟨"java/util/Arrays", "checkLength", "(II)V"⟩ : MethodName)) hown (mvT hZ (hw _ (List.mem_of_getElem? (i := 53) rfl))) (mvT hZ (hw _ (List.mem_of_getElem? (i := 54) rfl))) (mvT hZ (hw _ (List.mem_of_getElem? (i := 48) rfl))) (mvT hZ (hw _ (List.mem_of_getElem? (i := 55) rfl))) (by decide) (backOf (W := 0) (rm2 l Z a0 hw [] p1 p2  h0 n0 Z0 (fun q => absurd (Int32.lt_iff_toInt_lt.mp q) (by omega))) hZ (hw _ (List.mem_of_getElem? (i := 55) rfl)) (hw _ (List.mem_of_getElem? (i := 48) rfl)) (by decide) (by decide)) (g := (mkF m 2 #[rv b, iv p1, iv p2, .unset, .unset] [(.int p2), (.int p1)])) rfl (by rw [hml]; rfl) (argsL := [(.int p1), (.int p2)]) (rest := []) (lenOf pd3_0 rfl) rfl (by show 2 * 0 + _ ≤ _; exact Nat.le_of_eq rfl) (hb hby d3_2) (fun _ _ => ⟨rfl, e0, (by decide : 0 + 0 ≤ _), (by decide : 0 + 0 ≤ _)⟩)
  dsimp only [Pt.U, Pt.locs, Pt.cells, Pt.slots] at X2 l2 y2 z2 st2 hQ2
  subst l2 y2 z2
  obtain ⟨rfl, Nq2, e2⟩ := hQ2
  have N2 := Fr.app N0 Nq2
  obtain ⟨LL3, X3, N3⟩ : ∃ LL, Stand p l e ({ frames := 1, cells := 1, slots := 64, locals := 50 } : Room) s m #[(.ref b), (.int p1), (.int p2)] below meth c T2 LL 0 0 ∧ Fr n0 LL := ⟨_, X2, N2⟩
  have pre4 : ∀ t, own_s p e below T2 m 5 #[rv b, iv p1, iv p2, .unset, .unset] [] t → Steps p.tables e below S0 t := fun tX kX => pre1 _ (st2 _ kX)
  have pre5 : ∀ t, own_s p e below T2 m 8 #[rv b, iv p1, iv p2, .unset, .unset] [(.int (p2 - p1))] t → Steps p.tables e below S0 t := by
    intro tX kX
    refine pre4 _ ?_
    show own_s p e below T2 m 5 #[rv b, iv p1, iv p2, .unset, .unset] [] _
    refine XS.iloadN X3.here hx rfl (hb hby d3_5) rfl ?_
    show own_s p e below T2 m 6 #[rv b, iv p1, iv p2, .unset, .unset] [(.int p2)] _
    refine XS.iloadN X3.here hx rfl (hb hby d3_6) rfl ?_
    show own_s p e below T2 m 7 #[rv b, iv p1, iv p2, .unset, .unset] [(.int p1), (.int p2)] _
    refine XS.isub X3.here hx rfl (hb hby d3_7) rfl ?_
    exact kX
  obtain ⟨ln, hln⟩ : ∃ z : Int32, z = (p2 - p1) := ⟨_, rfl⟩
  rw [← hln] at pre5
  have lnI : ln.toInt = ((E - S : Nat) : Int) := by rw [hln]; have := c_isub p2 p1; have := rng32 (p2 - p1); omega
  have pre6 : ∀ t, own_s p e below T2 m 10 #[rv b, iv p1, iv p2, iv ln, .unset] [(.int ln)] t → Steps p.tables e below S0 t := by
    intro tX kX
    refine pre5 _ ?_
    show own_s p e below T2 m 8 #[rv b, iv p1, iv p2, .unset, .unset] [(.int ln)] _
    refine XS.istoreN X3.here hx rfl (hb hby d3_8) rfl (l' := #[rv b, iv p1, iv p2, iv ln, .unset]) rfl ?_
    show own_s p e below T2 m 9 #[rv b, iv p1, iv p2, iv ln, .unset] [] _
    refine XS.iloadN X3.here hx rfl (hb hby d3_9) rfl ?_
    exact kX
  obtain ⟨T7, h7, k7, X7, e7, E7, A7, st7⟩ := newP X3 hx hZ (hw _ (List.mem_of_getElem? (i := 9) rfl)) e2 (g := (mkF m 10 #[rv b, iv p1, iv p2, iv ln, .unset] [(.int ln)])) rfl (hb hby d3_10) rfl (own_idx (n := 65) (by omega) (by omega)).1 (cap := 64) (Nat.le_of_lt_succ (own_idx (n := 65) (by omega) (by omega)).2) (by decide) (by decide) (by decide)
  obtain ⟨b7, g7⟩ : ∃ z, z = h0.size := ⟨_, rfl⟩
  rw [← g7] at A7 st7
  have ne8 : b ≠ b7 := Nat.ne_of_lt (Nat.lt_of_lt_of_le A_b.lt (Nat.le_of_eq g7.symm))
  have g_b7 : n0 ≤ b7 := Nat.le_trans Z0 (Nat.le_of_eq g7.symm)
  have sz_b7 : h0.size ≤ b7 := Nat.le_trans K0.1 (Nat.le_of_eq g7.symm)
  have pre9 : ∀ t, own_s p e below T7 m 12 #[rv b, iv p1, iv p2, iv ln, .unset] [(.ref b7)] t → Steps p.tables e below S0 t := fun tX kX => pre6 _ (st7 _ kX)
  have f10_A : own_Af Z h7 b .byte 64 (fun j => .int (g j)) := A_b.ext E7
  have Z11 : n0 ≤ h7.size := Nat.le_trans Z0 E7.1
  have K12 : Keep h0 h7 [] := K0.ext E7
  have f13_A : own_Af Z h7 b7 .byte (E - S) (fun _ => (.int (0 : Int32))) := own_Af.new A7 (own_idx (n := 65) (by omega) (by omega)).1 (own_nat (by omega))
  have pre15 : ∀ t, own_s p e below T7 m 20 #[rv b, iv p1, iv p2, iv ln, rv b7] [(.ref b), (.int (0 : Int32)), (.ref b7), (.int p1), (.ref b)] t → Steps p.tables e below S0 t := by
    intro tX kX
    refine pre9 _ ?_
    show own_s p e below T7 m 12 #[rv b, iv p1, iv p2, iv ln, .unset] [(.ref b7)] _
    refine XS.astore X7.here hx rfl (hb hby d3_12) rfl rfl (l' := #[rv b, iv p1, iv p2, iv ln, rv b7]) rfl ?_
    show own_s p e below T7 m 14 #[rv b, iv p1, iv p2, iv ln, rv b7] [] _
    refine XS.aloadN X7.here hx rfl (hb hby d3_14) rfl rfl ?_
    show own_s p e below T7 m 15 #[rv b, iv p1, iv p2, iv ln, rv b7] [(.ref b)] _
    refine XS.iloadN X7.here hx rfl (hb hby d3_15) rfl ?_
    show own_s p e below T7 m 16 #[rv b, iv p1, iv p2, iv ln, rv b7] [(.int p1), (.ref b)] _
    refine XS.aload X7.here hx rfl (hb hby d3_16) rfl rfl ?_
    show own_s p e below T7 m 18 #[rv b, iv p1, iv p2, iv ln, rv b7] [(.ref b7), (.int p1), (.ref b)] _
    refine XS.iconst X7.here hx rfl (hb hby d3_18) ?_
    show own_s p e below T7 m 19 #[rv b, iv p1, iv p2, iv ln, rv b7] [(.int (0 : Int32)), (.ref b7), (.int p1), (.ref b)] _
    refine XS.aloadN X7.here hx rfl (hb hby d3_19) rfl rfl ?_
    exact kX
  obtain ⟨cl14, Ar14, S14, M14, H14⟩ := id f10_A
  have pre16 : ∀ t, own_s p e below T7 m 24 #[rv b, iv p1, iv p2, iv ln, rv b7] [(.int ln), (.int ((64 : Int32) - p1)), (.int (0 : Int32)), (.ref b7), (.int p1), (.ref b)] t → Steps p.tables e below S0 t := by
    intro tX kX
    refine pre15 _ ?_
    show own_s p e below T7 m 20 #[rv b, iv p1, iv p2, iv ln, rv b7] [(.ref b), (.int (0 : Int32)), (.ref b7), (.int p1), (.ref b)] _
    refine X7.arraylength hx (by rw [e7]; exact Ar14.1) (State.isArrayOf_alike hZ.alike Ar14.2.1) (g := (mkF m 20 #[rv b, iv p1, iv p2, iv ln, rv b7] [(.ref b), (.int (0 : Int32)), (.ref b7), (.int p1), (.ref b)])) rfl rfl (hb hby d3_20) _ ?_
    rw [show cl14.slots.size.toInt32 = (64 : Int32) from by rw [S14]; exact rfl]
    show own_s p e below T7 m 21 #[rv b, iv p1, iv p2, iv ln, rv b7] [(.int (64 : Int32)), (.int (0 : Int32)), (.ref b7), (.int p1), (.ref b)] _
    refine XS.iloadN X7.here hx rfl (hb hby d3_21) rfl ?_
    show own_s p e below T7 m 22 #[rv b, iv p1, iv p2, iv ln, rv b7] [(.int p1), (.int (64 : Int32)), (.int (0 : Int32)), (.ref b7), (.int p1), (.ref b)] _
    refine XS.isub X7.here hx rfl (hb hby d3_22) rfl ?_
    show own_s p e below T7 m 23 #[rv b, iv p1, iv p2, iv ln, rv b7] [(.int ((64 : Int32) - p1)), (.int (0 : Int32)), (.ref b7), (.int p1), (.ref b)] _
    refine XS.iloadN X7.here hx rfl (hb hby d3_23) rfl ?_
    exact kX
  obtain ⟨_, _, ⟨T17, L17, k17, n17⟩, -, X17, ⟨Lc17, hQ17, l17, y17, z17⟩, st17⟩ := Jvm.LawKit.callS X7 hx (y := (⟨"java/lang/Math", "min", "(II)I"⟩ : MethodName)) hown (mvT hZ (hw _ (List.mem_of_getElem? (i := 56) rfl))) (mvT hZ (hw _ (List.mem_of_getElem? (i := 57) rfl))) (mvT hZ (hw _ (List.mem_of_getElem? (i := 58) rfl))) (mvT hZ (hw _ (List.mem_of_getElem? (i := 59) rfl))) (by decide) (backOf (W := 4) (rm1 l Z a0 hw [] ((64 : Int32) - p1) ln  h7 n0 Z11 ) hZ (hw _ (List.mem_of_getElem? (i := 59) rfl)) (hw _ (List.mem_of_getElem? (i := 58) rfl)) (by decide) (by decide)) (g := (mkF m 24 #[rv b, iv p1, iv p2, iv ln, rv b7] [(.int ln), (.int ((64 : Int32) - p1)), (.int (0 : Int32)), (.ref b7), (.int p1), (.ref b)])) rfl (by rw [hml]; rfl) (argsL := [(.int ((64 : Int32) - p1)), (.int ln)]) (rest := [(.int (0 : Int32)), (.ref b7), (.int p1), (.ref b)]) (lenOf pd3_1 rfl) rfl (by show 2 * 0 + _ ≤ _; exact Nat.le_of_eq rfl) (hb hby d3_24) (fun _ _ => ⟨rfl, e7, (by decide : 1 + 0 ≤ _), (by decide : 64 + 0 ≤ _)⟩)
  dsimp only [Pt.U, Pt.locs, Pt.cells, Pt.slots] at X17 l17 y17 z17 st17 hQ17
  subst l17 y17 z17
  obtain ⟨rfl, Nq17, e17⟩ := hQ17
  have N17 := Fr.app N3 Nq17
  obtain ⟨LL18, X18, N18⟩ : ∃ LL, Stand p l e ({ frames := 1, cells := 1, slots := 64, locals := 50 } : Room) s m #[(.ref b), (.int p1), (.int p2)] below meth c T17 LL 1 64 ∧ Fr n0 LL := ⟨_, X17, N17⟩
  have pre19 : ∀ t, own_s p e below T17 m 27 #[rv b, iv p1, iv p2, iv ln, rv b7] [(.int (own_min ((64 : Int32) - p1) ln)), (.int (0 : Int32)), (.ref b7), (.int p1), (.ref b)] t → Steps p.tables e below S0 t := fun tX kX => pre16 _ (st17 _ kX)
  obtain ⟨mn, hmn⟩ : ∃ z : Int32, z = (own_min ((64 : Int32) - p1) ln) := ⟨_, rfl⟩
  rw [← hmn] at pre19
  have mnI : mn.toInt = ((E - S : Nat) : Int) := by
    have d1 := c_isub (64 : Int32) p1
    have d2 := rng32 ((64 : Int32) - p1)
    have d3 : (64 : Int32).toInt = 64 := rfl
    rw [hmn]; unfold own_min; by_cases q : ln < ((64 : Int32) - p1)
    · rw [if_pos q]; exact lnI
    · rw [if_neg q]; have : ¬ ln.toInt < ((64 : Int32) - p1).toInt := fun w => q (Int32.lt_iff_toInt_lt.mpr w); omega
  obtain ⟨ks, Vs⟩ := own_arv f10_A fg
  obtain ⟨kd, Vd⟩ := own_arv (g := fun _ => (0 : Int32)) f13_A (fun _ => rfl)
  have spI : p1.toNatClampNeg = S := own_nat iS
  have mnN : mn.toNatClampNeg = E - S := own_nat (by omega)
  have z64 : (Int32.ofNat 64).toNatClampNeg = 64 := by decide
  have znn : (Int32.ofNat (E - S)).toNatClampNeg = E - S := own_nat (own_ofn (by omega))
  obtain ⟨T20, h20, Lq20, X20, e20, N20, Kq20, V20, st20⟩ := cpA X18 hx hZ hown (hw _ (List.mem_of_getElem? (i := 60) rfl)) (hw _ (List.mem_of_getElem? (i := 63) rfl)) (hw _ (List.mem_of_getElem? (i := 61) rfl)) (hw _ (List.mem_of_getElem? (i := 62) rfl)) e17 Vs Vd (Or.inl ⟨rfl, rfl⟩) (sp := p1) (dp := (0 : Int32)) (nn := mn) (own_idx (n := 65) (by omega) (by omega)).1 (by decide) (own_idx (n := 65) (by omega) (by omega)).1 (by rw [spI, mnN, z64]; omega) (by rw [mnN, znn]; show 0 + _ ≤ _; omega) rfl (by rw [mnN, List.length_map, List.length_range]; show 0 + _ ≤ _; omega) N18 g_b7 (g := (mkF m 27 #[rv b, iv p1, iv p2, iv ln, rv b7] [(.int mn), (.int (0 : Int32)), (.ref b7), (.int p1), (.ref b)])) rfl (by rw [hml]; rfl) rfl (hb hby d3_27) (by decide) (W := 0) (by show 2 * 0 + _ ≤ _; exact Nat.le_of_eq rfl) (by decide)
  have pre21 : ∀ t, own_s p e below T20 m 30 #[rv b, iv p1, iv p2, iv ln, rv b7] [] t → Steps p.tables e below S0 t := fun tX kX => pre19 _ (st20 _ kX)
  have Z20 : n0 ≤ h20.size := Nat.le_trans Z11 Kq20.1
  have K20 : Keep h0 h20 [] := K12.trans Kq20 (allS (Or.inr sz_b7) all0)
  have f22_A : own_Af Z h20 b7 .byte (E - S) (fun j => .int (g (S + j))) := own_ofarv V20 znn (own_cp spI mnN rfl (by omega))
  have pre23 : ∀ t, own_s p e below T20 m 32 #[rv b, iv p1, iv p2, iv ln, rv b7] [(.ref b7)] t → Steps p.tables e below S0 t := by
    intro tX kX
    refine pre21 _ ?_
    show own_s p e below T20 m 30 #[rv b, iv p1, iv p2, iv ln, rv b7] [] _
    refine XS.aload X20.here hx rfl (hb hby d3_30) rfl rfl ?_
    exact kX
  subst hS0
  obtain ⟨fs, hr, hrun, hended, hW, hsame⟩ := X20.leave (v := (some (.ref b7))) (fun h => by rw [Bd.returns] at h; cases h)
  refine ⟨_, _, pre23 _ (retOut X20 hx Bd.returns (own_narR rfl) (Or.inr (Or.inr (Or.inr (Or.inr ⟨rfl, rfl, rfl⟩)))) (hb hby d3_32) hr), hrun, hended, _, _, rfl, ?_, ⟨_, rfl⟩, hW, hsame.mono (by decide) (by decide)⟩
  show Q3 Z b p1 p2 g S E h0 n0 (some (.ref b7)) T20.heap _
  rw [e20]
  exact ⟨b7, rfl, N20, K20, sz_b7, g_b7, f22_A⟩
theorem d4_0 : decode jdk_65_method_132_code 0 = .ok (.iload_n 1, 1) := by decide +kernel
theorem d4_1 : decode jdk_65_method_132_code 1 = .ok (.ifCond .ne 9, 3) := by decide +kernel
theorem d4_4 : decode jdk_65_method_132_code 4 = .ok (.iload_n 2, 1) := by decide +kernel
theorem d4_5 : decode jdk_65_method_132_code 5 = .ok (.aload_n 0, 1) := by decide +kernel
theorem d4_6 : decode jdk_65_method_132_code 6 = .ok (.arraylength, 1) := by decide +kernel
theorem d4_7 : decode jdk_65_method_132_code 7 = .ok (.if_icmp .eq 10, 3) := by decide +kernel
theorem d4_10 : decode jdk_65_method_132_code 10 = .ok (.aload_n 0, 1) := by decide +kernel
theorem d4_11 : decode jdk_65_method_132_code 11 = .ok (.iload_n 1, 1) := by decide +kernel
theorem d4_12 : decode jdk_65_method_132_code 12 = .ok (.iload_n 2, 1) := by decide +kernel
theorem d4_13 : decode jdk_65_method_132_code 13 = .ok (.invokestatic 339, 3) := by decide +kernel
theorem d4_16 : decode jdk_65_method_132_code 16 = .ok (.areturn, 1) := by decide +kernel
theorem pn_4 : plainName "java/util/Arrays" = true := by first | (simp [plainName, overriddenIn]; done) | decide +kernel
theorem pd4_0 : parseMethodDescriptor "([BII)[B" = some ⟨[(.array .byte), .int, .int], some (.array .byte)⟩ := by decide +kernel
theorem ef_4 (m : MethodId) (b : Addr) (p1 : Int32) (p2 : Int32) : entryFrame m #[(.ref b), (.int p1), (.int p2)] 3 = mkF m 0 #[rv b, iv p1, iv p2] [] := by first | (simp [entryFrame, mkF, argsToLocals, Value.category]; done) | rfl
def Q4 (Z : State) (b : Addr) (p1 : Int32) (p2 : Int32) (g : Nat → Int32) (S : Nat) (E : Nat) (h0 : Heap) (n0 : Nat) (v : Option Value) (h : Heap) (L : List Loc) : Prop := ∃ r : Addr, v = some (.ref r) ∧ Fr n0 L ∧ Keep h0 h [] ∧ h0.size ≤ r ∧ n0 ≤ r ∧ own_Af Z h r .byte (E - S) (fun j => .int (g (S + j)))
set_option maxRecDepth 65536 in
set_option maxHeartbeats 40000000 in
theorem rm4 (l : Launch) (Z : State) (a0 : Array Value) (hw : ∀ d ∈ tables_1, d.before a0 Z = true) (ws : List Jvm.Cond) (b : Addr) (p1 : Int32) (p2 : Int32) (g : Nat → Int32) (S : Nat) (E : Nat) (h0 : Heap) (n0 : Nat) (Z0 : n0 ≤ h0.size) (A_b : own_Af Z h0 b .byte 64 (fun j => .int (g j))) (fg : ∀ j, fits .byte (.int (g j)) = true) (hp1 : p1 = Int32.ofNat S) (hp2 : p2 = Int32.ofNat E) (hS : S ≤ E) (hE : E ≤ 64) (hne : ¬ (S = 0 ∧ E = 64)) :
    MetFree l (⟨"java/util/Arrays", "copyOfRange", "([BII)[B"⟩ : MethodName) (head1 (Jvm.Cond.code (⟨"java/util/Arrays", "copyOfRange", "([BII)[B"⟩ : MethodName) jdk_65_method_132_code 3 (some (.array .byte)) :: ws) ({ frames := 2, cells := 1, slots := 64, locals := 70 } : Room)) (fun aX UX => aX = #[(.ref b), (.int p1), (.int p2)] ∧ Z.Warmed39 UX.vm ∧ UX.heap = h0) (fun _ _ _ _ _ => True) (fun _ UX oX UY => ∃ vX LX, oX = .returned vX ∧ Q4 Z b p1 p2 g S E h0 n0 vX UY.heap LX ∧ FrameEnd UX oX UY LX ({ frames := 2, cells := 1, slots := 64, locals := 70 } : Room).cells ({ frames := 2, cells := 1, slots := 64, locals := 70 } : Room).slots) := by
  refine MetFree.of_bodySF (plainFor_of_name pn_4) hisR ?_
  intro p e s m args below meth c s₁ Bd hml0 hPX hKX
  obtain ⟨rfl, hZ, hh⟩ := hPX
  have hx := Bd.exec
  have hby := Bd.bytes
  have hml : c.maxLocals = 3 := hml0
  have hown : s.vm.findClass "java/util/Arrays" = some m.cls := findClass_of_methodNamed Bd.named
  have hnm := (name_of_methodNamed Bd.named Bd.method).1
  have X0 : Stand p l e ({ frames := 2, cells := 1, slots := 64, locals := 70 } : Room) s m #[(.ref b), (.int p1), (.int p2)] below meth c s₁ [] 0 0 := Stand.of_body Bd
  have e0 : s₁.heap = h0 := by rw [← hh, Bd.state]; rfl
  have N0 := Fr.nil n0
  have pre0 : ∀ t, Steps p.tables e below (s₁.setTop (mkF m 0 #[rv b, iv p1, iv p2] [])) t → Steps p.tables e below (s₁.setTop (entryFrame m #[(.ref b), (.int p1), (.int p2)] 3)) t := fun t k => castTop (ef_4 m b p1 p2) k
  obtain ⟨S0, hS0⟩ : ∃ z, z = (s₁.setTop (entryFrame m #[(.ref b), (.int p1), (.int p2)] 3)) := ⟨_, rfl⟩
  rw [← hS0] at pre0
  have K0 : Keep h0 h0 [] := Keep.refl h0 _
  have iS : p1.toInt = S := by rw [hp1]; exact own_ofn (by omega)
  have iE : p2.toInt = E := by rw [hp2]; exact own_ofn (by omega)
  have pre1 : ∀ t, own_s p e below s₁ m 1 #[rv b, iv p1, iv p2] [(.int p1)] t → Steps p.tables e below S0 t := by
    intro tX kX
    refine pre0 _ ?_
    show own_s p e below s₁ m 0 #[rv b, iv p1, iv p2] [] _
    refine XS.iloadN X0.here hx rfl (hb hby d4_0) rfl ?_
    exact kX
  by_cases hc2 : p1 = (0 : Int32)
  · skip
    have ihc2 : (p1).toInt = (0 : Int) := congrArg Int32.toInt hc2
    have pre4 : ∀ t, own_s p e below s₁ m 6 #[rv b, iv p1, iv p2] [(.ref b), (.int p2)] t → Steps p.tables e below S0 t := by
      intro tX kX
      refine pre1 _ ?_
      show own_s p e below s₁ m 1 #[rv b, iv p1, iv p2] [(.int p1)] _
      refine XS.ifNo X0.here hx rfl (hb hby d4_1) rfl ((if0 _ _).trans (teq hc2).2) ?_
      show own_s p e below s₁ m 4 #[rv b, iv p1, iv p2] [] _
      refine XS.iloadN X0.here hx rfl (hb hby d4_4) rfl ?_
      show own_s p e below s₁ m 5 #[rv b, iv p1, iv p2] [(.int p2)] _
      refine XS.aloadN X0.here hx rfl (hb hby d4_5) rfl rfl ?_
      exact kX
    obtain ⟨cl3, Ar3, S3, M3, H3⟩ := id A_b
    have pre5 : ∀ t, own_s p e below s₁ m 13 #[rv b, iv p1, iv p2] [(.int p2), (.int p1), (.ref b)] t → Steps p.tables e below S0 t := by
      intro tX kX
      refine pre4 _ ?_
      show own_s p e below s₁ m 6 #[rv b, iv p1, iv p2] [(.ref b), (.int p2)] _
      refine X0.arraylength hx (by rw [e0]; exact Ar3.1) (State.isArrayOf_alike hZ.alike Ar3.2.1) (g := (mkF m 6 #[rv b, iv p1, iv p2] [(.ref b), (.int p2)])) rfl rfl (hb hby d4_6) _ ?_
      rw [show cl3.slots.size.toInt32 = (64 : Int32) from by rw [S3]; exact rfl]
      show own_s p e below s₁ m 7 #[rv b, iv p1, iv p2] [(.int (64 : Int32)), (.int p2)] _
      refine XS.icmpNo X0.here hx rfl (hb hby d4_7) rfl (feq (fun q => absurd (show p2.toInt = 64 from congrArg Int32.toInt q) (by omega))).1 ?_
      show own_s p e below s₁ m 10 #[rv b, iv p1, iv p2] [] _
      refine XS.aloadN X0.here hx rfl (hb hby d4_10) rfl rfl ?_
      show own_s p e below s₁ m 11 #[rv b, iv p1, iv p2] [(.ref b)] _
      refine XS.iloadN X0.here hx rfl (hb hby d4_11) rfl ?_
      show own_s p e below s₁ m 12 #[rv b, iv p1, iv p2] [(.int p1), (.ref b)] _
      refine XS.iloadN X0.here hx rfl (hb hby d4_12) rfl ?_
      exact kX
    obtain ⟨_, _, ⟨T6, L6, k6, n6⟩, -, X6, ⟨Lc6, hQ6, l6, y6, z6⟩, st6⟩ := Jvm.LawKit.callS X0 hx (y := (⟨"java/util/Arrays", "copyOfRangeByte", "([BII)[B"⟩ : MethodName)) hown (mvT hZ (hw _ (List.mem_of_getElem? (i := 50) rfl))) (mvT hZ (hw _ (List.mem_of_getElem? (i := 51) rfl))) (mvT hZ (hw _ (List.mem_of_getElem? (i := 48) rfl))) (mvT hZ (hw _ (List.mem_of_getElem? (i := 52) rfl))) (by decide) (backOf (W := 0) (rm3 l Z a0 hw [] b p1 p2 g S E h0 n0 Z0 A_b fg hp1 hp2 hS hE) hZ (hw _ (List.mem_of_getElem? (i := 52) rfl)) (hw _ (List.mem_of_getElem? (i := 48) rfl)) (by decide) (by decide)) (g := (mkF m 13 #[rv b, iv p1, iv p2] [(.int p2), (.int p1), (.ref b)])) rfl (by rw [hml]; rfl) (argsL := [(.ref b), (.int p1), (.int p2)]) (rest := []) (lenOf pd4_0 rfl) rfl (by show 2 * 0 + _ ≤ _; exact Nat.le_of_eq rfl) (hb hby d4_13) (fun _ _ => ⟨rfl, e0, (by decide : 0 + 1 ≤ _), (by decide : 0 + 64 ≤ _)⟩)
    dsimp only [Pt.U, Pt.locs, Pt.cells, Pt.slots] at X6 l6 y6 z6 st6 hQ6
    subst l6 y6 z6
    obtain ⟨r6, rfl, Nq6, Kq6, sz_r6, g_r6, fA6⟩ := hQ6
    have N6 := Fr.app N0 Nq6
    have e6 : T6.heap = T6.heap := rfl
    have Z6 : n0 ≤ T6.heap.size := Nat.le_trans Z0 Kq6.1
    have ne7 : b ≠ r6 := Nat.ne_of_lt (Nat.lt_of_lt_of_le A_b.lt sz_r6)
    have K6 : Keep h0 T6.heap [] := K0.trans Kq6 all0
    have sz0_r6 : h0.size ≤ r6 := Nat.le_trans K0.1 sz_r6
    have f8_A : own_Af Z T6.heap b .byte 64 (fun j => .int (g j)) := A_b.keep Kq6 nin0
    obtain ⟨LL9, X9, N9⟩ : ∃ LL, Stand p l e ({ frames := 2, cells := 1, slots := 64, locals := 70 } : Room) s m #[(.ref b), (.int p1), (.int p2)] below meth c T6 LL 1 64 ∧ Fr n0 LL := ⟨_, X6, N6⟩
    have pre10 : ∀ t, own_s p e below T6 m 16 #[rv b, iv p1, iv p2] [(.ref r6)] t → Steps p.tables e below S0 t := fun tX kX => pre5 _ (st6 _ kX)
    subst hS0
    obtain ⟨fs, hr, hrun, hended, hW, hsame⟩ := X9.leave (v := (some (.ref r6))) (fun h => by rw [Bd.returns] at h; cases h)
    refine ⟨_, _, pre10 _ (retOut X9 hx Bd.returns (own_narR rfl) (Or.inr (Or.inr (Or.inr (Or.inr ⟨rfl, rfl, rfl⟩)))) (hb hby d4_16) hr), hrun, hended, _, _, rfl, ?_, ⟨_, rfl⟩, hW, hsame.mono (by decide) (by decide)⟩
    show Q4 Z b p1 p2 g S E h0 n0 (some (.ref r6)) T6.heap _
    exact ⟨r6, rfl, N9, K6, sz0_r6, g_r6, fA6⟩
  · skip
    have ihc2 : ¬ ((p1).toInt = (0 : Int)) := fun q => hc2 (Int32.toInt_inj.mp q)
    have pre11 : ∀ t, own_s p e below s₁ m 13 #[rv b, iv p1, iv p2] [(.int p2), (.int p1), (.ref b)] t → Steps p.tables e below S0 t := by
      intro tX kX
      refine pre1 _ ?_
      show own_s p e below s₁ m 1 #[rv b, iv p1, iv p2] [(.int p1)] _
      refine XS.ifYes X0.here hx rfl (pc0 := 1) (pc' := 10) rfl (hb hby d4_1) rfl ((if0 _ _).trans (feq hc2).2) (by decide) (by decide) ?_
      show own_s p e below s₁ m 10 #[rv b, iv p1, iv p2] [] _
      refine XS.aloadN X0.here hx rfl (hb hby d4_10) rfl rfl ?_
      show own_s p e below s₁ m 11 #[rv b, iv p1, iv p2] [(.ref b)] _
      refine XS.iloadN X0.here hx rfl (hb hby d4_11) rfl ?_
      show own_s p e below s₁ m 12 #[rv b, iv p1, iv p2] [(.int p1), (.ref b)] _
      refine XS.iloadN X0.here hx rfl (hb hby d4_12) rfl ?_
      exact kX
    obtain ⟨_, _, ⟨T12, L12, k12, n12⟩, -, X12, ⟨Lc12, hQ12, l12, y12, z12⟩, st12⟩ := Jvm.LawKit.callS X0 hx (y := (⟨"java/util/Arrays", "copyOfRangeByte", "([BII)[B"⟩ : MethodName)) hown (mvT hZ (hw _ (List.mem_of_getElem? (i := 50) rfl))) (mvT hZ (hw _ (List.mem_of_getElem? (i := 51) rfl))) (mvT hZ (hw _ (List.mem_of_getElem? (i := 48) rfl))) (mvT hZ (hw _ (List.mem_of_getElem? (i := 52) rfl))) (by decide) (backOf (W := 0) (rm3 l Z a0 hw [] b p1 p2 g S E h0 n0 Z0 A_b fg hp1 hp2 hS hE) hZ (hw _ (List.mem_of_getElem? (i := 52) rfl)) (hw _ (List.mem_of_getElem? (i := 48) rfl)) (by decide) (by decide)) (g := (mkF m 13 #[rv b, iv p1, iv p2] [(.int p2), (.int p1), (.ref b)])) rfl (by rw [hml]; rfl) (argsL := [(.ref b), (.int p1), (.int p2)]) (rest := []) (lenOf pd4_0 rfl) rfl (by show 2 * 0 + _ ≤ _; exact Nat.le_of_eq rfl) (hb hby d4_13) (fun _ _ => ⟨rfl, e0, (by decide : 0 + 1 ≤ _), (by decide : 0 + 64 ≤ _)⟩)
    dsimp only [Pt.U, Pt.locs, Pt.cells, Pt.slots] at X12 l12 y12 z12 st12 hQ12
    subst l12 y12 z12
    obtain ⟨r12, rfl, Nq12, Kq12, sz_r12, g_r12, fA12⟩ := hQ12
    have N12 := Fr.app N0 Nq12
    have e12 : T12.heap = T12.heap := rfl
    have Z12 : n0 ≤ T12.heap.size := Nat.le_trans Z0 Kq12.1
    have ne13 : b ≠ r12 := Nat.ne_of_lt (Nat.lt_of_lt_of_le A_b.lt sz_r12)
    have K12 : Keep h0 T12.heap [] := K0.trans Kq12 all0
    have sz0_r12 : h0.size ≤ r12 := Nat.le_trans K0.1 sz_r12
    have f14_A : own_Af Z T12.heap b .byte 64 (fun j => .int (g j)) := A_b.keep Kq12 nin0
    obtain ⟨LL15, X15, N15⟩ : ∃ LL, Stand p l e ({ frames := 2, cells := 1, slots := 64, locals := 70 } : Room) s m #[(.ref b), (.int p1), (.int p2)] below meth c T12 LL 1 64 ∧ Fr n0 LL := ⟨_, X12, N12⟩
    have pre16 : ∀ t, own_s p e below T12 m 16 #[rv b, iv p1, iv p2] [(.ref r12)] t → Steps p.tables e below S0 t := fun tX kX => pre11 _ (st12 _ kX)
    subst hS0
    obtain ⟨fs, hr, hrun, hended, hW, hsame⟩ := X15.leave (v := (some (.ref r12))) (fun h => by rw [Bd.returns] at h; cases h)
    refine ⟨_, _, pre16 _ (retOut X15 hx Bd.returns (own_narR rfl) (Or.inr (Or.inr (Or.inr (Or.inr ⟨rfl, rfl, rfl⟩)))) (hb hby d4_16) hr), hrun, hended, _, _, rfl, ?_, ⟨_, rfl⟩, hW, hsame.mono (by decide) (by decide)⟩
    show Q4 Z b p1 p2 g S E h0 n0 (some (.ref r12)) T12.heap _
    exact ⟨r12, rfl, N15, K12, sz0_r12, g_r12, fA12⟩
theorem d5_0 : decode prog_43_method_21_code 0 = .ok (.aload_n 0, 1) := by decide +kernel
theorem d5_1 : decode prog_43_method_21_code 1 = .ok (.getfield 9, 3) := by decide +kernel
theorem d5_4 : decode prog_43_method_21_code 4 = .ok (.aload_n 0, 1) := by decide +kernel
theorem d5_5 : decode prog_43_method_21_code 5 = .ok (.getfield 128, 3) := by decide +kernel
theorem d5_8 : decode prog_43_method_21_code 8 = .ok (.aload_n 0, 1) := by decide +kernel
theorem d5_9 : decode prog_43_method_21_code 9 = .ok (.getfield 19, 3) := by decide +kernel
theorem d5_12 : decode prog_43_method_21_code 12 = .ok (.invokestatic 135, 3) := by decide +kernel
theorem d5_15 : decode prog_43_method_21_code 15 = .ok (.areturn, 1) := by decide +kernel
theorem pn_5 : plainName "com/example/farcall/farcall/io/XdrEncoder" = true := by first | (simp [plainName, overriddenIn]; done) | decide +kernel
theorem pd5_0 : parseMethodDescriptor "([BII)[B" = some ⟨[(.array .byte), .int, .int], some (.array .byte)⟩ := by decide +kernel
theorem ef_5 (m : MethodId) (a : Addr) : entryFrame m #[(.ref a)] 1 = mkF m 0 #[rv a] [] := by first | (simp [entryFrame, mkF, argsToLocals, Value.category]; done) | rfl
def Q5 (Z : State) (a : Addr) (b : Addr) (g : Nat → Int32) (S : Nat) (E : Nat) (h0 : Heap) (n0 : Nat) (v : Option Value) (h : Heap) (L : List Loc) : Prop := ∃ r : Addr, v = some (.ref r) ∧ Fr n0 L ∧ Keep h0 h [] ∧ h0.size ≤ r ∧ n0 ≤ r ∧ own_Af Z h r .byte (E - S) (fun j => .int (g (S + j)))
set_option maxRecDepth 65536 in
set_option maxHeartbeats 40000000 in
theorem rm5 (l : Launch) (Z : State) (a0 : Array Value) (hw : ∀ d ∈ tables_1, d.before a0 Z = true) (ws : List Jvm.Cond) (a : Addr) (b : Addr) (g : Nat → Int32) (S : Nat) (E : Nat) (h0 : Heap) (n0 : Nat) (Z0 : n0 ≤ h0.size) (E_a : Exa Z h0 a "com/example/farcall/farcall/io/XdrEncoder") (F_buf : Fld Z h0 a "com/example/farcall/farcall/io/XdrEncoder" "buffer" "[B" (.ref b)) (F_sta : Fld Z h0 a "com/example/farcall/farcall/io/XdrEncoder" "start" "I" (.int (Int32.ofNat S))) (F_end : Fld Z h0 a "com/example/farcall/farcall/io/XdrEncoder" "end" "I" (.int (Int32.ofNat E))) (A_b : own_Af Z h0 b .byte 64 (fun j => .int (g j))) (ne_ab : a ≠ b) (fg : (∀ j, fits .byte (.int (g j)) = true)) (g_a : n0 ≤ a) (g_b : n0 ≤ b) (hS : S ≤ E) (hE : E ≤ 64) (hne : ¬ (S = 0 ∧ E = 64)) :
    MetFree l (⟨"com/example/farcall/farcall/io/XdrEncoder", "toByteArray", "()[B"⟩ : MethodName) (head1 (Jvm.Cond.code (⟨"com/example/farcall/farcall/io/XdrEncoder", "toByteArray", "()[B"⟩ : MethodName) prog_43_method_21_code 1 (some (.array .byte)) :: ws) ({ frames := 3, cells := 1, slots := 64, locals := 90 } : Room)) (fun aX UX => aX = #[(.ref a)] ∧ Z.Warmed39 UX.vm ∧ UX.heap = h0) (fun _ _ _ _ _ => True) (fun _ UX oX UY => ∃ vX LX, oX = .returned vX ∧ Q5 Z a b g S E h0 n0 vX UY.heap LX ∧ FrameEnd UX oX UY LX ({ frames := 3, cells := 1, slots := 64, locals := 90 } : Room).cells ({ frames := 3, cells := 1, slots := 64, locals := 90 } : Room).slots) := by
  refine MetFree.of_bodySF (plainFor_of_name pn_5) hisR ?_
  intro p e s m args below meth c s₁ Bd hml0 hPX hKX
  obtain ⟨rfl, hZ, hh⟩ := hPX
  have hx := Bd.exec
  have hby := Bd.bytes
  have hml : c.maxLocals = 1 := hml0
  have hown : s.vm.findClass "com/example/farcall/farcall/io/XdrEncoder" = some m.cls := findClass_of_methodNamed Bd.named
  have hnm := (name_of_methodNamed Bd.named Bd.method).1
  have X0 : Stand p l e ({ frames := 3, cells := 1, slots := 64, locals := 90 } : Room) s m #[(.ref a)] below meth c s₁ [] 0 0 := Stand.of_body Bd
  have e0 : s₁.heap = h0 := by rw [← hh, Bd.state]; rfl
  have N0 := Fr.nil n0
  have pre0 : ∀ t, Steps p.tables e below (s₁.setTop (mkF m 0 #[rv a] [])) t → Steps p.tables e below (s₁.setTop (entryFrame m #[(.ref a)] 1)) t := fun t k => castTop (ef_5 m a) k
  obtain ⟨S0, hS0⟩ : ∃ z, z = (s₁.setTop (entryFrame m #[(.ref a)] 1)) := ⟨_, rfl⟩
  rw [← hS0] at pre0
  have K0 : Keep h0 h0 [] := Keep.refl h0 _
  have pre1 : ∀ t, own_s p e below s₁ m 1 #[rv a] [(.ref a)] t → Steps p.tables e below S0 t := by
    intro tX kX
    refine pre0 _ ?_
    show own_s p e below s₁ m 0 #[rv a] [] _
    refine XS.aloadN X0.here hx rfl (hb hby d5_0) rfl rfl ?_
    exact kX
  obtain ⟨T2, X2, e2, st2⟩ := getF X0 hx hZ hown (host := "") (Or.inl (hw _ (List.mem_of_getElem? (i := 10) rfl))) Via.refl e0 F_buf (g := (mkF m 1 #[rv a] [(.ref a)])) rfl rfl (hb hby d5_1)
  have pre3 : ∀ t, own_s p e below T2 m 4 #[rv a] [(.ref b)] t → Steps p.tables e below S0 t := fun tX kX => pre1 _ (st2 _ kX)
  have pre4 : ∀ t, own_s p e below T2 m 5 #[rv a] [(.ref a), (.ref b)] t → Steps p.tables e below S0 t := by
    intro tX kX
    refine pre3 _ ?_
    show own_s p e below T2 m 4 #[rv a] [(.ref b)] _
    refine XS.aloadN X2.here hx rfl (hb hby d5_4) rfl rfl ?_
    exact kX
  obtain ⟨T5, X5, e5, st5⟩ := getF X2 hx hZ hown (host := "") (Or.inl (hw _ (List.mem_of_getElem? (i := 28) rfl))) Via.refl e2 F_sta (g := (mkF m 5 #[rv a] [(.ref a), (.ref b)])) rfl rfl (hb hby d5_5)
  have pre6 : ∀ t, own_s p e below T5 m 8 #[rv a] [(.int (Int32.ofNat S)), (.ref b)] t → Steps p.tables e below S0 t := fun tX kX => pre4 _ (st5 _ kX)
  have pre7 : ∀ t, own_s p e below T5 m 9 #[rv a] [(.ref a), (.int (Int32.ofNat S)), (.ref b)] t → Steps p.tables e below S0 t := by
    intro tX kX
    refine pre6 _ ?_
    show own_s p e below T5 m 8 #[rv a] [(.int (Int32.ofNat S)), (.ref b)] _
    refine XS.aloadN X5.here hx rfl (hb hby d5_8) rfl rfl ?_
    exact kX
  obtain ⟨T8, X8, e8, st8⟩ := getF X5 hx hZ hown (host := "") (Or.inl (hw _ (List.mem_of_getElem? (i := 21) rfl))) Via.refl e5 F_end (g := (mkF m 9 #[rv a] [(.ref a), (.int (Int32.ofNat S)), (.ref b)])) rfl rfl (hb hby d5_9)
  have pre9 : ∀ t, own_s p e below T8 m 12 #[rv a] [(.int (Int32.ofNat E)), (.int (Int32.ofNat S)), (.ref b)] t → Steps p.tables e below S0 t := fun tX kX => pre7 _ (st8 _ kX)
  obtain ⟨_, _, ⟨T10, L10, k10, n10⟩, -, X10, ⟨Lc10, hQ10, l10, y10, z10⟩, st10⟩ := Jvm.LawKit.callS X8 hx (y := (⟨"java/util/Arrays", "copyOfRange", "([BII)[B"⟩ : MethodName)) hown (mvT hZ (hw _ (List.mem_of_getElem? (i := 46) rfl))) (mvT hZ (hw _ (List.mem_of_getElem? (i := 47) rfl))) (mvT hZ (hw _ (List.mem_of_getElem? (i := 48) rfl))) (mvT hZ (hw _ (List.mem_of_getElem? (i := 49) rfl))) (by decide) (backOf (W := 0) (rm4 l Z a0 hw [] b (Int32.ofNat S) (Int32.ofNat E) g S E h0 n0 Z0 A_b fg rfl rfl hS hE hne) hZ (hw _ (List.mem_of_getElem? (i := 49) rfl)) (hw _ (List.mem_of_getElem? (i := 48) rfl)) (by decide) (by decide)) (g := (mkF m 12 #[rv a] [(.int (Int32.ofNat E)), (.int (Int32.ofNat S)), (.ref b)])) rfl (by rw [hml]; rfl) (argsL := [(.ref b), (.int (Int32.ofNat S)), (.int (Int32.ofNat E))]) (rest := []) (lenOf pd5_0 rfl) rfl (by show 2 * 0 + _ ≤ _; exact Nat.le_of_eq rfl) (hb hby d5_12) (fun _ _ => ⟨rfl, e8, (by decide : 0 + 1 ≤ _), (by decide : 0 + 64 ≤ _)⟩)
  dsimp only [Pt.U, Pt.locs, Pt.cells, Pt.slots] at X10 l10 y10 z10 st10 hQ10
  subst l10 y10 z10
  obtain ⟨r10, rfl, Nq10, Kq10, sz_r10, g_r10, fA10⟩ := hQ10
  have N10 := Fr.app N0 Nq10
  have e10 : T10.heap = T10.heap := rfl
  have Z10 : n0 ≤ T10.heap.size := Nat.le_trans Z0 Kq10.1
  have ne11 : a ≠ r10 := Nat.ne_of_lt (Nat.lt_of_lt_of_le E_a.lt sz_r10)
  have ne12 : b ≠ r10 := Nat.ne_of_lt (Nat.lt_of_lt_of_le A_b.lt sz_r10)
  have K10 : Keep h0 T10.heap [] := K0.trans Kq10 all0
  have sz0_r10 : h0.size ≤ r10 := Nat.le_trans K0.1 sz_r10
  have f13_E : Exa Z T10.heap a "com/example/farcall/farcall/io/XdrEncoder" := E_a.keep Kq10
  have f14_F : Fld Z T10.heap a "com/example/farcall/farcall/io/XdrEncoder" "buffer" "[B" (.ref b) := F_buf.keep Kq10 nin0
  have f15_F : Fld Z T10.heap a "com/example/farcall/farcall/io/XdrEncoder" "start" "I" (.int (Int32.ofNat S)) := F_sta.keep Kq10 nin0
  have f16_F : Fld Z T10.heap a "com/example/farcall/farcall/io/XdrEncoder" "end" "I" (.int (Int32.ofNat E)) := F_end.keep Kq10 nin0
  have f17_A : own_Af Z T10.heap b .byte 64 (fun j => .int (g j)) := A_b.keep Kq10 nin0
  obtain ⟨LL18, X18, N18⟩ : ∃ LL, Stand p l e ({ frames := 3, cells := 1, slots := 64, locals := 90 } : Room) s m #[(.ref a)] below meth c T10 LL 1 64 ∧ Fr n0 LL := ⟨_, X10, N10⟩
  have pre19 : ∀ t, own_s p e below T10 m 15 #[rv a] [(.ref r10)] t → Steps p.tables e below S0 t := fun tX kX => pre9 _ (st10 _ kX)
  subst hS0
  obtain ⟨fs, hr, hrun, hended, hW, hsame⟩ := X18.leave (v := (some (.ref r10))) (fun h => by rw [Bd.returns] at h; cases h)
  refine ⟨_, _, pre19 _ (retOut X18 hx Bd.returns (own_narR rfl) (Or.inr (Or.inr (Or.inr (Or.inr ⟨rfl, rfl, rfl⟩)))) (hb hby d5_15) hr), hrun, hended, _, _, rfl, ?_, ⟨_, rfl⟩, hW, hsame.mono (by decide) (by decide)⟩
  show Q5 Z a b g S E h0 n0 (some (.ref r10)) T10.heap _
  exact ⟨r10, rfl, N18, K10, sz0_r10, g_r10, fA10⟩
theorem d6_0 : decode prog_43_method_19_code 0 = .ok (.aload_n 0, 1) := by decide +kernel
theorem d6_1 : decode prog_43_method_19_code 1 = .ok (.getfield 19, 3) := by decide +kernel
theorem d6_4 : decode prog_43_method_19_code 4 = .ok (.aload_n 0, 1) := by decide +kernel
theorem d6_5 : decode prog_43_method_19_code 5 = .ok (.getfield 128, 3) := by decide +kernel
theorem d6_8 : decode prog_43_method_19_code 8 = .ok (.isub, 1) := by decide +kernel
theorem d6_9 : decode prog_43_method_19_code 9 = .ok (.ireturn, 1) := by decide +kernel
theorem pn_6 : plainName "com/example/farcall/farcall/io/XdrEncoder" = true := by first | (simp [plainName, overriddenIn]; done) | decide +kernel
theorem ef_6 (m : MethodId) (a : Addr) : entryFrame m #[(.ref a)] 1 = mkF m 0 #[rv a] [] := by first | (simp [entryFrame, mkF, argsToLocals, Value.category]; done) | rfl
def Q6 (Z : State) (a : Addr) (b : Addr) (g : Nat → Int32) (S : Nat) (E : Nat) (h0 : Heap) (n0 : Nat) (v : Option Value) (h : Heap) (L : List Loc) : Prop := v = some (.int (Int32.ofNat (E - S))) ∧ Fr n0 L ∧ h = h0
set_option maxRecDepth 65536 in
set_option maxHeartbeats 40000000 in
theorem rm6 (l : Launch) (Z : State) (a0 : Array Value) (hw : ∀ d ∈ tables_1, d.before a0 Z = true) (ws : List Jvm.Cond) (a : Addr) (b : Addr) (g : Nat → Int32) (S : Nat) (E : Nat) (h0 : Heap) (n0 : Nat) (Z0 : n0 ≤ h0.size) (E_a : Exa Z h0 a "com/example/farcall/farcall/io/XdrEncoder") (F_buf : Fld Z h0 a "com/example/farcall/farcall/io/XdrEncoder" "buffer" "[B" (.ref b)) (F_sta : Fld Z h0 a "com/example/farcall/farcall/io/XdrEncoder" "start" "I" (.int (Int32.ofNat S))) (F_end : Fld Z h0 a "com/example/farcall/farcall/io/XdrEncoder" "end" "I" (.int (Int32.ofNat E))) (A_b : own_Af Z h0 b .byte 64 (fun j => .int (g j))) (ne_ab : a ≠ b) (fg : (∀ j, fits .byte (.int (g j)) = true)) (g_a : n0 ≤ a) (g_b : n0 ≤ b) (hS : S ≤ E) (hE : E ≤ 64) :
    MetFree l (⟨"com/example/farcall/farcall/io/XdrEncoder", "size", "()I"⟩ : MethodName) (head1 (Jvm.Cond.code (⟨"com/example/farcall/farcall/io/XdrEncoder", "size", "()I"⟩ : MethodName) prog_43_method_19_code 1 (some .int) :: ws) ({ frames := 0, cells := 0, slots := 0, locals := 0 } : Room)) (fun aX UX => aX = #[(.ref a)] ∧ Z.Warmed39 UX.vm ∧ UX.heap = h0) (fun _ _ _ _ _ => True) (fun _ UX oX UY => ∃ vX LX, oX = .returned vX ∧ Q6 Z a b g S E h0 n0 vX UY.heap LX ∧ FrameEnd UX oX UY LX ({ frames := 0, cells := 0, slots := 0, locals := 0 } : Room).cells ({ frames := 0, cells := 0, slots := 0, locals := 0 } : Room).slots) := by
  refine MetFree.of_bodySF (plainFor_of_name pn_6) hisR ?_
  intro p e s m args below meth c s₁ Bd hml0 hPX hKX
  obtain ⟨rfl, hZ, hh⟩ := hPX
  have hx := Bd.exec
  have hby := Bd.bytes
  have hml : c.maxLocals = 1 := hml0
  have hown : s.vm.findClass "com/example/farcall/farcall/io/XdrEncoder" = some m.cls := findClass_of_methodNamed Bd.named
  have hnm := (name_of_methodNamed Bd.named Bd.method).1
  have X0 : Stand p l e ({ frames := 0, cells := 0, slots := 0, locals := 0 } : Room) s m #[(.ref a)] below meth c s₁ [] 0 0 := Stand.of_body Bd
  have e0 : s₁.heap = h0 := by rw [← hh, Bd.state]; rfl
  have N0 := Fr.nil n0
  have pre0 : ∀ t, Steps p.tables e below (s₁.setTop (mkF m 0 #[rv a] [])) t → Steps p.tables e below (s₁.setTop (entryFrame m #[(.ref a)] 1)) t := fun t k => castTop (ef_6 m a) k
  obtain ⟨S0, hS0⟩ : ∃ z, z = (s₁.setTop (entryFrame m #[(.ref a)] 1)) := ⟨_, rfl⟩
  rw [← hS0] at pre0
  have pre1 : ∀ t, own_s p e below s₁ m 1 #[rv a] [(.ref a)] t → Steps p.tables e below S0 t := by
    intro tX kX
    refine pre0 _ ?_
    show own_s p e below s₁ m 0 #[rv a] [] _
    refine XS.aloadN X0.here hx rfl (hb hby d6_0) rfl rfl ?_
    exact kX
  obtain ⟨T2, X2, e2, st2⟩ := getF X0 hx hZ hown (host := "") (Or.inl (hw _ (List.mem_of_getElem? (i := 21) rfl))) Via.refl e0 F_end (g := (mkF m 1 #[rv a] [(.ref a)])) rfl rfl (hb hby d6_1)
  have pre3 : ∀ t, own_s p e below T2 m 4 #[rv a] [(.int (Int32.ofNat E))] t → Steps p.tables e below S0 t := fun tX kX => pre1 _ (st2 _ kX)
  have pre4 : ∀ t, own_s p e below T2 m 5 #[rv a] [(.ref a), (.int (Int32.ofNat E))] t → Steps p.tables e below S0 t := by
    intro tX kX
    refine pre3 _ ?_
    show own_s p e below T2 m 4 #[rv a] [(.int (Int32.ofNat E))] _
    refine XS.aloadN X2.here hx rfl (hb hby d6_4) rfl rfl ?_
    exact kX
  obtain ⟨T5, X5, e5, st5⟩ := getF X2 hx hZ hown (host := "") (Or.inl (hw _ (List.mem_of_getElem? (i := 28) rfl))) Via.refl e2 F_sta (g := (mkF m 5 #[rv a] [(.ref a), (.int (Int32.ofNat E))])) rfl rfl (hb hby d6_5)
  have pre6 : ∀ t, own_s p e below T5 m 8 #[rv a] [(.int (Int32.ofNat S)), (.int (Int32.ofNat E))] t → Steps p.tables e below S0 t := fun tX kX => pre4 _ (st5 _ kX)
  have pre7 : ∀ t, own_s p e below T5 m 9 #[rv a] [(.int ((Int32.ofNat E) - (Int32.ofNat S)))] t → Steps p.tables e below S0 t := by
    intro tX kX
    refine pre6 _ ?_
    show own_s p e below T5 m 8 #[rv a] [(.int (Int32.ofNat S)), (.int (Int32.ofNat E))] _
    refine XS.isub X5.here hx rfl (hb hby d6_8) rfl ?_
    exact kX
  subst hS0
  obtain ⟨fs, hr, hrun, hended, hW, hsame⟩ := X5.leave (v := (some (.int ((Int32.ofNat E) - (Int32.ofNat S))))) (fun h => by rw [Bd.returns] at h; cases h)
  refine ⟨_, _, pre7 _ (retI X5 hx Bd.returns (hb hby d6_9) hr), hrun, hended, _, _, rfl, ?_, ⟨_, rfl⟩, hW, hsame.mono (by decide) (by decide)⟩
  show Q6 Z a b g S E h0 n0 (some (.int ((Int32.ofNat E) - (Int32.ofNat S)))) T5.heap _
  exact ⟨congrArg (fun z => some (Value.int z)) (show ((Int32.ofNat E) - (Int32.ofNat S)) = Int32.ofNat (E - S) from own_of (by omega) (by have iS : (Int32.ofNat S).toInt = S := own_ofn (by omega); have iE : (Int32.ofNat E).toInt = E := own_ofn (by omega); have d1 := c_isub (Int32.ofNat E) (Int32.ofNat S); have d2 := rng32 (Int32.ofNat E - Int32.ofNat S); omega)), N0, e5⟩
theorem d7_0 : decode prog_43_method_28_code 0 = .ok (.aload_n 0, 1) := by decide +kernel
theorem d7_1 : decode prog_43_method_28_code 1 = .ok (.getfield 9, 3) := by decide +kernel
theorem d7_4 : decode prog_43_method_28_code 4 = .ok (.arraylength, 1) := by decide +kernel
theorem d7_5 : decode prog_43_method_28_code 5 = .ok (.aload_n 0, 1) := by decide +kernel
theorem d7_6 : decode prog_43_method_28_code 6 = .ok (.getfield 19, 3) := by decide +kernel
theorem d7_9 : decode prog_43_method_28_code 9 = .ok (.isub, 1) := by decide +kernel
theorem d7_10 : decode prog_43_method_28_code 10 = .ok (.iload_n 1, 1) := by decide +kernel
theorem d7_11 : decode prog_43_method_28_code 11 = .ok (.if_icmp .ge 30, 3) := by decide +kernel
theorem d7_41 : decode prog_43_method_28_code 41 = .ok (.return_, 1) := by decide +kernel
theorem pn_7 : plainName "com/example/farcall/farcall/io/XdrEncoder" = true := by first | (simp [plainName, overriddenIn]; done) | decide +kernel
theorem ef_7 (m : MethodId) (a : Addr) (p1 : Int32) : entryFrame m #[(.ref a), (.int p1)] 2 = mkF m 0 #[rv a, iv p1] [] := by first | (simp [entryFrame, mkF, argsToLocals, Value.category]; done) | rfl
def Q7 (Z : State) (a : Addr) (p1 : Int32) (b : Addr) (g : Nat → Int32) (S : Nat) (E : Nat) (h0 : Heap) (n0 : Nat) (v : Option Value) (h : Heap) (L : List Loc) : Prop := v = none ∧ Fr n0 L ∧ h = h0
set_option maxRecDepth 65536 in
set_option maxHeartbeats 40000000 in
theorem rm7 (l : Launch) (Z : State) (a0 : Array Value) (hw : ∀ d ∈ tables_1, d.before a0 Z = true) (ws : List Jvm.Cond) (a : Addr) (p1 : Int32) (b : Addr) (g : Nat → Int32) (S : Nat) (E : Nat) (h0 : Heap) (n0 : Nat) (Z0 : n0 ≤ h0.size) (E_a : Exa Z h0 a "com/example/farcall/farcall/io/XdrEncoder") (F_buf : Fld Z h0 a "com/example/farcall/farcall/io/XdrEncoder" "buffer" "[B" (.ref b)) (F_sta : Fld Z h0 a "com/example/farcall/farcall/io/XdrEncoder" "start" "I" (.int (Int32.ofNat S))) (F_end : Fld Z h0 a "com/example/farcall/farcall/io/XdrEncoder" "end" "I" (.int (Int32.ofNat E))) (A_b : own_Af Z h0 b .byte 64 (fun j => .int (g j))) (ne_ab : a ≠ b) (fg : (∀ j, fits .byte (.int (g j)) = true)) (g_a : n0 ≤ a) (g_b : n0 ≤ b) (hp1 : p1 = 4) (hE : E + 4 ≤ 64) :
    MetFree l (⟨"com/example/farcall/farcall/io/XdrEncoder", "ensureRoom", "(I)V"⟩ : MethodName) (head1 (Jvm.Cond.code (⟨"com/example/farcall/farcall/io/XdrEncoder", "ensureRoom", "(I)V"⟩ : MethodName) prog_43_method_28_code 2 none :: ws) ({ frames := 0, cells := 0, slots := 0, locals := 0 } : Room)) (fun aX UX => aX = #[(.ref a), (.int p1)] ∧ Z.Warmed39 UX.vm ∧ UX.heap = h0) (fun _ _ _ _ _ => True) (fun _ UX oX UY => ∃ vX LX, oX = .returned vX ∧ Q7 Z a p1 b g S E h0 n0 vX UY.heap LX ∧ FrameEnd UX oX UY LX ({ frames := 0, cells := 0, slots := 0, locals := 0 } : Room).cells ({ frames := 0, cells := 0, slots := 0, locals := 0 } : Room).slots) := by
  refine MetFree.of_bodySF (plainFor_of_name pn_7) hisR ?_
  intro p e s m args below meth c s₁ Bd hml0 hPX hKX
  obtain ⟨rfl, hZ, hh⟩ := hPX
  have hx := Bd.exec
  have hby := Bd.bytes
  have hml : c.maxLocals = 2 := hml0
  have hown : s.vm.findClass "com/example/farcall/farcall/io/XdrEncoder" = some m.cls := findClass_of_methodNamed Bd.named
  have hnm := (name_of_methodNamed Bd.named Bd.method).1
  have X0 : Stand p l e ({ frames := 0, cells := 0, slots := 0, locals := 0 } : Room) s m #[(.ref a), (.int p1)] below meth c s₁ [] 0 0 := Stand.of_body Bd
  have e0 : s₁.heap = h0 := by rw [← hh, Bd.state]; rfl
  have N0 := Fr.nil n0
  have pre0 : ∀ t, Steps p.tables e below (s₁.setTop (mkF m 0 #[rv a, iv p1] [])) t → Steps p.tables e below (s₁.setTop (entryFrame m #[(.ref a), (.int p1)] 2)) t := fun t k => castTop (ef_7 m a p1) k
  obtain ⟨S0, hS0⟩ : ∃ z, z = (s₁.setTop (entryFrame m #[(.ref a), (.int p1)] 2)) := ⟨_, rfl⟩
  rw [← hS0] at pre0
  have pre1 : ∀ t, own_s p e below s₁ m 1 #[rv a, iv p1] [(.ref a)] t → Steps p.tables e below S0 t := by
    intro tX kX
    refine pre0 _ ?_
    show own_s p e below s₁ m 0 #[rv a, iv p1] [] _
    refine XS.aloadN X0.here hx rfl (hb hby d7_0) rfl rfl ?_
    exact kX
  obtain ⟨T2, X2, e2, st2⟩ := getF X0 hx hZ hown (host := "") (Or.inl (hw _ (List.mem_of_getElem? (i := 10) rfl))) Via.refl e0 F_buf (g := (mkF m 1 #[rv a, iv p1] [(.ref a)])) rfl rfl (hb hby d7_1)
  have pre3 : ∀ t, own_s p e below T2 m 4 #[rv a, iv p1] [(.ref b)] t → Steps p.tables e below S0 t := fun tX kX => pre1 _ (st2 _ kX)
  obtain ⟨cl4, Ar4, S4, M4, H4⟩ := id A_b
  have pre5 : ∀ t, own_s p e below T2 m 6 #[rv a, iv p1] [(.ref a), (.int (64 : Int32))] t → Steps p.tables e below S0 t := by
    intro tX kX
    refine pre3 _ ?_
    show own_s p e below T2 m 4 #[rv a, iv p1] [(.ref b)] _
    refine X2.arraylength hx (by rw [e2]; exact Ar4.1) (State.isArrayOf_alike hZ.alike Ar4.2.1) (g := (mkF m 4 #[rv a, iv p1] [(.ref b)])) rfl rfl (hb hby d7_4) _ ?_
    rw [show cl4.slots.size.toInt32 = (64 : Int32) from by rw [S4]; exact rfl]
    show own_s p e below T2 m 5 #[rv a, iv p1] [(.int (64 : Int32))] _
    refine XS.aloadN X2.here hx rfl (hb hby d7_5) rfl rfl ?_
    exact kX
  obtain ⟨T6, X6, e6, st6⟩ := getF X2 hx hZ hown (host := "") (Or.inl (hw _ (List.mem_of_getElem? (i := 21) rfl))) Via.refl e2 F_end (g := (mkF m 6 #[rv a, iv p1] [(.ref a), (.int (64 : Int32))])) rfl rfl (hb hby d7_6)
  have pre7 : ∀ t, own_s p e below T6 m 9 #[rv a, iv p1] [(.int (Int32.ofNat E)), (.int (64 : Int32))] t → Steps p.tables e below S0 t := fun tX kX => pre5 _ (st6 _ kX)
  have pre8 : ∀ t, own_s p e below T6 m 41 #[rv a, iv p1] [] t → Steps p.tables e below S0 t := by
    intro tX kX
    refine pre7 _ ?_
    show own_s p e below T6 m 9 #[rv a, iv p1] [(.int (Int32.ofNat E)), (.int (64 : Int32))] _
    refine XS.isub X6.here hx rfl (hb hby d7_9) rfl ?_
    show own_s p e below T6 m 10 #[rv a, iv p1] [(.int ((64 : Int32) - (Int32.ofNat E)))] _
    refine XS.iloadN X6.here hx rfl (hb hby d7_10) rfl ?_
    show own_s p e below T6 m 11 #[rv a, iv p1] [(.int p1), (.int ((64 : Int32) - (Int32.ofNat E)))] _
    refine XS.icmpYes X6.here hx rfl (pc0 := 11) (pc' := 41) rfl (hb hby d7_11) rfl (flt (show ¬ (((64 : Int32) - (Int32.ofNat E)) < p1) from fun q => absurd (Int32.lt_iff_toInt_lt.mp q) (by have d1 := c_isub (64 : Int32) (Int32.ofNat E); have d2 := rng32 ((64 : Int32) - Int32.ofNat E); have d3 : (64 : Int32).toInt = 64 := rfl; have d4 : (Int32.ofNat E).toInt = E := own_ofn (by omega); have d5 : p1.toInt = 4 := (congrArg Int32.toInt hp1 : p1.toInt = (4 : Int32).toInt); omega))).2.1 (by decide) (by decide) ?_
    exact kX
  subst hS0
  obtain ⟨fs, hr, hrun, hended, hW, hsame⟩ := X6.leave (v := none) (fun _ => rfl)
  refine ⟨_, _, pre8 _ (X6.returnOut hx Bd.returns (hb hby d7_41) hr), hrun, hended, _, _, rfl, ?_, ⟨_, rfl⟩, hW, hsame.mono (by decide) (by decide)⟩
  show Q7 Z a p1 b g S E h0 n0 none T6.heap _
  exact ⟨rfl, N0, e6⟩
theorem d8_0 : decode prog_43_method_24_code 0 = .ok (.aload_n 0, 1) := by decide +kernel
theorem d8_1 : decode prog_43_method_24_code 1 = .ok (.getfield 128, 3) := by decide +kernel
theorem d8_4 : decode prog_43_method_24_code 4 = .ok (.iload_n 1, 1) := by decide +kernel
theorem d8_5 : decode prog_43_method_24_code 5 = .ok (.iadd, 1) := by decide +kernel
theorem d8_6 : decode prog_43_method_24_code 6 = .ok (.istore_n 3, 1) := by decide +kernel
theorem d8_7 : decode prog_43_method_24_code 7 = .ok (.aload_n 0, 1) := by decide +kernel
theorem d8_8 : decode prog_43_method_24_code 8 = .ok (.getfield 9, 3) := by decide +kernel
theorem d8_11 : decode prog_43_method_24_code 11 = .ok (.iload_n 3, 1) := by decide +kernel
theorem d8_12 : decode prog_43_method_24_code 12 = .ok (.iload_n 2, 1) := by decide +kernel
theorem d8_13 : decode prog_43_method_24_code 13 = .ok (.bipush 24, 2) := by decide +kernel
theorem d8_15 : decode prog_43_method_24_code 15 = .ok (.iushr, 1) := by decide +kernel
theorem d8_16 : decode prog_43_method_24_code 16 = .ok (.i2b, 1) := by decide +kernel
theorem d8_17 : decode prog_43_method_24_code 17 = .ok (.bastore, 1) := by decide +kernel
theorem d8_18 : decode prog_43_method_24_code 18 = .ok (.aload_n 0, 1) := by decide +kernel
theorem d8_19 : decode prog_43_method_24_code 19 = .ok (.getfield 9, 3) := by decide +kernel
theorem d8_22 : decode prog_43_method_24_code 22 = .ok (.iload_n 3, 1) := by decide +kernel
theorem d8_23 : decode prog_43_method_24_code 23 = .ok (.iconst 1, 1) := by decide +kernel
theorem d8_24 : decode prog_43_method_24_code 24 = .ok (.iadd, 1) := by decide +kernel
theorem d8_25 : decode prog_43_method_24_code 25 = .ok (.iload_n 2, 1) := by decide +kernel
theorem d8_26 : decode prog_43_method_24_code 26 = .ok (.bipush 16, 2) := by decide +kernel
theorem d8_28 : decode prog_43_method_24_code 28 = .ok (.iushr, 1) := by decide +kernel
theorem d8_29 : decode prog_43_method_24_code 29 = .ok (.i2b, 1) := by decide +kernel
theorem d8_30 : decode prog_43_method_24_code 30 = .ok (.bastore, 1) := by decide +kernel
theorem d8_31 : decode prog_43_method_24_code 31 = .ok (.aload_n 0, 1) := by decide +kernel
theorem d8_32 : decode prog_43_method_24_code 32 = .ok (.getfield 9, 3) := by decide +kernel
theorem d8_35 : decode prog_43_method_24_code 35 = .ok (.iload_n 3, 1) := by decide +kernel
theorem d8_36 : decode prog_43_method_24_code 36 = .ok (.iconst 2, 1) := by decide +kernel
theorem d8_37 : decode prog_43_method_24_code 37 = .ok (.iadd, 1) := by decide +kernel
theorem d8_38 : decode prog_43_method_24_code 38 = .ok (.iload_n 2, 1) := by decide +kernel
theorem d8_39 : decode prog_43_method_24_code 39 = .ok (.bipush 8, 2) := by decide +kernel
theorem d8_41 : decode prog_43_method_24_code 41 = .ok (.iushr, 1) := by decide +kernel
theorem d8_42 : decode prog_43_method_24_code 42 = .ok (.i2b, 1) := by decide +kernel
theorem d8_43 : decode prog_43_method_24_code 43 = .ok (.bastore, 1) := by decide +kernel
theorem d8_44 : decode prog_43_method_24_code 44 = .ok (.aload_n 0, 1) := by decide +kernel
theorem d8_45 : decode prog_43_method_24_code 45 = .ok (.getfield 9, 3) := by decide +kernel
theorem d8_48 : decode prog_43_method_24_code 48 = .ok (.iload_n 3, 1) := by decide +kernel
theorem d8_49 : decode prog_43_method_24_code 49 = .ok (.iconst 3, 1) := by decide +kernel
theorem d8_50 : decode prog_43_method_24_code 50 = .ok (.iadd, 1) := by decide +kernel
theorem d8_51 : decode prog_43_method_24_code 51 = .ok (.iload_n 2, 1) := by decide +kernel
theorem d8_52 : decode prog_43_method_24_code 52 = .ok (.i2b, 1) := by decide +kernel
theorem d8_53 : decode prog_43_method_24_code 53 = .ok (.bastore, 1) := by decide +kernel
theorem d8_54 : decode prog_43_method_24_code 54 = .ok (.return_, 1) := by decide +kernel
theorem pn_8 : plainName "com/example/farcall/farcall/io/XdrEncoder" = true := by first | (simp [plainName, overriddenIn]; done) | decide +kernel
theorem ef_8 (m : MethodId) (a : Addr) (p1 : Int32) (p2 : Int32) : entryFrame m #[(.ref a), (.int p1), (.int p2)] 4 = mkF m 0 #[rv a, iv p1, iv p2, .unset] [] := by first | (simp [entryFrame, mkF, argsToLocals, Value.category]; done) | rfl
def Q8 (Z : State) (a : Addr) (p1 : Int32) (p2 : Int32) (b : Addr) (g : Nat → Int32) (S : Nat) (E : Nat) (O : Nat) (h0 : Heap) (n0 : Nat) (v : Option Value) (h : Heap) (L : List Loc) : Prop := v = none ∧ Fr n0 L ∧ Keep h0 h [b] ∧ Exa Z h a "com/example/farcall/farcall/io/XdrEncoder" ∧ Fld Z h a "com/example/farcall/farcall/io/XdrEncoder" "buffer" "[B" (.ref b) ∧ Fld Z h a "com/example/farcall/farcall/io/XdrEncoder" "start" "I" (.int (Int32.ofNat S)) ∧ Fld Z h a "com/example/farcall/farcall/io/XdrEncoder" "end" "I" (.int (Int32.ofNat E)) ∧ own_Af Z h b .byte 64 (fun j => .int ((own_put g (S + O) p2) j)) ∧ a ≠ b ∧ (∀ j, fits .byte (.int ((own_put g (S + O) p2) j)) = true) ∧ n0 ≤ a ∧ n0 ≤ b
set_option maxRecDepth 65536 in
set_option maxHeartbeats 40000000 in
theorem rm8 (l : Launch) (Z : State) (a0 : Array Value) (hw : ∀ d ∈ tables_1, d.before a0 Z = true) (ws : List Jvm.Cond) (a : Addr) (p1 : Int32) (p2 : Int32) (b : Addr) (g : Nat → Int32) (S : Nat) (E : Nat) (O : Nat) (h0 : Heap) (n0 : Nat) (Z0 : n0 ≤ h0.size) (E_a : Exa Z h0 a "com/example/farcall/farcall/io/XdrEncoder") (F_buf : Fld Z h0 a "com/example/farcall/farcall/io/XdrEncoder" "buffer" "[B" (.ref b)) (F_sta : Fld Z h0 a "com/example/farcall/farcall/io/XdrEncoder" "start" "I" (.int (Int32.ofNat S))) (F_end : Fld Z h0 a "com/example/farcall/farcall/io/XdrEncoder" "end" "I" (.int (Int32.ofNat E))) (A_b : own_Af Z h0 b .byte 64 (fun j => .int (g j))) (ne_ab : a ≠ b) (fg : (∀ j, fits .byte (.int (g j)) = true)) (g_a : n0 ≤ a) (g_b : n0 ≤ b) (hp1 : p1 = Int32.ofNat O) (hO : S + O + 4 ≤ 64) :
    MetFree l (⟨"com/example/farcall/farcall/io/XdrEncoder", "setInt", "(II)V"⟩ : MethodName) (head1 (Jvm.Cond.code (⟨"com/example/farcall/farcall/io/XdrEncoder", "setInt", "(II)V"⟩ : MethodName) prog_43_method_24_code 4 none :: ws) ({ frames := 0, cells := 0, slots := 0, locals := 0 } : Room)) (fun aX UX => aX = #[(.ref a), (.int p1), (.int p2)] ∧ Z.Warmed39 UX.vm ∧ UX.heap = h0) (fun _ _ _ _ _ => True) (fun _ UX oX UY => ∃ vX LX, oX = .returned vX ∧ Q8 Z a p1 p2 b g S E O h0 n0 vX UY.heap LX ∧ FrameEnd UX oX UY LX ({ frames := 0, cells := 0, slots := 0, locals := 0 } : Room).cells ({ frames := 0, cells := 0, slots := 0, locals := 0 } : Room).slots) := by
  refine MetFree.of_bodySF (plainFor_of_name pn_8) hisR ?_
  intro p e s m args below meth c s₁ Bd hml0 hPX hKX
  obtain ⟨rfl, hZ, hh⟩ := hPX
  have hx := Bd.exec
  have hby := Bd.bytes
  have hml : c.maxLocals = 4 := hml0
  have hown : s.vm.findClass "com/example/farcall/farcall/io/XdrEncoder" = some m.cls := findClass_of_methodNamed Bd.named
  have hnm := (name_of_methodNamed Bd.named Bd.method).1
  have X0 : Stand p l e ({ frames := 0, cells := 0, slots := 0, locals := 0 } : Room) s m #[(.ref a), (.int p1), (.int p2)] below meth c s₁ [] 0 0 := Stand.of_body Bd
  have e0 : s₁.heap = h0 := by rw [← hh, Bd.state]; rfl
  have N0 := Fr.nil n0
  have pre0 : ∀ t, Steps p.tables e below (s₁.setTop (mkF m 0 #[rv a, iv p1, iv p2, .unset] [])) t → Steps p.tables e below (s₁.setTop (entryFrame m #[(.ref a), (.int p1), (.int p2)] 4)) t := fun t k => castTop (ef_8 m a p1 p2) k
  obtain ⟨S0, hS0⟩ : ∃ z, z = (s₁.setTop (entryFrame m #[(.ref a), (.int p1), (.int p2)] 4)) := ⟨_, rfl⟩
  rw [← hS0] at pre0
  have K0 : Keep h0 h0 [b] := Keep.refl h0 _
  have pre1 : ∀ t, own_s p e below s₁ m 1 #[rv a, iv p1, iv p2, .unset] [(.ref a)] t → Steps p.tables e below S0 t := by
    intro tX kX
    refine pre0 _ ?_
    show own_s p e below s₁ m 0 #[rv a, iv p1, iv p2, .unset] [] _
    refine XS.aloadN X0.here hx rfl (hb hby d8_0) rfl rfl ?_
    exact kX
  obtain ⟨T2, X2, e2, st2⟩ := getF X0 hx hZ hown (host := "") (Or.inl (hw _ (List.mem_of_getElem? (i := 28) rfl))) Via.refl e0 F_sta (g := (mkF m 1 #[rv a, iv p1, iv p2, .unset] [(.ref a)])) rfl rfl (hb hby d8_1)
  have pre3 : ∀ t, own_s p e below T2 m 4 #[rv a, iv p1, iv p2, .unset] [(.int (Int32.ofNat S))] t → Steps p.tables e below S0 t := fun tX kX => pre1 _ (st2 _ kX)
  have pre4 : ∀ t, own_s p e below T2 m 6 #[rv a, iv p1, iv p2, .unset] [(.int ((Int32.ofNat S) + p1))] t → Steps p.tables e below S0 t := by
    intro tX kX
    refine pre3 _ ?_
    show own_s p e below T2 m 4 #[rv a, iv p1, iv p2, .unset] [(.int (Int32.ofNat S))] _
    refine XS.iloadN X2.here hx rfl (hb hby d8_4) rfl ?_
    show own_s p e below T2 m 5 #[rv a, iv p1, iv p2, .unset] [(.int p1), (.int (Int32.ofNat S))] _
    refine XS.iadd X2.here hx rfl (hb hby d8_5) rfl ?_
    exact kX
  obtain ⟨pp, hpp⟩ : ∃ z : Int32, z = ((Int32.ofNat S) + p1) := ⟨_, rfl⟩
  rw [← hpp] at pre4
  have ppI : pp.toInt = ((S + O : Nat) : Int) := by rw [hpp, hp1]; have d1 := c_iadd (Int32.ofNat S) (Int32.ofNat O); have d2 := rng32 (Int32.ofNat S + Int32.ofNat O); have d3 : (Int32.ofNat S).toInt = S := own_ofn (by omega); have d4 : (Int32.ofNat O).toInt = O := own_ofn (by omega); omega
  have pre5 : ∀ t, own_s p e below T2 m 8 #[rv a, iv p1, iv p2, iv pp] [(.ref a)] t → Steps p.tables e below S0 t := by
    intro tX kX
    refine pre4 _ ?_
    show own_s p e below T2 m 6 #[rv a, iv p1, iv p2, .unset] [(.int pp)] _
    refine XS.istoreN X2.here hx rfl (hb hby d8_6) rfl (l' := #[rv a, iv p1, iv p2, iv pp]) rfl ?_
    show own_s p e below T2 m 7 #[rv a, iv p1, iv p2, iv pp] [] _
    refine XS.aloadN X2.here hx rfl (hb hby d8_7) rfl rfl ?_
    exact kX
  obtain ⟨T6, X6, e6, st6⟩ := getF X2 hx hZ hown (host := "") (Or.inl (hw _ (List.mem_of_getElem? (i := 10) rfl))) Via.refl e2 F_buf (g := (mkF m 8 #[rv a, iv p1, iv p2, iv pp] [(.ref a)])) rfl rfl (hb hby d8_8)
  have pre7 : ∀ t, own_s p e below T6 m 11 #[rv a, iv p1, iv p2, iv pp] [(.ref b)] t → Steps p.tables e below S0 t := fun tX kX => pre5 _ (st6 _ kX)
  have pre8 : ∀ t, own_s p e below T6 m 17 #[rv a, iv p1, iv p2, iv pp] [(.int (((p2.toUInt32 >>> ((24 : Int32) &&& 31).toUInt32).toInt32).toInt8.toInt32)), (.int pp), (.ref b)] t → Steps p.tables e below S0 t := by
    intro tX kX
    refine pre7 _ ?_
    show own_s p e below T6 m 11 #[rv a, iv p1, iv p2, iv pp] [(.ref b)] _
    refine XS.iloadN X6.here hx rfl (hb hby d8_11) rfl ?_
    show own_s p e below T6 m 12 #[rv a, iv p1, iv p2, iv pp] [(.int pp), (.ref b)] _
    refine XS.iloadN X6.here hx rfl (hb hby d8_12) rfl ?_
    show own_s p e below T6 m 13 #[rv a, iv p1, iv p2, iv pp] [(.int p2), (.int pp), (.ref b)] _
    refine XS.bipush X6.here hx rfl (hb hby d8_13) ?_
    show own_s p e below T6 m 15 #[rv a, iv p1, iv p2, iv pp] [(.int (24 : Int32)), (.int p2), (.int pp), (.ref b)] _
    refine XS.iushr X6.here hx rfl (hb hby d8_15) rfl ?_
    show own_s p e below T6 m 16 #[rv a, iv p1, iv p2, iv pp] [(.int ((p2.toUInt32 >>> ((24 : Int32) &&& 31).toUInt32).toInt32)), (.int pp), (.ref b)] _
    refine XS.i2b X6.here hx rfl (hb hby d8_16) rfl ?_
    exact kX
  obtain ⟨cl9, Ar9, S9, M9, H9⟩ := id A_b
  obtain ⟨T10, h10, X10, e10, W10, st10⟩ := stB X6 hx hZ e6 Ar9 (j := pp) (own_inb S9 M9 (own_idx (by omega) (by omega))) (g := (mkF m 17 #[rv a, iv p1, iv p2, iv pp] [(.int (((p2.toUInt32 >>> ((24 : Int32) &&& 31).toUInt32).toInt32).toInt8.toInt32)), (.int pp), (.ref b)])) rfl rfl (hb hby d8_17)
  have pre11 : ∀ t, own_s p e below T10 m 18 #[rv a, iv p1, iv p2, iv pp] [] t → Steps p.tables e below S0 t := fun tX kX => pre8 _ (st10 _ kX)
  obtain ⟨LL12, X12, N12⟩ : ∃ LL, Stand p l e ({ frames := 0, cells := 0, slots := 0, locals := 0 } : Room) s m #[(.ref a), (.int p1), (.int p2)] below meth c T10 LL 0 0 ∧ Fr n0 LL := ⟨_, X10, Fr.snoc X10 N0 g_b⟩
  have f13_E : Exa Z h10 a "com/example/farcall/farcall/io/XdrEncoder" := E_a.wr W10
  have f14_F : Fld Z h10 a "com/example/farcall/farcall/io/XdrEncoder" "buffer" "[B" (.ref b) := F_buf.other W10 (Or.inl ne_ab)
  have f15_F : Fld Z h10 a "com/example/farcall/farcall/io/XdrEncoder" "start" "I" (.int (Int32.ofNat S)) := F_sta.other W10 (Or.inl ne_ab)
  have f16_F : Fld Z h10 a "com/example/farcall/farcall/io/XdrEncoder" "end" "I" (.int (Int32.ofNat E)) := F_end.other W10 (Or.inl ne_ab)
  have Z17 : n0 ≤ h10.size := Nat.le_trans Z0 (Keep.of_wr W10).1
  have K18 : Keep h0 h10 [b] := K0.wr W10 (Or.inl (List.mem_of_getElem? (i := 0) rfl))
  have f19_A : own_Af Z h10 b .byte 64 (own_up (fun j => .int (g j)) pp.toNatClampNeg (.int (nar .byte (((p2.toUInt32 >>> ((24 : Int32) &&& 31).toUInt32).toInt32).toInt8.toInt32)))) := own_Af.set Ar9 S9 M9 H9 W10
  have fS20 : own_Af Z h10 b .byte 64 (fun j => .int ((own_upi g (S + O) (own_by p2 0)) j)) := by
    have q := f19_A
    rw [show pp.toNatClampNeg = (S + O) from own_nat (by omega), own_nn, own_upI] at q
    exact q
  have pre21 : ∀ t, own_s p e below T10 m 19 #[rv a, iv p1, iv p2, iv pp] [(.ref a)] t → Steps p.tables e below S0 t := by
    intro tX kX
    refine pre11 _ ?_
    show own_s p e below T10 m 18 #[rv a, iv p1, iv p2, iv pp] [] _
    refine XS.aloadN X12.here hx rfl (hb hby d8_18) rfl rfl ?_
    exact kX
  obtain ⟨T22, X22, e22, st22⟩ := getF X12 hx hZ hown (host := "") (Or.inl (hw _ (List.mem_of_getElem? (i := 10) rfl))) Via.refl e10 f14_F (g := (mkF m 19 #[rv a, iv p1, iv p2, iv pp] [(.ref a)])) rfl rfl (hb hby d8_19)
  have pre23 : ∀ t, own_s p e below T22 m 22 #[rv a, iv p1, iv p2, iv pp] [(.ref b)] t → Steps p.tables e below S0 t := fun tX kX => pre21 _ (st22 _ kX)
  have pre24 : ∀ t, own_s p e below T22 m 30 #[rv a, iv p1, iv p2, iv pp] [(.int (((p2.toUInt32 >>> ((16 : Int32) &&& 31).toUInt32).toInt32).toInt8.toInt32)), (.int (pp + (1 : Int32))), (.ref b)] t → Steps p.tables e below S0 t := by
    intro tX kX
    refine pre23 _ ?_
    show own_s p e below T22 m 22 #[rv a, iv p1, iv p2, iv pp] [(.ref b)] _
    refine XS.iloadN X22.here hx rfl (hb hby d8_22) rfl ?_
    show own_s p e below T22 m 23 #[rv a, iv p1, iv p2, iv pp] [(.int pp), (.ref b)] _
    refine XS.iconst X22.here hx rfl (hb hby d8_23) ?_
    show own_s p e below T22 m 24 #[rv a, iv p1, iv p2, iv pp] [(.int (1 : Int32)), (.int pp), (.ref b)] _
    refine XS.iadd X22.here hx rfl (hb hby d8_24) rfl ?_
    show own_s p e below T22 m 25 #[rv a, iv p1, iv p2, iv pp] [(.int (pp + (1 : Int32))), (.ref b)] _
    refine XS.iloadN X22.here hx rfl (hb hby d8_25) rfl ?_
    show own_s p e below T22 m 26 #[rv a, iv p1, iv p2, iv pp] [(.int p2), (.int (pp + (1 : Int32))), (.ref b)] _
    refine XS.bipush X22.here hx rfl (hb hby d8_26) ?_
    show own_s p e below T22 m 28 #[rv a, iv p1, iv p2, iv pp] [(.int (16 : Int32)), (.int p2), (.int (pp + (1 : Int32))), (.ref b)] _
    refine XS.iushr X22.here hx rfl (hb hby d8_28) rfl ?_
    show own_s p e below T22 m 29 #[rv a, iv p1, iv p2, iv pp] [(.int ((p2.toUInt32 >>> ((16 : Int32) &&& 31).toUInt32).toInt32)), (.int (pp + (1 : Int32))), (.ref b)] _
    refine XS.i2b X22.here hx rfl (hb hby d8_29) rfl ?_
    exact kX
  have ix1 : (pp + (1 : Int32)).toInt = pp.toInt + 1 := by have d1 := c_iadd pp 1; have d2 := rng32 (pp + 1); have d3 : (1 : Int32).toInt = 1 := rfl; omega
  obtain ⟨cl25, Ar25, S25, M25, H25⟩ := id fS20
  obtain ⟨T26, h26, X26, e26, W26, st26⟩ := stB X22 hx hZ e22 Ar25 (j := (pp + (1 : Int32))) (own_inb S25 M25 (own_idx (by omega) (by omega))) (g := (mkF m 30 #[rv a, iv p1, iv p2, iv pp] [(.int (((p2.toUInt32 >>> ((16 : Int32) &&& 31).toUInt32).toInt32).toInt8.toInt32)), (.int (pp + (1 : Int32))), (.ref b)])) rfl rfl (hb hby d8_30)
  have pre27 : ∀ t, own_s p e below T26 m 31 #[rv a, iv p1, iv p2, iv pp] [] t → Steps p.tables e below S0 t := fun tX kX => pre24 _ (st26 _ kX)
  obtain ⟨LL28, X28, N28⟩ : ∃ LL, Stand p l e ({ frames := 0, cells := 0, slots := 0, locals := 0 } : Room) s m #[(.ref a), (.int p1), (.int p2)] below meth c T26 LL 0 0 ∧ Fr n0 LL := ⟨_, X26, Fr.snoc X26 N12 g_b⟩
  have f29_E : Exa Z h26 a "com/example/farcall/farcall/io/XdrEncoder" := f13_E.wr W26
  have f30_F : Fld Z h26 a "com/example/farcall/farcall/io/XdrEncoder" "buffer" "[B" (.ref b) := f14_F.other W26 (Or.inl ne_ab)
  have f31_F : Fld Z h26 a "com/example/farcall/farcall/io/XdrEncoder" "start" "I" (.int (Int32.ofNat S)) := f15_F.other W26 (Or.inl ne_ab)
  have f32_F : Fld Z h26 a "com/example/farcall/farcall/io/XdrEncoder" "end" "I" (.int (Int32.ofNat E)) := f16_F.other W26 (Or.inl ne_ab)
  have Z33 : n0 ≤ h26.size := Nat.le_trans Z17 (Keep.of_wr W26).1
  have K34 : Keep h0 h26 [b] := K18.wr W26 (Or.inl (List.mem_of_getElem? (i := 0) rfl))
  have f35_A : own_Af Z h26 b .byte 64 (own_up (fun j => .int ((own_upi g (S + O) (own_by p2 0)) j)) (pp + (1 : Int32)).toNatClampNeg (.int (nar .byte (((p2.toUInt32 >>> ((16 : Int32) &&& 31).toUInt32).toInt32).toInt8.toInt32)))) := own_Af.set Ar25 S25 M25 H25 W26
  have fS36 : own_Af Z h26 b .byte 64 (fun j => .int ((own_upi (own_upi g (S + O) (own_by p2 0)) (S + O + 1) (own_by p2 1)) j)) := by
    have q := f35_A
    rw [show (pp + (1 : Int32)).toNatClampNeg = (S + O + 1) from own_nat (by have d1 := c_iadd pp 1; have d2 := rng32 (pp + 1); have d3 : (1 : Int32).toInt = 1 := rfl; omega), own_nn, own_upI] at q
    exact q
  have pre37 : ∀ t, own_s p e below T26 m 32 #[rv a, iv p1, iv p2, iv pp] [(.ref a)] t → Steps p.tables e below S0 t := by
    intro tX kX
    refine pre27 _ ?_
    show own_s p e below T26 m 31 #[rv a, iv p1, iv p2, iv pp] [] _
    refine XS.aloadN X28.here hx rfl (hb hby d8_31) rfl rfl ?_
    exact kX
  obtain ⟨T38, X38, e38, st38⟩ := getF X28 hx hZ hown (host := "") (Or.inl (hw _ (List.mem_of_getElem? (i := 10) rfl))) Via.refl e26 f30_F (g := (mkF m 32 #[rv a, iv p1, iv p2, iv pp] [(.ref a)])) rfl rfl (hb hby d8_32)
  have pre39 : ∀ t, own_s p e below T38 m 35 #[rv a, iv p1, iv p2, iv pp] [(.ref b)] t → Steps p.tables e below S0 t := fun tX kX => pre37 _ (st38 _ kX)
  have pre40 : ∀ t, own_s p e below T38 m 43 #[rv a, iv p1, iv p2, iv pp] [(.int (((p2.toUInt32 >>> ((8 : Int32) &&& 31).toUInt32).toInt32).toInt8.toInt32)), (.int (pp + (2 : Int32))), (.ref b)] t → Steps p.tables e below S0 t := by
    intro tX kX
    refine pre39 _ ?_
    show own_s p e below T38 m 35 #[rv a, iv p1, iv p2, iv pp] [(.ref b)] _
    refine XS.iloadN X38.here hx rfl (hb hby d8_35) rfl ?_
    show own_s p e below T38 m 36 #[rv a, iv p1, iv p2, iv pp] [(.int pp), (.ref b)] _
    refine XS.iconst X38.here hx rfl (hb hby d8_36) ?_
    show own_s p e below T38 m 37 #[rv a, iv p1, iv p2, iv pp] [(.int (2 : Int32)), (.int pp), (.ref b)] _
    refine XS.iadd X38.here hx rfl (hb hby d8_37) rfl ?_
    show own_s p e below T38 m 38 #[rv a, iv p1, iv p2, iv pp] [(.int (pp + (2 : Int32))), (.ref b)] _
    refine XS.iloadN X38.here hx rfl (hb hby d8_38) rfl ?_
    show own_s p e below T38 m 39 #[rv a, iv p1, iv p2, iv pp] [(.int p2), (.int (pp + (2 : Int32))), (.ref b)] _
    refine XS.bipush X38.here hx rfl (hb hby d8_39) ?_
    show own_s p e below T38 m 41 #[rv a, iv p1, iv p2, iv pp] [(.int (8 : Int32)), (.int p2), (.int (pp + (2 : Int32))), (.ref b)] _
    refine XS.iushr X38.here hx rfl (hb hby d8_41) rfl ?_
    show own_s p e below T38 m 42 #[rv a, iv p1, iv p2, iv pp] [(.int ((p2.toUInt32 >>> ((8 : Int32) &&& 31).toUInt32).toInt32)), (.int (pp + (2 : Int32))), (.ref b)] _
    refine XS.i2b X38.here hx rfl (hb hby d8_42) rfl ?_
    exact kX
  have ix2 : (pp + (2 : Int32)).toInt = pp.toInt + 2 := by have d1 := c_iadd pp 2; have d2 := rng32 (pp + 2); have d3 : (2 : Int32).toInt = 2 := rfl; omega
  obtain ⟨cl41, Ar41, S41, M41, H41⟩ := id fS36
  obtain ⟨T42, h42, X42, e42, W42, st42⟩ := stB X38 hx hZ e38 Ar41 (j := (pp + (2 : Int32))) (own_inb S41 M41 (own_idx (by omega) (by omega))) (g := (mkF m 43 #[rv a, iv p1, iv p2, iv pp] [(.int (((p2.toUInt32 >>> ((8 : Int32) &&& 31).toUInt32).toInt32).toInt8.toInt32)), (.int (pp + (2 : Int32))), (.ref b)])) rfl rfl (hb hby d8_43)
  have pre43 : ∀ t, own_s p e below T42 m 44 #[rv a, iv p1, iv p2, iv pp] [] t → Steps p.tables e below S0 t := fun tX kX => pre40 _ (st42 _ kX)
  obtain ⟨LL44, X44, N44⟩ : ∃ LL, Stand p l e ({ frames := 0, cells := 0, slots := 0, locals := 0 } : Room) s m #[(.ref a), (.int p1), (.int p2)] below meth c T42 LL 0 0 ∧ Fr n0 LL := ⟨_, X42, Fr.snoc X42 N28 g_b⟩
  have f45_E : Exa Z h42 a "com/example/farcall/farcall/io/XdrEncoder" := f29_E.wr W42
  have f46_F : Fld Z h42 a "com/example/farcall/farcall/io/XdrEncoder" "buffer" "[B" (.ref b) := f30_F.other W42 (Or.inl ne_ab)
  have f47_F : Fld Z h42 a "com/example/farcall/farcall/io/XdrEncoder" "start" "I" (.int (Int32.ofNat S)) := f31_F.other W42 (Or.inl ne_ab)
  have f48_F : Fld Z h42 a "com/example/farcall/farcall/io/XdrEncoder" "end" "I" (.int (Int32.ofNat E)) := f32_F.other W42 (Or.inl ne_ab)
  have Z49 : n0 ≤ h42.size := Nat.le_trans Z33 (Keep.of_wr W42).1
  have K50 : Keep h0 h42 [b] := K34.wr W42 (Or.inl (List.mem_of_getElem? (i := 0) rfl))
  have f51_A : own_Af Z h42 b .byte 64 (own_up (fun j => .int ((own_upi (own_upi g (S + O) (own_by p2 0)) (S + O + 1) (own_by p2 1)) j)) (pp + (2 : Int32)).toNatClampNeg (.int (nar .byte (((p2.toUInt32 >>> ((8 : Int32) &&& 31).toUInt32).toInt32).toInt8.toInt32)))) := own_Af.set Ar41 S41 M41 H41 W42
  have fS52 : own_Af Z h42 b .byte 64 (fun j => .int ((own_upi (own_upi (own_upi g (S + O) (own_by p2 0)) (S + O + 1) (own_by p2 1)) (S + O + 2) (own_by p2 2)) j)) := by
    have q := f51_A
    rw [show (pp + (2 : Int32)).toNatClampNeg = (S + O + 2) from own_nat (by have d1 := c_iadd pp 2; have d2 := rng32 (pp + 2); have d3 : (2 : Int32).toInt = 2 := rfl; omega), own_nn, own_upI] at q
    exact q
  have pre53 : ∀ t, own_s p e below T42 m 45 #[rv a, iv p1, iv p2, iv pp] [(.ref a)] t → Steps p.tables e below S0 t := by
    intro tX kX
    refine pre43 _ ?_
    show own_s p e below T42 m 44 #[rv a, iv p1, iv p2, iv pp] [] _
    refine XS.aloadN X44.here hx rfl (hb hby d8_44) rfl rfl ?_
    exact kX
  obtain ⟨T54, X54, e54, st54⟩ := getF X44 hx hZ hown (host := "") (Or.inl (hw _ (List.mem_of_getElem? (i := 10) rfl))) Via.refl e42 f46_F (g := (mkF m 45 #[rv a, iv p1, iv p2, iv pp] [(.ref a)])) rfl rfl (hb hby d8_45)
  have pre55 : ∀ t, own_s p e below T54 m 48 #[rv a, iv p1, iv p2, iv pp] [(.ref b)] t → Steps p.tables e below S0 t := fun tX kX => pre53 _ (st54 _ kX)
  have pre56 : ∀ t, own_s p e below T54 m 53 #[rv a, iv p1, iv p2, iv pp] [(.int (p2.toInt8.toInt32)), (.int (pp + (3 : Int32))), (.ref b)] t → Steps p.tables e below S0 t := by
    intro tX kX
    refine pre55 _ ?_
    show own_s p e below T54 m 48 #[rv a, iv p1, iv p2, iv pp] [(.ref b)] _
    refine XS.iloadN X54.here hx rfl (hb hby d8_48) rfl ?_
    show own_s p e below T54 m 49 #[rv a, iv p1, iv p2, iv pp] [(.int pp), (.ref b)] _
    refine XS.iconst X54.here hx rfl (hb hby d8_49) ?_
    show own_s p e below T54 m 50 #[rv a, iv p1, iv p2, iv pp] [(.int (3 : Int32)), (.int pp), (.ref b)] _
    refine XS.iadd X54.here hx rfl (hb hby d8_50) rfl ?_
    show own_s p e below T54 m 51 #[rv a, iv p1, iv p2, iv pp] [(.int (pp + (3 : Int32))), (.ref b)] _
    refine XS.iloadN X54.here hx rfl (hb hby d8_51) rfl ?_
    show own_s p e below T54 m 52 #[rv a, iv p1, iv p2, iv pp] [(.int p2), (.int (pp + (3 : Int32))), (.ref b)] _
    refine XS.i2b X54.here hx rfl (hb hby d8_52) rfl ?_
    exact kX
  have ix3 : (pp + (3 : Int32)).toInt = pp.toInt + 3 := by have d1 := c_iadd pp 3; have d2 := rng32 (pp + 3); have d3 : (3 : Int32).toInt = 3 := rfl; omega
  obtain ⟨cl57, Ar57, S57, M57, H57⟩ := id fS52
  obtain ⟨T58, h58, X58, e58, W58, st58⟩ := stB X54 hx hZ e54 Ar57 (j := (pp + (3 : Int32))) (own_inb S57 M57 (own_idx (by omega) (by omega))) (g := (mkF m 53 #[rv a, iv p1, iv p2, iv pp] [(.int (p2.toInt8.toInt32)), (.int (pp + (3 : Int32))), (.ref b)])) rfl rfl (hb hby d8_53)
  have pre59 : ∀ t, own_s p e below T58 m 54 #[rv a, iv p1, iv p2, iv pp] [] t → Steps p.tables e below S0 t := fun tX kX => pre56 _ (st58 _ kX)
  obtain ⟨LL60, X60, N60⟩ : ∃ LL, Stand p l e ({ frames := 0, cells := 0, slots := 0, locals := 0 } : Room) s m #[(.ref a), (.int p1), (.int p2)] below meth c T58 LL 0 0 ∧ Fr n0 LL := ⟨_, X58, Fr.snoc X58 N44 g_b⟩
  have f61_E : Exa Z h58 a "com/example/farcall/farcall/io/XdrEncoder" := f45_E.wr W58
  have f62_F : Fld Z h58 a "com/example/farcall/farcall/io/XdrEncoder" "buffer" "[B" (.ref b) := f46_F.other W58 (Or.inl ne_ab)
  have f63_F : Fld Z h58 a "com/example/farcall/farcall/io/XdrEncoder" "start" "I" (.int (Int32.ofNat S)) := f47_F.other W58 (Or.inl ne_ab)
  have f64_F : Fld Z h58 a "com/example/farcall/farcall/io/XdrEncoder" "end" "I" (.int (Int32.ofNat E)) := f48_F.other W58 (Or.inl ne_ab)
  have Z65 : n0 ≤ h58.size := Nat.le_trans Z49 (Keep.of_wr W58).1
  have K66 : Keep h0 h58 [b] := K50.wr W58 (Or.inl (List.mem_of_getElem? (i := 0) rfl))
  have f67_A : own_Af Z h58 b .byte 64 (own_up (fun j => .int ((own_upi (own_upi (own_upi g (S + O) (own_by p2 0)) (S + O + 1) (own_by p2 1)) (S + O + 2) (own_by p2 2)) j)) (pp + (3 : Int32)).toNatClampNeg (.int (nar .byte (p2.toInt8.toInt32)))) := own_Af.set Ar57 S57 M57 H57 W58
  have fS68 : own_Af Z h58 b .byte 64 (fun j => .int ((own_upi (own_upi (own_upi (own_upi g (S + O) (own_by p2 0)) (S + O + 1) (own_by p2 1)) (S + O + 2) (own_by p2 2)) (S + O + 3) (own_by p2 3)) j)) := by
    have q := f67_A
    rw [show (pp + (3 : Int32)).toNatClampNeg = (S + O + 3) from own_nat (by have d1 := c_iadd pp 3; have d2 := rng32 (pp + 3); have d3 : (3 : Int32).toInt = 3 := rfl; omega), own_nn, own_upI] at q
    exact q
  subst hS0
  obtain ⟨fs, hr, hrun, hended, hW, hsame⟩ := X60.leave (v := none) (fun _ => rfl)
  refine ⟨_, _, pre59 _ (X60.returnOut hx Bd.returns (hb hby d8_54) hr), hrun, hended, _, _, rfl, ?_, ⟨_, rfl⟩, hW, hsame.mono (by decide) (by decide)⟩
  show Q8 Z a p1 p2 b g S E O h0 n0 none T58.heap _
  rw [e58]
  exact ⟨rfl, N60, K66, f61_E, f62_F, f63_F, f64_F, fS68, ne_ab, own_fput fg _ _, g_a, g_b⟩
theorem d9_0 : decode prog_43_method_2_code 0 = .ok (.aload_n 0, 1) := by decide +kernel
theorem d9_1 : decode prog_43_method_2_code 1 = .ok (.iconst 4, 1) := by decide +kernel
theorem d9_2 : decode prog_43_method_2_code 2 = .ok (.invokevirtual 15, 3) := by decide +kernel
theorem d9_5 : decode prog_43_method_2_code 5 = .ok (.aload_n 0, 1) := by decide +kernel
theorem d9_6 : decode prog_43_method_2_code 6 = .ok (.dup, 1) := by decide +kernel
theorem d9_7 : decode prog_43_method_2_code 7 = .ok (.getfield 19, 3) := by decide +kernel
theorem d9_10 : decode prog_43_method_2_code 10 = .ok (.iconst 4, 1) := by decide +kernel
theorem d9_11 : decode prog_43_method_2_code 11 = .ok (.iadd, 1) := by decide +kernel
theorem d9_12 : decode prog_43_method_2_code 12 = .ok (.putfield 19, 3) := by decide +kernel
theorem d9_15 : decode prog_43_method_2_code 15 = .ok (.aload_n 0, 1) := by decide +kernel
theorem d9_16 : decode prog_43_method_2_code 16 = .ok (.aload_n 0, 1) := by decide +kernel
theorem d9_17 : decode prog_43_method_2_code 17 = .ok (.invokevirtual 23, 3) := by decide +kernel
theorem d9_20 : decode prog_43_method_2_code 20 = .ok (.iconst 4, 1) := by decide +kernel
theorem d9_21 : decode prog_43_method_2_code 21 = .ok (.isub, 1) := by decide +kernel
theorem d9_22 : decode prog_43_method_2_code 22 = .ok (.iload_n 1, 1) := by decide +kernel
theorem d9_23 : decode prog_43_method_2_code 23 = .ok (.invokevirtual 27, 3) := by decide +kernel
theorem d9_26 : decode prog_43_method_2_code 26 = .ok (.aload_n 0, 1) := by decide +kernel
theorem d9_27 : decode prog_43_method_2_code 27 = .ok (.areturn, 1) := by decide +kernel
theorem pn_9 : plainName "com/example/farcall/farcall/io/XdrEncoder" = true := by first | (simp [plainName, overriddenIn]; done) | decide +kernel
theorem pd9_0 : parseMethodDescriptor "(I)V" = some ⟨[.int], none⟩ := by decide +kernel
theorem pd9_1 : parseMethodDescriptor "()I" = some ⟨[], some .int⟩ := by decide +kernel
theorem pd9_2 : parseMethodDescriptor "(II)V" = some ⟨[.int, .int], none⟩ := by decide +kernel
theorem ef_9 (m : MethodId) (a : Addr) (p1 : Int32) : entryFrame m #[(.ref a), (.int p1)] 2 = mkF m 0 #[rv a, iv p1] [] := by first | (simp [entryFrame, mkF, argsToLocals, Value.category]; done) | rfl
def Q9 (Z : State) (a : Addr) (p1 : Int32) (b : Addr) (g : Nat → Int32) (S : Nat) (E : Nat) (h0 : Heap) (n0 : Nat) (v : Option Value) (h : Heap) (L : List Loc) : Prop := v = some (.ref a) ∧ Fr n0 L ∧ Keep h0 h [a, b] ∧ Exa Z h a "com/example/farcall/farcall/io/XdrEncoder" ∧ Fld Z h a "com/example/farcall/farcall/io/XdrEncoder" "buffer" "[B" (.ref b) ∧ Fld Z h a "com/example/farcall/farcall/io/XdrEncoder" "start" "I" (.int (Int32.ofNat S)) ∧ Fld Z h a "com/example/farcall/farcall/io/XdrEncoder" "end" "I" (.int (Int32.ofNat (E + 4))) ∧ own_Af Z h b .byte 64 (fun j => .int ((own_put g E p1) j)) ∧ a ≠ b ∧ (∀ j, fits .byte (.int ((own_put g E p1) j)) = true) ∧ n0 ≤ a ∧ n0 ≤ b
set_option maxRecDepth 65536 in
set_option maxHeartbeats 40000000 in
theorem rm9 (l : Launch) (Z : State) (a0 : Array Value) (hw : ∀ d ∈ tables_1, d.before a0 Z = true) (ws : List Jvm.Cond) (a : Addr) (p1 : Int32) (b : Addr) (g : Nat → Int32) (S : Nat) (E : Nat) (h0 : Heap) (n0 : Nat) (Z0 : n0 ≤ h0.size) (E_a : Exa Z h0 a "com/example/farcall/farcall/io/XdrEncoder") (F_buf : Fld Z h0 a "com/example/farcall/farcall/io/XdrEncoder" "buffer" "[B" (.ref b)) (F_sta : Fld Z h0 a "com/example/farcall/farcall/io/XdrEncoder" "start" "I" (.int (Int32.ofNat S))) (F_end : Fld Z h0 a "com/example/farcall/farcall/io/XdrEncoder" "end" "I" (.int (Int32.ofNat E))) (A_b : own_Af Z h0 b .byte 64 (fun j => .int (g j))) (ne_ab : a ≠ b) (fg : (∀ j, fits .byte (.int (g j)) = true)) (g_a : n0 ≤ a) (g_b : n0 ≤ b) (hS : S ≤ E) (hE : E + 4 ≤ 64) :
    MetFree l (⟨"com/example/farcall/farcall/io/XdrEncoder", "writeInt", "(I)Lcom/example/farcall/farcall/io/XdrEncoder;"⟩ : MethodName) (head1 (Jvm.Cond.code (⟨"com/example/farcall/farcall/io/XdrEncoder", "writeInt", "(I)Lcom/example/farcall/farcall/io/XdrEncoder;"⟩ : MethodName) prog_43_method_2_code 2 (some (.object "com/example/farcall/farcall/io/XdrEncoder")) :: ws) ({ frames := 1, cells := 0, slots := 0, locals := 20 } : Room)) (fun aX UX => aX = #[(.ref a), (.int p1)] ∧ Z.Warmed39 UX.vm ∧ UX.heap = h0) (fun _ _ _ _ _ => True) (fun _ UX oX UY => ∃ vX LX, oX = .returned vX ∧ Q9 Z a p1 b g S E h0 n0 vX UY.heap LX ∧ FrameEnd UX oX UY LX ({ frames := 1, cells := 0, slots := 0, locals := 20 } : Room).cells ({ frames := 1, cells := 0, slots := 0, locals := 20 } : Room).slots) := by
  refine MetFree.of_bodySF (plainFor_of_name pn_9) hisR ?_
  intro p e s m args below meth c s₁ Bd hml0 hPX hKX
  obtain ⟨rfl, hZ, hh⟩ := hPX
  have hx := Bd.exec
  have hby := Bd.bytes
  have hml : c.maxLocals = 2 := hml0
  have hown : s.vm.findClass "com/example/farcall/farcall/io/XdrEncoder" = some m.cls := findClass_of_methodNamed Bd.named
  have hnm := (name_of_methodNamed Bd.named Bd.method).1
  have X0 : Stand p l e ({ frames := 1, cells := 0, slots := 0, locals := 20 } : Room) s m #[(.ref a), (.int p1)] below meth c s₁ [] 0 0 := Stand.of_body Bd
  have e0 : s₁.heap = h0 := by rw [← hh, Bd.state]; rfl
  have N0 := Fr.nil n0
  have pre0 : ∀ t, Steps p.tables e below (s₁.setTop (mkF m 0 #[rv a, iv p1] [])) t → Steps p.tables e below (s₁.setTop (entryFrame m #[(.ref a), (.int p1)] 2)) t := fun t k => castTop (ef_9 m a p1) k
  obtain ⟨S0, hS0⟩ : ∃ z, z = (s₁.setTop (entryFrame m #[(.ref a), (.int p1)] 2)) := ⟨_, rfl⟩
  rw [← hS0] at pre0
  have K0 : Keep h0 h0 [a, b] := Keep.refl h0 _
  have pre1 : ∀ t, own_s p e below s₁ m 2 #[rv a, iv p1] [(.int (4 : Int32)), (.ref a)] t → Steps p.tables e below S0 t := by
    intro tX kX
    refine pre0 _ ?_
    show own_s p e below s₁ m 0 #[rv a, iv p1] [] _
    refine XS.aloadN X0.here hx rfl (hb hby d9_0) rfl rfl ?_
    show own_s p e below s₁ m 1 #[rv a, iv p1] [(.ref a)] _
    refine XS.iconst X0.here hx rfl (hb hby d9_1) ?_
    exact kX
  obtain ⟨cq2, q2, q2'⟩ := E_a.cell
  obtain ⟨_, _, ⟨T2, L2, k2, n2⟩, -, X2, ⟨Lc2, hQ2, l2, y2, z2⟩, st2⟩ := X0.privateBack hx (y := (⟨"com/example/farcall/farcall/io/XdrEncoder", "ensureRoom", "(I)V"⟩ : MethodName)) hown (mvT hZ (hw _ (List.mem_of_getElem? (i := 17) rfl))) (mvT hZ (hw _ (List.mem_of_getElem? (i := 18) rfl))) (own_selP (mvT hZ (hw _ (List.mem_of_getElem? (i := 1) rfl))) (Cond.privateMethod_at (mvP hZ (hw _ (List.mem_of_getElem? (i := 19) rfl)) (args := #[]))) (mvT hZ (hw _ (List.mem_of_getElem? (i := 18) rfl))) (by decide)) (Cond.privateMethod_at (mvP hZ (hw _ (List.mem_of_getElem? (i := 19) rfl)) (args := #[]))) (mvT hZ (hw _ (List.mem_of_getElem? (i := 20) rfl))) (by decide) (backOf (W := 0) (rm7 l Z a0 hw [] a (4 : Int32) b (g) S E h0 n0 Z0 E_a F_buf F_sta F_end A_b ne_ab fg g_a g_b rfl hE) hZ (hw _ (List.mem_of_getElem? (i := 20) rfl)) (hw _ (List.mem_of_getElem? (i := 2) rfl)) (by decide) (by decide)) (g := (mkF m 2 #[rv a, iv p1] [(.int (4 : Int32)), (.ref a)])) rfl (by rw [hml]; rfl) (Steps.refl _) (a := a) (by rw [e0]; exact q2) q2' (argsL := [(.int (4 : Int32))]) (rest := []) (lenOf pd9_0 rfl) rfl (by show 2 * 0 + _ ≤ _; exact Nat.le_of_eq rfl) (hb hby d9_2) (fun _ _ => ⟨rfl, e0, (by decide : 0 + 0 ≤ _), (by decide : 0 + 0 ≤ _)⟩)
  dsimp only [Pt.U, Pt.locs, Pt.cells, Pt.slots] at X2 l2 y2 z2 st2 hQ2
  subst l2 y2 z2
  obtain ⟨rfl, Nq2, e2⟩ := hQ2
  have N2 := Fr.app N0 Nq2
  obtain ⟨LL3, X3, N3⟩ : ∃ LL, Stand p l e ({ frames := 1, cells := 0, slots := 0, locals := 20 } : Room) s m #[(.ref a), (.int p1)] below meth c T2 LL 0 0 ∧ Fr n0 LL := ⟨_, X2, N2⟩
  have pre4 : ∀ t, own_s p e below T2 m 5 #[rv a, iv p1] [] t → Steps p.tables e below S0 t := fun tX kX => pre1 _ (st2.trans kX)
  have pre5 : ∀ t, own_s p e below T2 m 7 #[rv a, iv p1] [(.ref a), (.ref a)] t → Steps p.tables e below S0 t := by
    intro tX kX
    refine pre4 _ ?_
    show own_s p e below T2 m 5 #[rv a, iv p1] [] _
    refine XS.aloadN X3.here hx rfl (hb hby d9_5) rfl rfl ?_
    show own_s p e below T2 m 6 #[rv a, iv p1] [(.ref a)] _
    refine XS.dup X3.here hx rfl (hb hby d9_6) rfl rfl ?_
    exact kX
  obtain ⟨T6, X6, e6, st6⟩ := getF X3 hx hZ hown (host := "") (Or.inl (hw _ (List.mem_of_getElem? (i := 21) rfl))) Via.refl e2 F_end (g := (mkF m 7 #[rv a, iv p1] [(.ref a), (.ref a)])) rfl rfl (hb hby d9_7)
  have pre7 : ∀ t, own_s p e below T6 m 10 #[rv a, iv p1] [(.int (Int32.ofNat E)), (.ref a)] t → Steps p.tables e below S0 t := fun tX kX => pre5 _ (st6 _ kX)
  have pre8 : ∀ t, own_s p e below T6 m 12 #[rv a, iv p1] [(.int ((Int32.ofNat E) + (4 : Int32))), (.ref a)] t → Steps p.tables e below S0 t := by
    intro tX kX
    refine pre7 _ ?_
    show own_s p e below T6 m 10 #[rv a, iv p1] [(.int (Int32.ofNat E)), (.ref a)] _
    refine XS.iconst X6.here hx rfl (hb hby d9_10) ?_
    show own_s p e below T6 m 11 #[rv a, iv p1] [(.int (4 : Int32)), (.int (Int32.ofNat E)), (.ref a)] _
    refine XS.iadd X6.here hx rfl (hb hby d9_11) rfl ?_
    exact kX
  rw [show ((Int32.ofNat E) + (4 : Int32)) = (Int32.ofNat (E + 4)) from own_of (by omega) (by have d1 := c_iadd (Int32.ofNat E) 4; have d2 := rng32 (Int32.ofNat E + 4); have d3 : (4 : Int32).toInt = 4 := rfl; have d4 : (Int32.ofNat E).toInt = E := own_ofn (by omega); omega)] at pre8
  obtain ⟨T9, h9, X9, e9, W9, st9⟩ := putF X6 hx hZ hown (host := "") (Or.inl (hw _ (List.mem_of_getElem? (i := 21) rfl))) Via.refl e6 F_end E_a (Or.inl (hw _ (List.mem_of_getElem? (i := 22) rfl))) (hw _ (List.mem_of_getElem? (i := 1) rfl)) (ty := .int) (by decide) rfl rfl (g := (mkF m 12 #[rv a, iv p1] [(.int (Int32.ofNat (E + 4))), (.ref a)])) rfl rfl (hb hby d9_12)
  have pre10 : ∀ t, own_s p e below T9 m 15 #[rv a, iv p1] [] t → Steps p.tables e below S0 t := fun tX kX => pre8 _ (st9 _ kX)
  obtain ⟨LL11, X11, N11⟩ : ∃ LL, Stand p l e ({ frames := 1, cells := 0, slots := 0, locals := 20 } : Room) s m #[(.ref a), (.int p1)] below meth c T9 LL 0 0 ∧ Fr n0 LL := ⟨_, X9, Fr.snoc X9 N3 g_a⟩
  have f12_E : Exa Z h9 a "com/example/farcall/farcall/io/XdrEncoder" := E_a.wr W9
  have f13_F : Fld Z h9 a "com/example/farcall/farcall/io/XdrEncoder" "buffer" "[B" (.ref b) := F_buf.other W9 (Or.inr (slot_ne (Or.inl (hw _ (List.mem_of_getElem? (i := 11) rfl))) (Or.inl (hw _ (List.mem_of_getElem? (i := 22) rfl))) (by decide) (t := (.array .byte)) (t' := .int) (by decide) (by decide)))
  have f14_F : Fld Z h9 a "com/example/farcall/farcall/io/XdrEncoder" "start" "I" (.int (Int32.ofNat S)) := F_sta.other W9 (Or.inr (slot_ne (Or.inl (hw _ (List.mem_of_getElem? (i := 29) rfl))) (Or.inl (hw _ (List.mem_of_getElem? (i := 22) rfl))) (by decide) (t := .int) (t' := .int) (by decide) (by decide)))
  have f15_A : own_Af Z h9 b .byte 64 (fun j => .int (g j)) := A_b.other W9 (Ne.symm ne_ab)
  have Z16 : n0 ≤ h9.size := Nat.le_trans Z0 (Keep.of_wr W9).1
  have K17 : Keep h0 h9 [a, b] := K0.wr W9 (Or.inl (List.mem_of_getElem? (i := 0) rfl))
  have f18_F : Fld Z h9 a "com/example/farcall/farcall/io/XdrEncoder" "end" "I" (.int (Int32.ofNat (E + 4))) := F_end.same W9
  have pre19 : ∀ t, own_s p e below T9 m 17 #[rv a, iv p1] [(.ref a), (.ref a)] t → Steps p.tables e below S0 t := by
    intro tX kX
    refine pre10 _ ?_
    show own_s p e below T9 m 15 #[rv a, iv p1] [] _
    refine XS.aloadN X11.here hx rfl (hb hby d9_15) rfl rfl ?_
    show own_s p e below T9 m 16 #[rv a, iv p1] [(.ref a)] _
    refine XS.aloadN X11.here hx rfl (hb hby d9_16) rfl rfl ?_
    exact kX
  obtain ⟨cq20, kq20, q20a, q20b, q20c⟩ := isOf hZ e9 f12_E
  obtain ⟨_, _, ⟨T20, L20, k20, n20⟩, -, X20, ⟨Lc20, hQ20, l20, y20, z20⟩, st20⟩ := X11.virtualBack hx (y := (⟨"com/example/farcall/farcall/io/XdrEncoder", "size", "()I"⟩ : MethodName)) (z := (⟨"com/example/farcall/farcall/io/XdrEncoder", "size", "()I"⟩ : MethodName)) hown (mvT hZ (hw _ (List.mem_of_getElem? (i := 23) rfl))) (mvT hZ (hw _ (List.mem_of_getElem? (i := 24) rfl))) (notFace_of_selects (args := #[]) (mvT hZ (hw _ (List.mem_of_getElem? (i := 26) rfl)))) (mvT hZ (hw _ (List.mem_of_getElem? (i := 26) rfl))) (mvT hZ (hw _ (List.mem_of_getElem? (i := 25) rfl))) (by decide) (backOf (W := 1) (rm6 l Z a0 hw [] a b (g) S (E + 4) h9 n0 Z16 f12_E f13_F f14_F f18_F f15_A ne_ab fg g_a g_b (by omega) (by omega)) hZ (hw _ (List.mem_of_getElem? (i := 27) rfl)) (hw _ (List.mem_of_getElem? (i := 2) rfl)) (by decide) (by decide)) q20a q20c (g := (mkF m 17 #[rv a, iv p1] [(.ref a), (.ref a)])) rfl (by rw [hml]; rfl) (Steps.refl _) (argsL := []) (rest := [(.ref a)]) (lenOf pd9_1 rfl) rfl (by show 2 * 0 + _ ≤ _; exact Nat.le_of_eq rfl) (hb hby d9_17) (fun _ _ => ⟨rfl, e9, (by decide : 0 + 0 ≤ _), (by decide : 0 + 0 ≤ _)⟩)
  dsimp only [Pt.U, Pt.locs, Pt.cells, Pt.slots] at X20 l20 y20 z20 st20 hQ20
  subst l20 y20 z20
  obtain ⟨rfl, Nq20, e20⟩ := hQ20
  have N20 := Fr.app N11 Nq20
  obtain ⟨LL21, X21, N21⟩ : ∃ LL, Stand p l e ({ frames := 1, cells := 0, slots := 0, locals := 20 } : Room) s m #[(.ref a), (.int p1)] below meth c T20 LL 0 0 ∧ Fr n0 LL := ⟨_, X20, N20⟩
  have pre22 : ∀ t, own_s p e below T20 m 20 #[rv a, iv p1] [(.int (Int32.ofNat ((E + 4) - S))), (.ref a)] t → Steps p.tables e below S0 t := fun tX kX => pre19 _ (st20.trans kX)
  have pre23 : ∀ t, own_s p e below T20 m 22 #[rv a, iv p1] [(.int ((Int32.ofNat ((E + 4) - S)) - (4 : Int32))), (.ref a)] t → Steps p.tables e below S0 t := by
    intro tX kX
    refine pre22 _ ?_
    show own_s p e below T20 m 20 #[rv a, iv p1] [(.int (Int32.ofNat ((E + 4) - S))), (.ref a)] _
    refine XS.iconst X21.here hx rfl (hb hby d9_20) ?_
    show own_s p e below T20 m 21 #[rv a, iv p1] [(.int (4 : Int32)), (.int (Int32.ofNat ((E + 4) - S))), (.ref a)] _
    refine XS.isub X21.here hx rfl (hb hby d9_21) rfl ?_
    exact kX
  rw [show ((Int32.ofNat ((E + 4) - S)) - (4 : Int32)) = (Int32.ofNat (E - S)) from own_of (by omega) (by have d1 := c_isub (Int32.ofNat (E + 4 - S)) 4; have d2 := rng32 (Int32.ofNat (E + 4 - S) - 4); have d3 : (4 : Int32).toInt = 4 := rfl; have d4 : (Int32.ofNat (E + 4 - S)).toInt = ((E + 4 - S : Nat) : Int) := own_ofn (by omega); omega)] at pre23
  have pre24 : ∀ t, own_s p e below T20 m 23 #[rv a, iv p1] [(.int p1), (.int (Int32.ofNat (E - S))), (.ref a)] t → Steps p.tables e below S0 t := by
    intro tX kX
    refine pre23 _ ?_
    show own_s p e below T20 m 22 #[rv a, iv p1] [(.int (Int32.ofNat (E - S))), (.ref a)] _
    refine XS.iloadN X21.here hx rfl (hb hby d9_22) rfl ?_
    exact kX
  obtain ⟨cq25, kq25, q25a, q25b, q25c⟩ := isOf hZ e20 f12_E
  obtain ⟨_, _, ⟨T25, L25, k25, n25⟩, -, X25, ⟨Lc25, hQ25, l25, y25, z25⟩, st25⟩ := X21.virtualBack hx (y := (⟨"com/example/farcall/farcall/io/XdrEncoder", "setInt", "(II)V"⟩ : MethodName)) (z := (⟨"com/example/farcall/farcall/io/XdrEncoder", "setInt", "(II)V"⟩ : MethodName)) hown (mvT hZ (hw _ (List.mem_of_getElem? (i := 30) rfl))) (mvT hZ (hw _ (List.mem_of_getElem? (i := 31) rfl))) (notFace_of_selects (args := #[]) (mvT hZ (hw _ (List.mem_of_getElem? (i := 33) rfl)))) (mvT hZ (hw _ (List.mem_of_getElem? (i := 33) rfl))) (mvT hZ (hw _ (List.mem_of_getElem? (i := 32) rfl))) (by decide) (backOf (W := 0) (rm8 l Z a0 hw [] a (Int32.ofNat (E - S)) p1 b (g) S (E + 4) (E - S) h9 n0 Z16 f12_E f13_F f14_F f18_F f15_A ne_ab fg g_a g_b rfl (by omega)) hZ (hw _ (List.mem_of_getElem? (i := 34) rfl)) (hw _ (List.mem_of_getElem? (i := 2) rfl)) (by decide) (by decide)) q25a q25c (g := (mkF m 23 #[rv a, iv p1] [(.int p1), (.int (Int32.ofNat (E - S))), (.ref a)])) rfl (by rw [hml]; rfl) (Steps.refl _) (argsL := [(.int (Int32.ofNat (E - S))), (.int p1)]) (rest := []) (lenOf pd9_2 rfl) rfl (by show 2 * 0 + _ ≤ _; exact Nat.le_of_eq rfl) (hb hby d9_23) (fun _ _ => ⟨rfl, e20, (by decide : 0 + 0 ≤ _), (by decide : 0 + 0 ≤ _)⟩)
  dsimp only [Pt.U, Pt.locs, Pt.cells, Pt.slots] at X25 l25 y25 z25 st25 hQ25
  subst l25 y25 z25
  unfold Q8 at hQ25
  rw [show S + (E - S) = E from by omega] at hQ25
  obtain ⟨rfl, Nq25, Kq25, E_a25, F_buf25, F_sta25, F_end25, A_b25, ne_ab25, fg25, g_a25, g_b25⟩ := hQ25
  have N25 := Fr.app N21 Nq25
  have e25 : T25.heap = T25.heap := rfl
  have Z25 : n0 ≤ T25.heap.size := Nat.le_trans Z16 Kq25.1
  have K25 : Keep h0 T25.heap [a, b] := K17.trans Kq25 (allS (Or.inl (List.mem_of_getElem? (i := 1) rfl)) all0)
  obtain ⟨LL26, X26, N26⟩ : ∃ LL, Stand p l e ({ frames := 1, cells := 0, slots := 0, locals := 20 } : Room) s m #[(.ref a), (.int p1)] below meth c T25 LL 0 0 ∧ Fr n0 LL := ⟨_, X25, N25⟩
  have pre27 : ∀ t, own_s p e below T25 m 26 #[rv a, iv p1] [] t → Steps p.tables e below S0 t := fun tX kX => pre24 _ (st25.trans kX)
  have pre28 : ∀ t, own_s p e below T25 m 27 #[rv a, iv p1] [(.ref a)] t → Steps p.tables e below S0 t := by
    intro tX kX
    refine pre27 _ ?_
    show own_s p e below T25 m 26 #[rv a, iv p1] [] _
    refine XS.aloadN X26.here hx rfl (hb hby d9_26) rfl rfl ?_
    exact kX
  subst hS0
  obtain ⟨fs, hr, hrun, hended, hW, hsame⟩ := X26.leave (v := (some (.ref a))) (fun h => by rw [Bd.returns] at h; cases h)
  refine ⟨_, _, pre28 _ (retOut X26 hx Bd.returns (own_narR rfl) (Or.inr (Or.inr (Or.inr (Or.inr ⟨rfl, rfl, rfl⟩)))) (hb hby d9_27) hr), hrun, hended, _, _, rfl, ?_, ⟨_, rfl⟩, hW, hsame.mono (by decide) (by decide)⟩
  show Q9 Z a p1 b g S E h0 n0 (some (.ref a)) T25.heap _
  exact ⟨rfl, N26, K25, E_a25, F_buf25, F_sta25, F_end25, A_b25, ne_ab25, fg25, g_a, g_b⟩
theorem d10_0 : decode prog_43_method_22_code 0 = .ok (.aload_n 0, 1) := by decide +kernel
theorem d10_1 : decode prog_43_method_22_code 1 = .ok (.getfield 128, 3) := by decide +kernel
theorem d10_4 : decode prog_43_method_22_code 4 = .ok (.istore_n 1, 1) := by decide +kernel
theorem d10_5 : decode prog_43_method_22_code 5 = .ok (.aload_n 0, 1) := by decide +kernel
theorem d10_6 : decode prog_43_method_22_code 6 = .ok (.aload_n 0, 1) := by decide +kernel
theorem d10_7 : decode prog_43_method_22_code 7 = .ok (.getfield 19, 3) := by decide +kernel
theorem d10_10 : decode prog_43_method_22_code 10 = .ok (.putfield 128, 3) := by decide +kernel
theorem d10_13 : decode prog_43_method_22_code 13 = .ok (.iload_n 1, 1) := by decide +kernel
theorem d10_14 : decode prog_43_method_22_code 14 = .ok (.ireturn, 1) := by decide +kernel
theorem pn_10 : plainName "com/example/farcall/farcall/io/XdrEncoder" = true := by first | (simp [plainName, overriddenIn]; done) | decide +kernel
theorem ef_10 (m : MethodId) (a : Addr) : entryFrame m #[(.ref a)] 2 = mkF m 0 #[rv a, .unset] [] := by first | (simp [entryFrame, mkF, argsToLocals, Value.category]; done) | rfl
def Q10 (Z : State) (a : Addr) (b : Addr) (g : Nat → Int32) (S : Nat) (E : Nat) (h0 : Heap) (n0 : Nat) (v : Option Value) (h : Heap) (L : List Loc) : Prop := v = some (.int (Int32.ofNat S)) ∧ Fr n0 L ∧ Keep h0 h [a] ∧ Exa Z h a "com/example/farcall/farcall/io/XdrEncoder" ∧ Fld Z h a "com/example/farcall/farcall/io/XdrEncoder" "buffer" "[B" (.ref b) ∧ Fld Z h a "com/example/farcall/farcall/io/XdrEncoder" "start" "I" (.int (Int32.ofNat E)) ∧ Fld Z h a "com/example/farcall/farcall/io/XdrEncoder" "end" "I" (.int (Int32.ofNat E)) ∧ own_Af Z h b .byte 64 (fun j => .int (g j)) ∧ a ≠ b ∧ (∀ j, fits .byte (.int (g j)) = true) ∧ n0 ≤ a ∧ n0 ≤ b
set_option maxRecDepth 65536 in
set_option maxHeartbeats 40000000 in
theorem rm10 (l : Launch) (Z : State) (a0 : Array Value) (hw : ∀ d ∈ tables_1, d.before a0 Z = true) (ws : List Jvm.Cond) (a : Addr) (b : Addr) (g : Nat → Int32) (S : Nat) (E : Nat) (h0 : Heap) (n0 : Nat) (Z0 : n0 ≤ h0.size) (E_a : Exa Z h0 a "com/example/farcall/farcall/io/XdrEncoder") (F_buf : Fld Z h0 a "com/example/farcall/farcall/io/XdrEncoder" "buffer" "[B" (.ref b)) (F_sta : Fld Z h0 a "com/example/farcall/farcall/io/XdrEncoder" "start" "I" (.int (Int32.ofNat S))) (F_end : Fld Z h0 a "com/example/farcall/farcall/io/XdrEncoder" "end" "I" (.int (Int32.ofNat E))) (A_b : own_Af Z h0 b .byte 64 (fun j => .int (g j))) (ne_ab : a ≠ b) (fg : (∀ j, fits .byte (.int (g j)) = true)) (g_a : n0 ≤ a) (g_b : n0 ≤ b) :
    MetFree l (⟨"com/example/farcall/farcall/io/XdrEncoder", "beginPart", "()I"⟩ : MethodName) (head1 (Jvm.Cond.code (⟨"com/example/farcall/farcall/io/XdrEncoder", "beginPart", "()I"⟩ : MethodName) prog_43_method_22_code 2 (some .int) :: ws) ({ frames := 0, cells := 0, slots := 0, locals := 0 } : Room)) (fun aX UX => aX = #[(.ref a)] ∧ Z.Warmed39 UX.vm ∧ UX.heap = h0) (fun _ _ _ _ _ => True) (fun _ UX oX UY => ∃ vX LX, oX = .returned vX ∧ Q10 Z a b g S E h0 n0 vX UY.heap LX ∧ FrameEnd UX oX UY LX ({ frames := 0, cells := 0, slots := 0, locals := 0 } : Room).cells ({ frames := 0, cells := 0, slots := 0, locals := 0 } : Room).slots) := by
  refine MetFree.of_bodySF (plainFor_of_name pn_10) hisR ?_
  intro p e s m args below meth c s₁ Bd hml0 hPX hKX
  obtain ⟨rfl, hZ, hh⟩ := hPX
  have hx := Bd.exec
  have hby := Bd.bytes
  have hml : c.maxLocals = 2 := hml0
  have hown : s.vm.findClass "com/example/farcall/farcall/io/XdrEncoder" = some m.cls := findClass_of_methodNamed Bd.named
  have hnm := (name_of_methodNamed Bd.named Bd.method).1
  have X0 : Stand p l e ({ frames := 0, cells := 0, slots := 0, locals := 0 } : Room) s m #[(.ref a)] below meth c s₁ [] 0 0 := Stand.of_body Bd
  have e0 : s₁.heap = h0 := by rw [← hh, Bd.state]; rfl
  have N0 := Fr.nil n0
  have pre0 : ∀ t, Steps p.tables e below (s₁.setTop (mkF m 0 #[rv a, .unset] [])) t → Steps p.tables e below (s₁.setTop (entryFrame m #[(.ref a)] 2)) t := fun t k => castTop (ef_10 m a) k
  obtain ⟨S0, hS0⟩ : ∃ z, z = (s₁.setTop (entryFrame m #[(.ref a)] 2)) := ⟨_, rfl⟩
  rw [← hS0] at pre0
  have K0 : Keep h0 h0 [a] := Keep.refl h0 _
  have pre1 : ∀ t, own_s p e below s₁ m 1 #[rv a, .unset] [(.ref a)] t → Steps p.tables e below S0 t := by
    intro tX kX
    refine pre0 _ ?_
    show own_s p e below s₁ m 0 #[rv a, .unset] [] _
    refine XS.aloadN X0.here hx rfl (hb hby d10_0) rfl rfl ?_
    exact kX
  obtain ⟨T2, X2, e2, st2⟩ := getF X0 hx hZ hown (host := "") (Or.inl (hw _ (List.mem_of_getElem? (i := 28) rfl))) Via.refl e0 F_sta (g := (mkF m 1 #[rv a, .unset] [(.ref a)])) rfl rfl (hb hby d10_1)
  have pre3 : ∀ t, own_s p e below T2 m 4 #[rv a, .unset] [(.int (Int32.ofNat S))] t → Steps p.tables e below S0 t := fun tX kX => pre1 _ (st2 _ kX)
  have pre4 : ∀ t, own_s p e below T2 m 7 #[rv a, iv (Int32.ofNat S)] [(.ref a), (.ref a)] t → Steps p.tables e below S0 t := by
    intro tX kX
    refine pre3 _ ?_
    show own_s p e below T2 m 4 #[rv a, .unset] [(.int (Int32.ofNat S))] _
    refine XS.istoreN X2.here hx rfl (hb hby d10_4) rfl (l' := #[rv a, iv (Int32.ofNat S)]) rfl ?_
    show own_s p e below T2 m 5 #[rv a, iv (Int32.ofNat S)] [] _
    refine XS.aloadN X2.here hx rfl (hb hby d10_5) rfl rfl ?_
    show own_s p e below T2 m 6 #[rv a, iv (Int32.ofNat S)] [(.ref a)] _
    refine XS.aloadN X2.here hx rfl (hb hby d10_6) rfl rfl ?_
    exact kX
  obtain ⟨T5, X5, e5, st5⟩ := getF X2 hx hZ hown (host := "") (Or.inl (hw _ (List.mem_of_getElem? (i := 21) rfl))) Via.refl e2 F_end (g := (mkF m 7 #[rv a, iv (Int32.ofNat S)] [(.ref a), (.ref a)])) rfl rfl (hb hby d10_7)
  have pre6 : ∀ t, own_s p e below T5 m 10 #[rv a, iv (Int32.ofNat S)] [(.int (Int32.ofNat E)), (.ref a)] t → Steps p.tables e below S0 t := fun tX kX => pre4 _ (st5 _ kX)
  obtain ⟨T7, h7, X7, e7, W7, st7⟩ := putF X5 hx hZ hown (host := "") (Or.inl (hw _ (List.mem_of_getElem? (i := 28) rfl))) Via.refl e5 F_sta E_a (Or.inl (hw _ (List.mem_of_getElem? (i := 29) rfl))) (hw _ (List.mem_of_getElem? (i := 1) rfl)) (ty := .int) (by decide) rfl rfl (g := (mkF m 10 #[rv a, iv (Int32.ofNat S)] [(.int (Int32.ofNat E)), (.ref a)])) rfl rfl (hb hby d10_10)
  have pre8 : ∀ t, own_s p e below T7 m 13 #[rv a, iv (Int32.ofNat S)] [] t → Steps p.tables e below S0 t := fun tX kX => pre6 _ (st7 _ kX)
  obtain ⟨LL9, X9, N9⟩ : ∃ LL, Stand p l e ({ frames := 0, cells := 0, slots := 0, locals := 0 } : Room) s m #[(.ref a)] below meth c T7 LL 0 0 ∧ Fr n0 LL := ⟨_, X7, Fr.snoc X7 N0 g_a⟩
  have f10_E : Exa Z h7 a "com/example/farcall/farcall/io/XdrEncoder" := E_a.wr W7
  have f11_F : Fld Z h7 a "com/example/farcall/farcall/io/XdrEncoder" "buffer" "[B" (.ref b) := F_buf.other W7 (Or.inr (slot_ne (Or.inl (hw _ (List.mem_of_getElem? (i := 11) rfl))) (Or.inl (hw _ (List.mem_of_getElem? (i := 29) rfl))) (by decide) (t := (.array .byte)) (t' := .int) (by decide) (by decide)))
  have f12_F : Fld Z h7 a "com/example/farcall/farcall/io/XdrEncoder" "end" "I" (.int (Int32.ofNat E)) := F_end.other W7 (Or.inr (slot_ne (Or.inl (hw _ (List.mem_of_getElem? (i := 22) rfl))) (Or.inl (hw _ (List.mem_of_getElem? (i := 29) rfl))) (by decide) (t := .int) (t' := .int) (by decide) (by decide)))
  have f13_A : own_Af Z h7 b .byte 64 (fun j => .int (g j)) := A_b.other W7 (Ne.symm ne_ab)
  have Z14 : n0 ≤ h7.size := Nat.le_trans Z0 (Keep.of_wr W7).1
  have K15 : Keep h0 h7 [a] := K0.wr W7 (Or.inl (List.mem_of_getElem? (i := 0) rfl))
  have f16_F : Fld Z h7 a "com/example/farcall/farcall/io/XdrEncoder" "start" "I" (.int (Int32.ofNat E)) := F_sta.same W7
  have pre17 : ∀ t, own_s p e below T7 m 14 #[rv a, iv (Int32.ofNat S)] [(.int (Int32.ofNat S))] t → Steps p.tables e below S0 t := by
    intro tX kX
    refine pre8 _ ?_
    show own_s p e below T7 m 13 #[rv a, iv (Int32.ofNat S)] [] _
    refine XS.iloadN X9.here hx rfl (hb hby d10_13) rfl ?_
    exact kX
  subst hS0
  obtain ⟨fs, hr, hrun, hended, hW, hsame⟩ := X9.leave (v := (some (.int (Int32.ofNat S)))) (fun h => by rw [Bd.returns] at h; cases h)
  refine ⟨_, _, pre17 _ (retI X9 hx Bd.returns (hb hby d10_14) hr), hrun, hended, _, _, rfl, ?_, ⟨_, rfl⟩, hW, hsame.mono (by decide) (by decide)⟩
  show Q10 Z a b g S E h0 n0 (some (.int (Int32.ofNat S))) T7.heap _
  rw [e7]
  exact ⟨rfl, N9, K15, f10_E, f11_F, f16_F, f12_F, f13_A, ne_ab, fg, g_a, g_b⟩
theorem d11_0 : decode prog_43_method_23_code 0 = .ok (.iload_n 1, 1) := by decide +kernel
theorem d11_1 : decode prog_43_method_23_code 1 = .ok (.ifCond .lt 11, 3) := by decide +kernel
theorem d11_4 : decode prog_43_method_23_code 4 = .ok (.iload_n 1, 1) := by decide +kernel
theorem d11_5 : decode prog_43_method_23_code 5 = .ok (.aload_n 0, 1) := by decide +kernel
theorem d11_6 : decode prog_43_method_23_code 6 = .ok (.getfield 128, 3) := by decide +kernel
theorem d11_9 : decode prog_43_method_23_code 9 = .ok (.if_icmp .le 21, 3) := by decide +kernel
theorem d11_30 : decode prog_43_method_23_code 30 = .ok (.aload_n 0, 1) := by decide +kernel
theorem d11_31 : decode prog_43_method_23_code 31 = .ok (.iload_n 1, 1) := by decide +kernel
theorem d11_32 : decode prog_43_method_23_code 32 = .ok (.putfield 128, 3) := by decide +kernel
theorem d11_35 : decode prog_43_method_23_code 35 = .ok (.return_, 1) := by decide +kernel
theorem pn_11 : plainName "com/example/farcall/farcall/io/XdrEncoder" = true := by first | (simp [plainName, overriddenIn]; done) | decide +kernel
theorem ef_11 (m : MethodId) (a : Addr) (p1 : Int32) : entryFrame m #[(.ref a), (.int p1)] 2 = mkF m 0 #[rv a, iv p1] [] := by first | (simp [entryFrame, mkF, argsToLocals, Value.category]; done) | rfl
def Q11 (Z : State) (a : Addr) (p1 : Int32) (b : Addr) (g : Nat → Int32) (S : Nat) (E : Nat) (P : Nat) (h0 : Heap) (n0 : Nat) (v : Option Value) (h : Heap) (L : List Loc) : Prop := v = none ∧ Fr n0 L ∧ Keep h0 h [a] ∧ Exa Z h a "com/example/farcall/farcall/io/XdrEncoder" ∧ Fld Z h a "com/example/farcall/farcall/io/XdrEncoder" "buffer" "[B" (.ref b) ∧ Fld Z h a "com/example/farcall/farcall/io/XdrEncoder" "start" "I" (.int (Int32.ofNat P)) ∧ Fld Z h a "com/example/farcall/farcall/io/XdrEncoder" "end" "I" (.int (Int32.ofNat E)) ∧ own_Af Z h b .byte 64 (fun j => .int (g j)) ∧ a ≠ b ∧ (∀ j, fits .byte (.int (g j)) = true) ∧ n0 ≤ a ∧ n0 ≤ b
set_option maxRecDepth 65536 in
set_option maxHeartbeats 40000000 in
theorem rm11 (l : Launch) (Z : State) (a0 : Array Value) (hw : ∀ d ∈ tables_1, d.before a0 Z = true) (ws : List Jvm.Cond) (a : Addr) (p1 : Int32) (b : Addr) (g : Nat → Int32) (S : Nat) (E : Nat) (P : Nat) (h0 : Heap) (n0 : Nat) (Z0 : n0 ≤ h0.size) (E_a : Exa Z h0 a "com/example/farcall/farcall/io/XdrEncoder") (F_buf : Fld Z h0 a "com/example/farcall/farcall/io/XdrEncoder" "buffer" "[B" (.ref b)) (F_sta : Fld Z h0 a "com/example/farcall/farcall/io/XdrEncoder" "start" "I" (.int (Int32.ofNat S))) (F_end : Fld Z h0 a "com/example/farcall/farcall/io/XdrEncoder" "end" "I" (.int (Int32.ofNat E))) (A_b : own_Af Z h0 b .byte 64 (fun j => .int (g j))) (ne_ab : a ≠ b) (fg : (∀ j, fits .byte (.int (g j)) = true)) (g_a : n0 ≤ a) (g_b : n0 ≤ b) (hp1 : p1 = Int32.ofNat P) (hP : P ≤ S) (hS : S ≤ 64) :
    MetFree l (⟨"com/example/farcall/farcall/io/XdrEncoder", "endPart", "(I)V"⟩ : MethodName) (head1 (Jvm.Cond.code (⟨"com/example/farcall/farcall/io/XdrEncoder", "endPart", "(I)V"⟩ : MethodName) prog_43_method_23_code 2 none :: ws) ({ frames := 0, cells := 0, slots := 0, locals := 0 } : Room)) (fun aX UX => aX = #[(.ref a), (.int p1)] ∧ Z.Warmed39 UX.vm ∧ UX.heap = h0) (fun _ _ _ _ _ => True) (fun _ UX oX UY => ∃ vX LX, oX = .returned vX ∧ Q11 Z a p1 b g S E P h0 n0 vX UY.heap LX ∧ FrameEnd UX oX UY LX ({ frames := 0, cells := 0, slots := 0, locals := 0 } : Room).cells ({ frames := 0, cells := 0, slots := 0, locals := 0 } : Room).slots) := by
  refine MetFree.of_bodySF (plainFor_of_name pn_11) hisR ?_
  intro p e s m args below meth c s₁ Bd hml0 hPX hKX
  obtain ⟨rfl, hZ, hh⟩ := hPX
  have hx := Bd.exec
  have hby := Bd.bytes
  have hml : c.maxLocals = 2 := hml0
  have hown : s.vm.findClass "com/example/farcall/farcall/io/XdrEncoder" = some m.cls := findClass_of_methodNamed Bd.named
  have hnm := (name_of_methodNamed Bd.named Bd.method).1
  have X0 : Stand p l e ({ frames := 0, cells := 0, slots := 0, locals := 0 } : Room) s m #[(.ref a), (.int p1)] below meth c s₁ [] 0 0 := Stand.of_body Bd
  have e0 : s₁.heap = h0 := by rw [← hh, Bd.state]; rfl
  have N0 := Fr.nil n0
  have pre0 : ∀ t, Steps p.tables e below (s₁.setTop (mkF m 0 #[rv a, iv p1] [])) t → Steps p.tables e below (s₁.setTop (entryFrame m #[(.ref a), (.int p1)] 2)) t := fun t k => castTop (ef_11 m a p1) k
  obtain ⟨S0, hS0⟩ : ∃ z, z = (s₁.setTop (entryFrame m #[(.ref a), (.int p1)] 2)) := ⟨_, rfl⟩
  rw [← hS0] at pre0
  have K0 : Keep h0 h0 [a] := Keep.refl h0 _
  have pre1 : ∀ t, own_s p e below s₁ m 6 #[rv a, iv p1] [(.ref a), (.int p1)] t → Steps p.tables e below S0 t := by
    intro tX kX
    refine pre0 _ ?_
    show own_s p e below s₁ m 0 #[rv a, iv p1] [] _
    refine XS.iloadN X0.here hx rfl (hb hby d11_0) rfl ?_
    show own_s p e below s₁ m 1 #[rv a, iv p1] [(.int p1)] _
    refine XS.ifNo X0.here hx rfl (hb hby d11_1) rfl ((if0 _ _).trans (flt (show ¬ (p1 < (0 : Int32)) from fun q => absurd (Int32.lt_iff_toInt_lt.mp q) (by
        have d1 : p1.toInt = P := by rw [hp1]; exact own_ofn (by omega)
        have d2 : (0 : Int32).toInt = 0 := rfl
        have d3 : (Int32.ofNat S).toInt = S := own_ofn (by omega)
        omega))).1) ?_
    show own_s p e below s₁ m 4 #[rv a, iv p1] [] _
    refine XS.iloadN X0.here hx rfl (hb hby d11_4) rfl ?_
    show own_s p e below s₁ m 5 #[rv a, iv p1] [(.int p1)] _
    refine XS.aloadN X0.here hx rfl (hb hby d11_5) rfl rfl ?_
    exact kX
  obtain ⟨T2, X2, e2, st2⟩ := getF X0 hx hZ hown (host := "") (Or.inl (hw _ (List.mem_of_getElem? (i := 28) rfl))) Via.refl e0 F_sta (g := (mkF m 6 #[rv a, iv p1] [(.ref a), (.int p1)])) rfl rfl (hb hby d11_6)
  have pre3 : ∀ t, own_s p e below T2 m 9 #[rv a, iv p1] [(.int (Int32.ofNat S)), (.int p1)] t → Steps p.tables e below S0 t := fun tX kX => pre1 _ (st2 _ kX)
  have pre4 : ∀ t, own_s p e below T2 m 32 #[rv a, iv p1] [(.int p1), (.ref a)] t → Steps p.tables e below S0 t := by
    intro tX kX
    refine pre3 _ ?_
    show own_s p e below T2 m 9 #[rv a, iv p1] [(.int (Int32.ofNat S)), (.int p1)] _
    refine XS.icmpYes X2.here hx rfl (pc0 := 9) (pc' := 30) rfl (hb hby d11_9) rfl (flt (show ¬ ((Int32.ofNat S) < p1) from fun q => absurd (Int32.lt_iff_toInt_lt.mp q) (by
        have d1 : p1.toInt = P := by rw [hp1]; exact own_ofn (by omega)
        have d2 : (0 : Int32).toInt = 0 := rfl
        have d3 : (Int32.ofNat S).toInt = S := own_ofn (by omega)
        omega))).2.2.2 (by decide) (by decide) ?_
    show own_s p e below T2 m 30 #[rv a, iv p1] [] _
    refine XS.aloadN X2.here hx rfl (hb hby d11_30) rfl rfl ?_
    show own_s p e below T2 m 31 #[rv a, iv p1] [(.ref a)] _
    refine XS.iloadN X2.here hx rfl (hb hby d11_31) rfl ?_
    exact kX
  obtain ⟨T5, h5, X5, e5, W5, st5⟩ := putF X2 hx hZ hown (host := "") (Or.inl (hw _ (List.mem_of_getElem? (i := 28) rfl))) Via.refl e2 F_sta E_a (Or.inl (hw _ (List.mem_of_getElem? (i := 29) rfl))) (hw _ (List.mem_of_getElem? (i := 1) rfl)) (ty := .int) (by decide) rfl rfl (g := (mkF m 32 #[rv a, iv p1] [(.int p1), (.ref a)])) rfl rfl (hb hby d11_32)
  have pre6 : ∀ t, own_s p e below T5 m 35 #[rv a, iv p1] [] t → Steps p.tables e below S0 t := fun tX kX => pre4 _ (st5 _ kX)
  obtain ⟨LL7, X7, N7⟩ : ∃ LL, Stand p l e ({ frames := 0, cells := 0, slots := 0, locals := 0 } : Room) s m #[(.ref a), (.int p1)] below meth c T5 LL 0 0 ∧ Fr n0 LL := ⟨_, X5, Fr.snoc X5 N0 g_a⟩
  have f8_E : Exa Z h5 a "com/example/farcall/farcall/io/XdrEncoder" := E_a.wr W5
  have f9_F : Fld Z h5 a "com/example/farcall/farcall/io/XdrEncoder" "buffer" "[B" (.ref b) := F_buf.other W5 (Or.inr (slot_ne (Or.inl (hw _ (List.mem_of_getElem? (i := 11) rfl))) (Or.inl (hw _ (List.mem_of_getElem? (i := 29) rfl))) (by decide) (t := (.array .byte)) (t' := .int) (by decide) (by decide)))
  have f10_F : Fld Z h5 a "com/example/farcall/farcall/io/XdrEncoder" "end" "I" (.int (Int32.ofNat E)) := F_end.other W5 (Or.inr (slot_ne (Or.inl (hw _ (List.mem_of_getElem? (i := 22) rfl))) (Or.inl (hw _ (List.mem_of_getElem? (i := 29) rfl))) (by decide) (t := .int) (t' := .int) (by decide) (by decide)))
  have f11_A : own_Af Z h5 b .byte 64 (fun j => .int (g j)) := A_b.other W5 (Ne.symm ne_ab)
  have Z12 : n0 ≤ h5.size := Nat.le_trans Z0 (Keep.of_wr W5).1
  have K13 : Keep h0 h5 [a] := K0.wr W5 (Or.inl (List.mem_of_getElem? (i := 0) rfl))
  have f14_F : Fld Z h5 a "com/example/farcall/farcall/io/XdrEncoder" "start" "I" (.int p1) := F_sta.same W5
  subst hS0
  obtain ⟨fs, hr, hrun, hended, hW, hsame⟩ := X7.leave (v := none) (fun _ => rfl)
  refine ⟨_, _, pre6 _ (X7.returnOut hx Bd.returns (hb hby d11_35) hr), hrun, hended, _, _, rfl, ?_, ⟨_, rfl⟩, hW, hsame.mono (by decide) (by decide)⟩
  show Q11 Z a p1 b g S E P h0 n0 none T5.heap _
  rw [e5]
  exact ⟨rfl, N7, K13, f8_E, f9_F, (hp1 ▸ f14_F), f10_F, f11_A, ne_ab, fg, g_a, g_b⟩
theorem d12_0 : decode prog_43_method_1_code 0 = .ok (.aload_n 0, 1) := by decide +kernel
theorem d12_1 : decode prog_43_method_1_code 1 = .ok (.invokespecial 1, 3) := by decide +kernel
theorem d12_4 : decode prog_43_method_1_code 4 = .ok (.aload_n 0, 1) := by decide +kernel
theorem d12_5 : decode prog_43_method_1_code 5 = .ok (.bipush 64, 2) := by decide +kernel
theorem d12_7 : decode prog_43_method_1_code 7 = .ok (.newarray .byte, 2) := by decide +kernel
theorem d12_9 : decode prog_43_method_1_code 9 = .ok (.putfield 9, 3) := by decide +kernel
theorem d12_12 : decode prog_43_method_1_code 12 = .ok (.return_, 1) := by decide +kernel
theorem pn_12 : plainName "com/example/farcall/farcall/io/XdrEncoder" = true := by first | (simp [plainName, overriddenIn]; done) | decide +kernel
theorem ef_12 (m : MethodId) (a : Addr) : entryFrame m #[(.ref a)] 1 = mkF m 0 #[rv a] [] := by first | (simp [entryFrame, mkF, argsToLocals, Value.category]; done) | rfl
def Q12 (Z : State) (a : Addr) (h0 : Heap) (n0 : Nat) (v : Option Value) (h : Heap) (L : List Loc) : Prop := v = none ∧ Fr n0 L ∧ Keep h0 h [a] ∧ ∃ b : Addr, h0.size ≤ b ∧ Exa Z h a "com/example/farcall/farcall/io/XdrEncoder" ∧ Fld Z h a "com/example/farcall/farcall/io/XdrEncoder" "buffer" "[B" (.ref b) ∧ Fld Z h a "com/example/farcall/farcall/io/XdrEncoder" "start" "I" (.int (Int32.ofNat 0)) ∧ Fld Z h a "com/example/farcall/farcall/io/XdrEncoder" "end" "I" (.int (Int32.ofNat 0)) ∧ own_Af Z h b .byte 64 (fun j => .int ((fun _ : Nat => (0 : Int32)) j)) ∧ a ≠ b ∧ (∀ j, fits .byte (.int ((fun _ : Nat => (0 : Int32)) j)) = true) ∧ n0 ≤ a ∧ n0 ≤ b
set_option maxRecDepth 65536 in
set_option maxHeartbeats 40000000 in
theorem rm12 (l : Launch) (Z : State) (a0 : Array Value) (hw : ∀ d ∈ tables_1, d.before a0 Z = true) (ws : List Jvm.Cond) (a : Addr) (h0 : Heap) (n0 : Nat) (Z0 : n0 ≤ h0.size) (E_a : Exa Z h0 a "com/example/farcall/farcall/io/XdrEncoder") (F_buf : Fld Z h0 a "com/example/farcall/farcall/io/XdrEncoder" "buffer" "[B" .null) (F_sta : Fld Z h0 a "com/example/farcall/farcall/io/XdrEncoder" "start" "I" (.int (0 : Int32))) (F_end : Fld Z h0 a "com/example/farcall/farcall/io/XdrEncoder" "end" "I" (.int (0 : Int32))) (g_a : n0 ≤ a) :
    MetFree l (⟨"com/example/farcall/farcall/io/XdrEncoder", "<init>", "()V"⟩ : MethodName) (head1 (Jvm.Cond.code (⟨"com/example/farcall/farcall/io/XdrEncoder", "<init>", "()V"⟩ : MethodName) prog_43_method_1_code 1 none :: ws) ({ frames := 1, cells := 1, slots := 64, locals := 15 } : Room)) (fun aX UX => aX = #[(.ref a)] ∧ Z.Warmed39 UX.vm ∧ UX.heap = h0) (fun _ _ _ _ _ => True) (fun _ UX oX UY => ∃ vX LX, oX = .returned vX ∧ Q12 Z a h0 n0 vX UY.heap LX ∧ FrameEnd UX oX UY LX ({ frames := 1, cells := 1, slots := 64, locals := 15 } : Room).cells ({ frames := 1, cells := 1, slots := 64, locals := 15 } : Room).slots) := by
  refine MetFree.of_bodySF (plainFor_of_name pn_12) hisR ?_
  intro p e s m args below meth c s₁ Bd hml0 hPX hKX
  obtain ⟨rfl, hZ, hh⟩ := hPX
  have hx := Bd.exec
  have hby := Bd.bytes
  have hml : c.maxLocals = 1 := hml0
  have hown : s.vm.findClass "com/example/farcall/farcall/io/XdrEncoder" = some m.cls := findClass_of_methodNamed Bd.named
  have hnm := (name_of_methodNamed Bd.named Bd.method).1
  have X0 : Stand p l e ({ frames := 1, cells := 1, slots := 64, locals := 15 } : Room) s m #[(.ref a)] below meth c s₁ [] 0 0 := Stand.of_body Bd
  have e0 : s₁.heap = h0 := by rw [← hh, Bd.state]; rfl
  have N0 := Fr.nil n0
  have pre0 : ∀ t, Steps p.tables e below (s₁.setTop (mkF m 0 #[rv a] [])) t → Steps p.tables e below (s₁.setTop (entryFrame m #[(.ref a)] 1)) t := fun t k => castTop (ef_12 m a) k
  obtain ⟨S0, hS0⟩ : ∃ z, z = (s₁.setTop (entryFrame m #[(.ref a)] 1)) := ⟨_, rfl⟩
  rw [← hS0] at pre0
  have K0 : Keep h0 h0 [a] := Keep.refl h0 _
  have pre1 : ∀ t, own_s p e below s₁ m 1 #[rv a] [(.ref a)] t → Steps p.tables e below S0 t := by
    intro tX kX
    refine pre0 _ ?_
    show own_s p e below s₁ m 0 #[rv a] [] _
    refine XS.aloadN X0.here hx rfl (hb hby d12_0) rfl rfl ?_
    exact kX
  obtain ⟨T2, X2, e2, st2⟩ := initO X0 hx hZ hown (hw _ (List.mem_of_getElem? (i := 6) rfl)) (hw _ (List.mem_of_getElem? (i := 7) rfl)) (hw _ (List.mem_of_getElem? (i := 8) rfl)) e0 (g := (mkF m 1 #[rv a] [(.ref a)])) rfl (by rw [hml]; rfl) rfl (hb hby d12_1) (by decide) (W := 0) (by show 2 * 0 + _ ≤ _; exact Nat.le_of_eq rfl) (by decide)
  have pre3 : ∀ t, own_s p e below T2 m 4 #[rv a] [] t → Steps p.tables e below S0 t := fun tX kX => pre1 _ (st2 _ kX)
  have pre4 : ∀ t, own_s p e below T2 m 7 #[rv a] [(.int (64 : Int32)), (.ref a)] t → Steps p.tables e below S0 t := by
    intro tX kX
    refine pre3 _ ?_
    show own_s p e below T2 m 4 #[rv a] [] _
    refine XS.aloadN X2.here hx rfl (hb hby d12_4) rfl rfl ?_
    show own_s p e below T2 m 5 #[rv a] [(.ref a)] _
    refine XS.bipush X2.here hx rfl (hb hby d12_5) ?_
    exact kX
  obtain ⟨T5, h5, k5, X5, e5, E5, A5, st5⟩ := newP X2 hx hZ (hw _ (List.mem_of_getElem? (i := 9) rfl)) e2 (g := (mkF m 7 #[rv a] [(.int (64 : Int32)), (.ref a)])) rfl (hb hby d12_7) rfl (by decide) (cap := 64) (by decide) (by decide) (by decide) (by decide)
  obtain ⟨b5, g5⟩ : ∃ z, z = h0.size := ⟨_, rfl⟩
  rw [← g5] at A5 st5
  have ne6 : a ≠ b5 := Nat.ne_of_lt (Nat.lt_of_lt_of_le E_a.lt (Nat.le_of_eq g5.symm))
  have g_b5 : n0 ≤ b5 := Nat.le_trans Z0 (Nat.le_of_eq g5.symm)
  have sz_b5 : h0.size ≤ b5 := Nat.le_trans K0.1 (Nat.le_of_eq g5.symm)
  have pre7 : ∀ t, own_s p e below T5 m 9 #[rv a] [(.ref b5), (.ref a)] t → Steps p.tables e below S0 t := fun tX kX => pre4 _ (st5 _ kX)
  have f8_E : Exa Z h5 a "com/example/farcall/farcall/io/XdrEncoder" := E_a.ext E5
  have f9_F : Fld Z h5 a "com/example/farcall/farcall/io/XdrEncoder" "buffer" "[B" .null := F_buf.ext E5
  have f10_F : Fld Z h5 a "com/example/farcall/farcall/io/XdrEncoder" "start" "I" (.int (0 : Int32)) := F_sta.ext E5
  have f11_F : Fld Z h5 a "com/example/farcall/farcall/io/XdrEncoder" "end" "I" (.int (0 : Int32)) := F_end.ext E5
  have Z12 : n0 ≤ h5.size := Nat.le_trans Z0 E5.1
  have K13 : Keep h0 h5 [a] := K0.ext E5
  have f14_A : own_Af Z h5 b5 .byte 64 (fun _ => (.int (0 : Int32))) := own_Af.new A5 (by decide) rfl
  obtain ⟨T15, h15, X15, e15, W15, st15⟩ := putF X5 hx hZ hown (host := "") (Or.inl (hw _ (List.mem_of_getElem? (i := 10) rfl))) Via.refl e5 f9_F f8_E (Or.inl (hw _ (List.mem_of_getElem? (i := 11) rfl))) (hw _ (List.mem_of_getElem? (i := 1) rfl)) (ty := (.array .byte)) (by decide) rfl rfl (g := (mkF m 9 #[rv a] [(.ref b5), (.ref a)])) rfl rfl (hb hby d12_9)
  have pre16 : ∀ t, own_s p e below T15 m 12 #[rv a] [] t → Steps p.tables e below S0 t := fun tX kX => pre7 _ (st15 _ kX)
  obtain ⟨LL17, X17, N17⟩ : ∃ LL, Stand p l e ({ frames := 1, cells := 1, slots := 64, locals := 15 } : Room) s m #[(.ref a)] below meth c T15 LL 1 64 ∧ Fr n0 LL := ⟨_, X15, Fr.snoc X15 N0 g_a⟩
  have f18_E : Exa Z h15 a "com/example/farcall/farcall/io/XdrEncoder" := f8_E.wr W15
  have f19_F : Fld Z h15 a "com/example/farcall/farcall/io/XdrEncoder" "start" "I" (.int (0 : Int32)) := f10_F.other W15 (Or.inr (slot_ne (Or.inl (hw _ (List.mem_of_getElem? (i := 29) rfl))) (Or.inl (hw _ (List.mem_of_getElem? (i := 11) rfl))) (by decide) (t := .int) (t' := (.array .byte)) (by decide) (by decide)))
  have f20_F : Fld Z h15 a "com/example/farcall/farcall/io/XdrEncoder" "end" "I" (.int (0 : Int32)) := f11_F.other W15 (Or.inr (slot_ne (Or.inl (hw _ (List.mem_of_getElem? (i := 22) rfl))) (Or.inl (hw _ (List.mem_of_getElem? (i := 11) rfl))) (by decide) (t := .int) (t' := (.array .byte)) (by decide) (by decide)))
  have f21_A : own_Af Z h15 b5 .byte 64 (fun _ => (.int (0 : Int32))) := f14_A.other W15 (Ne.symm ne6)
  have Z22 : n0 ≤ h15.size := Nat.le_trans Z12 (Keep.of_wr W15).1
  have K23 : Keep h0 h15 [a] := K13.wr W15 (Or.inl (List.mem_of_getElem? (i := 0) rfl))
  have f24_F : Fld Z h15 a "com/example/farcall/farcall/io/XdrEncoder" "buffer" "[B" (.ref b5) := f9_F.same W15
  subst hS0
  obtain ⟨fs, hr, hrun, hended, hW, hsame⟩ := X17.leave (v := none) (fun _ => rfl)
  refine ⟨_, _, pre16 _ (X17.returnOut hx Bd.returns (hb hby d12_12) hr), hrun, hended, _, _, rfl, ?_, ⟨_, rfl⟩, hW, hsame.mono (by decide) (by decide)⟩
  show Q12 Z a h0 n0 none T15.heap _
  rw [e15]
  exact ⟨rfl, N17, K23, b5, sz_b5, f18_E, f24_F, f19_F, f20_F, f21_A, ne6, fun _ => rfl, g_a, g_b5⟩
theorem pn_0 : plainName "com/example/farcall/farcall/io/XdrEncoderBeginPartPinLaw" = true := by first | (simp [plainName, overriddenIn]; done) | decide +kernel
theorem pd0_0 : parseMethodDescriptor "()V" = some ⟨[], none⟩ := by decide +kernel
theorem pd0_1 : parseMethodDescriptor "()I" = some ⟨[], some .int⟩ := by decide +kernel
theorem pd0_2 : parseMethodDescriptor "(I)Lcom/example/farcall/farcall/io/XdrEncoder;" = some ⟨[.int], some (.object "com/example/farcall/farcall/io/XdrEncoder")⟩ := by decide +kernel
theorem pd0_3 : parseMethodDescriptor "()[B" = some ⟨[], some (.array .byte)⟩ := by decide +kernel
theorem pd0_4 : parseMethodDescriptor "(I)V" = some ⟨[.int], none⟩ := by decide +kernel
theorem ef_0 (m : MethodId) (i0 : Int32) (i1 : Int32) (i2 : Int32) (i3 : Int32) : entryFrame m #[(.int i0), (.int i1), (.int i2), (.int i3)] maxLocals = mkF m 0 #[iv i0, iv i1, iv i2, iv i3, .unset, .unset, .unset, .unset, .unset, .unset, .unset, .unset, .unset, .unset, .unset, .unset] [] := by first | (simp [entryFrame, mkF, argsToLocals, Value.category, maxLocals]; done) | rfl
def Q0 (Z : State) (i0 : Int32) (i1 : Int32) (i2 : Int32) (i3 : Int32) (h0 : Heap) (n0 : Nat) (v : Option Value) (h : Heap) (L : List Loc) : Prop := v = some (.int 1) ∧ Fr n0 L
set_option maxRecDepth 65536 in
set_option maxHeartbeats 40000000 in
theorem rm0 (l : Launch) (Z : State) (a0 : Array Value) (hw : ∀ d ∈ tables_1, d.before a0 Z = true) (ws : List Jvm.Cond) (i0 : Int32) (i1 : Int32) (i2 : Int32) (i3 : Int32) (h0 : Heap) (n0 : Nat) (Z0 : n0 ≤ h0.size)  :
    MetFree l x (head1 (Jvm.Cond.code x code maxLocals ret :: ws) room_1) (fun aX UX => aX = #[(.int i0), (.int i1), (.int i2), (.int i3)] ∧ Z.Warmed39 UX.vm ∧ UX.heap = h0) (fun _ _ _ _ _ => True) (fun _ UX oX UY => ∃ vX LX, oX = .returned vX ∧ Q0 Z i0 i1 i2 i3 h0 n0 vX UY.heap LX ∧ FrameEnd UX oX UY LX 4 196) := by
  refine MetFree.of_bodySF (plainFor_of_name pn_0) hisR ?_
  intro p e s m args below meth c s₁ Bd hml0 hPX hKX
  obtain ⟨rfl, hZ, hh⟩ := hPX
  have hx := Bd.exec
  have hby := Bd.bytes
  have hml : c.maxLocals = 16 := hml0
  have hown : s.vm.findClass "com/example/farcall/farcall/io/XdrEncoderBeginPartPinLaw" = some m.cls := findClass_of_methodNamed Bd.named
  have hnm := (name_of_methodNamed Bd.named Bd.method).1
  have X0 : Stand p l e room_1 s m #[(.int i0), (.int i1), (.int i2), (.int i3)] below meth c s₁ [] 0 0 := Stand.of_body Bd
  have e0 : s₁.heap = h0 := by rw [← hh, Bd.state]; rfl
  have N0 := Fr.nil n0
  have pre0 : ∀ t, Steps p.tables e below (s₁.setTop (mkF m 0 #[iv i0, iv i1, iv i2, iv i3, .unset, .unset, .unset, .unset, .unset, .unset, .unset, .unset, .unset, .unset, .unset, .unset] [])) t → Steps p.tables e below (s₁.setTop (entryFrame m #[(.int i0), (.int i1), (.int i2), (.int i3)] maxLocals)) t := fun t k => castTop (ef_0 m i0 i1 i2 i3) k
  obtain ⟨S0, hS0⟩ : ∃ z, z = (s₁.setTop (entryFrame m #[(.int i0), (.int i1), (.int i2), (.int i3)] maxLocals)) := ⟨_, rfl⟩
  rw [← hS0] at pre0
  have pre1 : ∀ t, own_s p e below s₁ m 3 #[iv i0, iv i1, iv i2, iv i3, .unset, .unset, .unset, .unset, .unset, .unset, .unset, .unset, .unset, .unset, .unset, .unset] [(.int (i3 &&& (1 : Int32)))] t → Steps p.tables e below S0 t := by
    intro tX kX
    refine pre0 _ ?_
    show own_s p e below s₁ m 0 #[iv i0, iv i1, iv i2, iv i3, .unset, .unset, .unset, .unset, .unset, .unset, .unset, .unset, .unset, .unset, .unset, .unset] [] _
    refine XS.iloadN X0.here hx rfl (hb hby at_0) rfl ?_
    refine XS.iconst X0.here hx rfl (hb hby at_1) ?_
    refine XS.iand X0.here hx rfl (hb hby at_2) rfl ?_
    exact kX
  by_cases hc2 : (i3 &&& (1 : Int32)) = (0 : Int32)
  · skip
    have pre3 : ∀ t, own_s p e below s₁ m 16 #[iv i0, iv i1, iv i2, iv i3, iv (0 : Int32), .unset, .unset, .unset, .unset, .unset, .unset, .unset, .unset, .unset, .unset, .unset] [(.int (i3 &&& (2 : Int32)))] t → Steps p.tables e below S0 t := by
      intro tX kX
      refine pre1 _ ?_
      show own_s p e below s₁ m 3 #[iv i0, iv i1, iv i2, iv i3, .unset, .unset, .unset, .unset, .unset, .unset, .unset, .unset, .unset, .unset, .unset, .unset] [(.int (i3 &&& (1 : Int32)))] _
      refine XS.ifYes X0.here hx rfl (pc0 := 3) (pc' := 10) rfl (hb hby at_3) rfl ((if0 _ _).trans (teq hc2).1) (by decide) (by decide) ?_
      refine XS.iconst X0.here hx rfl (hb hby at_10) ?_
      refine XS.istore X0.here hx rfl (hb hby at_11) rfl (l' := #[iv i0, iv i1, iv i2, iv i3, iv (0 : Int32), .unset, .unset, .unset, .unset, .unset, .unset, .unset, .unset, .unset, .unset, .unset]) rfl ?_
      show own_s p e below s₁ m 13 #[iv i0, iv i1, iv i2, iv i3, iv (0 : Int32), .unset, .unset, .unset, .unset, .unset, .unset, .unset, .unset, .unset, .unset, .unset] [] _
      refine XS.iloadN X0.here hx rfl (hb hby at_13) rfl ?_
      refine XS.iconst X0.here hx rfl (hb hby at_14) ?_
      refine XS.iand X0.here hx rfl (hb hby at_15) rfl ?_
      exact kX
    by_cases hc4 : (i3 &&& (2 : Int32)) = (0 : Int32)
    · skip
      have pre5 : ∀ t, own_s p e below s₁ m 29 #[iv i0, iv i1, iv i2, iv i3, iv (0 : Int32), iv (0 : Int32), .unset, .unset, .unset, .unset, .unset, .unset, .unset, .unset, .unset, .unset] [(.int (i3 &&& (4 : Int32)))] t → Steps p.tables e below S0 t := by
        intro tX kX
        refine pre3 _ ?_
        show own_s p e below s₁ m 16 #[iv i0, iv i1, iv i2, iv i3, iv (0 : Int32), .unset, .unset, .unset, .unset, .unset, .unset, .unset, .unset, .unset, .unset, .unset] [(.int (i3 &&& (2 : Int32)))] _
        refine XS.ifYes X0.here hx rfl (pc0 := 16) (pc' := 23) rfl (hb hby at_16) rfl ((if0 _ _).trans (teq hc4).1) (by decide) (by decide) ?_
        refine XS.iconst X0.here hx rfl (hb hby at_23) ?_
        refine XS.istore X0.here hx rfl (hb hby at_24) rfl (l' := #[iv i0, iv i1, iv i2, iv i3, iv (0 : Int32), iv (0 : Int32), .unset, .unset, .unset, .unset, .unset, .unset, .unset, .unset, .unset, .unset]) rfl ?_
        show own_s p e below s₁ m 26 #[iv i0, iv i1, iv i2, iv i3, iv (0 : Int32), iv (0 : Int32), .unset, .unset, .unset, .unset, .unset, .unset, .unset, .unset, .unset, .unset] [] _
        refine XS.iloadN X0.here hx rfl (hb hby at_26) rfl ?_
        refine XS.iconst X0.here hx rfl (hb hby at_27) ?_
        refine XS.iand X0.here hx rfl (hb hby at_28) rfl ?_
        exact kX
      by_cases hc6 : (i3 &&& (4 : Int32)) = (0 : Int32)
      · skip
        have pre7 : ∀ t, own_s p e below s₁ m 39 #[iv i0, iv i1, iv i2, iv i3, iv (0 : Int32), iv (0 : Int32), iv (0 : Int32), .unset, .unset, .unset, .unset, .unset, .unset, .unset, .unset, .unset] [] t → Steps p.tables e below S0 t := by
          intro tX kX
          refine pre5 _ ?_
          show own_s p e below s₁ m 29 #[iv i0, iv i1, iv i2, iv i3, iv (0 : Int32), iv (0 : Int32), .unset, .unset, .unset, .unset, .unset, .unset, .unset, .unset, .unset, .unset] [(.int (i3 &&& (4 : Int32)))] _
          refine XS.ifYes X0.here hx rfl (pc0 := 29) (pc' := 36) rfl (hb hby at_29) rfl ((if0 _ _).trans (teq hc6).1) (by decide) (by decide) ?_
          refine XS.iconst X0.here hx rfl (hb hby at_36) ?_
          refine XS.istore X0.here hx rfl (hb hby at_37) rfl (l' := #[iv i0, iv i1, iv i2, iv i3, iv (0 : Int32), iv (0 : Int32), iv (0 : Int32), .unset, .unset, .unset, .unset, .unset, .unset, .unset, .unset, .unset]) rfl ?_
          exact kX
        obtain ⟨T8, h8, X8, e8, E8, A8, D8, -, st8⟩ := newO X0 hx hZ hown (hw _ (List.mem_of_getElem? (i := 0) rfl)) (hw _ (List.mem_of_getElem? (i := 1) rfl)) (hw _ (List.mem_of_getElem? (i := 2) rfl)) e0 (g := (mkF m 39 #[iv i0, iv i1, iv i2, iv i3, iv (0 : Int32), iv (0 : Int32), iv (0 : Int32), .unset, .unset, .unset, .unset, .unset, .unset, .unset, .unset, .unset] [])) rfl (hb hby at_39) (by decide) (by decide)
        obtain ⟨b8, g8⟩ : ∃ z, z = h0.size := ⟨_, rfl⟩
        rw [← g8] at A8 D8 st8
        have g_b8 : n0 ≤ b8 := Nat.le_trans Z0 (Nat.le_of_eq g8.symm)
        have pre9 : ∀ t, own_s p e below T8 m 42 #[iv i0, iv i1, iv i2, iv i3, iv (0 : Int32), iv (0 : Int32), iv (0 : Int32), .unset, .unset, .unset, .unset, .unset, .unset, .unset, .unset, .unset] [(.ref b8)] t → Steps p.tables e below S0 t := fun tX kX => pre7 _ (st8 _ kX)
        have Z10 : n0 ≤ h8.size := Nat.le_trans Z0 E8.1
        have f11_E : Exa Z h8 b8 "com/example/farcall/farcall/io/XdrEncoder" := A8
        have f12_F : Fld Z h8 b8 "com/example/farcall/farcall/io/XdrEncoder" "buffer" "[B" .null := D8 (Or.inl (hw _ (List.mem_of_getElem? (i := 11) rfl))) (ty := (.array .byte)) (by decide)
        have f13_F : Fld Z h8 b8 "com/example/farcall/farcall/io/XdrEncoder" "end" "I" (.int (0 : Int32)) := D8 (Or.inl (hw _ (List.mem_of_getElem? (i := 22) rfl))) (ty := .int) (by decide)
        have f14_F : Fld Z h8 b8 "com/example/farcall/farcall/io/XdrEncoder" "start" "I" (.int (0 : Int32)) := D8 (Or.inl (hw _ (List.mem_of_getElem? (i := 29) rfl))) (ty := .int) (by decide)
        have pre15 : ∀ t, own_s p e below T8 m 43 #[iv i0, iv i1, iv i2, iv i3, iv (0 : Int32), iv (0 : Int32), iv (0 : Int32), .unset, .unset, .unset, .unset, .unset, .unset, .unset, .unset, .unset] [(.ref b8), (.ref b8)] t → Steps p.tables e below S0 t := by
          intro tX kX
          refine pre9 _ ?_
          show own_s p e below T8 m 42 #[iv i0, iv i1, iv i2, iv i3, iv (0 : Int32), iv (0 : Int32), iv (0 : Int32), .unset, .unset, .unset, .unset, .unset, .unset, .unset, .unset, .unset] [(.ref b8)] _
          refine XS.dup X8.here hx rfl (hb hby at_42) rfl rfl ?_
          exact kX
        obtain ⟨_, _, ⟨T16, L16, k16, n16⟩, -, X16, ⟨Lc16, hQ16, l16, y16, z16⟩, st16⟩ := X8.specialBack hx (y := (⟨"com/example/farcall/farcall/io/XdrEncoder", "<init>", "()V"⟩ : MethodName)) rfl hown (mvT hZ (hw _ (List.mem_of_getElem? (i := 3) rfl))) (mvT hZ (hw _ (List.mem_of_getElem? (i := 4) rfl))) (mvT hZ (hw _ (List.mem_of_getElem? (i := 5) rfl))) (by decide) (backOf (W := 1) (rm12 l Z a0 hw [] b8  h8 n0 Z10 f11_E f12_F f14_F f13_F g_b8) hZ (hw _ (List.mem_of_getElem? (i := 5) rfl)) (hw _ (List.mem_of_getElem? (i := 2) rfl)) (by decide) (by decide)) (g := (mkF m 43 #[iv i0, iv i1, iv i2, iv i3, iv (0 : Int32), iv (0 : Int32), iv (0 : Int32), .unset, .unset, .unset, .unset, .unset, .unset, .unset, .unset, .unset] [(.ref b8), (.ref b8)])) rfl (by rw [hml]; rfl) (Steps.refl _) (a := b8) (argsL := []) (rest := [(.ref b8)]) (lenOf pd0_0 rfl) rfl (by show 2 * 0 + _ ≤ _; exact Nat.le_of_eq rfl) (hb hby at_43) (fun _ _ => ⟨rfl, e8, (by decide : 1 + 1 ≤ _), (by decide : 4 + 64 ≤ _)⟩)
        dsimp only [Pt.U, Pt.locs, Pt.cells, Pt.slots] at X16 l16 y16 z16 st16 hQ16
        subst l16 y16 z16
        obtain ⟨rfl, Nq16, Kq16, bb16, szq16, E_a16, F_buf16, F_sta16, F_end16, A_b16, ne_ab16, fg16, g_a16, g_b16⟩ := hQ16
        have N16 := Fr.app N0 Nq16
        have e16 : T16.heap = T16.heap := rfl
        have Z16 : n0 ≤ T16.heap.size := Nat.le_trans Z10 Kq16.1
        obtain ⟨LL17, X17, N17⟩ : ∃ LL, Stand p l e room_1 s m #[(.int i0), (.int i1), (.int i2), (.int i3)] below meth c T16 LL 2 68 ∧ Fr n0 LL := ⟨_, X16, N16⟩
        have pre18 : ∀ t, own_s p e below T16 m 46 #[iv i0, iv i1, iv i2, iv i3, iv (0 : Int32), iv (0 : Int32), iv (0 : Int32), .unset, .unset, .unset, .unset, .unset, .unset, .unset, .unset, .unset] [(.ref b8)] t → Steps p.tables e below S0 t := fun tX kX => pre15 _ (st16.trans kX)
        have pre19 : ∀ t, own_s p e below T16 m 113 #[iv i0, iv i1, iv i2, iv i3, iv (0 : Int32), iv (0 : Int32), iv (0 : Int32), rv b8, iv (0 : Int32), iv (0 : Int32), iv (0 : Int32), .unset, .unset, .unset, .unset, .unset] [(.ref b8)] t → Steps p.tables e below S0 t := by
          intro tX kX
          refine pre18 _ ?_
          show own_s p e below T16 m 46 #[iv i0, iv i1, iv i2, iv i3, iv (0 : Int32), iv (0 : Int32), iv (0 : Int32), .unset, .unset, .unset, .unset, .unset, .unset, .unset, .unset, .unset] [(.ref b8)] _
          refine XS.astore X17.here hx rfl (hb hby at_46) rfl rfl (l' := #[iv i0, iv i1, iv i2, iv i3, iv (0 : Int32), iv (0 : Int32), iv (0 : Int32), rv b8, .unset, .unset, .unset, .unset, .unset, .unset, .unset, .unset]) rfl ?_
          refine XS.iload X17.here hx rfl (hb hby at_48) rfl ?_
          refine XS.ifYes X17.here hx rfl (pc0 := 50) (pc' := 60) rfl (hb hby at_50) rfl ((if0 _ _).trans (teq (by decide : (0 : Int32) = (0 : Int32))).1) (by decide) (by decide) ?_
          show own_s p e below T16 m 60 #[iv i0, iv i1, iv i2, iv i3, iv (0 : Int32), iv (0 : Int32), iv (0 : Int32), rv b8, .unset, .unset, .unset, .unset, .unset, .unset, .unset, .unset] [] _
          refine XS.iload X17.here hx rfl (hb hby at_60) rfl ?_
          refine XS.ifYes X17.here hx rfl (pc0 := 62) (pc' := 69) rfl (hb hby at_62) rfl ((if0 _ _).trans (teq (by decide : (0 : Int32) = (0 : Int32))).1) (by decide) (by decide) ?_
          refine XS.iconst X17.here hx rfl (hb hby at_69) ?_
          show own_s p e below T16 m 70 #[iv i0, iv i1, iv i2, iv i3, iv (0 : Int32), iv (0 : Int32), iv (0 : Int32), rv b8, .unset, .unset, .unset, .unset, .unset, .unset, .unset, .unset] [(.int (0 : Int32))] _
          refine XS.istore X17.here hx rfl (hb hby at_70) rfl (l' := #[iv i0, iv i1, iv i2, iv i3, iv (0 : Int32), iv (0 : Int32), iv (0 : Int32), rv b8, iv (0 : Int32), .unset, .unset, .unset, .unset, .unset, .unset, .unset]) rfl ?_
          refine XS.iconst X17.here hx rfl (hb hby at_72) ?_
          refine XS.istore X17.here hx rfl (hb hby at_73) rfl (l' := #[iv i0, iv i1, iv i2, iv i3, iv (0 : Int32), iv (0 : Int32), iv (0 : Int32), rv b8, iv (0 : Int32), iv (0 : Int32), .unset, .unset, .unset, .unset, .unset, .unset]) rfl ?_
          show own_s p e below T16 m 75 #[iv i0, iv i1, iv i2, iv i3, iv (0 : Int32), iv (0 : Int32), iv (0 : Int32), rv b8, iv (0 : Int32), iv (0 : Int32), .unset, .unset, .unset, .unset, .unset, .unset] [] _
          refine XS.iload X17.here hx rfl (hb hby at_75) rfl ?_
          refine XS.ifYes X17.here hx rfl (pc0 := 77) (pc' := 87) rfl (hb hby at_77) rfl ((if0 _ _).trans (teq (by decide : (0 : Int32) = (0 : Int32))).1) (by decide) (by decide) ?_
          refine XS.iload X17.here hx rfl (hb hby at_87) rfl ?_
          show own_s p e below T16 m 89 #[iv i0, iv i1, iv i2, iv i3, iv (0 : Int32), iv (0 : Int32), iv (0 : Int32), rv b8, iv (0 : Int32), iv (0 : Int32), .unset, .unset, .unset, .unset, .unset, .unset] [(.int (0 : Int32))] _
          refine XS.ifYes X17.here hx rfl (pc0 := 89) (pc' := 99) rfl (hb hby at_89) rfl ((if0 _ _).trans (teq (by decide : (0 : Int32) = (0 : Int32))).1) (by decide) (by decide) ?_
          refine XS.iload X17.here hx rfl (hb hby at_99) rfl ?_
          refine XS.ifYes X17.here hx rfl (pc0 := 101) (pc' := 108) rfl (hb hby at_101) rfl ((if0 _ _).trans (teq (by decide : (0 : Int32) = (0 : Int32))).1) (by decide) (by decide) ?_
          show own_s p e below T16 m 108 #[iv i0, iv i1, iv i2, iv i3, iv (0 : Int32), iv (0 : Int32), iv (0 : Int32), rv b8, iv (0 : Int32), iv (0 : Int32), .unset, .unset, .unset, .unset, .unset, .unset] [] _
          refine XS.iconst X17.here hx rfl (hb hby at_108) ?_
          refine XS.istore X17.here hx rfl (hb hby at_109) rfl (l' := #[iv i0, iv i1, iv i2, iv i3, iv (0 : Int32), iv (0 : Int32), iv (0 : Int32), rv b8, iv (0 : Int32), iv (0 : Int32), iv (0 : Int32), .unset, .unset, .unset, .unset, .unset]) rfl ?_
          refine XS.aload X17.here hx rfl (hb hby at_111) rfl rfl ?_
          exact kX
        obtain ⟨cq20, kq20, q20a, q20b, q20c⟩ := isOf hZ e16 E_a16
        obtain ⟨_, _, ⟨T20, L20, k20, n20⟩, -, X20, ⟨Lc20, hQ20, l20, y20, z20⟩, st20⟩ := X17.virtualBack hx (y := (⟨"com/example/farcall/farcall/io/XdrEncoder", "beginPart", "()I"⟩ : MethodName)) (z := (⟨"com/example/farcall/farcall/io/XdrEncoder", "beginPart", "()I"⟩ : MethodName)) hown (mvT hZ (hw _ (List.mem_of_getElem? (i := 35) rfl))) (mvT hZ (hw _ (List.mem_of_getElem? (i := 36) rfl))) (notFace_of_selects (args := #[]) (mvT hZ (hw _ (List.mem_of_getElem? (i := 38) rfl)))) (mvT hZ (hw _ (List.mem_of_getElem? (i := 38) rfl))) (mvT hZ (hw _ (List.mem_of_getElem? (i := 37) rfl))) (by decide) (backOf (W := 0) (rm10 l Z a0 hw [] b8 bb16 ((fun _ : Nat => (0 : Int32))) 0 0 T16.heap n0 Z16 E_a16 F_buf16 F_sta16 F_end16 A_b16 ne_ab16 fg16 g_a16 g_b16) hZ (hw _ (List.mem_of_getElem? (i := 39) rfl)) (hw _ (List.mem_of_getElem? (i := 2) rfl)) (by decide) (by decide)) q20a q20c (g := (mkF m 113 #[iv i0, iv i1, iv i2, iv i3, iv (0 : Int32), iv (0 : Int32), iv (0 : Int32), rv b8, iv (0 : Int32), iv (0 : Int32), iv (0 : Int32), .unset, .unset, .unset, .unset, .unset] [(.ref b8)])) rfl (by rw [hml]; rfl) (Steps.refl _) (argsL := []) (rest := []) (lenOf pd0_1 rfl) rfl (by show 2 * 0 + _ ≤ _; exact Nat.le_of_eq rfl) (hb hby at_113) (fun _ _ => ⟨rfl, e16, (by decide : 2 + 0 ≤ _), (by decide : 68 + 0 ≤ _)⟩)
        dsimp only [Pt.U, Pt.locs, Pt.cells, Pt.slots] at X20 l20 y20 z20 st20 hQ20
        subst l20 y20 z20
        obtain ⟨rfl, Nq20, Kq20, E_a20, F_buf20, F_sta20, F_end20, A_b20, ne_ab20, fg20, g_a20, g_b20⟩ := hQ20
        have N20 := Fr.app N17 Nq20
        have e20 : T20.heap = T20.heap := rfl
        have Z20 : n0 ≤ T20.heap.size := Nat.le_trans Z16 Kq20.1
        obtain ⟨LL21, X21, N21⟩ : ∃ LL, Stand p l e room_1 s m #[(.int i0), (.int i1), (.int i2), (.int i3)] below meth c T20 LL 2 68 ∧ Fr n0 LL := ⟨_, X20, N20⟩
        have pre22 : ∀ t, own_s p e below T20 m 116 #[iv i0, iv i1, iv i2, iv i3, iv (0 : Int32), iv (0 : Int32), iv (0 : Int32), rv b8, iv (0 : Int32), iv (0 : Int32), iv (0 : Int32), .unset, .unset, .unset, .unset, .unset] [(.int (0 : Int32))] t → Steps p.tables e below S0 t := fun tX kX => pre19 _ (st20.trans kX)
        have pre23 : ∀ t, own_s p e below T20 m 120 #[iv i0, iv i1, iv i2, iv i3, iv (0 : Int32), iv (0 : Int32), iv (0 : Int32), rv b8, iv (0 : Int32), iv (0 : Int32), iv (0 : Int32), iv (0 : Int32), .unset, .unset, .unset, .unset] [(.ref b8)] t → Steps p.tables e below S0 t := by
          intro tX kX
          refine pre22 _ ?_
          show own_s p e below T20 m 116 #[iv i0, iv i1, iv i2, iv i3, iv (0 : Int32), iv (0 : Int32), iv (0 : Int32), rv b8, iv (0 : Int32), iv (0 : Int32), iv (0 : Int32), .unset, .unset, .unset, .unset, .unset] [(.int (0 : Int32))] _
          refine XS.istore X21.here hx rfl (hb hby at_116) rfl (l' := #[iv i0, iv i1, iv i2, iv i3, iv (0 : Int32), iv (0 : Int32), iv (0 : Int32), rv b8, iv (0 : Int32), iv (0 : Int32), iv (0 : Int32), iv (0 : Int32), .unset, .unset, .unset, .unset]) rfl ?_
          refine XS.aload X21.here hx rfl (hb hby at_118) rfl rfl ?_
          exact kX
        obtain ⟨cq24, kq24, q24a, q24b, q24c⟩ := isOf hZ e20 E_a20
        obtain ⟨_, _, ⟨T24, L24, k24, n24⟩, -, X24, ⟨Lc24, hQ24, l24, y24, z24⟩, st24⟩ := X21.virtualBack hx (y := (⟨"com/example/farcall/farcall/io/XdrEncoder", "size", "()I"⟩ : MethodName)) (z := (⟨"com/example/farcall/farcall/io/XdrEncoder", "size", "()I"⟩ : MethodName)) hown (mvT hZ (hw _ (List.mem_of_getElem? (i := 40) rfl))) (mvT hZ (hw _ (List.mem_of_getElem? (i := 24) rfl))) (notFace_of_selects (args := #[]) (mvT hZ (hw _ (List.mem_of_getElem? (i := 26) rfl)))) (mvT hZ (hw _ (List.mem_of_getElem? (i := 26) rfl))) (mvT hZ (hw _ (List.mem_of_getElem? (i := 25) rfl))) (by decide) (backOf (W := 0) (rm6 l Z a0 hw [] b8 bb16 ((fun _ : Nat => (0 : Int32))) 0 0 T20.heap n0 Z20 E_a20 F_buf20 F_sta20 F_end20 A_b20 ne_ab20 fg20 g_a20 g_b20 (by decide) (by decide)) hZ (hw _ (List.mem_of_getElem? (i := 27) rfl)) (hw _ (List.mem_of_getElem? (i := 2) rfl)) (by decide) (by decide)) q24a q24c (g := (mkF m 120 #[iv i0, iv i1, iv i2, iv i3, iv (0 : Int32), iv (0 : Int32), iv (0 : Int32), rv b8, iv (0 : Int32), iv (0 : Int32), iv (0 : Int32), iv (0 : Int32), .unset, .unset, .unset, .unset] [(.ref b8)])) rfl (by rw [hml]; rfl) (Steps.refl _) (argsL := []) (rest := []) (lenOf pd0_1 rfl) rfl (by show 2 * 0 + _ ≤ _; exact Nat.le_of_eq rfl) (hb hby at_120) (fun _ _ => ⟨rfl, e20, (by decide : 2 + 0 ≤ _), (by decide : 68 + 0 ≤ _)⟩)
        dsimp only [Pt.U, Pt.locs, Pt.cells, Pt.slots] at X24 l24 y24 z24 st24 hQ24
        subst l24 y24 z24
        obtain ⟨rfl, Nq24, e24⟩ := hQ24
        have N24 := Fr.app N21 Nq24
        obtain ⟨LL25, X25, N25⟩ : ∃ LL, Stand p l e room_1 s m #[(.int i0), (.int i1), (.int i2), (.int i3)] below meth c T24 LL 2 68 ∧ Fr n0 LL := ⟨_, X24, N24⟩
        have pre26 : ∀ t, own_s p e below T24 m 123 #[iv i0, iv i1, iv i2, iv i3, iv (0 : Int32), iv (0 : Int32), iv (0 : Int32), rv b8, iv (0 : Int32), iv (0 : Int32), iv (0 : Int32), iv (0 : Int32), .unset, .unset, .unset, .unset] [(.int (0 : Int32))] t → Steps p.tables e below S0 t := fun tX kX => pre23 _ (st24.trans kX)
        have pre27 : ∀ t, own_s p e below T24 m 136 #[iv i0, iv i1, iv i2, iv i3, iv (0 : Int32), iv (0 : Int32), iv (0 : Int32), rv b8, iv (0 : Int32), iv (0 : Int32), iv (0 : Int32), iv (0 : Int32), iv (1 : Int32), .unset, .unset, .unset] [(.int i2), (.ref b8)] t → Steps p.tables e below S0 t := by
          intro tX kX
          refine pre26 _ ?_
          show own_s p e below T24 m 123 #[iv i0, iv i1, iv i2, iv i3, iv (0 : Int32), iv (0 : Int32), iv (0 : Int32), rv b8, iv (0 : Int32), iv (0 : Int32), iv (0 : Int32), iv (0 : Int32), .unset, .unset, .unset, .unset] [(.int (0 : Int32))] _
          refine XS.ifNo X25.here hx rfl (hb hby at_123) rfl ((if0 _ _).trans (teq (by decide : (0 : Int32) = (0 : Int32))).2) ?_
          refine XS.iconst X25.here hx rfl (hb hby at_126) ?_
          refine XS.goto X25.here hx rfl (pc0 := 127) (pc' := 131) rfl (hb hby at_127) (by decide) (by decide) ?_
          show own_s p e below T24 m 131 #[iv i0, iv i1, iv i2, iv i3, iv (0 : Int32), iv (0 : Int32), iv (0 : Int32), rv b8, iv (0 : Int32), iv (0 : Int32), iv (0 : Int32), iv (0 : Int32), .unset, .unset, .unset, .unset] [(.int (1 : Int32))] _
          refine XS.istore X25.here hx rfl (hb hby at_131) rfl (l' := #[iv i0, iv i1, iv i2, iv i3, iv (0 : Int32), iv (0 : Int32), iv (0 : Int32), rv b8, iv (0 : Int32), iv (0 : Int32), iv (0 : Int32), iv (0 : Int32), iv (1 : Int32), .unset, .unset, .unset]) rfl ?_
          refine XS.aload X25.here hx rfl (hb hby at_133) rfl rfl ?_
          refine XS.iloadN X25.here hx rfl (hb hby at_135) rfl ?_
          exact kX
        obtain ⟨cq28, kq28, q28a, q28b, q28c⟩ := isOf hZ e24 E_a20
        obtain ⟨_, _, ⟨T28, L28, k28, n28⟩, -, X28, ⟨Lc28, hQ28, l28, y28, z28⟩, st28⟩ := X25.virtualBack hx (y := (⟨"com/example/farcall/farcall/io/XdrEncoder", "writeInt", "(I)Lcom/example/farcall/farcall/io/XdrEncoder;"⟩ : MethodName)) (z := (⟨"com/example/farcall/farcall/io/XdrEncoder", "writeInt", "(I)Lcom/example/farcall/farcall/io/XdrEncoder;"⟩ : MethodName)) hown (mvT hZ (hw _ (List.mem_of_getElem? (i := 12) rfl))) (mvT hZ (hw _ (List.mem_of_getElem? (i := 13) rfl))) (notFace_of_selects (args := #[]) (mvT hZ (hw _ (List.mem_of_getElem? (i := 15) rfl)))) (mvT hZ (hw _ (List.mem_of_getElem? (i := 15) rfl))) (mvT hZ (hw _ (List.mem_of_getElem? (i := 14) rfl))) (by decide) (backOf (W := 0) (rm9 l Z a0 hw [] b8 i2 bb16 ((fun _ : Nat => (0 : Int32))) 0 0 T20.heap n0 Z20 E_a20 F_buf20 F_sta20 F_end20 A_b20 ne_ab20 fg20 g_a20 g_b20 (by decide) (by decide)) hZ (hw _ (List.mem_of_getElem? (i := 16) rfl)) (hw _ (List.mem_of_getElem? (i := 2) rfl)) (by decide) (by decide)) q28a q28c (g := (mkF m 136 #[iv i0, iv i1, iv i2, iv i3, iv (0 : Int32), iv (0 : Int32), iv (0 : Int32), rv b8, iv (0 : Int32), iv (0 : Int32), iv (0 : Int32), iv (0 : Int32), iv (1 : Int32), .unset, .unset, .unset] [(.int i2), (.ref b8)])) rfl (by rw [hml]; rfl) (Steps.refl _) (argsL := [(.int i2)]) (rest := []) (lenOf pd0_2 rfl) rfl (by show 2 * 0 + _ ≤ _; exact Nat.le_of_eq rfl) (hb hby at_136) (fun _ _ => ⟨rfl, e24, (by decide : 2 + 0 ≤ _), (by decide : 68 + 0 ≤ _)⟩)
        dsimp only [Pt.U, Pt.locs, Pt.cells, Pt.slots] at X28 l28 y28 z28 st28 hQ28
        subst l28 y28 z28
        obtain ⟨rfl, Nq28, Kq28, E_a28, F_buf28, F_sta28, F_end28, A_b28, ne_ab28, fg28, g_a28, g_b28⟩ := hQ28
        have N28 := Fr.app N25 Nq28
        have e28 : T28.heap = T28.heap := rfl
        have Z28 : n0 ≤ T28.heap.size := Nat.le_trans Z20 Kq28.1
        obtain ⟨LL29, X29, N29⟩ : ∃ LL, Stand p l e room_1 s m #[(.int i0), (.int i1), (.int i2), (.int i3)] below meth c T28 LL 2 68 ∧ Fr n0 LL := ⟨_, X28, N28⟩
        have pre30 : ∀ t, own_s p e below T28 m 139 #[iv i0, iv i1, iv i2, iv i3, iv (0 : Int32), iv (0 : Int32), iv (0 : Int32), rv b8, iv (0 : Int32), iv (0 : Int32), iv (0 : Int32), iv (0 : Int32), iv (1 : Int32), .unset, .unset, .unset] [(.ref b8)] t → Steps p.tables e below S0 t := fun tX kX => pre27 _ (st28.trans kX)
        have pre31 : ∀ t, own_s p e below T28 m 142 #[iv i0, iv i1, iv i2, iv i3, iv (0 : Int32), iv (0 : Int32), iv (0 : Int32), rv b8, iv (0 : Int32), iv (0 : Int32), iv (0 : Int32), iv (0 : Int32), iv (1 : Int32), .unset, .unset, .unset] [(.ref b8)] t → Steps p.tables e below S0 t := by
          intro tX kX
          refine pre30 _ ?_
          show own_s p e below T28 m 139 #[iv i0, iv i1, iv i2, iv i3, iv (0 : Int32), iv (0 : Int32), iv (0 : Int32), rv b8, iv (0 : Int32), iv (0 : Int32), iv (0 : Int32), iv (0 : Int32), iv (1 : Int32), .unset, .unset, .unset] [(.ref b8)] _
          refine XS.pop X29.here hx rfl (hb hby at_139) rfl rfl ?_
          refine XS.aload X29.here hx rfl (hb hby at_140) rfl rfl ?_
          exact kX
        obtain ⟨cq32, kq32, q32a, q32b, q32c⟩ := isOf hZ e28 E_a28
        obtain ⟨_, _, ⟨T32, L32, k32, n32⟩, -, X32, ⟨Lc32, hQ32, l32, y32, z32⟩, st32⟩ := X29.virtualBack hx (y := (⟨"com/example/farcall/farcall/io/XdrEncoder", "toByteArray", "()[B"⟩ : MethodName)) (z := (⟨"com/example/farcall/farcall/io/XdrEncoder", "toByteArray", "()[B"⟩ : MethodName)) hown (mvT hZ (hw _ (List.mem_of_getElem? (i := 41) rfl))) (mvT hZ (hw _ (List.mem_of_getElem? (i := 42) rfl))) (notFace_of_selects (args := #[]) (mvT hZ (hw _ (List.mem_of_getElem? (i := 44) rfl)))) (mvT hZ (hw _ (List.mem_of_getElem? (i := 44) rfl))) (mvT hZ (hw _ (List.mem_of_getElem? (i := 43) rfl))) (by decide) (backOf (W := 0) (rm5 l Z a0 hw [] b8 bb16 ((own_put (fun _ : Nat => (0 : Int32)) 0 i2)) 0 4 T28.heap n0 Z28 E_a28 F_buf28 F_sta28 F_end28 A_b28 ne_ab28 fg28 g_a28 g_b28 (by decide) (by decide) (by decide)) hZ (hw _ (List.mem_of_getElem? (i := 45) rfl)) (hw _ (List.mem_of_getElem? (i := 2) rfl)) (by decide) (by decide)) q32a q32c (g := (mkF m 142 #[iv i0, iv i1, iv i2, iv i3, iv (0 : Int32), iv (0 : Int32), iv (0 : Int32), rv b8, iv (0 : Int32), iv (0 : Int32), iv (0 : Int32), iv (0 : Int32), iv (1 : Int32), .unset, .unset, .unset] [(.ref b8)])) rfl (by rw [hml]; rfl) (Steps.refl _) (argsL := []) (rest := []) (lenOf pd0_3 rfl) rfl (by show 2 * 0 + _ ≤ _; exact Nat.le_of_eq rfl) (hb hby at_142) (fun _ _ => ⟨rfl, e28, (by decide : 2 + 1 ≤ _), (by decide : 68 + 64 ≤ _)⟩)
        dsimp only [Pt.U, Pt.locs, Pt.cells, Pt.slots] at X32 l32 y32 z32 st32 hQ32
        subst l32 y32 z32
        obtain ⟨r32, rfl, Nq32, Kq32, sz_r32, g_r32, fA32⟩ := hQ32
        have N32 := Fr.app N29 Nq32
        have e32 : T32.heap = T32.heap := rfl
        have Z32 : n0 ≤ T32.heap.size := Nat.le_trans Z28 Kq32.1
        have ne33 : b8 ≠ r32 := Nat.ne_of_lt (Nat.lt_of_lt_of_le E_a28.lt sz_r32)
        have ne34 : bb16 ≠ r32 := Nat.ne_of_lt (Nat.lt_of_lt_of_le A_b28.lt sz_r32)
        have f35_E : Exa Z T32.heap b8 "com/example/farcall/farcall/io/XdrEncoder" := E_a28.keep Kq32
        have f36_F : Fld Z T32.heap b8 "com/example/farcall/farcall/io/XdrEncoder" "buffer" "[B" (.ref bb16) := F_buf28.keep Kq32 nin0
        have f37_F : Fld Z T32.heap b8 "com/example/farcall/farcall/io/XdrEncoder" "start" "I" (.int (Int32.ofNat 0)) := F_sta28.keep Kq32 nin0
        have f38_F : Fld Z T32.heap b8 "com/example/farcall/farcall/io/XdrEncoder" "end" "I" (.int (Int32.ofNat 4)) := F_end28.keep Kq32 nin0
        have f39_A : own_Af Z T32.heap bb16 .byte 64 (fun j => .int ((own_put (fun _ : Nat => (0 : Int32)) 0 i2) j)) := A_b28.keep Kq32 nin0
        obtain ⟨LL40, X40, N40⟩ : ∃ LL, Stand p l e room_1 s m #[(.int i0), (.int i1), (.int i2), (.int i3)] below meth c T32 LL 3 132 ∧ Fr n0 LL := ⟨_, X32, N32⟩
        have pre41 : ∀ t, own_s p e below T32 m 145 #[iv i0, iv i1, iv i2, iv i3, iv (0 : Int32), iv (0 : Int32), iv (0 : Int32), rv b8, iv (0 : Int32), iv (0 : Int32), iv (0 : Int32), iv (0 : Int32), iv (1 : Int32), .unset, .unset, .unset] [(.ref r32)] t → Steps p.tables e below S0 t := fun tX kX => pre31 _ (st32.trans kX)
        have pre42 : ∀ t, own_s p e below T32 m 154 #[iv i0, iv i1, iv i2, iv i3, iv (0 : Int32), iv (0 : Int32), iv (0 : Int32), rv b8, iv (0 : Int32), iv (0 : Int32), iv (0 : Int32), iv (0 : Int32), iv (1 : Int32), rv r32, .unset, .unset] [(.ref b8)] t → Steps p.tables e below S0 t := by
          intro tX kX
          refine pre41 _ ?_
          show own_s p e below T32 m 145 #[iv i0, iv i1, iv i2, iv i3, iv (0 : Int32), iv (0 : Int32), iv (0 : Int32), rv b8, iv (0 : Int32), iv (0 : Int32), iv (0 : Int32), iv (0 : Int32), iv (1 : Int32), .unset, .unset, .unset] [(.ref r32)] _
          refine XS.astore X40.here hx rfl (hb hby at_145) rfl rfl (l' := #[iv i0, iv i1, iv i2, iv i3, iv (0 : Int32), iv (0 : Int32), iv (0 : Int32), rv b8, iv (0 : Int32), iv (0 : Int32), iv (0 : Int32), iv (0 : Int32), iv (1 : Int32), rv r32, .unset, .unset]) rfl ?_
          refine XS.iload X40.here hx rfl (hb hby at_147) rfl ?_
          refine XS.ifNo X40.here hx rfl (hb hby at_149) rfl ((if0 _ _).trans (feq (by decide : ¬ ((1 : Int32) = (0 : Int32)))).1) ?_
          show own_s p e below T32 m 152 #[iv i0, iv i1, iv i2, iv i3, iv (0 : Int32), iv (0 : Int32), iv (0 : Int32), rv b8, iv (0 : Int32), iv (0 : Int32), iv (0 : Int32), iv (0 : Int32), iv (1 : Int32), rv r32, .unset, .unset] [] _
          refine XS.aload X40.here hx rfl (hb hby at_152) rfl rfl ?_
          exact kX
        obtain ⟨cq43, kq43, q43a, q43b, q43c⟩ := isOf hZ e32 f35_E
        obtain ⟨_, _, ⟨T43, L43, k43, n43⟩, -, X43, ⟨Lc43, hQ43, l43, y43, z43⟩, st43⟩ := X40.virtualBack hx (y := (⟨"com/example/farcall/farcall/io/XdrEncoder", "size", "()I"⟩ : MethodName)) (z := (⟨"com/example/farcall/farcall/io/XdrEncoder", "size", "()I"⟩ : MethodName)) hown (mvT hZ (hw _ (List.mem_of_getElem? (i := 40) rfl))) (mvT hZ (hw _ (List.mem_of_getElem? (i := 24) rfl))) (notFace_of_selects (args := #[]) (mvT hZ (hw _ (List.mem_of_getElem? (i := 26) rfl)))) (mvT hZ (hw _ (List.mem_of_getElem? (i := 26) rfl))) (mvT hZ (hw _ (List.mem_of_getElem? (i := 25) rfl))) (by decide) (backOf (W := 0) (rm6 l Z a0 hw [] b8 bb16 ((own_put (fun _ : Nat => (0 : Int32)) 0 i2)) 0 4 T32.heap n0 Z32 f35_E f36_F f37_F f38_F f39_A ne_ab28 fg28 g_a28 g_b28 (by decide) (by decide)) hZ (hw _ (List.mem_of_getElem? (i := 27) rfl)) (hw _ (List.mem_of_getElem? (i := 2) rfl)) (by decide) (by decide)) q43a q43c (g := (mkF m 154 #[iv i0, iv i1, iv i2, iv i3, iv (0 : Int32), iv (0 : Int32), iv (0 : Int32), rv b8, iv (0 : Int32), iv (0 : Int32), iv (0 : Int32), iv (0 : Int32), iv (1 : Int32), rv r32, .unset, .unset] [(.ref b8)])) rfl (by rw [hml]; rfl) (Steps.refl _) (argsL := []) (rest := []) (lenOf pd0_1 rfl) rfl (by show 2 * 0 + _ ≤ _; exact Nat.le_of_eq rfl) (hb hby at_154) (fun _ _ => ⟨rfl, e32, (by decide : 3 + 0 ≤ _), (by decide : 132 + 0 ≤ _)⟩)
        dsimp only [Pt.U, Pt.locs, Pt.cells, Pt.slots] at X43 l43 y43 z43 st43 hQ43
        subst l43 y43 z43
        obtain ⟨rfl, Nq43, e43⟩ := hQ43
        have N43 := Fr.app N40 Nq43
        obtain ⟨LL44, X44, N44⟩ : ∃ LL, Stand p l e room_1 s m #[(.int i0), (.int i1), (.int i2), (.int i3)] below meth c T43 LL 3 132 ∧ Fr n0 LL := ⟨_, X43, N43⟩
        have pre45 : ∀ t, own_s p e below T43 m 157 #[iv i0, iv i1, iv i2, iv i3, iv (0 : Int32), iv (0 : Int32), iv (0 : Int32), rv b8, iv (0 : Int32), iv (0 : Int32), iv (0 : Int32), iv (0 : Int32), iv (1 : Int32), rv r32, .unset, .unset] [(.int (4 : Int32))] t → Steps p.tables e below S0 t := fun tX kX => pre42 _ (st43.trans kX)
        have pre47 : ∀ t, own_s p e below T43 m 163 #[iv i0, iv i1, iv i2, iv i3, iv (0 : Int32), iv (0 : Int32), iv (0 : Int32), rv b8, iv (0 : Int32), iv (0 : Int32), iv (0 : Int32), iv (0 : Int32), iv (1 : Int32), rv r32, .unset, .unset] [(.ref r32)] t → Steps p.tables e below S0 t := by
          intro tX kX
          refine pre45 _ ?_
          show own_s p e below T43 m 157 #[iv i0, iv i1, iv i2, iv i3, iv (0 : Int32), iv (0 : Int32), iv (0 : Int32), rv b8, iv (0 : Int32), iv (0 : Int32), iv (0 : Int32), iv (0 : Int32), iv (1 : Int32), rv r32, .unset, .unset] [(.int (4 : Int32))] _
          refine XS.iconst X44.here hx rfl (hb hby at_157) ?_
          refine XS.icmpNo X44.here hx rfl (hb hby at_158) rfl (teq (by decide : (4 : Int32) = (4 : Int32))).2 ?_
          refine XS.aload X44.here hx rfl (hb hby at_161) rfl rfl ?_
          exact kX
        obtain ⟨cl46, Ar46, S46, M46, H46⟩ := id fA32
        have pre49 : ∀ t, own_s p e below T43 m 171 #[iv i0, iv i1, iv i2, iv i3, iv (0 : Int32), iv (0 : Int32), iv (0 : Int32), rv b8, iv (0 : Int32), iv (0 : Int32), iv (0 : Int32), iv (0 : Int32), iv (1 : Int32), rv r32, .unset, .unset] [(.int (0 : Int32)), (.ref r32)] t → Steps p.tables e below S0 t := by
          intro tX kX
          refine pre47 _ ?_
          show own_s p e below T43 m 163 #[iv i0, iv i1, iv i2, iv i3, iv (0 : Int32), iv (0 : Int32), iv (0 : Int32), rv b8, iv (0 : Int32), iv (0 : Int32), iv (0 : Int32), iv (0 : Int32), iv (1 : Int32), rv r32, .unset, .unset] [(.ref r32)] _
          refine X44.arraylength hx (by rw [e43]; exact Ar46.1) (State.isArrayOf_alike hZ.alike Ar46.2.1) (g := (mkF m 163 #[iv i0, iv i1, iv i2, iv i3, iv (0 : Int32), iv (0 : Int32), iv (0 : Int32), rv b8, iv (0 : Int32), iv (0 : Int32), iv (0 : Int32), iv (0 : Int32), iv (1 : Int32), rv r32, .unset, .unset] [(.ref r32)])) rfl rfl (hb hby at_163) _ ?_
          rw [show cl46.slots.size.toInt32 = (4 : Int32) from by rw [S46]; exact rfl]
          refine XS.iconst X44.here hx rfl (hb hby at_164) ?_
          refine XS.icmpNo X44.here hx rfl (hb hby at_165) rfl (teq (by decide : (4 : Int32) = (4 : Int32))).2 ?_
          show own_s p e below T43 m 168 #[iv i0, iv i1, iv i2, iv i3, iv (0 : Int32), iv (0 : Int32), iv (0 : Int32), rv b8, iv (0 : Int32), iv (0 : Int32), iv (0 : Int32), iv (0 : Int32), iv (1 : Int32), rv r32, .unset, .unset] [] _
          refine XS.aload X44.here hx rfl (hb hby at_168) rfl rfl ?_
          refine XS.iconst X44.here hx rfl (hb hby at_170) ?_
          exact kX
        obtain ⟨cl48, Ar48, S48, M48, H48⟩ := id fA32
        have pre51 : ∀ t, own_s p e below T43 m 183 #[iv i0, iv i1, iv i2, iv i3, iv (0 : Int32), iv (0 : Int32), iv (0 : Int32), rv b8, iv (0 : Int32), iv (0 : Int32), iv (0 : Int32), iv (0 : Int32), iv (1 : Int32), rv r32, .unset, .unset] [(.int (1 : Int32)), (.ref r32)] t → Steps p.tables e below S0 t := by
          intro tX kX
          refine pre49 _ ?_
          show own_s p e below T43 m 171 #[iv i0, iv i1, iv i2, iv i3, iv (0 : Int32), iv (0 : Int32), iv (0 : Int32), rv b8, iv (0 : Int32), iv (0 : Int32), iv (0 : Int32), iv (0 : Int32), iv (1 : Int32), rv r32, .unset, .unset] [(.int (0 : Int32)), (.ref r32)] _
          refine X44.baloadBytes hx (j := (0 : Int32)) (v := (.int (((i2.toUInt32 >>> ((24 : Int32) &&& 31).toUInt32).toInt32).toInt8.toInt32))) (by rw [e43]; exact Ar48.1) (State.isArrayOf_alike hZ.alike Ar48.2.1) Ar48.2.2 (own_inb S48 M48 (by decide)) (own_get H48 S48 (by decide) (show Value.int ((own_put (fun _ : Nat => (0 : Int32)) 0 i2) (0 + 0)) = Value.int (((i2.toUInt32 >>> ((24 : Int32) &&& 31).toUInt32).toInt32).toInt8.toInt32) from congrArg Value.int (((own_put_in (by decide) (by decide)).trans (congrArg (own_by i2) (show _ = 0 from by decide))).trans (show own_by i2 0 = (((i2.toUInt32 >>> ((24 : Int32) &&& 31).toUInt32).toInt32).toInt8.toInt32) from rfl)))) (g := (mkF m 171 #[iv i0, iv i1, iv i2, iv i3, iv (0 : Int32), iv (0 : Int32), iv (0 : Int32), rv b8, iv (0 : Int32), iv (0 : Int32), iv (0 : Int32), iv (0 : Int32), iv (1 : Int32), rv r32, .unset, .unset] [(.int (0 : Int32)), (.ref r32)])) rfl rfl (hb hby at_171) _ ?_
          refine XS.iloadN X44.here hx rfl (hb hby at_172) rfl ?_
          refine XS.bipush X44.here hx rfl (hb hby at_173) ?_
          show own_s p e below T43 m 175 #[iv i0, iv i1, iv i2, iv i3, iv (0 : Int32), iv (0 : Int32), iv (0 : Int32), rv b8, iv (0 : Int32), iv (0 : Int32), iv (0 : Int32), iv (0 : Int32), iv (1 : Int32), rv r32, .unset, .unset] [(.int (24 : Int32)), (.int i2), (.int (((i2.toUInt32 >>> ((24 : Int32) &&& 31).toUInt32).toInt32).toInt8.toInt32))] _
          refine XS.iushr X44.here hx rfl (hb hby at_175) rfl ?_
          refine XS.i2b X44.here hx rfl (hb hby at_176) rfl ?_
          refine XS.icmpNo X44.here hx rfl (hb hby at_177) rfl (teq (rfl : (((i2.toUInt32 >>> ((24 : Int32) &&& 31).toUInt32).toInt32).toInt8.toInt32) = (((i2.toUInt32 >>> ((24 : Int32) &&& 31).toUInt32).toInt32).toInt8.toInt32))).2 ?_
          show own_s p e below T43 m 180 #[iv i0, iv i1, iv i2, iv i3, iv (0 : Int32), iv (0 : Int32), iv (0 : Int32), rv b8, iv (0 : Int32), iv (0 : Int32), iv (0 : Int32), iv (0 : Int32), iv (1 : Int32), rv r32, .unset, .unset] [] _
          refine XS.aload X44.here hx rfl (hb hby at_180) rfl rfl ?_
          refine XS.iconst X44.here hx rfl (hb hby at_182) ?_
          exact kX
        obtain ⟨cl50, Ar50, S50, M50, H50⟩ := id fA32
        have pre53 : ∀ t, own_s p e below T43 m 195 #[iv i0, iv i1, iv i2, iv i3, iv (0 : Int32), iv (0 : Int32), iv (0 : Int32), rv b8, iv (0 : Int32), iv (0 : Int32), iv (0 : Int32), iv (0 : Int32), iv (1 : Int32), rv r32, .unset, .unset] [(.int (2 : Int32)), (.ref r32)] t → Steps p.tables e below S0 t := by
          intro tX kX
          refine pre51 _ ?_
          show own_s p e below T43 m 183 #[iv i0, iv i1, iv i2, iv i3, iv (0 : Int32), iv (0 : Int32), iv (0 : Int32), rv b8, iv (0 : Int32), iv (0 : Int32), iv (0 : Int32), iv (0 : Int32), iv (1 : Int32), rv r32, .unset, .unset] [(.int (1 : Int32)), (.ref r32)] _
          refine X44.baloadBytes hx (j := (1 : Int32)) (v := (.int (((i2.toUInt32 >>> ((16 : Int32) &&& 31).toUInt32).toInt32).toInt8.toInt32))) (by rw [e43]; exact Ar50.1) (State.isArrayOf_alike hZ.alike Ar50.2.1) Ar50.2.2 (own_inb S50 M50 (by decide)) (own_get H50 S50 (by decide) (show Value.int ((own_put (fun _ : Nat => (0 : Int32)) 0 i2) (0 + 1)) = Value.int (((i2.toUInt32 >>> ((16 : Int32) &&& 31).toUInt32).toInt32).toInt8.toInt32) from congrArg Value.int (((own_put_in (by decide) (by decide)).trans (congrArg (own_by i2) (show _ = 1 from by decide))).trans (show own_by i2 1 = (((i2.toUInt32 >>> ((16 : Int32) &&& 31).toUInt32).toInt32).toInt8.toInt32) from rfl)))) (g := (mkF m 183 #[iv i0, iv i1, iv i2, iv i3, iv (0 : Int32), iv (0 : Int32), iv (0 : Int32), rv b8, iv (0 : Int32), iv (0 : Int32), iv (0 : Int32), iv (0 : Int32), iv (1 : Int32), rv r32, .unset, .unset] [(.int (1 : Int32)), (.ref r32)])) rfl rfl (hb hby at_183) _ ?_
          refine XS.iloadN X44.here hx rfl (hb hby at_184) rfl ?_
          refine XS.bipush X44.here hx rfl (hb hby at_185) ?_
          show own_s p e below T43 m 187 #[iv i0, iv i1, iv i2, iv i3, iv (0 : Int32), iv (0 : Int32), iv (0 : Int32), rv b8, iv (0 : Int32), iv (0 : Int32), iv (0 : Int32), iv (0 : Int32), iv (1 : Int32), rv r32, .unset, .unset] [(.int (16 : Int32)), (.int i2), (.int (((i2.toUInt32 >>> ((16 : Int32) &&& 31).toUInt32).toInt32).toInt8.toInt32))] _
          refine XS.iushr X44.here hx rfl (hb hby at_187) rfl ?_
          refine XS.i2b X44.here hx rfl (hb hby at_188) rfl ?_
          refine XS.icmpNo X44.here hx rfl (hb hby at_189) rfl (teq (rfl : (((i2.toUInt32 >>> ((16 : Int32) &&& 31).toUInt32).toInt32).toInt8.toInt32) = (((i2.toUInt32 >>> ((16 : Int32) &&& 31).toUInt32).toInt32).toInt8.toInt32))).2 ?_
          show own_s p e below T43 m 192 #[iv i0, iv i1, iv i2, iv i3, iv (0 : Int32), iv (0 : Int32), iv (0 : Int32), rv b8, iv (0 : Int32), iv (0 : Int32), iv (0 : Int32), iv (0 : Int32), iv (1 : Int32), rv r32, .unset, .unset] [] _
          refine XS.aload X44.here hx rfl (hb hby at_192) rfl rfl ?_
          refine XS.iconst X44.here hx rfl (hb hby at_194) ?_
          exact kX
        obtain ⟨cl52, Ar52, S52, M52, H52⟩ := id fA32
        have pre55 : ∀ t, own_s p e below T43 m 207 #[iv i0, iv i1, iv i2, iv i3, iv (0 : Int32), iv (0 : Int32), iv (0 : Int32), rv b8, iv (0 : Int32), iv (0 : Int32), iv (0 : Int32), iv (0 : Int32), iv (1 : Int32), rv r32, .unset, .unset] [(.int (3 : Int32)), (.ref r32)] t → Steps p.tables e below S0 t := by
          intro tX kX
          refine pre53 _ ?_
          show own_s p e below T43 m 195 #[iv i0, iv i1, iv i2, iv i3, iv (0 : Int32), iv (0 : Int32), iv (0 : Int32), rv b8, iv (0 : Int32), iv (0 : Int32), iv (0 : Int32), iv (0 : Int32), iv (1 : Int32), rv r32, .unset, .unset] [(.int (2 : Int32)), (.ref r32)] _
          refine X44.baloadBytes hx (j := (2 : Int32)) (v := (.int (((i2.toUInt32 >>> ((8 : Int32) &&& 31).toUInt32).toInt32).toInt8.toInt32))) (by rw [e43]; exact Ar52.1) (State.isArrayOf_alike hZ.alike Ar52.2.1) Ar52.2.2 (own_inb S52 M52 (by decide)) (own_get H52 S52 (by decide) (show Value.int ((own_put (fun _ : Nat => (0 : Int32)) 0 i2) (0 + 2)) = Value.int (((i2.toUInt32 >>> ((8 : Int32) &&& 31).toUInt32).toInt32).toInt8.toInt32) from congrArg Value.int (((own_put_in (by decide) (by decide)).trans (congrArg (own_by i2) (show _ = 2 from by decide))).trans (show own_by i2 2 = (((i2.toUInt32 >>> ((8 : Int32) &&& 31).toUInt32).toInt32).toInt8.toInt32) from rfl)))) (g := (mkF m 195 #[iv i0, iv i1, iv i2, iv i3, iv (0 : Int32), iv (0 : Int32), iv (0 : Int32), rv b8, iv (0 : Int32), iv (0 : Int32), iv (0 : Int32), iv (0 : Int32), iv (1 : Int32), rv r32, .unset, .unset] [(.int (2 : Int32)), (.ref r32)])) rfl rfl (hb hby at_195) _ ?_
          refine XS.iloadN X44.here hx rfl (hb hby at_196) rfl ?_
          refine XS.bipush X44.here hx rfl (hb hby at_197) ?_
          show own_s p e below T43 m 199 #[iv i0, iv i1, iv i2, iv i3, iv (0 : Int32), iv (0 : Int32), iv (0 : Int32), rv b8, iv (0 : Int32), iv (0 : Int32), iv (0 : Int32), iv (0 : Int32), iv (1 : Int32), rv r32, .unset, .unset] [(.int (8 : Int32)), (.int i2), (.int (((i2.toUInt32 >>> ((8 : Int32) &&& 31).toUInt32).toInt32).toInt8.toInt32))] _
          refine XS.iushr X44.here hx rfl (hb hby at_199) rfl ?_
          refine XS.i2b X44.here hx rfl (hb hby at_200) rfl ?_
          refine XS.icmpNo X44.here hx rfl (hb hby at_201) rfl (teq (rfl : (((i2.toUInt32 >>> ((8 : Int32) &&& 31).toUInt32).toInt32).toInt8.toInt32) = (((i2.toUInt32 >>> ((8 : Int32) &&& 31).toUInt32).toInt32).toInt8.toInt32))).2 ?_
          show own_s p e below T43 m 204 #[iv i0, iv i1, iv i2, iv i3, iv (0 : Int32), iv (0 : Int32), iv (0 : Int32), rv b8, iv (0 : Int32), iv (0 : Int32), iv (0 : Int32), iv (0 : Int32), iv (1 : Int32), rv r32, .unset, .unset] [] _
          refine XS.aload X44.here hx rfl (hb hby at_204) rfl rfl ?_
          refine XS.iconst X44.here hx rfl (hb hby at_206) ?_
          exact kX
        obtain ⟨cl54, Ar54, S54, M54, H54⟩ := id fA32
        have pre56 : ∀ t, own_s p e below T43 m 231 #[iv i0, iv i1, iv i2, iv i3, iv (0 : Int32), iv (0 : Int32), iv (0 : Int32), rv b8, iv (0 : Int32), iv (0 : Int32), iv (0 : Int32), iv (0 : Int32), iv (1 : Int32), rv r32, .unset, .unset] [(.int (0 : Int32)), (.ref b8)] t → Steps p.tables e below S0 t := by
          intro tX kX
          refine pre55 _ ?_
          show own_s p e below T43 m 207 #[iv i0, iv i1, iv i2, iv i3, iv (0 : Int32), iv (0 : Int32), iv (0 : Int32), rv b8, iv (0 : Int32), iv (0 : Int32), iv (0 : Int32), iv (0 : Int32), iv (1 : Int32), rv r32, .unset, .unset] [(.int (3 : Int32)), (.ref r32)] _
          refine X44.baloadBytes hx (j := (3 : Int32)) (v := (.int (i2.toInt8.toInt32))) (by rw [e43]; exact Ar54.1) (State.isArrayOf_alike hZ.alike Ar54.2.1) Ar54.2.2 (own_inb S54 M54 (by decide)) (own_get H54 S54 (by decide) (show Value.int ((own_put (fun _ : Nat => (0 : Int32)) 0 i2) (0 + 3)) = Value.int (i2.toInt8.toInt32) from congrArg Value.int (((own_put_in (by decide) (by decide)).trans (congrArg (own_by i2) (show _ = 3 from by decide))).trans (show own_by i2 3 = (i2.toInt8.toInt32) from rfl)))) (g := (mkF m 207 #[iv i0, iv i1, iv i2, iv i3, iv (0 : Int32), iv (0 : Int32), iv (0 : Int32), rv b8, iv (0 : Int32), iv (0 : Int32), iv (0 : Int32), iv (0 : Int32), iv (1 : Int32), rv r32, .unset, .unset] [(.int (3 : Int32)), (.ref r32)])) rfl rfl (hb hby at_207) _ ?_
          refine XS.iloadN X44.here hx rfl (hb hby at_208) rfl ?_
          refine XS.i2b X44.here hx rfl (hb hby at_209) rfl ?_
          show own_s p e below T43 m 210 #[iv i0, iv i1, iv i2, iv i3, iv (0 : Int32), iv (0 : Int32), iv (0 : Int32), rv b8, iv (0 : Int32), iv (0 : Int32), iv (0 : Int32), iv (0 : Int32), iv (1 : Int32), rv r32, .unset, .unset] [(.int (i2.toInt8.toInt32)), (.int (i2.toInt8.toInt32))] _
          refine XS.icmpNo X44.here hx rfl (hb hby at_210) rfl (teq (rfl : (i2.toInt8.toInt32) = (i2.toInt8.toInt32))).2 ?_
          refine XS.iconst X44.here hx rfl (hb hby at_213) ?_
          refine XS.goto X44.here hx rfl (pc0 := 214) (pc' := 218) rfl (hb hby at_214) (by decide) (by decide) ?_
          show own_s p e below T43 m 218 #[iv i0, iv i1, iv i2, iv i3, iv (0 : Int32), iv (0 : Int32), iv (0 : Int32), rv b8, iv (0 : Int32), iv (0 : Int32), iv (0 : Int32), iv (0 : Int32), iv (1 : Int32), rv r32, .unset, .unset] [(.int (1 : Int32))] _
          refine XS.istore X44.here hx rfl (hb hby at_218) rfl (l' := #[iv i0, iv i1, iv i2, iv i3, iv (0 : Int32), iv (0 : Int32), iv (0 : Int32), rv b8, iv (0 : Int32), iv (0 : Int32), iv (0 : Int32), iv (0 : Int32), iv (1 : Int32), rv r32, .unset, .unset]) rfl ?_
          refine XS.iload X44.here hx rfl (hb hby at_220) rfl ?_
          refine XS.ifYes X44.here hx rfl (pc0 := 222) (pc' := 227) rfl (hb hby at_222) rfl ((if0 _ _).trans (feq (by decide : ¬ ((1 : Int32) = (0 : Int32)))).2) (by decide) (by decide) ?_
          show own_s p e below T43 m 227 #[iv i0, iv i1, iv i2, iv i3, iv (0 : Int32), iv (0 : Int32), iv (0 : Int32), rv b8, iv (0 : Int32), iv (0 : Int32), iv (0 : Int32), iv (0 : Int32), iv (1 : Int32), rv r32, .unset, .unset] [] _
          refine XS.aload X44.here hx rfl (hb hby at_227) rfl rfl ?_
          refine XS.iload X44.here hx rfl (hb hby at_229) rfl ?_
          exact kX
        obtain ⟨cq57, kq57, q57a, q57b, q57c⟩ := isOf hZ e43 f35_E
        obtain ⟨_, _, ⟨T57, L57, k57, n57⟩, -, X57, ⟨Lc57, hQ57, l57, y57, z57⟩, st57⟩ := X44.virtualBack hx (y := (⟨"com/example/farcall/farcall/io/XdrEncoder", "endPart", "(I)V"⟩ : MethodName)) (z := (⟨"com/example/farcall/farcall/io/XdrEncoder", "endPart", "(I)V"⟩ : MethodName)) hown (mvT hZ (hw _ (List.mem_of_getElem? (i := 64) rfl))) (mvT hZ (hw _ (List.mem_of_getElem? (i := 65) rfl))) (notFace_of_selects (args := #[]) (mvT hZ (hw _ (List.mem_of_getElem? (i := 67) rfl)))) (mvT hZ (hw _ (List.mem_of_getElem? (i := 67) rfl))) (mvT hZ (hw _ (List.mem_of_getElem? (i := 66) rfl))) (by decide) (backOf (W := 0) (rm11 l Z a0 hw [] b8 (0 : Int32) bb16 ((own_put (fun _ : Nat => (0 : Int32)) 0 i2)) 0 4 0 T32.heap n0 Z32 f35_E f36_F f37_F f38_F f39_A ne_ab28 fg28 g_a28 g_b28 rfl (by decide) (by decide)) hZ (hw _ (List.mem_of_getElem? (i := 68) rfl)) (hw _ (List.mem_of_getElem? (i := 2) rfl)) (by decide) (by decide)) q57a q57c (g := (mkF m 231 #[iv i0, iv i1, iv i2, iv i3, iv (0 : Int32), iv (0 : Int32), iv (0 : Int32), rv b8, iv (0 : Int32), iv (0 : Int32), iv (0 : Int32), iv (0 : Int32), iv (1 : Int32), rv r32, .unset, .unset] [(.int (0 : Int32)), (.ref b8)])) rfl (by rw [hml]; rfl) (Steps.refl _) (argsL := [(.int (0 : Int32))]) (rest := []) (lenOf pd0_4 rfl) rfl (by show 2 * 0 + _ ≤ _; exact Nat.le_of_eq rfl) (hb hby at_231) (fun _ _ => ⟨rfl, e43, (by decide : 3 + 0 ≤ _), (by decide : 132 + 0 ≤ _)⟩)
        dsimp only [Pt.U, Pt.locs, Pt.cells, Pt.slots] at X57 l57 y57 z57 st57 hQ57
        subst l57 y57 z57
        obtain ⟨rfl, Nq57, Kq57, E_a57, F_buf57, F_sta57, F_end57, A_b57, ne_ab57, fg57, g_a57, g_b57⟩ := hQ57
        have N57 := Fr.app N44 Nq57
        have e57 : T57.heap = T57.heap := rfl
        have Z57 : n0 ≤ T57.heap.size := Nat.le_trans Z32 Kq57.1
        have f58_A : own_Af Z T57.heap r32 .byte 4 (fun j => .int ((own_put (fun _ : Nat => (0 : Int32)) 0 i2) (0 + j))) := fA32.keep Kq57 (ninS (Ne.symm ne33) (nin0))
        obtain ⟨LL59, X59, N59⟩ : ∃ LL, Stand p l e room_1 s m #[(.int i0), (.int i1), (.int i2), (.int i3)] below meth c T57 LL 3 132 ∧ Fr n0 LL := ⟨_, X57, N57⟩
        have pre60 : ∀ t, own_s p e below T57 m 234 #[iv i0, iv i1, iv i2, iv i3, iv (0 : Int32), iv (0 : Int32), iv (0 : Int32), rv b8, iv (0 : Int32), iv (0 : Int32), iv (0 : Int32), iv (0 : Int32), iv (1 : Int32), rv r32, .unset, .unset] [] t → Steps p.tables e below S0 t := fun tX kX => pre56 _ (st57.trans kX)
        have pre61 : ∀ t, own_s p e below T57 m 257 #[iv i0, iv i1, iv i2, iv i3, iv (0 : Int32), iv (0 : Int32), iv (0 : Int32), rv b8, iv (0 : Int32), iv (0 : Int32), iv (0 : Int32), iv (0 : Int32), iv (1 : Int32), rv r32, iv (4 : Int32), .unset] [(.ref b8)] t → Steps p.tables e below S0 t := by
          intro tX kX
          refine pre60 _ ?_
          show own_s p e below T57 m 234 #[iv i0, iv i1, iv i2, iv i3, iv (0 : Int32), iv (0 : Int32), iv (0 : Int32), rv b8, iv (0 : Int32), iv (0 : Int32), iv (0 : Int32), iv (0 : Int32), iv (1 : Int32), rv r32, .unset, .unset] [] _
          refine XS.iload X59.here hx rfl (hb hby at_234) rfl ?_
          refine XS.ifYes X59.here hx rfl (pc0 := 236) (pc' := 246) rfl (hb hby at_236) rfl ((if0 _ _).trans (teq (by decide : (0 : Int32) = (0 : Int32))).1) (by decide) (by decide) ?_
          refine XS.iload X59.here hx rfl (hb hby at_246) rfl ?_
          show own_s p e below T57 m 248 #[iv i0, iv i1, iv i2, iv i3, iv (0 : Int32), iv (0 : Int32), iv (0 : Int32), rv b8, iv (0 : Int32), iv (0 : Int32), iv (0 : Int32), iv (0 : Int32), iv (1 : Int32), rv r32, .unset, .unset] [(.int (0 : Int32))] _
          refine XS.iload X59.here hx rfl (hb hby at_248) rfl ?_
          refine XS.iadd X59.here hx rfl (hb hby at_250) rfl ?_
          refine XS.iconst X59.here hx rfl (hb hby at_251) ?_
          show own_s p e below T57 m 252 #[iv i0, iv i1, iv i2, iv i3, iv (0 : Int32), iv (0 : Int32), iv (0 : Int32), rv b8, iv (0 : Int32), iv (0 : Int32), iv (0 : Int32), iv (0 : Int32), iv (1 : Int32), rv r32, .unset, .unset] [(.int (4 : Int32)), (.int (0 : Int32))] _
          refine XS.iadd X59.here hx rfl (hb hby at_252) rfl ?_
          refine XS.istore X59.here hx rfl (hb hby at_253) rfl (l' := #[iv i0, iv i1, iv i2, iv i3, iv (0 : Int32), iv (0 : Int32), iv (0 : Int32), rv b8, iv (0 : Int32), iv (0 : Int32), iv (0 : Int32), iv (0 : Int32), iv (1 : Int32), rv r32, iv (4 : Int32), .unset]) rfl ?_
          refine XS.aload X59.here hx rfl (hb hby at_255) rfl rfl ?_
          exact kX
        obtain ⟨cq62, kq62, q62a, q62b, q62c⟩ := isOf hZ e57 E_a57
        obtain ⟨_, _, ⟨T62, L62, k62, n62⟩, -, X62, ⟨Lc62, hQ62, l62, y62, z62⟩, st62⟩ := X59.virtualBack hx (y := (⟨"com/example/farcall/farcall/io/XdrEncoder", "size", "()I"⟩ : MethodName)) (z := (⟨"com/example/farcall/farcall/io/XdrEncoder", "size", "()I"⟩ : MethodName)) hown (mvT hZ (hw _ (List.mem_of_getElem? (i := 40) rfl))) (mvT hZ (hw _ (List.mem_of_getElem? (i := 24) rfl))) (notFace_of_selects (args := #[]) (mvT hZ (hw _ (List.mem_of_getElem? (i := 26) rfl)))) (mvT hZ (hw _ (List.mem_of_getElem? (i := 26) rfl))) (mvT hZ (hw _ (List.mem_of_getElem? (i := 25) rfl))) (by decide) (backOf (W := 0) (rm6 l Z a0 hw [] b8 bb16 ((own_put (fun _ : Nat => (0 : Int32)) 0 i2)) 0 4 T57.heap n0 Z57 E_a57 F_buf57 F_sta57 F_end57 A_b57 ne_ab57 fg57 g_a57 g_b57 (by decide) (by decide)) hZ (hw _ (List.mem_of_getElem? (i := 27) rfl)) (hw _ (List.mem_of_getElem? (i := 2) rfl)) (by decide) (by decide)) q62a q62c (g := (mkF m 257 #[iv i0, iv i1, iv i2, iv i3, iv (0 : Int32), iv (0 : Int32), iv (0 : Int32), rv b8, iv (0 : Int32), iv (0 : Int32), iv (0 : Int32), iv (0 : Int32), iv (1 : Int32), rv r32, iv (4 : Int32), .unset] [(.ref b8)])) rfl (by rw [hml]; rfl) (Steps.refl _) (argsL := []) (rest := []) (lenOf pd0_1 rfl) rfl (by show 2 * 0 + _ ≤ _; exact Nat.le_of_eq rfl) (hb hby at_257) (fun _ _ => ⟨rfl, e57, (by decide : 3 + 0 ≤ _), (by decide : 132 + 0 ≤ _)⟩)
        dsimp only [Pt.U, Pt.locs, Pt.cells, Pt.slots] at X62 l62 y62 z62 st62 hQ62
        subst l62 y62 z62
        obtain ⟨rfl, Nq62, e62⟩ := hQ62
        have N62 := Fr.app N59 Nq62
        obtain ⟨LL63, X63, N63⟩ : ∃ LL, Stand p l e room_1 s m #[(.int i0), (.int i1), (.int i2), (.int i3)] below meth c T62 LL 3 132 ∧ Fr n0 LL := ⟨_, X62, N62⟩
        have pre64 : ∀ t, own_s p e below T62 m 260 #[iv i0, iv i1, iv i2, iv i3, iv (0 : Int32), iv (0 : Int32), iv (0 : Int32), rv b8, iv (0 : Int32), iv (0 : Int32), iv (0 : Int32), iv (0 : Int32), iv (1 : Int32), rv r32, iv (4 : Int32), .unset] [(.int (4 : Int32))] t → Steps p.tables e below S0 t := fun tX kX => pre61 _ (st62.trans kX)
        have pre65 : ∀ t, own_s p e below T62 m 366 #[iv i0, iv i1, iv i2, iv i3, iv (0 : Int32), iv (0 : Int32), iv (0 : Int32), rv b8, iv (0 : Int32), iv (0 : Int32), iv (0 : Int32), iv (0 : Int32), iv (1 : Int32), rv r32, iv (4 : Int32), .unset] [(.ref b8)] t → Steps p.tables e below S0 t := by
          intro tX kX
          refine pre64 _ ?_
          show own_s p e below T62 m 260 #[iv i0, iv i1, iv i2, iv i3, iv (0 : Int32), iv (0 : Int32), iv (0 : Int32), rv b8, iv (0 : Int32), iv (0 : Int32), iv (0 : Int32), iv (0 : Int32), iv (1 : Int32), rv r32, iv (4 : Int32), .unset] [(.int (4 : Int32))] _
          refine XS.iload X63.here hx rfl (hb hby at_260) rfl ?_
          refine XS.icmpNo X63.here hx rfl (hb hby at_262) rfl (teq (by decide : (4 : Int32) = (4 : Int32))).2 ?_
          refine XS.iconst X63.here hx rfl (hb hby at_265) ?_
          show own_s p e below T62 m 266 #[iv i0, iv i1, iv i2, iv i3, iv (0 : Int32), iv (0 : Int32), iv (0 : Int32), rv b8, iv (0 : Int32), iv (0 : Int32), iv (0 : Int32), iv (0 : Int32), iv (1 : Int32), rv r32, iv (4 : Int32), .unset] [(.int (1 : Int32))] _
          refine XS.goto X63.here hx rfl (pc0 := 266) (pc' := 270) rfl (hb hby at_266) (by decide) (by decide) ?_
          refine XS.istore X63.here hx rfl (hb hby at_270) rfl (l' := #[iv i0, iv i1, iv i2, iv i3, iv (0 : Int32), iv (0 : Int32), iv (0 : Int32), rv b8, iv (0 : Int32), iv (0 : Int32), iv (0 : Int32), iv (0 : Int32), iv (1 : Int32), rv r32, iv (4 : Int32), .unset]) rfl ?_
          refine XS.iload X63.here hx rfl (hb hby at_272) rfl ?_
          show own_s p e below T62 m 274 #[iv i0, iv i1, iv i2, iv i3, iv (0 : Int32), iv (0 : Int32), iv (0 : Int32), rv b8, iv (0 : Int32), iv (0 : Int32), iv (0 : Int32), iv (0 : Int32), iv (1 : Int32), rv r32, iv (4 : Int32), .unset] [(.int (0 : Int32))] _
          refine XS.ifYes X63.here hx rfl (pc0 := 274) (pc' := 340) rfl (hb hby at_274) rfl ((if0 _ _).trans (teq (by decide : (0 : Int32) = (0 : Int32))).1) (by decide) (by decide) ?_
          refine XS.iload X63.here hx rfl (hb hby at_340) rfl ?_
          refine XS.ifNo X63.here hx rfl (hb hby at_342) rfl ((if0 _ _).trans (feq (by decide : ¬ ((1 : Int32) = (0 : Int32)))).1) ?_
          show own_s p e below T62 m 345 #[iv i0, iv i1, iv i2, iv i3, iv (0 : Int32), iv (0 : Int32), iv (0 : Int32), rv b8, iv (0 : Int32), iv (0 : Int32), iv (0 : Int32), iv (0 : Int32), iv (1 : Int32), rv r32, iv (4 : Int32), .unset] [] _
          refine XS.iload X63.here hx rfl (hb hby at_345) rfl ?_
          refine XS.ifNo X63.here hx rfl (hb hby at_347) rfl ((if0 _ _).trans (teq (by decide : (0 : Int32) = (0 : Int32))).2) ?_
          refine XS.iconst X63.here hx rfl (hb hby at_350) ?_
          show own_s p e below T62 m 351 #[iv i0, iv i1, iv i2, iv i3, iv (0 : Int32), iv (0 : Int32), iv (0 : Int32), rv b8, iv (0 : Int32), iv (0 : Int32), iv (0 : Int32), iv (0 : Int32), iv (1 : Int32), rv r32, iv (4 : Int32), .unset] [(.int (1 : Int32))] _
          refine XS.goto X63.here hx rfl (pc0 := 351) (pc' := 355) rfl (hb hby at_351) (by decide) (by decide) ?_
          refine XS.istore X63.here hx rfl (hb hby at_355) rfl (l' := #[iv i0, iv i1, iv i2, iv i3, iv (0 : Int32), iv (0 : Int32), iv (0 : Int32), rv b8, iv (0 : Int32), iv (0 : Int32), iv (0 : Int32), iv (0 : Int32), iv (1 : Int32), rv r32, iv (4 : Int32), .unset]) rfl ?_
          refine XS.iload X63.here hx rfl (hb hby at_357) rfl ?_
          show own_s p e below T62 m 359 #[iv i0, iv i1, iv i2, iv i3, iv (0 : Int32), iv (0 : Int32), iv (0 : Int32), rv b8, iv (0 : Int32), iv (0 : Int32), iv (0 : Int32), iv (0 : Int32), iv (1 : Int32), rv r32, iv (4 : Int32), .unset] [(.int (1 : Int32))] _
          refine XS.ifYes X63.here hx rfl (pc0 := 359) (pc' := 364) rfl (hb hby at_359) rfl ((if0 _ _).trans (feq (by decide : ¬ ((1 : Int32) = (0 : Int32)))).2) (by decide) (by decide) ?_
          refine XS.aload X63.here hx rfl (hb hby at_364) rfl rfl ?_
          exact kX
        obtain ⟨cq66, kq66, q66a, q66b, q66c⟩ := isOf hZ e62 E_a57
        obtain ⟨_, _, ⟨T66, L66, k66, n66⟩, -, X66, ⟨Lc66, hQ66, l66, y66, z66⟩, st66⟩ := X63.virtualBack hx (y := (⟨"com/example/farcall/farcall/io/XdrEncoder", "toByteArray", "()[B"⟩ : MethodName)) (z := (⟨"com/example/farcall/farcall/io/XdrEncoder", "toByteArray", "()[B"⟩ : MethodName)) hown (mvT hZ (hw _ (List.mem_of_getElem? (i := 41) rfl))) (mvT hZ (hw _ (List.mem_of_getElem? (i := 42) rfl))) (notFace_of_selects (args := #[]) (mvT hZ (hw _ (List.mem_of_getElem? (i := 44) rfl)))) (mvT hZ (hw _ (List.mem_of_getElem? (i := 44) rfl))) (mvT hZ (hw _ (List.mem_of_getElem? (i := 43) rfl))) (by decide) (backOf (W := 0) (rm5 l Z a0 hw [] b8 bb16 ((own_put (fun _ : Nat => (0 : Int32)) 0 i2)) 0 4 T57.heap n0 Z57 E_a57 F_buf57 F_sta57 F_end57 A_b57 ne_ab57 fg57 g_a57 g_b57 (by decide) (by decide) (by decide)) hZ (hw _ (List.mem_of_getElem? (i := 45) rfl)) (hw _ (List.mem_of_getElem? (i := 2) rfl)) (by decide) (by decide)) q66a q66c (g := (mkF m 366 #[iv i0, iv i1, iv i2, iv i3, iv (0 : Int32), iv (0 : Int32), iv (0 : Int32), rv b8, iv (0 : Int32), iv (0 : Int32), iv (0 : Int32), iv (0 : Int32), iv (1 : Int32), rv r32, iv (4 : Int32), .unset] [(.ref b8)])) rfl (by rw [hml]; rfl) (Steps.refl _) (argsL := []) (rest := []) (lenOf pd0_3 rfl) rfl (by show 2 * 0 + _ ≤ _; exact Nat.le_of_eq rfl) (hb hby at_366) (fun _ _ => ⟨rfl, e62, (by decide : 3 + 1 ≤ _), (by decide : 132 + 64 ≤ _)⟩)
        dsimp only [Pt.U, Pt.locs, Pt.cells, Pt.slots] at X66 l66 y66 z66 st66 hQ66
        subst l66 y66 z66
        obtain ⟨r66, rfl, Nq66, Kq66, sz_r66, g_r66, fA66⟩ := hQ66
        have N66 := Fr.app N63 Nq66
        have e66 : T66.heap = T66.heap := rfl
        have Z66 : n0 ≤ T66.heap.size := Nat.le_trans Z57 Kq66.1
        have ne67 : b8 ≠ r66 := Nat.ne_of_lt (Nat.lt_of_lt_of_le E_a57.lt sz_r66)
        have ne68 : bb16 ≠ r66 := Nat.ne_of_lt (Nat.lt_of_lt_of_le A_b57.lt sz_r66)
        have ne69 : r32 ≠ r66 := Nat.ne_of_lt (Nat.lt_of_lt_of_le f58_A.lt sz_r66)
        have f70_E : Exa Z T66.heap b8 "com/example/farcall/farcall/io/XdrEncoder" := E_a57.keep Kq66
        have f71_F : Fld Z T66.heap b8 "com/example/farcall/farcall/io/XdrEncoder" "buffer" "[B" (.ref bb16) := F_buf57.keep Kq66 nin0
        have f72_F : Fld Z T66.heap b8 "com/example/farcall/farcall/io/XdrEncoder" "start" "I" (.int (Int32.ofNat 0)) := F_sta57.keep Kq66 nin0
        have f73_F : Fld Z T66.heap b8 "com/example/farcall/farcall/io/XdrEncoder" "end" "I" (.int (Int32.ofNat 4)) := F_end57.keep Kq66 nin0
        have f74_A : own_Af Z T66.heap bb16 .byte 64 (fun j => .int ((own_put (fun _ : Nat => (0 : Int32)) 0 i2) j)) := A_b57.keep Kq66 nin0
        have f75_A : own_Af Z T66.heap r32 .byte 4 (fun j => .int ((own_put (fun _ : Nat => (0 : Int32)) 0 i2) (0 + j))) := f58_A.keep Kq66 nin0
        obtain ⟨LL76, X76, N76⟩ : ∃ LL, Stand p l e room_1 s m #[(.int i0), (.int i1), (.int i2), (.int i3)] below meth c T66 LL 4 196 ∧ Fr n0 LL := ⟨_, X66, N66⟩
        have pre77 : ∀ t, own_s p e below T66 m 369 #[iv i0, iv i1, iv i2, iv i3, iv (0 : Int32), iv (0 : Int32), iv (0 : Int32), rv b8, iv (0 : Int32), iv (0 : Int32), iv (0 : Int32), iv (0 : Int32), iv (1 : Int32), rv r32, iv (4 : Int32), .unset] [(.ref r66)] t → Steps p.tables e below S0 t := fun tX kX => pre65 _ (st66.trans kX)
        have pre79 : ∀ t, own_s p e below T66 m 373 #[iv i0, iv i1, iv i2, iv i3, iv (0 : Int32), iv (0 : Int32), iv (0 : Int32), rv b8, iv (0 : Int32), iv (0 : Int32), iv (0 : Int32), iv (0 : Int32), iv (1 : Int32), rv r32, iv (4 : Int32), rv r66] [(.ref r66)] t → Steps p.tables e below S0 t := by
          intro tX kX
          refine pre77 _ ?_
          show own_s p e below T66 m 369 #[iv i0, iv i1, iv i2, iv i3, iv (0 : Int32), iv (0 : Int32), iv (0 : Int32), rv b8, iv (0 : Int32), iv (0 : Int32), iv (0 : Int32), iv (0 : Int32), iv (1 : Int32), rv r32, iv (4 : Int32), .unset] [(.ref r66)] _
          refine XS.astore X76.here hx rfl (hb hby at_369) rfl rfl (l' := #[iv i0, iv i1, iv i2, iv i3, iv (0 : Int32), iv (0 : Int32), iv (0 : Int32), rv b8, iv (0 : Int32), iv (0 : Int32), iv (0 : Int32), iv (0 : Int32), iv (1 : Int32), rv r32, iv (4 : Int32), rv r66]) rfl ?_
          refine XS.aload X76.here hx rfl (hb hby at_371) rfl rfl ?_
          exact kX
        obtain ⟨cl78, Ar78, S78, M78, H78⟩ := id fA66
        have pre81 : ∀ t, own_s p e below T66 m 395 #[iv i0, iv i1, iv i2, iv i3, iv (0 : Int32), iv (0 : Int32), iv (0 : Int32), rv b8, iv (0 : Int32), iv (0 : Int32), iv (0 : Int32), iv (0 : Int32), iv (1 : Int32), rv r32, iv (4 : Int32), rv r66] [(.int (3 : Int32)), (.ref r66)] t → Steps p.tables e below S0 t := by
          intro tX kX
          refine pre79 _ ?_
          show own_s p e below T66 m 373 #[iv i0, iv i1, iv i2, iv i3, iv (0 : Int32), iv (0 : Int32), iv (0 : Int32), rv b8, iv (0 : Int32), iv (0 : Int32), iv (0 : Int32), iv (0 : Int32), iv (1 : Int32), rv r32, iv (4 : Int32), rv r66] [(.ref r66)] _
          refine X76.arraylength hx (by rw [e66]; exact Ar78.1) (State.isArrayOf_alike hZ.alike Ar78.2.1) (g := (mkF m 373 #[iv i0, iv i1, iv i2, iv i3, iv (0 : Int32), iv (0 : Int32), iv (0 : Int32), rv b8, iv (0 : Int32), iv (0 : Int32), iv (0 : Int32), iv (0 : Int32), iv (1 : Int32), rv r32, iv (4 : Int32), rv r66] [(.ref r66)])) rfl rfl (hb hby at_373) _ ?_
          rw [show cl78.slots.size.toInt32 = (4 : Int32) from by rw [S78]; exact rfl]
          refine XS.iload X76.here hx rfl (hb hby at_374) rfl ?_
          refine XS.iload X76.here hx rfl (hb hby at_376) rfl ?_
          show own_s p e below T66 m 378 #[iv i0, iv i1, iv i2, iv i3, iv (0 : Int32), iv (0 : Int32), iv (0 : Int32), rv b8, iv (0 : Int32), iv (0 : Int32), iv (0 : Int32), iv (0 : Int32), iv (1 : Int32), rv r32, iv (4 : Int32), rv r66] [(.int (0 : Int32)), (.int (0 : Int32)), (.int (4 : Int32))] _
          refine XS.iadd X76.here hx rfl (hb hby at_378) rfl ?_
          refine XS.iconst X76.here hx rfl (hb hby at_379) ?_
          refine XS.iadd X76.here hx rfl (hb hby at_380) rfl ?_
          show own_s p e below T66 m 381 #[iv i0, iv i1, iv i2, iv i3, iv (0 : Int32), iv (0 : Int32), iv (0 : Int32), rv b8, iv (0 : Int32), iv (0 : Int32), iv (0 : Int32), iv (0 : Int32), iv (1 : Int32), rv r32, iv (4 : Int32), rv r66] [(.int (4 : Int32)), (.int (4 : Int32))] _
          refine XS.icmpYes X76.here hx rfl (pc0 := 381) (pc' := 386) rfl (hb hby at_381) rfl (teq (by decide : (4 : Int32) = (4 : Int32))).1 (by decide) (by decide) ?_
          refine XS.aload X76.here hx rfl (hb hby at_386) rfl rfl ?_
          refine XS.iload X76.here hx rfl (hb hby at_388) rfl ?_
          show own_s p e below T66 m 390 #[iv i0, iv i1, iv i2, iv i3, iv (0 : Int32), iv (0 : Int32), iv (0 : Int32), rv b8, iv (0 : Int32), iv (0 : Int32), iv (0 : Int32), iv (0 : Int32), iv (1 : Int32), rv r32, iv (4 : Int32), rv r66] [(.int (0 : Int32)), (.ref r66)] _
          refine XS.iload X76.here hx rfl (hb hby at_390) rfl ?_
          refine XS.iadd X76.here hx rfl (hb hby at_392) rfl ?_
          refine XS.iconst X76.here hx rfl (hb hby at_393) ?_
          show own_s p e below T66 m 394 #[iv i0, iv i1, iv i2, iv i3, iv (0 : Int32), iv (0 : Int32), iv (0 : Int32), rv b8, iv (0 : Int32), iv (0 : Int32), iv (0 : Int32), iv (0 : Int32), iv (1 : Int32), rv r32, iv (4 : Int32), rv r66] [(.int (3 : Int32)), (.int (0 : Int32)), (.ref r66)] _
          refine XS.iadd X76.here hx rfl (hb hby at_394) rfl ?_
          exact kX
        obtain ⟨cl80, Ar80, S80, M80, H80⟩ := id fA66
        have pre83 : ∀ t, own_s p e below T66 m 408 #[iv i0, iv i1, iv i2, iv i3, iv (0 : Int32), iv (0 : Int32), iv (0 : Int32), rv b8, iv (0 : Int32), iv (0 : Int32), iv (0 : Int32), iv (0 : Int32), iv (1 : Int32), rv r32, iv (4 : Int32), rv r66] [(.int (0 : Int32)), (.ref r66)] t → Steps p.tables e below S0 t := by
          intro tX kX
          refine pre81 _ ?_
          show own_s p e below T66 m 395 #[iv i0, iv i1, iv i2, iv i3, iv (0 : Int32), iv (0 : Int32), iv (0 : Int32), rv b8, iv (0 : Int32), iv (0 : Int32), iv (0 : Int32), iv (0 : Int32), iv (1 : Int32), rv r32, iv (4 : Int32), rv r66] [(.int (3 : Int32)), (.ref r66)] _
          refine X76.baloadBytes hx (j := (3 : Int32)) (v := (.int (i2.toInt8.toInt32))) (by rw [e66]; exact Ar80.1) (State.isArrayOf_alike hZ.alike Ar80.2.1) Ar80.2.2 (own_inb S80 M80 (by decide)) (own_get H80 S80 (by decide) (show Value.int ((own_put (fun _ : Nat => (0 : Int32)) 0 i2) (0 + 3)) = Value.int (i2.toInt8.toInt32) from congrArg Value.int (((own_put_in (by decide) (by decide)).trans (congrArg (own_by i2) (show _ = 3 from by decide))).trans (show own_by i2 3 = (i2.toInt8.toInt32) from rfl)))) (g := (mkF m 395 #[iv i0, iv i1, iv i2, iv i3, iv (0 : Int32), iv (0 : Int32), iv (0 : Int32), rv b8, iv (0 : Int32), iv (0 : Int32), iv (0 : Int32), iv (0 : Int32), iv (1 : Int32), rv r32, iv (4 : Int32), rv r66] [(.int (3 : Int32)), (.ref r66)])) rfl rfl (hb hby at_395) _ ?_
          refine XS.iloadN X76.here hx rfl (hb hby at_396) rfl ?_
          refine XS.i2b X76.here hx rfl (hb hby at_397) rfl ?_
          show own_s p e below T66 m 398 #[iv i0, iv i1, iv i2, iv i3, iv (0 : Int32), iv (0 : Int32), iv (0 : Int32), rv b8, iv (0 : Int32), iv (0 : Int32), iv (0 : Int32), iv (0 : Int32), iv (1 : Int32), rv r32, iv (4 : Int32), rv r66] [(.int (i2.toInt8.toInt32)), (.int (i2.toInt8.toInt32))] _
          refine XS.icmpNo X76.here hx rfl (hb hby at_398) rfl (teq (rfl : (i2.toInt8.toInt32) = (i2.toInt8.toInt32))).2 ?_
          refine XS.aload X76.here hx rfl (hb hby at_401) rfl rfl ?_
          refine XS.iload X76.here hx rfl (hb hby at_403) rfl ?_
          show own_s p e below T66 m 405 #[iv i0, iv i1, iv i2, iv i3, iv (0 : Int32), iv (0 : Int32), iv (0 : Int32), rv b8, iv (0 : Int32), iv (0 : Int32), iv (0 : Int32), iv (0 : Int32), iv (1 : Int32), rv r32, iv (4 : Int32), rv r66] [(.int (0 : Int32)), (.ref r66)] _
          refine XS.iload X76.here hx rfl (hb hby at_405) rfl ?_
          refine XS.iadd X76.here hx rfl (hb hby at_407) rfl ?_
          exact kX
        obtain ⟨cl82, Ar82, S82, M82, H82⟩ := id fA66
        have pre84 : ∀ t, own_s p e below T66 m 458 #[iv i0, iv i1, iv i2, iv i3, iv (0 : Int32), iv (0 : Int32), iv (0 : Int32), rv b8, iv (0 : Int32), iv (0 : Int32), iv (0 : Int32), iv (0 : Int32), iv (1 : Int32), rv r32, iv (4 : Int32), rv r66] [(.int (1 : Int32))] t → Steps p.tables e below S0 t := by
          intro tX kX
          refine pre83 _ ?_
          show own_s p e below T66 m 408 #[iv i0, iv i1, iv i2, iv i3, iv (0 : Int32), iv (0 : Int32), iv (0 : Int32), rv b8, iv (0 : Int32), iv (0 : Int32), iv (0 : Int32), iv (0 : Int32), iv (1 : Int32), rv r32, iv (4 : Int32), rv r66] [(.int (0 : Int32)), (.ref r66)] _
          refine X76.baloadBytes hx (j := (0 : Int32)) (v := (.int (((i2.toUInt32 >>> ((24 : Int32) &&& 31).toUInt32).toInt32).toInt8.toInt32))) (by rw [e66]; exact Ar82.1) (State.isArrayOf_alike hZ.alike Ar82.2.1) Ar82.2.2 (own_inb S82 M82 (by decide)) (own_get H82 S82 (by decide) (show Value.int ((own_put (fun _ : Nat => (0 : Int32)) 0 i2) (0 + 0)) = Value.int (((i2.toUInt32 >>> ((24 : Int32) &&& 31).toUInt32).toInt32).toInt8.toInt32) from congrArg Value.int (((own_put_in (by decide) (by decide)).trans (congrArg (own_by i2) (show _ = 0 from by decide))).trans (show own_by i2 0 = (((i2.toUInt32 >>> ((24 : Int32) &&& 31).toUInt32).toInt32).toInt8.toInt32) from rfl)))) (g := (mkF m 408 #[iv i0, iv i1, iv i2, iv i3, iv (0 : Int32), iv (0 : Int32), iv (0 : Int32), rv b8, iv (0 : Int32), iv (0 : Int32), iv (0 : Int32), iv (0 : Int32), iv (1 : Int32), rv r32, iv (4 : Int32), rv r66] [(.int (0 : Int32)), (.ref r66)])) rfl rfl (hb hby at_408) _ ?_
          refine XS.iloadN X76.here hx rfl (hb hby at_409) rfl ?_
          refine XS.bipush X76.here hx rfl (hb hby at_410) ?_
          show own_s p e below T66 m 412 #[iv i0, iv i1, iv i2, iv i3, iv (0 : Int32), iv (0 : Int32), iv (0 : Int32), rv b8, iv (0 : Int32), iv (0 : Int32), iv (0 : Int32), iv (0 : Int32), iv (1 : Int32), rv r32, iv (4 : Int32), rv r66] [(.int (24 : Int32)), (.int i2), (.int (((i2.toUInt32 >>> ((24 : Int32) &&& 31).toUInt32).toInt32).toInt8.toInt32))] _
          refine XS.iushr X76.here hx rfl (hb hby at_412) rfl ?_
          refine XS.i2b X76.here hx rfl (hb hby at_413) rfl ?_
          refine XS.icmpYes X76.here hx rfl (pc0 := 414) (pc' := 419) rfl (hb hby at_414) rfl (teq (rfl : (((i2.toUInt32 >>> ((24 : Int32) &&& 31).toUInt32).toInt32).toInt8.toInt32) = (((i2.toUInt32 >>> ((24 : Int32) &&& 31).toUInt32).toInt32).toInt8.toInt32))).1 (by decide) (by decide) ?_
          show own_s p e below T66 m 419 #[iv i0, iv i1, iv i2, iv i3, iv (0 : Int32), iv (0 : Int32), iv (0 : Int32), rv b8, iv (0 : Int32), iv (0 : Int32), iv (0 : Int32), iv (0 : Int32), iv (1 : Int32), rv r32, iv (4 : Int32), rv r66] [] _
          refine XS.iload X76.here hx rfl (hb hby at_419) rfl ?_
          refine XS.ifYes X76.here hx rfl (pc0 := 421) (pc' := 438) rfl (hb hby at_421) rfl ((if0 _ _).trans (teq (by decide : (0 : Int32) = (0 : Int32))).1) (by decide) (by decide) ?_
          refine XS.iload X76.here hx rfl (hb hby at_438) rfl ?_
          show own_s p e below T66 m 440 #[iv i0, iv i1, iv i2, iv i3, iv (0 : Int32), iv (0 : Int32), iv (0 : Int32), rv b8, iv (0 : Int32), iv (0 : Int32), iv (0 : Int32), iv (0 : Int32), iv (1 : Int32), rv r32, iv (4 : Int32), rv r66] [(.int (0 : Int32))] _
          refine XS.ifYes X76.here hx rfl (pc0 := 440) (pc' := 457) rfl (hb hby at_440) rfl ((if0 _ _).trans (teq (by decide : (0 : Int32) = (0 : Int32))).1) (by decide) (by decide) ?_
          refine XS.iconst X76.here hx rfl (hb hby at_457) ?_
          exact kX
        subst hS0
        obtain ⟨fs, hr, hrun, hended, hW, hsame⟩ := X76.leave (v := (some (.int (1 : Int32)))) (fun h => by rw [Bd.returns] at h; cases h)
        refine ⟨_, _, pre84 _ (retN X76 hx (t := .boolean) Bd.returns (by simp) (hb hby at_458) hr), hrun, hended, _, _, rfl, ?_, ⟨_, rfl⟩, hW, hsame.mono (by decide) (by decide)⟩
        show Q0 Z i0 i1 i2 i3 h0 n0 (some (.int (1 : Int32))) T66.heap _
        exact ⟨rfl, N76⟩
      · skip
        have pre85 : ∀ t, own_s p e below s₁ m 39 #[iv i0, iv i1, iv i2, iv i3, iv (0 : Int32), iv (0 : Int32), iv (1 : Int32), .unset, .unset, .unset, .unset, .unset, .unset, .unset, .unset, .unset] [] t → Steps p.tables e below S0 t := by
          intro tX kX
          refine pre5 _ ?_
          show own_s p e below s₁ m 29 #[iv i0, iv i1, iv i2, iv i3, iv (0 : Int32), iv (0 : Int32), .unset, .unset, .unset, .unset, .unset, .unset, .unset, .unset, .unset, .unset] [(.int (i3 &&& (4 : Int32)))] _
          refine XS.ifNo X0.here hx rfl (hb hby at_29) rfl ((if0 _ _).trans (feq hc6).1) ?_
          refine XS.iconst X0.here hx rfl (hb hby at_32) ?_
          refine XS.goto X0.here hx rfl (pc0 := 33) (pc' := 37) rfl (hb hby at_33) (by decide) (by decide) ?_
          show own_s p e below s₁ m 37 #[iv i0, iv i1, iv i2, iv i3, iv (0 : Int32), iv (0 : Int32), .unset, .unset, .unset, .unset, .unset, .unset, .unset, .unset, .unset, .unset] [(.int (1 : Int32))] _
          refine XS.istore X0.here hx rfl (hb hby at_37) rfl (l' := #[iv i0, iv i1, iv i2, iv i3, iv (0 : Int32), iv (0 : Int32), iv (1 : Int32), .unset, .unset, .unset, .unset, .unset, .unset, .unset, .unset, .unset]) rfl ?_
          exact kX
        obtain ⟨T86, h86, X86, e86, E86, A86, D86, -, st86⟩ := newO X0 hx hZ hown (hw _ (List.mem_of_getElem? (i := 0) rfl)) (hw _ (List.mem_of_getElem? (i := 1) rfl)) (hw _ (List.mem_of_getElem? (i := 2) rfl)) e0 (g := (mkF m 39 #[iv i0, iv i1, iv i2, iv i3, iv (0 : Int32), iv (0 : Int32), iv (1 : Int32), .unset, .unset, .unset, .unset, .unset, .unset, .unset, .unset, .unset] [])) rfl (hb hby at_39) (by decide) (by decide)
        obtain ⟨b86, g86⟩ : ∃ z, z = h0.size := ⟨_, rfl⟩
        rw [← g86] at A86 D86 st86
        have g_b86 : n0 ≤ b86 := Nat.le_trans Z0 (Nat.le_of_eq g86.symm)
        have pre87 : ∀ t, own_s p e below T86 m 42 #[iv i0, iv i1, iv i2, iv i3, iv (0 : Int32), iv (0 : Int32), iv (1 : Int32), .unset, .unset, .unset, .unset, .unset, .unset, .unset, .unset, .unset] [(.ref b86)] t → Steps p.tables e below S0 t := fun tX kX => pre85 _ (st86 _ kX)
        have Z88 : n0 ≤ h86.size := Nat.le_trans Z0 E86.1
        have f89_E : Exa Z h86 b86 "com/example/farcall/farcall/io/XdrEncoder" := A86
        have f90_F : Fld Z h86 b86 "com/example/farcall/farcall/io/XdrEncoder" "buffer" "[B" .null := D86 (Or.inl (hw _ (List.mem_of_getElem? (i := 11) rfl))) (ty := (.array .byte)) (by decide)
        have f91_F : Fld Z h86 b86 "com/example/farcall/farcall/io/XdrEncoder" "end" "I" (.int (0 : Int32)) := D86 (Or.inl (hw _ (List.mem_of_getElem? (i := 22) rfl))) (ty := .int) (by decide)
        have f92_F : Fld Z h86 b86 "com/example/farcall/farcall/io/XdrEncoder" "start" "I" (.int (0 : Int32)) := D86 (Or.inl (hw _ (List.mem_of_getElem? (i := 29) rfl))) (ty := .int) (by decide)
        have pre93 : ∀ t, own_s p e below T86 m 43 #[iv i0, iv i1, iv i2, iv i3, iv (0 : Int32), iv (0 : Int32), iv (1 : Int32), .unset, .unset, .unset, .unset, .unset, .unset, .unset, .unset, .unset] [(.ref b86), (.ref b86)] t → Steps p.tables e below S0 t := by
          intro tX kX
          refine pre87 _ ?_
          show own_s p e below T86 m 42 #[iv i0, iv i1, iv i2, iv i3, iv (0 : Int32), iv (0 : Int32), iv (1 : Int32), .unset, .unset, .unset, .unset, .unset, .unset, .unset, .unset, .unset] [(.ref b86)] _
          refine XS.dup X86.here hx rfl (hb hby at_42) rfl rfl ?_
          exact kX
        obtain ⟨_, _, ⟨T94, L94, k94, n94⟩, -, X94, ⟨Lc94, hQ94, l94, y94, z94⟩, st94⟩ := X86.specialBack hx (y := (⟨"com/example/farcall/farcall/io/XdrEncoder", "<init>", "()V"⟩ : MethodName)) rfl hown (mvT hZ (hw _ (List.mem_of_getElem? (i := 3) rfl))) (mvT hZ (hw _ (List.mem_of_getElem? (i := 4) rfl))) (mvT hZ (hw _ (List.mem_of_getElem? (i := 5) rfl))) (by decide) (backOf (W := 1) (rm12 l Z a0 hw [] b86  h86 n0 Z88 f89_E f90_F f92_F f91_F g_b86) hZ (hw _ (List.mem_of_getElem? (i := 5) rfl)) (hw _ (List.mem_of_getElem? (i := 2) rfl)) (by decide) (by decide)) (g := (mkF m 43 #[iv i0, iv i1, iv i2, iv i3, iv (0 : Int32), iv (0 : Int32), iv (1 : Int32), .unset, .unset, .unset, .unset, .unset, .unset, .unset, .unset, .unset] [(.ref b86), (.ref b86)])) rfl (by rw [hml]; rfl) (Steps.refl _) (a := b86) (argsL := []) (rest := [(.ref b86)]) (lenOf pd0_0 rfl) rfl (by show 2 * 0 + _ ≤ _; exact Nat.le_of_eq rfl) (hb hby at_43) (fun _ _ => ⟨rfl, e86, (by decide : 1 + 1 ≤ _), (by decide : 4 + 64 ≤ _)⟩)
        dsimp only [Pt.U, Pt.locs, Pt.cells, Pt.slots] at X94 l94 y94 z94 st94 hQ94
        subst l94 y94 z94
        obtain ⟨rfl, Nq94, Kq94, bb94, szq94, E_a94, F_buf94, F_sta94, F_end94, A_b94, ne_ab94, fg94, g_a94, g_b94⟩ := hQ94
        have N94 := Fr.app N0 Nq94
        have e94 : T94.heap = T94.heap := rfl
        have Z94 : n0 ≤ T94.heap.size := Nat.le_trans Z88 Kq94.1
        obtain ⟨LL95, X95, N95⟩ : ∃ LL, Stand p l e room_1 s m #[(.int i0), (.int i1), (.int i2), (.int i3)] below meth c T94 LL 2 68 ∧ Fr n0 LL := ⟨_, X94, N94⟩
        have pre96 : ∀ t, own_s p e below T94 m 46 #[iv i0, iv i1, iv i2, iv i3, iv (0 : Int32), iv (0 : Int32), iv (1 : Int32), .unset, .unset, .unset, .unset, .unset, .unset, .unset, .unset, .unset] [(.ref b86)] t → Steps p.tables e below S0 t := fun tX kX => pre93 _ (st94.trans kX)
        have pre97 : ∀ t, own_s p e below T94 m 95 #[iv i0, iv i1, iv i2, iv i3, iv (0 : Int32), iv (0 : Int32), iv (1 : Int32), rv b86, iv (0 : Int32), iv (0 : Int32), .unset, .unset, .unset, .unset, .unset, .unset] [(.int i1), (.ref b86)] t → Steps p.tables e below S0 t := by
          intro tX kX
          refine pre96 _ ?_
          show own_s p e below T94 m 46 #[iv i0, iv i1, iv i2, iv i3, iv (0 : Int32), iv (0 : Int32), iv (1 : Int32), .unset, .unset, .unset, .unset, .unset, .unset, .unset, .unset, .unset] [(.ref b86)] _
          refine XS.astore X95.here hx rfl (hb hby at_46) rfl rfl (l' := #[iv i0, iv i1, iv i2, iv i3, iv (0 : Int32), iv (0 : Int32), iv (1 : Int32), rv b86, .unset, .unset, .unset, .unset, .unset, .unset, .unset, .unset]) rfl ?_
          refine XS.iload X95.here hx rfl (hb hby at_48) rfl ?_
          refine XS.ifYes X95.here hx rfl (pc0 := 50) (pc' := 60) rfl (hb hby at_50) rfl ((if0 _ _).trans (teq (by decide : (0 : Int32) = (0 : Int32))).1) (by decide) (by decide) ?_
          show own_s p e below T94 m 60 #[iv i0, iv i1, iv i2, iv i3, iv (0 : Int32), iv (0 : Int32), iv (1 : Int32), rv b86, .unset, .unset, .unset, .unset, .unset, .unset, .unset, .unset] [] _
          refine XS.iload X95.here hx rfl (hb hby at_60) rfl ?_
          refine XS.ifYes X95.here hx rfl (pc0 := 62) (pc' := 69) rfl (hb hby at_62) rfl ((if0 _ _).trans (teq (by decide : (0 : Int32) = (0 : Int32))).1) (by decide) (by decide) ?_
          refine XS.iconst X95.here hx rfl (hb hby at_69) ?_
          show own_s p e below T94 m 70 #[iv i0, iv i1, iv i2, iv i3, iv (0 : Int32), iv (0 : Int32), iv (1 : Int32), rv b86, .unset, .unset, .unset, .unset, .unset, .unset, .unset, .unset] [(.int (0 : Int32))] _
          refine XS.istore X95.here hx rfl (hb hby at_70) rfl (l' := #[iv i0, iv i1, iv i2, iv i3, iv (0 : Int32), iv (0 : Int32), iv (1 : Int32), rv b86, iv (0 : Int32), .unset, .unset, .unset, .unset, .unset, .unset, .unset]) rfl ?_
          refine XS.iconst X95.here hx rfl (hb hby at_72) ?_
          refine XS.istore X95.here hx rfl (hb hby at_73) rfl (l' := #[iv i0, iv i1, iv i2, iv i3, iv (0 : Int32), iv (0 : Int32), iv (1 : Int32), rv b86, iv (0 : Int32), iv (0 : Int32), .unset, .unset, .unset, .unset, .unset, .unset]) rfl ?_
          show own_s p e below T94 m 75 #[iv i0, iv i1, iv i2, iv i3, iv (0 : Int32), iv (0 : Int32), iv (1 : Int32), rv b86, iv (0 : Int32), iv (0 : Int32), .unset, .unset, .unset, .unset, .unset, .unset] [] _
          refine XS.iload X95.here hx rfl (hb hby at_75) rfl ?_
          refine XS.ifYes X95.here hx rfl (pc0 := 77) (pc' := 87) rfl (hb hby at_77) rfl ((if0 _ _).trans (teq (by decide : (0 : Int32) = (0 : Int32))).1) (by decide) (by decide) ?_
          refine XS.iload X95.here hx rfl (hb hby at_87) rfl ?_
          show own_s p e below T94 m 89 #[iv i0, iv i1, iv i2, iv i3, iv (0 : Int32), iv (0 : Int32), iv (1 : Int32), rv b86, iv (0 : Int32), iv (0 : Int32), .unset, .unset, .unset, .unset, .unset, .unset] [(.int (1 : Int32))] _
          refine XS.ifNo X95.here hx rfl (hb hby at_89) rfl ((if0 _ _).trans (feq (by decide : ¬ ((1 : Int32) = (0 : Int32)))).1) ?_
          refine XS.aload X95.here hx rfl (hb hby at_92) rfl rfl ?_
          refine XS.iloadN X95.here hx rfl (hb hby at_94) rfl ?_
          exact kX
        obtain ⟨cq98, kq98, q98a, q98b, q98c⟩ := isOf hZ e94 E_a94
        obtain ⟨_, _, ⟨T98, L98, k98, n98⟩, -, X98, ⟨Lc98, hQ98, l98, y98, z98⟩, st98⟩ := X95.virtualBack hx (y := (⟨"com/example/farcall/farcall/io/XdrEncoder", "writeInt", "(I)Lcom/example/farcall/farcall/io/XdrEncoder;"⟩ : MethodName)) (z := (⟨"com/example/farcall/farcall/io/XdrEncoder", "writeInt", "(I)Lcom/example/farcall/farcall/io/XdrEncoder;"⟩ : MethodName)) hown (mvT hZ (hw _ (List.mem_of_getElem? (i := 12) rfl))) (mvT hZ (hw _ (List.mem_of_getElem? (i := 13) rfl))) (notFace_of_selects (args := #[]) (mvT hZ (hw _ (List.mem_of_getElem? (i := 15) rfl)))) (mvT hZ (hw _ (List.mem_of_getElem? (i := 15) rfl))) (mvT hZ (hw _ (List.mem_of_getElem? (i := 14) rfl))) (by decide) (backOf (W := 0) (rm9 l Z a0 hw [] b86 i1 bb94 ((fun _ : Nat => (0 : Int32))) 0 0 T94.heap n0 Z94 E_a94 F_buf94 F_sta94 F_end94 A_b94 ne_ab94 fg94 g_a94 g_b94 (by decide) (by decide)) hZ (hw _ (List.mem_of_getElem? (i := 16) rfl)) (hw _ (List.mem_of_getElem? (i := 2) rfl)) (by decide) (by decide)) q98a q98c (g := (mkF m 95 #[iv i0, iv i1, iv i2, iv i3, iv (0 : Int32), iv (0 : Int32), iv (1 : Int32), rv b86, iv (0 : Int32), iv (0 : Int32), .unset, .unset, .unset, .unset, .unset, .unset] [(.int i1), (.ref b86)])) rfl (by rw [hml]; rfl) (Steps.refl _) (argsL := [(.int i1)]) (rest := []) (lenOf pd0_2 rfl) rfl (by show 2 * 0 + _ ≤ _; exact Nat.le_of_eq rfl) (hb hby at_95) (fun _ _ => ⟨rfl, e94, (by decide : 2 + 0 ≤ _), (by decide : 68 + 0 ≤ _)⟩)
        dsimp only [Pt.U, Pt.locs, Pt.cells, Pt.slots] at X98 l98 y98 z98 st98 hQ98
        subst l98 y98 z98
        obtain ⟨rfl, Nq98, Kq98, E_a98, F_buf98, F_sta98, F_end98, A_b98, ne_ab98, fg98, g_a98, g_b98⟩ := hQ98
        have N98 := Fr.app N95 Nq98
        have e98 : T98.heap = T98.heap := rfl
        have Z98 : n0 ≤ T98.heap.size := Nat.le_trans Z94 Kq98.1
        obtain ⟨LL99, X99, N99⟩ : ∃ LL, Stand p l e room_1 s m #[(.int i0), (.int i1), (.int i2), (.int i3)] below meth c T98 LL 2 68 ∧ Fr n0 LL := ⟨_, X98, N98⟩
        have pre100 : ∀ t, own_s p e below T98 m 98 #[iv i0, iv i1, iv i2, iv i3, iv (0 : Int32), iv (0 : Int32), iv (1 : Int32), rv b86, iv (0 : Int32), iv (0 : Int32), .unset, .unset, .unset, .unset, .unset, .unset] [(.ref b86)] t → Steps p.tables e below S0 t := fun tX kX => pre97 _ (st98.trans kX)
        have pre101 : ∀ t, own_s p e below T98 m 113 #[iv i0, iv i1, iv i2, iv i3, iv (0 : Int32), iv (0 : Int32), iv (1 : Int32), rv b86, iv (0 : Int32), iv (0 : Int32), iv (4 : Int32), .unset, .unset, .unset, .unset, .unset] [(.ref b86)] t → Steps p.tables e below S0 t := by
          intro tX kX
          refine pre100 _ ?_
          show own_s p e below T98 m 98 #[iv i0, iv i1, iv i2, iv i3, iv (0 : Int32), iv (0 : Int32), iv (1 : Int32), rv b86, iv (0 : Int32), iv (0 : Int32), .unset, .unset, .unset, .unset, .unset, .unset] [(.ref b86)] _
          refine XS.pop X99.here hx rfl (hb hby at_98) rfl rfl ?_
          refine XS.iload X99.here hx rfl (hb hby at_99) rfl ?_
          refine XS.ifNo X99.here hx rfl (hb hby at_101) rfl ((if0 _ _).trans (feq (by decide : ¬ ((1 : Int32) = (0 : Int32)))).1) ?_
          show own_s p e below T98 m 104 #[iv i0, iv i1, iv i2, iv i3, iv (0 : Int32), iv (0 : Int32), iv (1 : Int32), rv b86, iv (0 : Int32), iv (0 : Int32), .unset, .unset, .unset, .unset, .unset, .unset] [] _
          refine XS.iconst X99.here hx rfl (hb hby at_104) ?_
          refine XS.goto X99.here hx rfl (pc0 := 105) (pc' := 109) rfl (hb hby at_105) (by decide) (by decide) ?_
          refine XS.istore X99.here hx rfl (hb hby at_109) rfl (l' := #[iv i0, iv i1, iv i2, iv i3, iv (0 : Int32), iv (0 : Int32), iv (1 : Int32), rv b86, iv (0 : Int32), iv (0 : Int32), iv (4 : Int32), .unset, .unset, .unset, .unset, .unset]) rfl ?_
          show own_s p e below T98 m 111 #[iv i0, iv i1, iv i2, iv i3, iv (0 : Int32), iv (0 : Int32), iv (1 : Int32), rv b86, iv (0 : Int32), iv (0 : Int32), iv (4 : Int32), .unset, .unset, .unset, .unset, .unset] [] _
          refine XS.aload X99.here hx rfl (hb hby at_111) rfl rfl ?_
          exact kX
        obtain ⟨cq102, kq102, q102a, q102b, q102c⟩ := isOf hZ e98 E_a98
        obtain ⟨_, _, ⟨T102, L102, k102, n102⟩, -, X102, ⟨Lc102, hQ102, l102, y102, z102⟩, st102⟩ := X99.virtualBack hx (y := (⟨"com/example/farcall/farcall/io/XdrEncoder", "beginPart", "()I"⟩ : MethodName)) (z := (⟨"com/example/farcall/farcall/io/XdrEncoder", "beginPart", "()I"⟩ : MethodName)) hown (mvT hZ (hw _ (List.mem_of_getElem? (i := 35) rfl))) (mvT hZ (hw _ (List.mem_of_getElem? (i := 36) rfl))) (notFace_of_selects (args := #[]) (mvT hZ (hw _ (List.mem_of_getElem? (i := 38) rfl)))) (mvT hZ (hw _ (List.mem_of_getElem? (i := 38) rfl))) (mvT hZ (hw _ (List.mem_of_getElem? (i := 37) rfl))) (by decide) (backOf (W := 0) (rm10 l Z a0 hw [] b86 bb94 ((own_put (fun _ : Nat => (0 : Int32)) 0 i1)) 0 4 T98.heap n0 Z98 E_a98 F_buf98 F_sta98 F_end98 A_b98 ne_ab98 fg98 g_a98 g_b98) hZ (hw _ (List.mem_of_getElem? (i := 39) rfl)) (hw _ (List.mem_of_getElem? (i := 2) rfl)) (by decide) (by decide)) q102a q102c (g := (mkF m 113 #[iv i0, iv i1, iv i2, iv i3, iv (0 : Int32), iv (0 : Int32), iv (1 : Int32), rv b86, iv (0 : Int32), iv (0 : Int32), iv (4 : Int32), .unset, .unset, .unset, .unset, .unset] [(.ref b86)])) rfl (by rw [hml]; rfl) (Steps.refl _) (argsL := []) (rest := []) (lenOf pd0_1 rfl) rfl (by show 2 * 0 + _ ≤ _; exact Nat.le_of_eq rfl) (hb hby at_113) (fun _ _ => ⟨rfl, e98, (by decide : 2 + 0 ≤ _), (by decide : 68 + 0 ≤ _)⟩)
        dsimp only [Pt.U, Pt.locs, Pt.cells, Pt.slots] at X102 l102 y102 z102 st102 hQ102
        subst l102 y102 z102
        obtain ⟨rfl, Nq102, Kq102, E_a102, F_buf102, F_sta102, F_end102, A_b102, ne_ab102, fg102, g_a102, g_b102⟩ := hQ102
        have N102 := Fr.app N99 Nq102
        have e102 : T102.heap = T102.heap := rfl
        have Z102 : n0 ≤ T102.heap.size := Nat.le_trans Z98 Kq102.1
        obtain ⟨LL103, X103, N103⟩ : ∃ LL, Stand p l e room_1 s m #[(.int i0), (.int i1), (.int i2), (.int i3)] below meth c T102 LL 2 68 ∧ Fr n0 LL := ⟨_, X102, N102⟩
        have pre104 : ∀ t, own_s p e below T102 m 116 #[iv i0, iv i1, iv i2, iv i3, iv (0 : Int32), iv (0 : Int32), iv (1 : Int32), rv b86, iv (0 : Int32), iv (0 : Int32), iv (4 : Int32), .unset, .unset, .unset, .unset, .unset] [(.int (0 : Int32))] t → Steps p.tables e below S0 t := fun tX kX => pre101 _ (st102.trans kX)
        have pre105 : ∀ t, own_s p e below T102 m 120 #[iv i0, iv i1, iv i2, iv i3, iv (0 : Int32), iv (0 : Int32), iv (1 : Int32), rv b86, iv (0 : Int32), iv (0 : Int32), iv (4 : Int32), iv (0 : Int32), .unset, .unset, .unset, .unset] [(.ref b86)] t → Steps p.tables e below S0 t := by
          intro tX kX
          refine pre104 _ ?_
          show own_s p e below T102 m 116 #[iv i0, iv i1, iv i2, iv i3, iv (0 : Int32), iv (0 : Int32), iv (1 : Int32), rv b86, iv (0 : Int32), iv (0 : Int32), iv (4 : Int32), .unset, .unset, .unset, .unset, .unset] [(.int (0 : Int32))] _
          refine XS.istore X103.here hx rfl (hb hby at_116) rfl (l' := #[iv i0, iv i1, iv i2, iv i3, iv (0 : Int32), iv (0 : Int32), iv (1 : Int32), rv b86, iv (0 : Int32), iv (0 : Int32), iv (4 : Int32), iv (0 : Int32), .unset, .unset, .unset, .unset]) rfl ?_
          refine XS.aload X103.here hx rfl (hb hby at_118) rfl rfl ?_
          exact kX
        obtain ⟨cq106, kq106, q106a, q106b, q106c⟩ := isOf hZ e102 E_a102
        obtain ⟨_, _, ⟨T106, L106, k106, n106⟩, -, X106, ⟨Lc106, hQ106, l106, y106, z106⟩, st106⟩ := X103.virtualBack hx (y := (⟨"com/example/farcall/farcall/io/XdrEncoder", "size", "()I"⟩ : MethodName)) (z := (⟨"com/example/farcall/farcall/io/XdrEncoder", "size", "()I"⟩ : MethodName)) hown (mvT hZ (hw _ (List.mem_of_getElem? (i := 40) rfl))) (mvT hZ (hw _ (List.mem_of_getElem? (i := 24) rfl))) (notFace_of_selects (args := #[]) (mvT hZ (hw _ (List.mem_of_getElem? (i := 26) rfl)))) (mvT hZ (hw _ (List.mem_of_getElem? (i := 26) rfl))) (mvT hZ (hw _ (List.mem_of_getElem? (i := 25) rfl))) (by decide) (backOf (W := 0) (rm6 l Z a0 hw [] b86 bb94 ((own_put (fun _ : Nat => (0 : Int32)) 0 i1)) 4 4 T102.heap n0 Z102 E_a102 F_buf102 F_sta102 F_end102 A_b102 ne_ab102 fg102 g_a102 g_b102 (by decide) (by decide)) hZ (hw _ (List.mem_of_getElem? (i := 27) rfl)) (hw _ (List.mem_of_getElem? (i := 2) rfl)) (by decide) (by decide)) q106a q106c (g := (mkF m 120 #[iv i0, iv i1, iv i2, iv i3, iv (0 : Int32), iv (0 : Int32), iv (1 : Int32), rv b86, iv (0 : Int32), iv (0 : Int32), iv (4 : Int32), iv (0 : Int32), .unset, .unset, .unset, .unset] [(.ref b86)])) rfl (by rw [hml]; rfl) (Steps.refl _) (argsL := []) (rest := []) (lenOf pd0_1 rfl) rfl (by show 2 * 0 + _ ≤ _; exact Nat.le_of_eq rfl) (hb hby at_120) (fun _ _ => ⟨rfl, e102, (by decide : 2 + 0 ≤ _), (by decide : 68 + 0 ≤ _)⟩)
        dsimp only [Pt.U, Pt.locs, Pt.cells, Pt.slots] at X106 l106 y106 z106 st106 hQ106
        subst l106 y106 z106
        obtain ⟨rfl, Nq106, e106⟩ := hQ106
        have N106 := Fr.app N103 Nq106
        obtain ⟨LL107, X107, N107⟩ : ∃ LL, Stand p l e room_1 s m #[(.int i0), (.int i1), (.int i2), (.int i3)] below meth c T106 LL 2 68 ∧ Fr n0 LL := ⟨_, X106, N106⟩
        have pre108 : ∀ t, own_s p e below T106 m 123 #[iv i0, iv i1, iv i2, iv i3, iv (0 : Int32), iv (0 : Int32), iv (1 : Int32), rv b86, iv (0 : Int32), iv (0 : Int32), iv (4 : Int32), iv (0 : Int32), .unset, .unset, .unset, .unset] [(.int (0 : Int32))] t → Steps p.tables e below S0 t := fun tX kX => pre105 _ (st106.trans kX)
        have pre109 : ∀ t, own_s p e below T106 m 136 #[iv i0, iv i1, iv i2, iv i3, iv (0 : Int32), iv (0 : Int32), iv (1 : Int32), rv b86, iv (0 : Int32), iv (0 : Int32), iv (4 : Int32), iv (0 : Int32), iv (1 : Int32), .unset, .unset, .unset] [(.int i2), (.ref b86)] t → Steps p.tables e below S0 t := by
          intro tX kX
          refine pre108 _ ?_
          show own_s p e below T106 m 123 #[iv i0, iv i1, iv i2, iv i3, iv (0 : Int32), iv (0 : Int32), iv (1 : Int32), rv b86, iv (0 : Int32), iv (0 : Int32), iv (4 : Int32), iv (0 : Int32), .unset, .unset, .unset, .unset] [(.int (0 : Int32))] _
          refine XS.ifNo X107.here hx rfl (hb hby at_123) rfl ((if0 _ _).trans (teq (by decide : (0 : Int32) = (0 : Int32))).2) ?_
          refine XS.iconst X107.here hx rfl (hb hby at_126) ?_
          refine XS.goto X107.here hx rfl (pc0 := 127) (pc' := 131) rfl (hb hby at_127) (by decide) (by decide) ?_
          show own_s p e below T106 m 131 #[iv i0, iv i1, iv i2, iv i3, iv (0 : Int32), iv (0 : Int32), iv (1 : Int32), rv b86, iv (0 : Int32), iv (0 : Int32), iv (4 : Int32), iv (0 : Int32), .unset, .unset, .unset, .unset] [(.int (1 : Int32))] _
          refine XS.istore X107.here hx rfl (hb hby at_131) rfl (l' := #[iv i0, iv i1, iv i2, iv i3, iv (0 : Int32), iv (0 : Int32), iv (1 : Int32), rv b86, iv (0 : Int32), iv (0 : Int32), iv (4 : Int32), iv (0 : Int32), iv (1 : Int32), .unset, .unset, .unset]) rfl ?_
          refine XS.aload X107.here hx rfl (hb hby at_133) rfl rfl ?_
          refine XS.iloadN X107.here hx rfl (hb hby at_135) rfl ?_
          exact kX
        obtain ⟨cq110, kq110, q110a, q110b, q110c⟩ := isOf hZ e106 E_a102
        obtain ⟨_, _, ⟨T110, L110, k110, n110⟩, -, X110, ⟨Lc110, hQ110, l110, y110, z110⟩, st110⟩ := X107.virtualBack hx (y := (⟨"com/example/farcall/farcall/io/XdrEncoder", "writeInt", "(I)Lcom/example/farcall/farcall/io/XdrEncoder;"⟩ : MethodName)) (z := (⟨"com/example/farcall/farcall/io/XdrEncoder", "writeInt", "(I)Lcom/example/farcall/farcall/io/XdrEncoder;"⟩ : MethodName)) hown (mvT hZ (hw _ (List.mem_of_getElem? (i := 12) rfl))) (mvT hZ (hw _ (List.mem_of_getElem? (i := 13) rfl))) (notFace_of_selects (args := #[]) (mvT hZ (hw _ (List.mem_of_getElem? (i := 15) rfl)))) (mvT hZ (hw _ (List.mem_of_getElem? (i := 15) rfl))) (mvT hZ (hw _ (List.mem_of_getElem? (i := 14) rfl))) (by decide) (backOf (W := 0) (rm9 l Z a0 hw [] b86 i2 bb94 ((own_put (fun _ : Nat => (0 : Int32)) 0 i1)) 4 4 T102.heap n0 Z102 E_a102 F_buf102 F_sta102 F_end102 A_b102 ne_ab102 fg102 g_a102 g_b102 (by decide) (by decide)) hZ (hw _ (List.mem_of_getElem? (i := 16) rfl)) (hw _ (List.mem_of_getElem? (i := 2) rfl)) (by decide) (by decide)) q110a q110c (g := (mkF m 136 #[iv i0, iv i1, iv i2, iv i3, iv (0 : Int32), iv (0 : Int32), iv (1 : Int32), rv b86, iv (0 : Int32), iv (0 : Int32), iv (4 : Int32), iv (0 : Int32), iv (1 : Int32), .unset, .unset, .unset] [(.int i2), (.ref b86)])) rfl (by rw [hml]; rfl) (Steps.refl _) (argsL := [(.int i2)]) (rest := []) (lenOf pd0_2 rfl) rfl (by show 2 * 0 + _ ≤ _; exact Nat.le_of_eq rfl) (hb hby at_136) (fun _ _ => ⟨rfl, e106, (by decide : 2 + 0 ≤ _), (by decide : 68 + 0 ≤ _)⟩)
        dsimp only [Pt.U, Pt.locs, Pt.cells, Pt.slots] at X110 l110 y110 z110 st110 hQ110
        subst l110 y110 z110
        obtain ⟨rfl, Nq110, Kq110, E_a110, F_buf110, F_sta110, F_end110, A_b110, ne_ab110, fg110, g_a110, g_b110⟩ := hQ110
        have N110 := Fr.app N107 Nq110
        have e110 : T110.heap = T110.heap := rfl
        have Z110 : n0 ≤ T110.heap.size := Nat.le_trans Z102 Kq110.1
        obtain ⟨LL111, X111, N111⟩ : ∃ LL, Stand p l e room_1 s m #[(.int i0), (.int i1), (.int i2), (.int i3)] below meth c T110 LL 2 68 ∧ Fr n0 LL := ⟨_, X110, N110⟩
        have pre112 : ∀ t, own_s p e below T110 m 139 #[iv i0, iv i1, iv i2, iv i3, iv (0 : Int32), iv (0 : Int32), iv (1 : Int32), rv b86, iv (0 : Int32), iv (0 : Int32), iv (4 : Int32), iv (0 : Int32), iv (1 : Int32), .unset, .unset, .unset] [(.ref b86)] t → Steps p.tables e below S0 t := fun tX kX => pre109 _ (st110.trans kX)
        have pre113 : ∀ t, own_s p e below T110 m 142 #[iv i0, iv i1, iv i2, iv i3, iv (0 : Int32), iv (0 : Int32), iv (1 : Int32), rv b86, iv (0 : Int32), iv (0 : Int32), iv (4 : Int32), iv (0 : Int32), iv (1 : Int32), .unset, .unset, .unset] [(.ref b86)] t → Steps p.tables e below S0 t := by
          intro tX kX
          refine pre112 _ ?_
          show own_s p e below T110 m 139 #[iv i0, iv i1, iv i2, iv i3, iv (0 : Int32), iv (0 : Int32), iv (1 : Int32), rv b86, iv (0 : Int32), iv (0 : Int32), iv (4 : Int32), iv (0 : Int32), iv (1 : Int32), .unset, .unset, .unset] [(.ref b86)] _
          refine XS.pop X111.here hx rfl (hb hby at_139) rfl rfl ?_
          refine XS.aload X111.here hx rfl (hb hby at_140) rfl rfl ?_
          exact kX
        obtain ⟨cq114, kq114, q114a, q114b, q114c⟩ := isOf hZ e110 E_a110
        obtain ⟨_, _, ⟨T114, L114, k114, n114⟩, -, X114, ⟨Lc114, hQ114, l114, y114, z114⟩, st114⟩ := X111.virtualBack hx (y := (⟨"com/example/farcall/farcall/io/XdrEncoder", "toByteArray", "()[B"⟩ : MethodName)) (z := (⟨"com/example/farcall/farcall/io/XdrEncoder", "toByteArray", "()[B"⟩ : MethodName)) hown (mvT hZ (hw _ (List.mem_of_getElem? (i := 41) rfl))) (mvT hZ (hw _ (List.mem_of_getElem? (i := 42) rfl))) (notFace_of_selects (args := #[]) (mvT hZ (hw _ (List.mem_of_getElem? (i := 44) rfl)))) (mvT hZ (hw _ (List.mem_of_getElem? (i := 44) rfl))) (mvT hZ (hw _ (List.mem_of_getElem? (i := 43) rfl))) (by decide) (backOf (W := 0) (rm5 l Z a0 hw [] b86 bb94 ((own_put (own_put (fun _ : Nat => (0 : Int32)) 0 i1) 4 i2)) 4 8 T110.heap n0 Z110 E_a110 F_buf110 F_sta110 F_end110 A_b110 ne_ab110 fg110 g_a110 g_b110 (by decide) (by decide) (by decide)) hZ (hw _ (List.mem_of_getElem? (i := 45) rfl)) (hw _ (List.mem_of_getElem? (i := 2) rfl)) (by decide) (by decide)) q114a q114c (g := (mkF m 142 #[iv i0, iv i1, iv i2, iv i3, iv (0 : Int32), iv (0 : Int32), iv (1 : Int32), rv b86, iv (0 : Int32), iv (0 : Int32), iv (4 : Int32), iv (0 : Int32), iv (1 : Int32), .unset, .unset, .unset] [(.ref b86)])) rfl (by rw [hml]; rfl) (Steps.refl _) (argsL := []) (rest := []) (lenOf pd0_3 rfl) rfl (by show 2 * 0 + _ ≤ _; exact Nat.le_of_eq rfl) (hb hby at_142) (fun _ _ => ⟨rfl, e110, (by decide : 2 + 1 ≤ _), (by decide : 68 + 64 ≤ _)⟩)
        dsimp only [Pt.U, Pt.locs, Pt.cells, Pt.slots] at X114 l114 y114 z114 st114 hQ114
        subst l114 y114 z114
        obtain ⟨r114, rfl, Nq114, Kq114, sz_r114, g_r114, fA114⟩ := hQ114
        have N114 := Fr.app N111 Nq114
        have e114 : T114.heap = T114.heap := rfl
        have Z114 : n0 ≤ T114.heap.size := Nat.le_trans Z110 Kq114.1
        have ne115 : b86 ≠ r114 := Nat.ne_of_lt (Nat.lt_of_lt_of_le E_a110.lt sz_r114)
        have ne116 : bb94 ≠ r114 := Nat.ne_of_lt (Nat.lt_of_lt_of_le A_b110.lt sz_r114)
        have f117_E : Exa Z T114.heap b86 "com/example/farcall/farcall/io/XdrEncoder" := E_a110.keep Kq114
        have f118_F : Fld Z T114.heap b86 "com/example/farcall/farcall/io/XdrEncoder" "buffer" "[B" (.ref bb94) := F_buf110.keep Kq114 nin0
        have f119_F : Fld Z T114.heap b86 "com/example/farcall/farcall/io/XdrEncoder" "start" "I" (.int (Int32.ofNat 4)) := F_sta110.keep Kq114 nin0
        have f120_F : Fld Z T114.heap b86 "com/example/farcall/farcall/io/XdrEncoder" "end" "I" (.int (Int32.ofNat 8)) := F_end110.keep Kq114 nin0
        have f121_A : own_Af Z T114.heap bb94 .byte 64 (fun j => .int ((own_put (own_put (fun _ : Nat => (0 : Int32)) 0 i1) 4 i2) j)) := A_b110.keep Kq114 nin0
        obtain ⟨LL122, X122, N122⟩ : ∃ LL, Stand p l e room_1 s m #[(.int i0), (.int i1), (.int i2), (.int i3)] below meth c T114 LL 3 132 ∧ Fr n0 LL := ⟨_, X114, N114⟩
        have pre123 : ∀ t, own_s p e below T114 m 145 #[iv i0, iv i1, iv i2, iv i3, iv (0 : Int32), iv (0 : Int32), iv (1 : Int32), rv b86, iv (0 : Int32), iv (0 : Int32), iv (4 : Int32), iv (0 : Int32), iv (1 : Int32), .unset, .unset, .unset] [(.ref r114)] t → Steps p.tables e below S0 t := fun tX kX => pre113 _ (st114.trans kX)
        have pre124 : ∀ t, own_s p e below T114 m 154 #[iv i0, iv i1, iv i2, iv i3, iv (0 : Int32), iv (0 : Int32), iv (1 : Int32), rv b86, iv (0 : Int32), iv (0 : Int32), iv (4 : Int32), iv (0 : Int32), iv (1 : Int32), rv r114, .unset, .unset] [(.ref b86)] t → Steps p.tables e below S0 t := by
          intro tX kX
          refine pre123 _ ?_
          show own_s p e below T114 m 145 #[iv i0, iv i1, iv i2, iv i3, iv (0 : Int32), iv (0 : Int32), iv (1 : Int32), rv b86, iv (0 : Int32), iv (0 : Int32), iv (4 : Int32), iv (0 : Int32), iv (1 : Int32), .unset, .unset, .unset] [(.ref r114)] _
          refine XS.astore X122.here hx rfl (hb hby at_145) rfl rfl (l' := #[iv i0, iv i1, iv i2, iv i3, iv (0 : Int32), iv (0 : Int32), iv (1 : Int32), rv b86, iv (0 : Int32), iv (0 : Int32), iv (4 : Int32), iv (0 : Int32), iv (1 : Int32), rv r114, .unset, .unset]) rfl ?_
          refine XS.iload X122.here hx rfl (hb hby at_147) rfl ?_
          refine XS.ifNo X122.here hx rfl (hb hby at_149) rfl ((if0 _ _).trans (feq (by decide : ¬ ((1 : Int32) = (0 : Int32)))).1) ?_
          show own_s p e below T114 m 152 #[iv i0, iv i1, iv i2, iv i3, iv (0 : Int32), iv (0 : Int32), iv (1 : Int32), rv b86, iv (0 : Int32), iv (0 : Int32), iv (4 : Int32), iv (0 : Int32), iv (1 : Int32), rv r114, .unset, .unset] [] _
          refine XS.aload X122.here hx rfl (hb hby at_152) rfl rfl ?_
          exact kX
        obtain ⟨cq125, kq125, q125a, q125b, q125c⟩ := isOf hZ e114 f117_E
        obtain ⟨_, _, ⟨T125, L125, k125, n125⟩, -, X125, ⟨Lc125, hQ125, l125, y125, z125⟩, st125⟩ := X122.virtualBack hx (y := (⟨"com/example/farcall/farcall/io/XdrEncoder", "size", "()I"⟩ : MethodName)) (z := (⟨"com/example/farcall/farcall/io/XdrEncoder", "size", "()I"⟩ : MethodName)) hown (mvT hZ (hw _ (List.mem_of_getElem? (i := 40) rfl))) (mvT hZ (hw _ (List.mem_of_getElem? (i := 24) rfl))) (notFace_of_selects (args := #[]) (mvT hZ (hw _ (List.mem_of_getElem? (i := 26) rfl)))) (mvT hZ (hw _ (List.mem_of_getElem? (i := 26) rfl))) (mvT hZ (hw _ (List.mem_of_getElem? (i := 25) rfl))) (by decide) (backOf (W := 0) (rm6 l Z a0 hw [] b86 bb94 ((own_put (own_put (fun _ : Nat => (0 : Int32)) 0 i1) 4 i2)) 4 8 T114.heap n0 Z114 f117_E f118_F f119_F f120_F f121_A ne_ab110 fg110 g_a110 g_b110 (by decide) (by decide)) hZ (hw _ (List.mem_of_getElem? (i := 27) rfl)) (hw _ (List.mem_of_getElem? (i := 2) rfl)) (by decide) (by decide)) q125a q125c (g := (mkF m 154 #[iv i0, iv i1, iv i2, iv i3, iv (0 : Int32), iv (0 : Int32), iv (1 : Int32), rv b86, iv (0 : Int32), iv (0 : Int32), iv (4 : Int32), iv (0 : Int32), iv (1 : Int32), rv r114, .unset, .unset] [(.ref b86)])) rfl (by rw [hml]; rfl) (Steps.refl _) (argsL := []) (rest := []) (lenOf pd0_1 rfl) rfl (by show 2 * 0 + _ ≤ _; exact Nat.le_of_eq rfl) (hb hby at_154) (fun _ _ => ⟨rfl, e114, (by decide : 3 + 0 ≤ _), (by decide : 132 + 0 ≤ _)⟩)
        dsimp only [Pt.U, Pt.locs, Pt.cells, Pt.slots] at X125 l125 y125 z125 st125 hQ125
        subst l125 y125 z125
        obtain ⟨rfl, Nq125, e125⟩ := hQ125
        have N125 := Fr.app N122 Nq125
        obtain ⟨LL126, X126, N126⟩ : ∃ LL, Stand p l e room_1 s m #[(.int i0), (.int i1), (.int i2), (.int i3)] below meth c T125 LL 3 132 ∧ Fr n0 LL := ⟨_, X125, N125⟩
        have pre127 : ∀ t, own_s p e below T125 m 157 #[iv i0, iv i1, iv i2, iv i3, iv (0 : Int32), iv (0 : Int32), iv (1 : Int32), rv b86, iv (0 : Int32), iv (0 : Int32), iv (4 : Int32), iv (0 : Int32), iv (1 : Int32), rv r114, .unset, .unset] [(.int (4 : Int32))] t → Steps p.tables e below S0 t := fun tX kX => pre124 _ (st125.trans kX)
        have pre129 : ∀ t, own_s p e below T125 m 163 #[iv i0, iv i1, iv i2, iv i3, iv (0 : Int32), iv (0 : Int32), iv (1 : Int32), rv b86, iv (0 : Int32), iv (0 : Int32), iv (4 : Int32), iv (0 : Int32), iv (1 : Int32), rv r114, .unset, .unset] [(.ref r114)] t → Steps p.tables e below S0 t := by
          intro tX kX
          refine pre127 _ ?_
          show own_s p e below T125 m 157 #[iv i0, iv i1, iv i2, iv i3, iv (0 : Int32), iv (0 : Int32), iv (1 : Int32), rv b86, iv (0 : Int32), iv (0 : Int32), iv (4 : Int32), iv (0 : Int32), iv (1 : Int32), rv r114, .unset, .unset] [(.int (4 : Int32))] _
          refine XS.iconst X126.here hx rfl (hb hby at_157) ?_
          refine XS.icmpNo X126.here hx rfl (hb hby at_158) rfl (teq (by decide : (4 : Int32) = (4 : Int32))).2 ?_
          refine XS.aload X126.here hx rfl (hb hby at_161) rfl rfl ?_
          exact kX
        obtain ⟨cl128, Ar128, S128, M128, H128⟩ := id fA114
        have pre131 : ∀ t, own_s p e below T125 m 171 #[iv i0, iv i1, iv i2, iv i3, iv (0 : Int32), iv (0 : Int32), iv (1 : Int32), rv b86, iv (0 : Int32), iv (0 : Int32), iv (4 : Int32), iv (0 : Int32), iv (1 : Int32), rv r114, .unset, .unset] [(.int (0 : Int32)), (.ref r114)] t → Steps p.tables e below S0 t := by
          intro tX kX
          refine pre129 _ ?_
          show own_s p e below T125 m 163 #[iv i0, iv i1, iv i2, iv i3, iv (0 : Int32), iv (0 : Int32), iv (1 : Int32), rv b86, iv (0 : Int32), iv (0 : Int32), iv (4 : Int32), iv (0 : Int32), iv (1 : Int32), rv r114, .unset, .unset] [(.ref r114)] _
          refine X126.arraylength hx (by rw [e125]; exact Ar128.1) (State.isArrayOf_alike hZ.alike Ar128.2.1) (g := (mkF m 163 #[iv i0, iv i1, iv i2, iv i3, iv (0 : Int32), iv (0 : Int32), iv (1 : Int32), rv b86, iv (0 : Int32), iv (0 : Int32), iv (4 : Int32), iv (0 : Int32), iv (1 : Int32), rv r114, .unset, .unset] [(.ref r114)])) rfl rfl (hb hby at_163) _ ?_
          rw [show cl128.slots.size.toInt32 = (4 : Int32) from by rw [S128]; exact rfl]
          refine XS.iconst X126.here hx rfl (hb hby at_164) ?_
          refine XS.icmpNo X126.here hx rfl (hb hby at_165) rfl (teq (by decide : (4 : Int32) = (4 : Int32))).2 ?_
          show own_s p e below T125 m 168 #[iv i0, iv i1, iv i2, iv i3, iv (0 : Int32), iv (0 : Int32), iv (1 : Int32), rv b86, iv (0 : Int32), iv (0 : Int32), iv (4 : Int32), iv (0 : Int32), iv (1 : Int32), rv r114, .unset, .unset] [] _
          refine XS.aload X126.here hx rfl (hb hby at_168) rfl rfl ?_
          refine XS.iconst X126.here hx rfl (hb hby at_170) ?_
          exact kX
        obtain ⟨cl130, Ar130, S130, M130, H130⟩ := id fA114
        have pre133 : ∀ t, own_s p e below T125 m 183 #[iv i0, iv i1, iv i2, iv i3, iv (0 : Int32), iv (0 : Int32), iv (1 : Int32), rv b86, iv (0 : Int32), iv (0 : Int32), iv (4 : Int32), iv (0 : Int32), iv (1 : Int32), rv r114, .unset, .unset] [(.int (1 : Int32)), (.ref r114)] t → Steps p.tables e below S0 t := by
          intro tX kX
          refine pre131 _ ?_
          show own_s p e below T125 m 171 #[iv i0, iv i1, iv i2, iv i3, iv (0 : Int32), iv (0 : Int32), iv (1 : Int32), rv b86, iv (0 : Int32), iv (0 : Int32), iv (4 : Int32), iv (0 : Int32), iv (1 : Int32), rv r114, .unset, .unset] [(.int (0 : Int32)), (.ref r114)] _
          refine X126.baloadBytes hx (j := (0 : Int32)) (v := (.int (((i2.toUInt32 >>> ((24 : Int32) &&& 31).toUInt32).toInt32).toInt8.toInt32))) (by rw [e125]; exact Ar130.1) (State.isArrayOf_alike hZ.alike Ar130.2.1) Ar130.2.2 (own_inb S130 M130 (by decide)) (own_get H130 S130 (by decide) (show Value.int ((own_put (own_put (fun _ : Nat => (0 : Int32)) 0 i1) 4 i2) (4 + 0)) = Value.int (((i2.toUInt32 >>> ((24 : Int32) &&& 31).toUInt32).toInt32).toInt8.toInt32) from congrArg Value.int (((own_put_in (by decide) (by decide)).trans (congrArg (own_by i2) (show _ = 0 from by decide))).trans (show own_by i2 0 = (((i2.toUInt32 >>> ((24 : Int32) &&& 31).toUInt32).toInt32).toInt8.toInt32) from rfl)))) (g := (mkF m 171 #[iv i0, iv i1, iv i2, iv i3, iv (0 : Int32), iv (0 : Int32), iv (1 : Int32), rv b86, iv (0 : Int32), iv (0 : Int32), iv (4 : Int32), iv (0 : Int32), iv (1 : Int32), rv r114, .unset, .unset] [(.int (0 : Int32)), (.ref r114)])) rfl rfl (hb hby at_171) _ ?_
          refine XS.iloadN X126.here hx rfl (hb hby at_172) rfl ?_
          refine XS.bipush X126.here hx rfl (hb hby at_173) ?_
          show own_s p e below T125 m 175 #[iv i0, iv i1, iv i2, iv i3, iv (0 : Int32), iv (0 : Int32), iv (1 : Int32), rv b86, iv (0 : Int32), iv (0 : Int32), iv (4 : Int32), iv (0 : Int32), iv (1 : Int32), rv r114, .unset, .unset] [(.int (24 : Int32)), (.int i2), (.int (((i2.toUInt32 >>> ((24 : Int32) &&& 31).toUInt32).toInt32).toInt8.toInt32))] _
          refine XS.iushr X126.here hx rfl (hb hby at_175) rfl ?_
          refine XS.i2b X126.here hx rfl (hb hby at_176) rfl ?_
          refine XS.icmpNo X126.here hx rfl (hb hby at_177) rfl (teq (rfl : (((i2.toUInt32 >>> ((24 : Int32) &&& 31).toUInt32).toInt32).toInt8.toInt32) = (((i2.toUInt32 >>> ((24 : Int32) &&& 31).toUInt32).toInt32).toInt8.toInt32))).2 ?_
          show own_s p e below T125 m 180 #[iv i0, iv i1, iv i2, iv i3, iv (0 : Int32), iv (0 : Int32), iv (1 : Int32), rv b86, iv (0 : Int32), iv (0 : Int32), iv (4 : Int32), iv (0 : Int32), iv (1 : Int32), rv r114, .unset, .unset] [] _
          refine XS.aload X126.here hx rfl (hb hby at_180) rfl rfl ?_
          refine XS.iconst X126.here hx rfl (hb hby at_182) ?_
          exact kX
        obtain ⟨cl132, Ar132, S132, M132, H132⟩ := id fA114
        have pre135 : ∀ t, own_s p e below T125 m 195 #[iv i0, iv i1, iv i2, iv i3, iv (0 : Int32), iv (0 : Int32), iv (1 : Int32), rv b86, iv (0 : Int32), iv (0 : Int32), iv (4 : Int32), iv (0 : Int32), iv (1 : Int32), rv r114, .unset, .unset] [(.int (2 : Int32)), (.ref r114)] t → Steps p.tables e below S0 t := by
          intro tX kX
          refine pre133 _ ?_
          show own_s p e below T125 m 183 #[iv i0, iv i1, iv i2, iv i3, iv (0 : Int32), iv (0 : Int32), iv (1 : Int32), rv b86, iv (0 : Int32), iv (0 : Int32), iv (4 : Int32), iv (0 : Int32), iv (1 : Int32), rv r114, .unset, .unset] [(.int (1 : Int32)), (.ref r114)] _
          refine X126.baloadBytes hx (j := (1 : Int32)) (v := (.int (((i2.toUInt32 >>> ((16 : Int32) &&& 31).toUInt32).toInt32).toInt8.toInt32))) (by rw [e125]; exact Ar132.1) (State.isArrayOf_alike hZ.alike Ar132.2.1) Ar132.2.2 (own_inb S132 M132 (by decide)) (own_get H132 S132 (by decide) (show Value.int ((own_put (own_put (fun _ : Nat => (0 : Int32)) 0 i1) 4 i2) (4 + 1)) = Value.int (((i2.toUInt32 >>> ((16 : Int32) &&& 31).toUInt32).toInt32).toInt8.toInt32) from congrArg Value.int (((own_put_in (by decide) (by decide)).trans (congrArg (own_by i2) (show _ = 1 from by decide))).trans (show own_by i2 1 = (((i2.toUInt32 >>> ((16 : Int32) &&& 31).toUInt32).toInt32).toInt8.toInt32) from rfl)))) (g := (mkF m 183 #[iv i0, iv i1, iv i2, iv i3, iv (0 : Int32), iv (0 : Int32), iv (1 : Int32), rv b86, iv (0 : Int32), iv (0 : Int32), iv (4 : Int32), iv (0 : Int32), iv (1 : Int32), rv r114, .unset, .unset] [(.int (1 : Int32)), (.ref r114)])) rfl rfl (hb hby at_183) _ ?_
          refine XS.iloadN X126.here hx rfl (hb hby at_184) rfl ?_
          refine XS.bipush X126.here hx rfl (hb hby at_185) ?_
          show own_s p e below T125 m 187 #[iv i0, iv i1, iv i2, iv i3, iv (0 : Int32), iv (0 : Int32), iv (1 : Int32), rv b86, iv (0 : Int32), iv (0 : Int32), iv (4 : Int32), iv (0 : Int32), iv (1 : Int32), rv r114, .unset, .unset] [(.int (16 : Int32)), (.int i2), (.int (((i2.toUInt32 >>> ((16 : Int32) &&& 31).toUInt32).toInt32).toInt8.toInt32))] _
          refine XS.iushr X126.here hx rfl (hb hby at_187) rfl ?_
          refine XS.i2b X126.here hx rfl (hb hby at_188) rfl ?_
          refine XS.icmpNo X126.here hx rfl (hb hby at_189) rfl (teq (rfl : (((i2.toUInt32 >>> ((16 : Int32) &&& 31).toUInt32).toInt32).toInt8.toInt32) = (((i2.toUInt32 >>> ((16 : Int32) &&& 31).toUInt32).toInt32).toInt8.toInt32))).2 ?_
          show own_s p e below T125 m 192 #[iv i0, iv i1, iv i2, iv i3, iv (0 : Int32), iv (0 : Int32), iv (1 : Int32), rv b86, iv (0 : Int32), iv (0 : Int32), iv (4 : Int32), iv (0 : Int32), iv (1 : Int32), rv r114, .unset, .unset] [] _
          refine XS.aload X126.here hx rfl (hb hby at_192) rfl rfl ?_
          refine XS.iconst X126.here hx rfl (hb hby at_194) ?_
          exact kX
        obtain ⟨cl134, Ar134, S134, M134, H134⟩ := id fA114
        have pre137 : ∀ t, own_s p e below T125 m 207 #[iv i0, iv i1, iv i2, iv i3, iv (0 : Int32), iv (0 : Int32), iv (1 : Int32), rv b86, iv (0 : Int32), iv (0 : Int32), iv (4 : Int32), iv (0 : Int32), iv (1 : Int32), rv r114, .unset, .unset] [(.int (3 : Int32)), (.ref r114)] t → Steps p.tables e below S0 t := by
          intro tX kX
          refine pre135 _ ?_
          show own_s p e below T125 m 195 #[iv i0, iv i1, iv i2, iv i3, iv (0 : Int32), iv (0 : Int32), iv (1 : Int32), rv b86, iv (0 : Int32), iv (0 : Int32), iv (4 : Int32), iv (0 : Int32), iv (1 : Int32), rv r114, .unset, .unset] [(.int (2 : Int32)), (.ref r114)] _
          refine X126.baloadBytes hx (j := (2 : Int32)) (v := (.int (((i2.toUInt32 >>> ((8 : Int32) &&& 31).toUInt32).toInt32).toInt8.toInt32))) (by rw [e125]; exact Ar134.1) (State.isArrayOf_alike hZ.alike Ar134.2.1) Ar134.2.2 (own_inb S134 M134 (by decide)) (own_get H134 S134 (by decide) (show Value.int ((own_put (own_put (fun _ : Nat => (0 : Int32)) 0 i1) 4 i2) (4 + 2)) = Value.int (((i2.toUInt32 >>> ((8 : Int32) &&& 31).toUInt32).toInt32).toInt8.toInt32) from congrArg Value.int (((own_put_in (by decide) (by decide)).trans (congrArg (own_by i2) (show _ = 2 from by decide))).trans (show own_by i2 2 = (((i2.toUInt32 >>> ((8 : Int32) &&& 31).toUInt32).toInt32).toInt8.toInt32) from rfl)))) (g := (mkF m 195 #[iv i0, iv i1, iv i2, iv i3, iv (0 : Int32), iv (0 : Int32), iv (1 : Int32), rv b86, iv (0 : Int32), iv (0 : Int32), iv (4 : Int32), iv (0 : Int32), iv (1 : Int32), rv r114, .unset, .unset] [(.int (2 : Int32)), (.ref r114)])) rfl rfl (hb hby at_195) _ ?_
          refine XS.iloadN X126.here hx rfl (hb hby at_196) rfl ?_
          refine XS.bipush X126.here hx rfl (hb hby at_197) ?_
          show own_s p e below T125 m 199 #[iv i0, iv i1, iv i2, iv i3, iv (0 : Int32), iv (0 : Int32), iv (1 : Int32), rv b86, iv (0 : Int32), iv (0 : Int32), iv (4 : Int32), iv (0 : Int32), iv (1 : Int32), rv r114, .unset, .unset] [(.int (8 : Int32)), (.int i2), (.int (((i2.toUInt32 >>> ((8 : Int32) &&& 31).toUInt32).toInt32).toInt8.toInt32))] _
          refine XS.iushr X126.here hx rfl (hb hby at_199) rfl ?_
          refine XS.i2b X126.here hx rfl (hb hby at_200) rfl ?_
          refine XS.icmpNo X126.here hx rfl (hb hby at_201) rfl (teq (rfl : (((i2.toUInt32 >>> ((8 : Int32) &&& 31).toUInt32).toInt32).toInt8.toInt32) = (((i2.toUInt32 >>> ((8 : Int32) &&& 31).toUInt32).toInt32).toInt8.toInt32))).2 ?_
          show own_s p e below T125 m 204 #[iv i0, iv i1, iv i2, iv i3, iv (0 : Int32), iv (0 : Int32), iv (1 : Int32), rv b86, iv (0 : Int32), iv (0 : Int32), iv (4 : Int32), iv (0 : Int32), iv (1 : Int32), rv r114, .unset, .unset] [] _
          refine XS.aload X126.here hx rfl (hb hby at_204) rfl rfl ?_
          refine XS.iconst X126.here hx rfl (hb hby at_206) ?_
          exact kX
        obtain ⟨cl136, Ar136, S136, M136, H136⟩ := id fA114
        have pre138 : ∀ t, own_s p e below T125 m 231 #[iv i0, iv i1, iv i2, iv i3, iv (0 : Int32), iv (0 : Int32), iv (1 : Int32), rv b86, iv (0 : Int32), iv (0 : Int32), iv (4 : Int32), iv (0 : Int32), iv (1 : Int32), rv r114, .unset, .unset] [(.int (0 : Int32)), (.ref b86)] t → Steps p.tables e below S0 t := by
          intro tX kX
          refine pre137 _ ?_
          show own_s p e below T125 m 207 #[iv i0, iv i1, iv i2, iv i3, iv (0 : Int32), iv (0 : Int32), iv (1 : Int32), rv b86, iv (0 : Int32), iv (0 : Int32), iv (4 : Int32), iv (0 : Int32), iv (1 : Int32), rv r114, .unset, .unset] [(.int (3 : Int32)), (.ref r114)] _
          refine X126.baloadBytes hx (j := (3 : Int32)) (v := (.int (i2.toInt8.toInt32))) (by rw [e125]; exact Ar136.1) (State.isArrayOf_alike hZ.alike Ar136.2.1) Ar136.2.2 (own_inb S136 M136 (by decide)) (own_get H136 S136 (by decide) (show Value.int ((own_put (own_put (fun _ : Nat => (0 : Int32)) 0 i1) 4 i2) (4 + 3)) = Value.int (i2.toInt8.toInt32) from congrArg Value.int (((own_put_in (by decide) (by decide)).trans (congrArg (own_by i2) (show _ = 3 from by decide))).trans (show own_by i2 3 = (i2.toInt8.toInt32) from rfl)))) (g := (mkF m 207 #[iv i0, iv i1, iv i2, iv i3, iv (0 : Int32), iv (0 : Int32), iv (1 : Int32), rv b86, iv (0 : Int32), iv (0 : Int32), iv (4 : Int32), iv (0 : Int32), iv (1 : Int32), rv r114, .unset, .unset] [(.int (3 : Int32)), (.ref r114)])) rfl rfl (hb hby at_207) _ ?_
          refine XS.iloadN X126.here hx rfl (hb hby at_208) rfl ?_
          refine XS.i2b X126.here hx rfl (hb hby at_209) rfl ?_
          show own_s p e below T125 m 210 #[iv i0, iv i1, iv i2, iv i3, iv (0 : Int32), iv (0 : Int32), iv (1 : Int32), rv b86, iv (0 : Int32), iv (0 : Int32), iv (4 : Int32), iv (0 : Int32), iv (1 : Int32), rv r114, .unset, .unset] [(.int (i2.toInt8.toInt32)), (.int (i2.toInt8.toInt32))] _
          refine XS.icmpNo X126.here hx rfl (hb hby at_210) rfl (teq (rfl : (i2.toInt8.toInt32) = (i2.toInt8.toInt32))).2 ?_
          refine XS.iconst X126.here hx rfl (hb hby at_213) ?_
          refine XS.goto X126.here hx rfl (pc0 := 214) (pc' := 218) rfl (hb hby at_214) (by decide) (by decide) ?_
          show own_s p e below T125 m 218 #[iv i0, iv i1, iv i2, iv i3, iv (0 : Int32), iv (0 : Int32), iv (1 : Int32), rv b86, iv (0 : Int32), iv (0 : Int32), iv (4 : Int32), iv (0 : Int32), iv (1 : Int32), rv r114, .unset, .unset] [(.int (1 : Int32))] _
          refine XS.istore X126.here hx rfl (hb hby at_218) rfl (l' := #[iv i0, iv i1, iv i2, iv i3, iv (0 : Int32), iv (0 : Int32), iv (1 : Int32), rv b86, iv (0 : Int32), iv (0 : Int32), iv (4 : Int32), iv (0 : Int32), iv (1 : Int32), rv r114, .unset, .unset]) rfl ?_
          refine XS.iload X126.here hx rfl (hb hby at_220) rfl ?_
          refine XS.ifYes X126.here hx rfl (pc0 := 222) (pc' := 227) rfl (hb hby at_222) rfl ((if0 _ _).trans (feq (by decide : ¬ ((1 : Int32) = (0 : Int32)))).2) (by decide) (by decide) ?_
          show own_s p e below T125 m 227 #[iv i0, iv i1, iv i2, iv i3, iv (0 : Int32), iv (0 : Int32), iv (1 : Int32), rv b86, iv (0 : Int32), iv (0 : Int32), iv (4 : Int32), iv (0 : Int32), iv (1 : Int32), rv r114, .unset, .unset] [] _
          refine XS.aload X126.here hx rfl (hb hby at_227) rfl rfl ?_
          refine XS.iload X126.here hx rfl (hb hby at_229) rfl ?_
          exact kX
        obtain ⟨cq139, kq139, q139a, q139b, q139c⟩ := isOf hZ e125 f117_E
        obtain ⟨_, _, ⟨T139, L139, k139, n139⟩, -, X139, ⟨Lc139, hQ139, l139, y139, z139⟩, st139⟩ := X126.virtualBack hx (y := (⟨"com/example/farcall/farcall/io/XdrEncoder", "endPart", "(I)V"⟩ : MethodName)) (z := (⟨"com/example/farcall/farcall/io/XdrEncoder", "endPart", "(I)V"⟩ : MethodName)) hown (mvT hZ (hw _ (List.mem_of_getElem? (i := 64) rfl))) (mvT hZ (hw _ (List.mem_of_getElem? (i := 65) rfl))) (notFace_of_selects (args := #[]) (mvT hZ (hw _ (List.mem_of_getElem? (i := 67) rfl)))) (mvT hZ (hw _ (List.mem_of_getElem? (i := 67) rfl))) (mvT hZ (hw _ (List.mem_of_getElem? (i := 66) rfl))) (by decide) (backOf (W := 0) (rm11 l Z a0 hw [] b86 (0 : Int32) bb94 ((own_put (own_put (fun _ : Nat => (0 : Int32)) 0 i1) 4 i2)) 4 8 0 T114.heap n0 Z114 f117_E f118_F f119_F f120_F f121_A ne_ab110 fg110 g_a110 g_b110 rfl (by decide) (by decide)) hZ (hw _ (List.mem_of_getElem? (i := 68) rfl)) (hw _ (List.mem_of_getElem? (i := 2) rfl)) (by decide) (by decide)) q139a q139c (g := (mkF m 231 #[iv i0, iv i1, iv i2, iv i3, iv (0 : Int32), iv (0 : Int32), iv (1 : Int32), rv b86, iv (0 : Int32), iv (0 : Int32), iv (4 : Int32), iv (0 : Int32), iv (1 : Int32), rv r114, .unset, .unset] [(.int (0 : Int32)), (.ref b86)])) rfl (by rw [hml]; rfl) (Steps.refl _) (argsL := [(.int (0 : Int32))]) (rest := []) (lenOf pd0_4 rfl) rfl (by show 2 * 0 + _ ≤ _; exact Nat.le_of_eq rfl) (hb hby at_231) (fun _ _ => ⟨rfl, e125, (by decide : 3 + 0 ≤ _), (by decide : 132 + 0 ≤ _)⟩)
        dsimp only [Pt.U, Pt.locs, Pt.cells, Pt.slots] at X139 l139 y139 z139 st139 hQ139
        subst l139 y139 z139
        obtain ⟨rfl, Nq139, Kq139, E_a139, F_buf139, F_sta139, F_end139, A_b139, ne_ab139, fg139, g_a139, g_b139⟩ := hQ139
        have N139 := Fr.app N126 Nq139
        have e139 : T139.heap = T139.heap := rfl
        have Z139 : n0 ≤ T139.heap.size := Nat.le_trans Z114 Kq139.1
        have f140_A : own_Af Z T139.heap r114 .byte 4 (fun j => .int ((own_put (own_put (fun _ : Nat => (0 : Int32)) 0 i1) 4 i2) (4 + j))) := fA114.keep Kq139 (ninS (Ne.symm ne115) (nin0))
        obtain ⟨LL141, X141, N141⟩ : ∃ LL, Stand p l e room_1 s m #[(.int i0), (.int i1), (.int i2), (.int i3)] below meth c T139 LL 3 132 ∧ Fr n0 LL := ⟨_, X139, N139⟩
        have pre142 : ∀ t, own_s p e below T139 m 234 #[iv i0, iv i1, iv i2, iv i3, iv (0 : Int32), iv (0 : Int32), iv (1 : Int32), rv b86, iv (0 : Int32), iv (0 : Int32), iv (4 : Int32), iv (0 : Int32), iv (1 : Int32), rv r114, .unset, .unset] [] t → Steps p.tables e below S0 t := fun tX kX => pre138 _ (st139.trans kX)
        have pre143 : ∀ t, own_s p e below T139 m 257 #[iv i0, iv i1, iv i2, iv i3, iv (0 : Int32), iv (0 : Int32), iv (1 : Int32), rv b86, iv (0 : Int32), iv (0 : Int32), iv (4 : Int32), iv (0 : Int32), iv (1 : Int32), rv r114, iv (8 : Int32), .unset] [(.ref b86)] t → Steps p.tables e below S0 t := by
          intro tX kX
          refine pre142 _ ?_
          show own_s p e below T139 m 234 #[iv i0, iv i1, iv i2, iv i3, iv (0 : Int32), iv (0 : Int32), iv (1 : Int32), rv b86, iv (0 : Int32), iv (0 : Int32), iv (4 : Int32), iv (0 : Int32), iv (1 : Int32), rv r114, .unset, .unset] [] _
          refine XS.iload X141.here hx rfl (hb hby at_234) rfl ?_
          refine XS.ifYes X141.here hx rfl (pc0 := 236) (pc' := 246) rfl (hb hby at_236) rfl ((if0 _ _).trans (teq (by decide : (0 : Int32) = (0 : Int32))).1) (by decide) (by decide) ?_
          refine XS.iload X141.here hx rfl (hb hby at_246) rfl ?_
          show own_s p e below T139 m 248 #[iv i0, iv i1, iv i2, iv i3, iv (0 : Int32), iv (0 : Int32), iv (1 : Int32), rv b86, iv (0 : Int32), iv (0 : Int32), iv (4 : Int32), iv (0 : Int32), iv (1 : Int32), rv r114, .unset, .unset] [(.int (0 : Int32))] _
          refine XS.iload X141.here hx rfl (hb hby at_248) rfl ?_
          refine XS.iadd X141.here hx rfl (hb hby at_250) rfl ?_
          refine XS.iconst X141.here hx rfl (hb hby at_251) ?_
          show own_s p e below T139 m 252 #[iv i0, iv i1, iv i2, iv i3, iv (0 : Int32), iv (0 : Int32), iv (1 : Int32), rv b86, iv (0 : Int32), iv (0 : Int32), iv (4 : Int32), iv (0 : Int32), iv (1 : Int32), rv r114, .unset, .unset] [(.int (4 : Int32)), (.int (4 : Int32))] _
          refine XS.iadd X141.here hx rfl (hb hby at_252) rfl ?_
          refine XS.istore X141.here hx rfl (hb hby at_253) rfl (l' := #[iv i0, iv i1, iv i2, iv i3, iv (0 : Int32), iv (0 : Int32), iv (1 : Int32), rv b86, iv (0 : Int32), iv (0 : Int32), iv (4 : Int32), iv (0 : Int32), iv (1 : Int32), rv r114, iv (8 : Int32), .unset]) rfl ?_
          refine XS.aload X141.here hx rfl (hb hby at_255) rfl rfl ?_
          exact kX
        obtain ⟨cq144, kq144, q144a, q144b, q144c⟩ := isOf hZ e139 E_a139
        obtain ⟨_, _, ⟨T144, L144, k144, n144⟩, -, X144, ⟨Lc144, hQ144, l144, y144, z144⟩, st144⟩ := X141.virtualBack hx (y := (⟨"com/example/farcall/farcall/io/XdrEncoder", "size", "()I"⟩ : MethodName)) (z := (⟨"com/example/farcall/farcall/io/XdrEncoder", "size", "()I"⟩ : MethodName)) hown (mvT hZ (hw _ (List.mem_of_getElem? (i := 40) rfl))) (mvT hZ (hw _ (List.mem_of_getElem? (i := 24) rfl))) (notFace_of_selects (args := #[]) (mvT hZ (hw _ (List.mem_of_getElem? (i := 26) rfl)))) (mvT hZ (hw _ (List.mem_of_getElem? (i := 26) rfl))) (mvT hZ (hw _ (List.mem_of_getElem? (i := 25) rfl))) (by decide) (backOf (W := 0) (rm6 l Z a0 hw [] b86 bb94 ((own_put (own_put (fun _ : Nat => (0 : Int32)) 0 i1) 4 i2)) 0 8 T139.heap n0 Z139 E_a139 F_buf139 F_sta139 F_end139 A_b139 ne_ab139 fg139 g_a139 g_b139 (by decide) (by decide)) hZ (hw _ (List.mem_of_getElem? (i := 27) rfl)) (hw _ (List.mem_of_getElem? (i := 2) rfl)) (by decide) (by decide)) q144a q144c (g := (mkF m 257 #[iv i0, iv i1, iv i2, iv i3, iv (0 : Int32), iv (0 : Int32), iv (1 : Int32), rv b86, iv (0 : Int32), iv (0 : Int32), iv (4 : Int32), iv (0 : Int32), iv (1 : Int32), rv r114, iv (8 : Int32), .unset] [(.ref b86)])) rfl (by rw [hml]; rfl) (Steps.refl _) (argsL := []) (rest := []) (lenOf pd0_1 rfl) rfl (by show 2 * 0 + _ ≤ _; exact Nat.le_of_eq rfl) (hb hby at_257) (fun _ _ => ⟨rfl, e139, (by decide : 3 + 0 ≤ _), (by decide : 132 + 0 ≤ _)⟩)
        dsimp only [Pt.U, Pt.locs, Pt.cells, Pt.slots] at X144 l144 y144 z144 st144 hQ144
        subst l144 y144 z144
        obtain ⟨rfl, Nq144, e144⟩ := hQ144
        have N144 := Fr.app N141 Nq144
        obtain ⟨LL145, X145, N145⟩ : ∃ LL, Stand p l e room_1 s m #[(.int i0), (.int i1), (.int i2), (.int i3)] below meth c T144 LL 3 132 ∧ Fr n0 LL := ⟨_, X144, N144⟩
        have pre146 : ∀ t, own_s p e below T144 m 260 #[iv i0, iv i1, iv i2, iv i3, iv (0 : Int32), iv (0 : Int32), iv (1 : Int32), rv b86, iv (0 : Int32), iv (0 : Int32), iv (4 : Int32), iv (0 : Int32), iv (1 : Int32), rv r114, iv (8 : Int32), .unset] [(.int (8 : Int32))] t → Steps p.tables e below S0 t := fun tX kX => pre143 _ (st144.trans kX)
        have pre147 : ∀ t, own_s p e below T144 m 366 #[iv i0, iv i1, iv i2, iv i3, iv (0 : Int32), iv (0 : Int32), iv (1 : Int32), rv b86, iv (0 : Int32), iv (0 : Int32), iv (4 : Int32), iv (0 : Int32), iv (1 : Int32), rv r114, iv (8 : Int32), .unset] [(.ref b86)] t → Steps p.tables e below S0 t := by
          intro tX kX
          refine pre146 _ ?_
          show own_s p e below T144 m 260 #[iv i0, iv i1, iv i2, iv i3, iv (0 : Int32), iv (0 : Int32), iv (1 : Int32), rv b86, iv (0 : Int32), iv (0 : Int32), iv (4 : Int32), iv (0 : Int32), iv (1 : Int32), rv r114, iv (8 : Int32), .unset] [(.int (8 : Int32))] _
          refine XS.iload X145.here hx rfl (hb hby at_260) rfl ?_
          refine XS.icmpNo X145.here hx rfl (hb hby at_262) rfl (teq (by decide : (8 : Int32) = (8 : Int32))).2 ?_
          refine XS.iconst X145.here hx rfl (hb hby at_265) ?_
          show own_s p e below T144 m 266 #[iv i0, iv i1, iv i2, iv i3, iv (0 : Int32), iv (0 : Int32), iv (1 : Int32), rv b86, iv (0 : Int32), iv (0 : Int32), iv (4 : Int32), iv (0 : Int32), iv (1 : Int32), rv r114, iv (8 : Int32), .unset] [(.int (1 : Int32))] _
          refine XS.goto X145.here hx rfl (pc0 := 266) (pc' := 270) rfl (hb hby at_266) (by decide) (by decide) ?_
          refine XS.istore X145.here hx rfl (hb hby at_270) rfl (l' := #[iv i0, iv i1, iv i2, iv i3, iv (0 : Int32), iv (0 : Int32), iv (1 : Int32), rv b86, iv (0 : Int32), iv (0 : Int32), iv (4 : Int32), iv (0 : Int32), iv (1 : Int32), rv r114, iv (8 : Int32), .unset]) rfl ?_
          refine XS.iload X145.here hx rfl (hb hby at_272) rfl ?_
          show own_s p e below T144 m 274 #[iv i0, iv i1, iv i2, iv i3, iv (0 : Int32), iv (0 : Int32), iv (1 : Int32), rv b86, iv (0 : Int32), iv (0 : Int32), iv (4 : Int32), iv (0 : Int32), iv (1 : Int32), rv r114, iv (8 : Int32), .unset] [(.int (0 : Int32))] _
          refine XS.ifYes X145.here hx rfl (pc0 := 274) (pc' := 340) rfl (hb hby at_274) rfl ((if0 _ _).trans (teq (by decide : (0 : Int32) = (0 : Int32))).1) (by decide) (by decide) ?_
          refine XS.iload X145.here hx rfl (hb hby at_340) rfl ?_
          refine XS.ifNo X145.here hx rfl (hb hby at_342) rfl ((if0 _ _).trans (feq (by decide : ¬ ((1 : Int32) = (0 : Int32)))).1) ?_
          show own_s p e below T144 m 345 #[iv i0, iv i1, iv i2, iv i3, iv (0 : Int32), iv (0 : Int32), iv (1 : Int32), rv b86, iv (0 : Int32), iv (0 : Int32), iv (4 : Int32), iv (0 : Int32), iv (1 : Int32), rv r114, iv (8 : Int32), .unset] [] _
          refine XS.iload X145.here hx rfl (hb hby at_345) rfl ?_
          refine XS.ifNo X145.here hx rfl (hb hby at_347) rfl ((if0 _ _).trans (teq (by decide : (0 : Int32) = (0 : Int32))).2) ?_
          refine XS.iconst X145.here hx rfl (hb hby at_350) ?_
          show own_s p e below T144 m 351 #[iv i0, iv i1, iv i2, iv i3, iv (0 : Int32), iv (0 : Int32), iv (1 : Int32), rv b86, iv (0 : Int32), iv (0 : Int32), iv (4 : Int32), iv (0 : Int32), iv (1 : Int32), rv r114, iv (8 : Int32), .unset] [(.int (1 : Int32))] _
          refine XS.goto X145.here hx rfl (pc0 := 351) (pc' := 355) rfl (hb hby at_351) (by decide) (by decide) ?_
          refine XS.istore X145.here hx rfl (hb hby at_355) rfl (l' := #[iv i0, iv i1, iv i2, iv i3, iv (0 : Int32), iv (0 : Int32), iv (1 : Int32), rv b86, iv (0 : Int32), iv (0 : Int32), iv (4 : Int32), iv (0 : Int32), iv (1 : Int32), rv r114, iv (8 : Int32), .unset]) rfl ?_
          refine XS.iload X145.here hx rfl (hb hby at_357) rfl ?_
          show own_s p e below T144 m 359 #[iv i0, iv i1, iv i2, iv i3, iv (0 : Int32), iv (0 : Int32), iv (1 : Int32), rv b86, iv (0 : Int32), iv (0 : Int32), iv (4 : Int32), iv (0 : Int32), iv (1 : Int32), rv r114, iv (8 : Int32), .unset] [(.int (1 : Int32))] _
          refine XS.ifYes X145.here hx rfl (pc0 := 359) (pc' := 364) rfl (hb hby at_359) rfl ((if0 _ _).trans (feq (by decide : ¬ ((1 : Int32) = (0 : Int32)))).2) (by decide) (by decide) ?_
          refine XS.aload X145.here hx rfl (hb hby at_364) rfl rfl ?_
          exact kX
        obtain ⟨cq148, kq148, q148a, q148b, q148c⟩ := isOf hZ e144 E_a139
        obtain ⟨_, _, ⟨T148, L148, k148, n148⟩, -, X148, ⟨Lc148, hQ148, l148, y148, z148⟩, st148⟩ := X145.virtualBack hx (y := (⟨"com/example/farcall/farcall/io/XdrEncoder", "toByteArray", "()[B"⟩ : MethodName)) (z := (⟨"com/example/farcall/farcall/io/XdrEncoder", "toByteArray", "()[B"⟩ : MethodName)) hown (mvT hZ (hw _ (List.mem_of_getElem? (i := 41) rfl))) (mvT hZ (hw _ (List.mem_of_getElem? (i := 42) rfl))) (notFace_of_selects (args := #[]) (mvT hZ (hw _ (List.mem_of_getElem? (i := 44) rfl)))) (mvT hZ (hw _ (List.mem_of_getElem? (i := 44) rfl))) (mvT hZ (hw _ (List.mem_of_getElem? (i := 43) rfl))) (by decide) (backOf (W := 0) (rm5 l Z a0 hw [] b86 bb94 ((own_put (own_put (fun _ : Nat => (0 : Int32)) 0 i1) 4 i2)) 0 8 T139.heap n0 Z139 E_a139 F_buf139 F_sta139 F_end139 A_b139 ne_ab139 fg139 g_a139 g_b139 (by decide) (by decide) (by decide)) hZ (hw _ (List.mem_of_getElem? (i := 45) rfl)) (hw _ (List.mem_of_getElem? (i := 2) rfl)) (by decide) (by decide)) q148a q148c (g := (mkF m 366 #[iv i0, iv i1, iv i2, iv i3, iv (0 : Int32), iv (0 : Int32), iv (1 : Int32), rv b86, iv (0 : Int32), iv (0 : Int32), iv (4 : Int32), iv (0 : Int32), iv (1 : Int32), rv r114, iv (8 : Int32), .unset] [(.ref b86)])) rfl (by rw [hml]; rfl) (Steps.refl _) (argsL := []) (rest := []) (lenOf pd0_3 rfl) rfl (by show 2 * 0 + _ ≤ _; exact Nat.le_of_eq rfl) (hb hby at_366) (fun _ _ => ⟨rfl, e144, (by decide : 3 + 1 ≤ _), (by decide : 132 + 64 ≤ _)⟩)
        dsimp only [Pt.U, Pt.locs, Pt.cells, Pt.slots] at X148 l148 y148 z148 st148 hQ148
        subst l148 y148 z148
        obtain ⟨r148, rfl, Nq148, Kq148, sz_r148, g_r148, fA148⟩ := hQ148
        have N148 := Fr.app N145 Nq148
        have e148 : T148.heap = T148.heap := rfl
        have Z148 : n0 ≤ T148.heap.size := Nat.le_trans Z139 Kq148.1
        have ne149 : b86 ≠ r148 := Nat.ne_of_lt (Nat.lt_of_lt_of_le E_a139.lt sz_r148)
        have ne150 : bb94 ≠ r148 := Nat.ne_of_lt (Nat.lt_of_lt_of_le A_b139.lt sz_r148)
        have ne151 : r114 ≠ r148 := Nat.ne_of_lt (Nat.lt_of_lt_of_le f140_A.lt sz_r148)
        have f152_E : Exa Z T148.heap b86 "com/example/farcall/farcall/io/XdrEncoder" := E_a139.keep Kq148
        have f153_F : Fld Z T148.heap b86 "com/example/farcall/farcall/io/XdrEncoder" "buffer" "[B" (.ref bb94) := F_buf139.keep Kq148 nin0
        have f154_F : Fld Z T148.heap b86 "com/example/farcall/farcall/io/XdrEncoder" "start" "I" (.int (Int32.ofNat 0)) := F_sta139.keep Kq148 nin0
        have f155_F : Fld Z T148.heap b86 "com/example/farcall/farcall/io/XdrEncoder" "end" "I" (.int (Int32.ofNat 8)) := F_end139.keep Kq148 nin0
        have f156_A : own_Af Z T148.heap bb94 .byte 64 (fun j => .int ((own_put (own_put (fun _ : Nat => (0 : Int32)) 0 i1) 4 i2) j)) := A_b139.keep Kq148 nin0
        have f157_A : own_Af Z T148.heap r114 .byte 4 (fun j => .int ((own_put (own_put (fun _ : Nat => (0 : Int32)) 0 i1) 4 i2) (4 + j))) := f140_A.keep Kq148 nin0
        obtain ⟨LL158, X158, N158⟩ : ∃ LL, Stand p l e room_1 s m #[(.int i0), (.int i1), (.int i2), (.int i3)] below meth c T148 LL 4 196 ∧ Fr n0 LL := ⟨_, X148, N148⟩
        have pre159 : ∀ t, own_s p e below T148 m 369 #[iv i0, iv i1, iv i2, iv i3, iv (0 : Int32), iv (0 : Int32), iv (1 : Int32), rv b86, iv (0 : Int32), iv (0 : Int32), iv (4 : Int32), iv (0 : Int32), iv (1 : Int32), rv r114, iv (8 : Int32), .unset] [(.ref r148)] t → Steps p.tables e below S0 t := fun tX kX => pre147 _ (st148.trans kX)
        have pre161 : ∀ t, own_s p e below T148 m 373 #[iv i0, iv i1, iv i2, iv i3, iv (0 : Int32), iv (0 : Int32), iv (1 : Int32), rv b86, iv (0 : Int32), iv (0 : Int32), iv (4 : Int32), iv (0 : Int32), iv (1 : Int32), rv r114, iv (8 : Int32), rv r148] [(.ref r148)] t → Steps p.tables e below S0 t := by
          intro tX kX
          refine pre159 _ ?_
          show own_s p e below T148 m 369 #[iv i0, iv i1, iv i2, iv i3, iv (0 : Int32), iv (0 : Int32), iv (1 : Int32), rv b86, iv (0 : Int32), iv (0 : Int32), iv (4 : Int32), iv (0 : Int32), iv (1 : Int32), rv r114, iv (8 : Int32), .unset] [(.ref r148)] _
          refine XS.astore X158.here hx rfl (hb hby at_369) rfl rfl (l' := #[iv i0, iv i1, iv i2, iv i3, iv (0 : Int32), iv (0 : Int32), iv (1 : Int32), rv b86, iv (0 : Int32), iv (0 : Int32), iv (4 : Int32), iv (0 : Int32), iv (1 : Int32), rv r114, iv (8 : Int32), rv r148]) rfl ?_
          refine XS.aload X158.here hx rfl (hb hby at_371) rfl rfl ?_
          exact kX
        obtain ⟨cl160, Ar160, S160, M160, H160⟩ := id fA148
        have pre163 : ∀ t, own_s p e below T148 m 395 #[iv i0, iv i1, iv i2, iv i3, iv (0 : Int32), iv (0 : Int32), iv (1 : Int32), rv b86, iv (0 : Int32), iv (0 : Int32), iv (4 : Int32), iv (0 : Int32), iv (1 : Int32), rv r114, iv (8 : Int32), rv r148] [(.int (7 : Int32)), (.ref r148)] t → Steps p.tables e below S0 t := by
          intro tX kX
          refine pre161 _ ?_
          show own_s p e below T148 m 373 #[iv i0, iv i1, iv i2, iv i3, iv (0 : Int32), iv (0 : Int32), iv (1 : Int32), rv b86, iv (0 : Int32), iv (0 : Int32), iv (4 : Int32), iv (0 : Int32), iv (1 : Int32), rv r114, iv (8 : Int32), rv r148] [(.ref r148)] _
          refine X158.arraylength hx (by rw [e148]; exact Ar160.1) (State.isArrayOf_alike hZ.alike Ar160.2.1) (g := (mkF m 373 #[iv i0, iv i1, iv i2, iv i3, iv (0 : Int32), iv (0 : Int32), iv (1 : Int32), rv b86, iv (0 : Int32), iv (0 : Int32), iv (4 : Int32), iv (0 : Int32), iv (1 : Int32), rv r114, iv (8 : Int32), rv r148] [(.ref r148)])) rfl rfl (hb hby at_373) _ ?_
          rw [show cl160.slots.size.toInt32 = (8 : Int32) from by rw [S160]; exact rfl]
          refine XS.iload X158.here hx rfl (hb hby at_374) rfl ?_
          refine XS.iload X158.here hx rfl (hb hby at_376) rfl ?_
          show own_s p e below T148 m 378 #[iv i0, iv i1, iv i2, iv i3, iv (0 : Int32), iv (0 : Int32), iv (1 : Int32), rv b86, iv (0 : Int32), iv (0 : Int32), iv (4 : Int32), iv (0 : Int32), iv (1 : Int32), rv r114, iv (8 : Int32), rv r148] [(.int (4 : Int32)), (.int (0 : Int32)), (.int (8 : Int32))] _
          refine XS.iadd X158.here hx rfl (hb hby at_378) rfl ?_
          refine XS.iconst X158.here hx rfl (hb hby at_379) ?_
          refine XS.iadd X158.here hx rfl (hb hby at_380) rfl ?_
          show own_s p e below T148 m 381 #[iv i0, iv i1, iv i2, iv i3, iv (0 : Int32), iv (0 : Int32), iv (1 : Int32), rv b86, iv (0 : Int32), iv (0 : Int32), iv (4 : Int32), iv (0 : Int32), iv (1 : Int32), rv r114, iv (8 : Int32), rv r148] [(.int (8 : Int32)), (.int (8 : Int32))] _
          refine XS.icmpYes X158.here hx rfl (pc0 := 381) (pc' := 386) rfl (hb hby at_381) rfl (teq (by decide : (8 : Int32) = (8 : Int32))).1 (by decide) (by decide) ?_
          refine XS.aload X158.here hx rfl (hb hby at_386) rfl rfl ?_
          refine XS.iload X158.here hx rfl (hb hby at_388) rfl ?_
          show own_s p e below T148 m 390 #[iv i0, iv i1, iv i2, iv i3, iv (0 : Int32), iv (0 : Int32), iv (1 : Int32), rv b86, iv (0 : Int32), iv (0 : Int32), iv (4 : Int32), iv (0 : Int32), iv (1 : Int32), rv r114, iv (8 : Int32), rv r148] [(.int (0 : Int32)), (.ref r148)] _
          refine XS.iload X158.here hx rfl (hb hby at_390) rfl ?_
          refine XS.iadd X158.here hx rfl (hb hby at_392) rfl ?_
          refine XS.iconst X158.here hx rfl (hb hby at_393) ?_
          show own_s p e below T148 m 394 #[iv i0, iv i1, iv i2, iv i3, iv (0 : Int32), iv (0 : Int32), iv (1 : Int32), rv b86, iv (0 : Int32), iv (0 : Int32), iv (4 : Int32), iv (0 : Int32), iv (1 : Int32), rv r114, iv (8 : Int32), rv r148] [(.int (3 : Int32)), (.int (4 : Int32)), (.ref r148)] _
          refine XS.iadd X158.here hx rfl (hb hby at_394) rfl ?_
          exact kX
        obtain ⟨cl162, Ar162, S162, M162, H162⟩ := id fA148
        have pre165 : ∀ t, own_s p e below T148 m 408 #[iv i0, iv i1, iv i2, iv i3, iv (0 : Int32), iv (0 : Int32), iv (1 : Int32), rv b86, iv (0 : Int32), iv (0 : Int32), iv (4 : Int32), iv (0 : Int32), iv (1 : Int32), rv r114, iv (8 : Int32), rv r148] [(.int (4 : Int32)), (.ref r148)] t → Steps p.tables e below S0 t := by
          intro tX kX
          refine pre163 _ ?_
          show own_s p e below T148 m 395 #[iv i0, iv i1, iv i2, iv i3, iv (0 : Int32), iv (0 : Int32), iv (1 : Int32), rv b86, iv (0 : Int32), iv (0 : Int32), iv (4 : Int32), iv (0 : Int32), iv (1 : Int32), rv r114, iv (8 : Int32), rv r148] [(.int (7 : Int32)), (.ref r148)] _
          refine X158.baloadBytes hx (j := (7 : Int32)) (v := (.int (i2.toInt8.toInt32))) (by rw [e148]; exact Ar162.1) (State.isArrayOf_alike hZ.alike Ar162.2.1) Ar162.2.2 (own_inb S162 M162 (by decide)) (own_get H162 S162 (by decide) (show Value.int ((own_put (own_put (fun _ : Nat => (0 : Int32)) 0 i1) 4 i2) (0 + 7)) = Value.int (i2.toInt8.toInt32) from congrArg Value.int (((own_put_in (by decide) (by decide)).trans (congrArg (own_by i2) (show _ = 3 from by decide))).trans (show own_by i2 3 = (i2.toInt8.toInt32) from rfl)))) (g := (mkF m 395 #[iv i0, iv i1, iv i2, iv i3, iv (0 : Int32), iv (0 : Int32), iv (1 : Int32), rv b86, iv (0 : Int32), iv (0 : Int32), iv (4 : Int32), iv (0 : Int32), iv (1 : Int32), rv r114, iv (8 : Int32), rv r148] [(.int (7 : Int32)), (.ref r148)])) rfl rfl (hb hby at_395) _ ?_
          refine XS.iloadN X158.here hx rfl (hb hby at_396) rfl ?_
          refine XS.i2b X158.here hx rfl (hb hby at_397) rfl ?_
          show own_s p e below T148 m 398 #[iv i0, iv i1, iv i2, iv i3, iv (0 : Int32), iv (0 : Int32), iv (1 : Int32), rv b86, iv (0 : Int32), iv (0 : Int32), iv (4 : Int32), iv (0 : Int32), iv (1 : Int32), rv r114, iv (8 : Int32), rv r148] [(.int (i2.toInt8.toInt32)), (.int (i2.toInt8.toInt32))] _
          refine XS.icmpNo X158.here hx rfl (hb hby at_398) rfl (teq (rfl : (i2.toInt8.toInt32) = (i2.toInt8.toInt32))).2 ?_
          refine XS.aload X158.here hx rfl (hb hby at_401) rfl rfl ?_
          refine XS.iload X158.here hx rfl (hb hby at_403) rfl ?_
          show own_s p e below T148 m 405 #[iv i0, iv i1, iv i2, iv i3, iv (0 : Int32), iv (0 : Int32), iv (1 : Int32), rv b86, iv (0 : Int32), iv (0 : Int32), iv (4 : Int32), iv (0 : Int32), iv (1 : Int32), rv r114, iv (8 : Int32), rv r148] [(.int (0 : Int32)), (.ref r148)] _
          refine XS.iload X158.here hx rfl (hb hby at_405) rfl ?_
          refine XS.iadd X158.here hx rfl (hb hby at_407) rfl ?_
          exact kX
        obtain ⟨cl164, Ar164, S164, M164, H164⟩ := id fA148
        have pre167 : ∀ t, own_s p e below T148 m 449 #[iv i0, iv i1, iv i2, iv i3, iv (0 : Int32), iv (0 : Int32), iv (1 : Int32), rv b86, iv (0 : Int32), iv (0 : Int32), iv (4 : Int32), iv (0 : Int32), iv (1 : Int32), rv r114, iv (8 : Int32), rv r148] [(.int (3 : Int32)), (.ref r148)] t → Steps p.tables e below S0 t := by
          intro tX kX
          refine pre165 _ ?_
          show own_s p e below T148 m 408 #[iv i0, iv i1, iv i2, iv i3, iv (0 : Int32), iv (0 : Int32), iv (1 : Int32), rv b86, iv (0 : Int32), iv (0 : Int32), iv (4 : Int32), iv (0 : Int32), iv (1 : Int32), rv r114, iv (8 : Int32), rv r148] [(.int (4 : Int32)), (.ref r148)] _
          refine X158.baloadBytes hx (j := (4 : Int32)) (v := (.int (((i2.toUInt32 >>> ((24 : Int32) &&& 31).toUInt32).toInt32).toInt8.toInt32))) (by rw [e148]; exact Ar164.1) (State.isArrayOf_alike hZ.alike Ar164.2.1) Ar164.2.2 (own_inb S164 M164 (by decide)) (own_get H164 S164 (by decide) (show Value.int ((own_put (own_put (fun _ : Nat => (0 : Int32)) 0 i1) 4 i2) (0 + 4)) = Value.int (((i2.toUInt32 >>> ((24 : Int32) &&& 31).toUInt32).toInt32).toInt8.toInt32) from congrArg Value.int (((own_put_in (by decide) (by decide)).trans (congrArg (own_by i2) (show _ = 0 from by decide))).trans (show own_by i2 0 = (((i2.toUInt32 >>> ((24 : Int32) &&& 31).toUInt32).toInt32).toInt8.toInt32) from rfl)))) (g := (mkF m 408 #[iv i0, iv i1, iv i2, iv i3, iv (0 : Int32), iv (0 : Int32), iv (1 : Int32), rv b86, iv (0 : Int32), iv (0 : Int32), iv (4 : Int32), iv (0 : Int32), iv (1 : Int32), rv r114, iv (8 : Int32), rv r148] [(.int (4 : Int32)), (.ref r148)])) rfl rfl (hb hby at_408) _ ?_
          refine XS.iloadN X158.here hx rfl (hb hby at_409) rfl ?_
          refine XS.bipush X158.here hx rfl (hb hby at_410) ?_
          show own_s p e below T148 m 412 #[iv i0, iv i1, iv i2, iv i3, iv (0 : Int32), iv (0 : Int32), iv (1 : Int32), rv b86, iv (0 : Int32), iv (0 : Int32), iv (4 : Int32), iv (0 : Int32), iv (1 : Int32), rv r114, iv (8 : Int32), rv r148] [(.int (24 : Int32)), (.int i2), (.int (((i2.toUInt32 >>> ((24 : Int32) &&& 31).toUInt32).toInt32).toInt8.toInt32))] _
          refine XS.iushr X158.here hx rfl (hb hby at_412) rfl ?_
          refine XS.i2b X158.here hx rfl (hb hby at_413) rfl ?_
          refine XS.icmpYes X158.here hx rfl (pc0 := 414) (pc' := 419) rfl (hb hby at_414) rfl (teq (rfl : (((i2.toUInt32 >>> ((24 : Int32) &&& 31).toUInt32).toInt32).toInt8.toInt32) = (((i2.toUInt32 >>> ((24 : Int32) &&& 31).toUInt32).toInt32).toInt8.toInt32))).1 (by decide) (by decide) ?_
          show own_s p e below T148 m 419 #[iv i0, iv i1, iv i2, iv i3, iv (0 : Int32), iv (0 : Int32), iv (1 : Int32), rv b86, iv (0 : Int32), iv (0 : Int32), iv (4 : Int32), iv (0 : Int32), iv (1 : Int32), rv r114, iv (8 : Int32), rv r148] [] _
          refine XS.iload X158.here hx rfl (hb hby at_419) rfl ?_
          refine XS.ifYes X158.here hx rfl (pc0 := 421) (pc' := 438) rfl (hb hby at_421) rfl ((if0 _ _).trans (teq (by decide : (0 : Int32) = (0 : Int32))).1) (by decide) (by decide) ?_
          refine XS.iload X158.here hx rfl (hb hby at_438) rfl ?_
          show own_s p e below T148 m 440 #[iv i0, iv i1, iv i2, iv i3, iv (0 : Int32), iv (0 : Int32), iv (1 : Int32), rv b86, iv (0 : Int32), iv (0 : Int32), iv (4 : Int32), iv (0 : Int32), iv (1 : Int32), rv r114, iv (8 : Int32), rv r148] [(.int (1 : Int32))] _
          refine XS.ifNo X158.here hx rfl (hb hby at_440) rfl ((if0 _ _).trans (feq (by decide : ¬ ((1 : Int32) = (0 : Int32)))).1) ?_
          refine XS.aload X158.here hx rfl (hb hby at_443) rfl rfl ?_
          refine XS.iload X158.here hx rfl (hb hby at_445) rfl ?_
          show own_s p e below T148 m 447 #[iv i0, iv i1, iv i2, iv i3, iv (0 : Int32), iv (0 : Int32), iv (1 : Int32), rv b86, iv (0 : Int32), iv (0 : Int32), iv (4 : Int32), iv (0 : Int32), iv (1 : Int32), rv r114, iv (8 : Int32), rv r148] [(.int (0 : Int32)), (.ref r148)] _
          refine XS.iconst X158.here hx rfl (hb hby at_447) ?_
          refine XS.iadd X158.here hx rfl (hb hby at_448) rfl ?_
          exact kX
        obtain ⟨cl166, Ar166, S166, M166, H166⟩ := id fA148
        have pre168 : ∀ t, own_s p e below T148 m 458 #[iv i0, iv i1, iv i2, iv i3, iv (0 : Int32), iv (0 : Int32), iv (1 : Int32), rv b86, iv (0 : Int32), iv (0 : Int32), iv (4 : Int32), iv (0 : Int32), iv (1 : Int32), rv r114, iv (8 : Int32), rv r148] [(.int (1 : Int32))] t → Steps p.tables e below S0 t := by
          intro tX kX
          refine pre167 _ ?_
          show own_s p e below T148 m 449 #[iv i0, iv i1, iv i2, iv i3, iv (0 : Int32), iv (0 : Int32), iv (1 : Int32), rv b86, iv (0 : Int32), iv (0 : Int32), iv (4 : Int32), iv (0 : Int32), iv (1 : Int32), rv r114, iv (8 : Int32), rv r148] [(.int (3 : Int32)), (.ref r148)] _
          refine X158.baloadBytes hx (j := (3 : Int32)) (v := (.int (i1.toInt8.toInt32))) (by rw [e148]; exact Ar166.1) (State.isArrayOf_alike hZ.alike Ar166.2.1) Ar166.2.2 (own_inb S166 M166 (by decide)) (own_get H166 S166 (by decide) (show Value.int ((own_put (own_put (fun _ : Nat => (0 : Int32)) 0 i1) 4 i2) (0 + 3)) = Value.int (i1.toInt8.toInt32) from congrArg Value.int (((own_put_out (by decide)).trans ((own_put_in (by decide) (by decide)).trans (congrArg (own_by i1) (show _ = 3 from by decide)))).trans (show own_by i1 3 = (i1.toInt8.toInt32) from rfl)))) (g := (mkF m 449 #[iv i0, iv i1, iv i2, iv i3, iv (0 : Int32), iv (0 : Int32), iv (1 : Int32), rv b86, iv (0 : Int32), iv (0 : Int32), iv (4 : Int32), iv (0 : Int32), iv (1 : Int32), rv r114, iv (8 : Int32), rv r148] [(.int (3 : Int32)), (.ref r148)])) rfl rfl (hb hby at_449) _ ?_
          refine XS.iloadN X158.here hx rfl (hb hby at_450) rfl ?_
          refine XS.i2b X158.here hx rfl (hb hby at_451) rfl ?_
          show own_s p e below T148 m 452 #[iv i0, iv i1, iv i2, iv i3, iv (0 : Int32), iv (0 : Int32), iv (1 : Int32), rv b86, iv (0 : Int32), iv (0 : Int32), iv (4 : Int32), iv (0 : Int32), iv (1 : Int32), rv r114, iv (8 : Int32), rv r148] [(.int (i1.toInt8.toInt32)), (.int (i1.toInt8.toInt32))] _
          refine XS.icmpYes X158.here hx rfl (pc0 := 452) (pc' := 457) rfl (hb hby at_452) rfl (teq (rfl : (i1.toInt8.toInt32) = (i1.toInt8.toInt32))).1 (by decide) (by decide) ?_
          refine XS.iconst X158.here hx rfl (hb hby at_457) ?_
          exact kX
        subst hS0
        obtain ⟨fs, hr, hrun, hended, hW, hsame⟩ := X158.leave (v := (some (.int (1 : Int32)))) (fun h => by rw [Bd.returns] at h; cases h)
        refine ⟨_, _, pre168 _ (retN X158 hx (t := .boolean) Bd.returns (by simp) (hb hby at_458) hr), hrun, hended, _, _, rfl, ?_, ⟨_, rfl⟩, hW, hsame.mono (by decide) (by decide)⟩
        show Q0 Z i0 i1 i2 i3 h0 n0 (some (.int (1 : Int32))) T148.heap _
        exact ⟨rfl, N158⟩
    · skip
      have pre169 : ∀ t, own_s p e below s₁ m 29 #[iv i0, iv i1, iv i2, iv i3, iv (0 : Int32), iv (1 : Int32), .unset, .unset, .unset, .unset, .unset, .unset, .unset, .unset, .unset, .unset] [(.int (i3 &&& (4 : Int32)))] t → Steps p.tables e below S0 t := by
        intro tX kX
        refine pre3 _ ?_
        show own_s p e below s₁ m 16 #[iv i0, iv i1, iv i2, iv i3, iv (0 : Int32), .unset, .unset, .unset, .unset, .unset, .unset, .unset, .unset, .unset, .unset, .unset] [(.int (i3 &&& (2 : Int32)))] _
        refine XS.ifNo X0.here hx rfl (hb hby at_16) rfl ((if0 _ _).trans (feq hc4).1) ?_
        refine XS.iconst X0.here hx rfl (hb hby at_19) ?_
        refine XS.goto X0.here hx rfl (pc0 := 20) (pc' := 24) rfl (hb hby at_20) (by decide) (by decide) ?_
        show own_s p e below s₁ m 24 #[iv i0, iv i1, iv i2, iv i3, iv (0 : Int32), .unset, .unset, .unset, .unset, .unset, .unset, .unset, .unset, .unset, .unset, .unset] [(.int (1 : Int32))] _
        refine XS.istore X0.here hx rfl (hb hby at_24) rfl (l' := #[iv i0, iv i1, iv i2, iv i3, iv (0 : Int32), iv (1 : Int32), .unset, .unset, .unset, .unset, .unset, .unset, .unset, .unset, .unset, .unset]) rfl ?_
        refine XS.iloadN X0.here hx rfl (hb hby at_26) rfl ?_
        refine XS.iconst X0.here hx rfl (hb hby at_27) ?_
        show own_s p e below s₁ m 28 #[iv i0, iv i1, iv i2, iv i3, iv (0 : Int32), iv (1 : Int32), .unset, .unset, .unset, .unset, .unset, .unset, .unset, .unset, .unset, .unset] [(.int (4 : Int32)), (.int i3)] _
        refine XS.iand X0.here hx rfl (hb hby at_28) rfl ?_
        exact kX
      by_cases hc170 : (i3 &&& (4 : Int32)) = (0 : Int32)
      · skip
        have pre171 : ∀ t, own_s p e below s₁ m 39 #[iv i0, iv i1, iv i2, iv i3, iv (0 : Int32), iv (1 : Int32), iv (0 : Int32), .unset, .unset, .unset, .unset, .unset, .unset, .unset, .unset, .unset] [] t → Steps p.tables e below S0 t := by
          intro tX kX
          refine pre169 _ ?_
          show own_s p e below s₁ m 29 #[iv i0, iv i1, iv i2, iv i3, iv (0 : Int32), iv (1 : Int32), .unset, .unset, .unset, .unset, .unset, .unset, .unset, .unset, .unset, .unset] [(.int (i3 &&& (4 : Int32)))] _
          refine XS.ifYes X0.here hx rfl (pc0 := 29) (pc' := 36) rfl (hb hby at_29) rfl ((if0 _ _).trans (teq hc170).1) (by decide) (by decide) ?_
          refine XS.iconst X0.here hx rfl (hb hby at_36) ?_
          refine XS.istore X0.here hx rfl (hb hby at_37) rfl (l' := #[iv i0, iv i1, iv i2, iv i3, iv (0 : Int32), iv (1 : Int32), iv (0 : Int32), .unset, .unset, .unset, .unset, .unset, .unset, .unset, .unset, .unset]) rfl ?_
          exact kX
        obtain ⟨T172, h172, X172, e172, E172, A172, D172, -, st172⟩ := newO X0 hx hZ hown (hw _ (List.mem_of_getElem? (i := 0) rfl)) (hw _ (List.mem_of_getElem? (i := 1) rfl)) (hw _ (List.mem_of_getElem? (i := 2) rfl)) e0 (g := (mkF m 39 #[iv i0, iv i1, iv i2, iv i3, iv (0 : Int32), iv (1 : Int32), iv (0 : Int32), .unset, .unset, .unset, .unset, .unset, .unset, .unset, .unset, .unset] [])) rfl (hb hby at_39) (by decide) (by decide)
        obtain ⟨b172, g172⟩ : ∃ z, z = h0.size := ⟨_, rfl⟩
        rw [← g172] at A172 D172 st172
        have g_b172 : n0 ≤ b172 := Nat.le_trans Z0 (Nat.le_of_eq g172.symm)
        have pre173 : ∀ t, own_s p e below T172 m 42 #[iv i0, iv i1, iv i2, iv i3, iv (0 : Int32), iv (1 : Int32), iv (0 : Int32), .unset, .unset, .unset, .unset, .unset, .unset, .unset, .unset, .unset] [(.ref b172)] t → Steps p.tables e below S0 t := fun tX kX => pre171 _ (st172 _ kX)
        have Z174 : n0 ≤ h172.size := Nat.le_trans Z0 E172.1
        have f175_E : Exa Z h172 b172 "com/example/farcall/farcall/io/XdrEncoder" := A172
        have f176_F : Fld Z h172 b172 "com/example/farcall/farcall/io/XdrEncoder" "buffer" "[B" .null := D172 (Or.inl (hw _ (List.mem_of_getElem? (i := 11) rfl))) (ty := (.array .byte)) (by decide)
        have f177_F : Fld Z h172 b172 "com/example/farcall/farcall/io/XdrEncoder" "end" "I" (.int (0 : Int32)) := D172 (Or.inl (hw _ (List.mem_of_getElem? (i := 22) rfl))) (ty := .int) (by decide)
        have f178_F : Fld Z h172 b172 "com/example/farcall/farcall/io/XdrEncoder" "start" "I" (.int (0 : Int32)) := D172 (Or.inl (hw _ (List.mem_of_getElem? (i := 29) rfl))) (ty := .int) (by decide)
        have pre179 : ∀ t, own_s p e below T172 m 43 #[iv i0, iv i1, iv i2, iv i3, iv (0 : Int32), iv (1 : Int32), iv (0 : Int32), .unset, .unset, .unset, .unset, .unset, .unset, .unset, .unset, .unset] [(.ref b172), (.ref b172)] t → Steps p.tables e below S0 t := by
          intro tX kX
          refine pre173 _ ?_
          show own_s p e below T172 m 42 #[iv i0, iv i1, iv i2, iv i3, iv (0 : Int32), iv (1 : Int32), iv (0 : Int32), .unset, .unset, .unset, .unset, .unset, .unset, .unset, .unset, .unset] [(.ref b172)] _
          refine XS.dup X172.here hx rfl (hb hby at_42) rfl rfl ?_
          exact kX
        obtain ⟨_, _, ⟨T180, L180, k180, n180⟩, -, X180, ⟨Lc180, hQ180, l180, y180, z180⟩, st180⟩ := X172.specialBack hx (y := (⟨"com/example/farcall/farcall/io/XdrEncoder", "<init>", "()V"⟩ : MethodName)) rfl hown (mvT hZ (hw _ (List.mem_of_getElem? (i := 3) rfl))) (mvT hZ (hw _ (List.mem_of_getElem? (i := 4) rfl))) (mvT hZ (hw _ (List.mem_of_getElem? (i := 5) rfl))) (by decide) (backOf (W := 1) (rm12 l Z a0 hw [] b172  h172 n0 Z174 f175_E f176_F f178_F f177_F g_b172) hZ (hw _ (List.mem_of_getElem? (i := 5) rfl)) (hw _ (List.mem_of_getElem? (i := 2) rfl)) (by decide) (by decide)) (g := (mkF m 43 #[iv i0, iv i1, iv i2, iv i3, iv (0 : Int32), iv (1 : Int32), iv (0 : Int32), .unset, .unset, .unset, .unset, .unset, .unset, .unset, .unset, .unset] [(.ref b172), (.ref b172)])) rfl (by rw [hml]; rfl) (Steps.refl _) (a := b172) (argsL := []) (rest := [(.ref b172)]) (lenOf pd0_0 rfl) rfl (by show 2 * 0 + _ ≤ _; exact Nat.le_of_eq rfl) (hb hby at_43) (fun _ _ => ⟨rfl, e172, (by decide : 1 + 1 ≤ _), (by decide : 4 + 64 ≤ _)⟩)
        dsimp only [Pt.U, Pt.locs, Pt.cells, Pt.slots] at X180 l180 y180 z180 st180 hQ180
        subst l180 y180 z180
        obtain ⟨rfl, Nq180, Kq180, bb180, szq180, E_a180, F_buf180, F_sta180, F_end180, A_b180, ne_ab180, fg180, g_a180, g_b180⟩ := hQ180
        have N180 := Fr.app N0 Nq180
        have e180 : T180.heap = T180.heap := rfl
        have Z180 : n0 ≤ T180.heap.size := Nat.le_trans Z174 Kq180.1
        obtain ⟨LL181, X181, N181⟩ : ∃ LL, Stand p l e room_1 s m #[(.int i0), (.int i1), (.int i2), (.int i3)] below meth c T180 LL 2 68 ∧ Fr n0 LL := ⟨_, X180, N180⟩
        have pre182 : ∀ t, own_s p e below T180 m 46 #[iv i0, iv i1, iv i2, iv i3, iv (0 : Int32), iv (1 : Int32), iv (0 : Int32), .unset, .unset, .unset, .unset, .unset, .unset, .unset, .unset, .unset] [(.ref b172)] t → Steps p.tables e below S0 t := fun tX kX => pre179 _ (st180.trans kX)
        have pre183 : ∀ t, own_s p e below T180 m 82 #[iv i0, iv i1, iv i2, iv i3, iv (0 : Int32), iv (1 : Int32), iv (0 : Int32), rv b172, iv (0 : Int32), iv (0 : Int32), .unset, .unset, .unset, .unset, .unset, .unset] [(.ref b172)] t → Steps p.tables e below S0 t := by
          intro tX kX
          refine pre182 _ ?_
          show own_s p e below T180 m 46 #[iv i0, iv i1, iv i2, iv i3, iv (0 : Int32), iv (1 : Int32), iv (0 : Int32), .unset, .unset, .unset, .unset, .unset, .unset, .unset, .unset, .unset] [(.ref b172)] _
          refine XS.astore X181.here hx rfl (hb hby at_46) rfl rfl (l' := #[iv i0, iv i1, iv i2, iv i3, iv (0 : Int32), iv (1 : Int32), iv (0 : Int32), rv b172, .unset, .unset, .unset, .unset, .unset, .unset, .unset, .unset]) rfl ?_
          refine XS.iload X181.here hx rfl (hb hby at_48) rfl ?_
          refine XS.ifYes X181.here hx rfl (pc0 := 50) (pc' := 60) rfl (hb hby at_50) rfl ((if0 _ _).trans (teq (by decide : (0 : Int32) = (0 : Int32))).1) (by decide) (by decide) ?_
          show own_s p e below T180 m 60 #[iv i0, iv i1, iv i2, iv i3, iv (0 : Int32), iv (1 : Int32), iv (0 : Int32), rv b172, .unset, .unset, .unset, .unset, .unset, .unset, .unset, .unset] [] _
          refine XS.iload X181.here hx rfl (hb hby at_60) rfl ?_
          refine XS.ifYes X181.here hx rfl (pc0 := 62) (pc' := 69) rfl (hb hby at_62) rfl ((if0 _ _).trans (teq (by decide : (0 : Int32) = (0 : Int32))).1) (by decide) (by decide) ?_
          refine XS.iconst X181.here hx rfl (hb hby at_69) ?_
          show own_s p e below T180 m 70 #[iv i0, iv i1, iv i2, iv i3, iv (0 : Int32), iv (1 : Int32), iv (0 : Int32), rv b172, .unset, .unset, .unset, .unset, .unset, .unset, .unset, .unset] [(.int (0 : Int32))] _
          refine XS.istore X181.here hx rfl (hb hby at_70) rfl (l' := #[iv i0, iv i1, iv i2, iv i3, iv (0 : Int32), iv (1 : Int32), iv (0 : Int32), rv b172, iv (0 : Int32), .unset, .unset, .unset, .unset, .unset, .unset, .unset]) rfl ?_
          refine XS.iconst X181.here hx rfl (hb hby at_72) ?_
          refine XS.istore X181.here hx rfl (hb hby at_73) rfl (l' := #[iv i0, iv i1, iv i2, iv i3, iv (0 : Int32), iv (1 : Int32), iv (0 : Int32), rv b172, iv (0 : Int32), iv (0 : Int32), .unset, .unset, .unset, .unset, .unset, .unset]) rfl ?_
          show own_s p e below T180 m 75 #[iv i0, iv i1, iv i2, iv i3, iv (0 : Int32), iv (1 : Int32), iv (0 : Int32), rv b172, iv (0 : Int32), iv (0 : Int32), .unset, .unset, .unset, .unset, .unset, .unset] [] _
          refine XS.iload X181.here hx rfl (hb hby at_75) rfl ?_
          refine XS.ifNo X181.here hx rfl (hb hby at_77) rfl ((if0 _ _).trans (feq (by decide : ¬ ((1 : Int32) = (0 : Int32)))).1) ?_
          refine XS.aload X181.here hx rfl (hb hby at_80) rfl rfl ?_
          exact kX
        obtain ⟨cq184, kq184, q184a, q184b, q184c⟩ := isOf hZ e180 E_a180
        obtain ⟨_, _, ⟨T184, L184, k184, n184⟩, -, X184, ⟨Lc184, hQ184, l184, y184, z184⟩, st184⟩ := X181.virtualBack hx (y := (⟨"com/example/farcall/farcall/io/XdrEncoder", "beginPart", "()I"⟩ : MethodName)) (z := (⟨"com/example/farcall/farcall/io/XdrEncoder", "beginPart", "()I"⟩ : MethodName)) hown (mvT hZ (hw _ (List.mem_of_getElem? (i := 35) rfl))) (mvT hZ (hw _ (List.mem_of_getElem? (i := 36) rfl))) (notFace_of_selects (args := #[]) (mvT hZ (hw _ (List.mem_of_getElem? (i := 38) rfl)))) (mvT hZ (hw _ (List.mem_of_getElem? (i := 38) rfl))) (mvT hZ (hw _ (List.mem_of_getElem? (i := 37) rfl))) (by decide) (backOf (W := 0) (rm10 l Z a0 hw [] b172 bb180 ((fun _ : Nat => (0 : Int32))) 0 0 T180.heap n0 Z180 E_a180 F_buf180 F_sta180 F_end180 A_b180 ne_ab180 fg180 g_a180 g_b180) hZ (hw _ (List.mem_of_getElem? (i := 39) rfl)) (hw _ (List.mem_of_getElem? (i := 2) rfl)) (by decide) (by decide)) q184a q184c (g := (mkF m 82 #[iv i0, iv i1, iv i2, iv i3, iv (0 : Int32), iv (1 : Int32), iv (0 : Int32), rv b172, iv (0 : Int32), iv (0 : Int32), .unset, .unset, .unset, .unset, .unset, .unset] [(.ref b172)])) rfl (by rw [hml]; rfl) (Steps.refl _) (argsL := []) (rest := []) (lenOf pd0_1 rfl) rfl (by show 2 * 0 + _ ≤ _; exact Nat.le_of_eq rfl) (hb hby at_82) (fun _ _ => ⟨rfl, e180, (by decide : 2 + 0 ≤ _), (by decide : 68 + 0 ≤ _)⟩)
        dsimp only [Pt.U, Pt.locs, Pt.cells, Pt.slots] at X184 l184 y184 z184 st184 hQ184
        subst l184 y184 z184
        obtain ⟨rfl, Nq184, Kq184, E_a184, F_buf184, F_sta184, F_end184, A_b184, ne_ab184, fg184, g_a184, g_b184⟩ := hQ184
        have N184 := Fr.app N181 Nq184
        have e184 : T184.heap = T184.heap := rfl
        have Z184 : n0 ≤ T184.heap.size := Nat.le_trans Z180 Kq184.1
        obtain ⟨LL185, X185, N185⟩ : ∃ LL, Stand p l e room_1 s m #[(.int i0), (.int i1), (.int i2), (.int i3)] below meth c T184 LL 2 68 ∧ Fr n0 LL := ⟨_, X184, N184⟩
        have pre186 : ∀ t, own_s p e below T184 m 85 #[iv i0, iv i1, iv i2, iv i3, iv (0 : Int32), iv (1 : Int32), iv (0 : Int32), rv b172, iv (0 : Int32), iv (0 : Int32), .unset, .unset, .unset, .unset, .unset, .unset] [(.int (0 : Int32))] t → Steps p.tables e below S0 t := fun tX kX => pre183 _ (st184.trans kX)
        have pre187 : ∀ t, own_s p e below T184 m 113 #[iv i0, iv i1, iv i2, iv i3, iv (0 : Int32), iv (1 : Int32), iv (0 : Int32), rv b172, iv (0 : Int32), iv (0 : Int32), iv (0 : Int32), .unset, .unset, .unset, .unset, .unset] [(.ref b172)] t → Steps p.tables e below S0 t := by
          intro tX kX
          refine pre186 _ ?_
          show own_s p e below T184 m 85 #[iv i0, iv i1, iv i2, iv i3, iv (0 : Int32), iv (1 : Int32), iv (0 : Int32), rv b172, iv (0 : Int32), iv (0 : Int32), .unset, .unset, .unset, .unset, .unset, .unset] [(.int (0 : Int32))] _
          refine XS.istore X185.here hx rfl (hb hby at_85) rfl (l' := #[iv i0, iv i1, iv i2, iv i3, iv (0 : Int32), iv (1 : Int32), iv (0 : Int32), rv b172, iv (0 : Int32), iv (0 : Int32), .unset, .unset, .unset, .unset, .unset, .unset]) rfl ?_
          refine XS.iload X185.here hx rfl (hb hby at_87) rfl ?_
          refine XS.ifYes X185.here hx rfl (pc0 := 89) (pc' := 99) rfl (hb hby at_89) rfl ((if0 _ _).trans (teq (by decide : (0 : Int32) = (0 : Int32))).1) (by decide) (by decide) ?_
          show own_s p e below T184 m 99 #[iv i0, iv i1, iv i2, iv i3, iv (0 : Int32), iv (1 : Int32), iv (0 : Int32), rv b172, iv (0 : Int32), iv (0 : Int32), .unset, .unset, .unset, .unset, .unset, .unset] [] _
          refine XS.iload X185.here hx rfl (hb hby at_99) rfl ?_
          refine XS.ifYes X185.here hx rfl (pc0 := 101) (pc' := 108) rfl (hb hby at_101) rfl ((if0 _ _).trans (teq (by decide : (0 : Int32) = (0 : Int32))).1) (by decide) (by decide) ?_
          refine XS.iconst X185.here hx rfl (hb hby at_108) ?_
          show own_s p e below T184 m 109 #[iv i0, iv i1, iv i2, iv i3, iv (0 : Int32), iv (1 : Int32), iv (0 : Int32), rv b172, iv (0 : Int32), iv (0 : Int32), .unset, .unset, .unset, .unset, .unset, .unset] [(.int (0 : Int32))] _
          refine XS.istore X185.here hx rfl (hb hby at_109) rfl (l' := #[iv i0, iv i1, iv i2, iv i3, iv (0 : Int32), iv (1 : Int32), iv (0 : Int32), rv b172, iv (0 : Int32), iv (0 : Int32), iv (0 : Int32), .unset, .unset, .unset, .unset, .unset]) rfl ?_
          refine XS.aload X185.here hx rfl (hb hby at_111) rfl rfl ?_
          exact kX
        obtain ⟨cq188, kq188, q188a, q188b, q188c⟩ := isOf hZ e184 E_a184
        obtain ⟨_, _, ⟨T188, L188, k188, n188⟩, -, X188, ⟨Lc188, hQ188, l188, y188, z188⟩, st188⟩ := X185.virtualBack hx (y := (⟨"com/example/farcall/farcall/io/XdrEncoder", "beginPart", "()I"⟩ : MethodName)) (z := (⟨"com/example/farcall/farcall/io/XdrEncoder", "beginPart", "()I"⟩ : MethodName)) hown (mvT hZ (hw _ (List.mem_of_getElem? (i := 35) rfl))) (mvT hZ (hw _ (List.mem_of_getElem? (i := 36) rfl))) (notFace_of_selects (args := #[]) (mvT hZ (hw _ (List.mem_of_getElem? (i := 38) rfl)))) (mvT hZ (hw _ (List.mem_of_getElem? (i := 38) rfl))) (mvT hZ (hw _ (List.mem_of_getElem? (i := 37) rfl))) (by decide) (backOf (W := 0) (rm10 l Z a0 hw [] b172 bb180 ((fun _ : Nat => (0 : Int32))) 0 0 T184.heap n0 Z184 E_a184 F_buf184 F_sta184 F_end184 A_b184 ne_ab184 fg184 g_a184 g_b184) hZ (hw _ (List.mem_of_getElem? (i := 39) rfl)) (hw _ (List.mem_of_getElem? (i := 2) rfl)) (by decide) (by decide)) q188a q188c (g := (mkF m 113 #[iv i0, iv i1, iv i2, iv i3, iv (0 : Int32), iv (1 : Int32), iv (0 : Int32), rv b172, iv (0 : Int32), iv (0 : Int32), iv (0 : Int32), .unset, .unset, .unset, .unset, .unset] [(.ref b172)])) rfl (by rw [hml]; rfl) (Steps.refl _) (argsL := []) (rest := []) (lenOf pd0_1 rfl) rfl (by show 2 * 0 + _ ≤ _; exact Nat.le_of_eq rfl) (hb hby at_113) (fun _ _ => ⟨rfl, e184, (by decide : 2 + 0 ≤ _), (by decide : 68 + 0 ≤ _)⟩)
        dsimp only [Pt.U, Pt.locs, Pt.cells, Pt.slots] at X188 l188 y188 z188 st188 hQ188
        subst l188 y188 z188
        obtain ⟨rfl, Nq188, Kq188, E_a188, F_buf188, F_sta188, F_end188, A_b188, ne_ab188, fg188, g_a188, g_b188⟩ := hQ188
        have N188 := Fr.app N185 Nq188
        have e188 : T188.heap = T188.heap := rfl
        have Z188 : n0 ≤ T188.heap.size := Nat.le_trans Z184 Kq188.1
        obtain ⟨LL189, X189, N189⟩ : ∃ LL, Stand p l e room_1 s m #[(.int i0), (.int i1), (.int i2), (.int i3)] below meth c T188 LL 2 68 ∧ Fr n0 LL := ⟨_, X188, N188⟩
        have pre190 : ∀ t, own_s p e below T188 m 116 #[iv i0, iv i1, iv i2, iv i3, iv (0 : Int32), iv (1 : Int32), iv (0 : Int32), rv b172, iv (0 : Int32), iv (0 : Int32), iv (0 : Int32), .unset, .unset, .unset, .unset, .unset] [(.int (0 : Int32))] t → Steps p.tables e below S0 t := fun tX kX => pre187 _ (st188.trans kX)
        have pre191 : ∀ t, own_s p e below T188 m 120 #[iv i0, iv i1, iv i2, iv i3, iv (0 : Int32), iv (1 : Int32), iv (0 : Int32), rv b172, iv (0 : Int32), iv (0 : Int32), iv (0 : Int32), iv (0 : Int32), .unset, .unset, .unset, .unset] [(.ref b172)] t → Steps p.tables e below S0 t := by
          intro tX kX
          refine pre190 _ ?_
          show own_s p e below T188 m 116 #[iv i0, iv i1, iv i2, iv i3, iv (0 : Int32), iv (1 : Int32), iv (0 : Int32), rv b172, iv (0 : Int32), iv (0 : Int32), iv (0 : Int32), .unset, .unset, .unset, .unset, .unset] [(.int (0 : Int32))] _
          refine XS.istore X189.here hx rfl (hb hby at_116) rfl (l' := #[iv i0, iv i1, iv i2, iv i3, iv (0 : Int32), iv (1 : Int32), iv (0 : Int32), rv b172, iv (0 : Int32), iv (0 : Int32), iv (0 : Int32), iv (0 : Int32), .unset, .unset, .unset, .unset]) rfl ?_
          refine XS.aload X189.here hx rfl (hb hby at_118) rfl rfl ?_
          exact kX
        obtain ⟨cq192, kq192, q192a, q192b, q192c⟩ := isOf hZ e188 E_a188
        obtain ⟨_, _, ⟨T192, L192, k192, n192⟩, -, X192, ⟨Lc192, hQ192, l192, y192, z192⟩, st192⟩ := X189.virtualBack hx (y := (⟨"com/example/farcall/farcall/io/XdrEncoder", "size", "()I"⟩ : MethodName)) (z := (⟨"com/example/farcall/farcall/io/XdrEncoder", "size", "()I"⟩ : MethodName)) hown (mvT hZ (hw _ (List.mem_of_getElem? (i := 40) rfl))) (mvT hZ (hw _ (List.mem_of_getElem? (i := 24) rfl))) (notFace_of_selects (args := #[]) (mvT hZ (hw _ (List.mem_of_getElem? (i := 26) rfl)))) (mvT hZ (hw _ (List.mem_of_getElem? (i := 26) rfl))) (mvT hZ (hw _ (List.mem_of_getElem? (i := 25) rfl))) (by decide) (backOf (W := 0) (rm6 l Z a0 hw [] b172 bb180 ((fun _ : Nat => (0 : Int32))) 0 0 T188.heap n0 Z188 E_a188 F_buf188 F_sta188 F_end188 A_b188 ne_ab188 fg188 g_a188 g_b188 (by decide) (by decide)) hZ (hw _ (List.mem_of_getElem? (i := 27) rfl)) (hw _ (List.mem_of_getElem? (i := 2) rfl)) (by decide) (by decide)) q192a q192c (g := (mkF m 120 #[iv i0, iv i1, iv i2, iv i3, iv (0 : Int32), iv (1 : Int32), iv (0 : Int32), rv b172, iv (0 : Int32), iv (0 : Int32), iv (0 : Int32), iv (0 : Int32), .unset, .unset, .unset, .unset] [(.ref b172)])) rfl (by rw [hml]; rfl) (Steps.refl _) (argsL := []) (rest := []) (lenOf pd0_1 rfl) rfl (by show 2 * 0 + _ ≤ _; exact Nat.le_of_eq rfl) (hb hby at_120) (fun _ _ => ⟨rfl, e188, (by decide : 2 + 0 ≤ _), (by decide : 68 + 0 ≤ _)⟩)
        dsimp only [Pt.U, Pt.locs, Pt.cells, Pt.slots] at X192 l192 y192 z192 st192 hQ192
        subst l192 y192 z192
        obtain ⟨rfl, Nq192, e192⟩ := hQ192
        have N192 := Fr.app N189 Nq192
        obtain ⟨LL193, X193, N193⟩ : ∃ LL, Stand p l e room_1 s m #[(.int i0), (.int i1), (.int i2), (.int i3)] below meth c T192 LL 2 68 ∧ Fr n0 LL := ⟨_, X192, N192⟩
        have pre194 : ∀ t, own_s p e below T192 m 123 #[iv i0, iv i1, iv i2, iv i3, iv (0 : Int32), iv (1 : Int32), iv (0 : Int32), rv b172, iv (0 : Int32), iv (0 : Int32), iv (0 : Int32), iv (0 : Int32), .unset, .unset, .unset, .unset] [(.int (0 : Int32))] t → Steps p.tables e below S0 t := fun tX kX => pre191 _ (st192.trans kX)
        have pre195 : ∀ t, own_s p e below T192 m 136 #[iv i0, iv i1, iv i2, iv i3, iv (0 : Int32), iv (1 : Int32), iv (0 : Int32), rv b172, iv (0 : Int32), iv (0 : Int32), iv (0 : Int32), iv (0 : Int32), iv (1 : Int32), .unset, .unset, .unset] [(.int i2), (.ref b172)] t → Steps p.tables e below S0 t := by
          intro tX kX
          refine pre194 _ ?_
          show own_s p e below T192 m 123 #[iv i0, iv i1, iv i2, iv i3, iv (0 : Int32), iv (1 : Int32), iv (0 : Int32), rv b172, iv (0 : Int32), iv (0 : Int32), iv (0 : Int32), iv (0 : Int32), .unset, .unset, .unset, .unset] [(.int (0 : Int32))] _
          refine XS.ifNo X193.here hx rfl (hb hby at_123) rfl ((if0 _ _).trans (teq (by decide : (0 : Int32) = (0 : Int32))).2) ?_
          refine XS.iconst X193.here hx rfl (hb hby at_126) ?_
          refine XS.goto X193.here hx rfl (pc0 := 127) (pc' := 131) rfl (hb hby at_127) (by decide) (by decide) ?_
          show own_s p e below T192 m 131 #[iv i0, iv i1, iv i2, iv i3, iv (0 : Int32), iv (1 : Int32), iv (0 : Int32), rv b172, iv (0 : Int32), iv (0 : Int32), iv (0 : Int32), iv (0 : Int32), .unset, .unset, .unset, .unset] [(.int (1 : Int32))] _
          refine XS.istore X193.here hx rfl (hb hby at_131) rfl (l' := #[iv i0, iv i1, iv i2, iv i3, iv (0 : Int32), iv (1 : Int32), iv (0 : Int32), rv b172, iv (0 : Int32), iv (0 : Int32), iv (0 : Int32), iv (0 : Int32), iv (1 : Int32), .unset, .unset, .unset]) rfl ?_
          refine XS.aload X193.here hx rfl (hb hby at_133) rfl rfl ?_
          refine XS.iloadN X193.here hx rfl (hb hby at_135) rfl ?_
          exact kX
        obtain ⟨cq196, kq196, q196a, q196b, q196c⟩ := isOf hZ e192 E_a188
        obtain ⟨_, _, ⟨T196, L196, k196, n196⟩, -, X196, ⟨Lc196, hQ196, l196, y196, z196⟩, st196⟩ := X193.virtualBack hx (y := (⟨"com/example/farcall/farcall/io/XdrEncoder", "writeInt", "(I)Lcom/example/farcall/farcall/io/XdrEncoder;"⟩ : MethodName)) (z := (⟨"com/example/farcall/farcall/io/XdrEncoder", "writeInt", "(I)Lcom/example/farcall/farcall/io/XdrEncoder;"⟩ : MethodName)) hown (mvT hZ (hw _ (List.mem_of_getElem? (i := 12) rfl))) (mvT hZ (hw _ (List.mem_of_getElem? (i := 13) rfl))) (notFace_of_selects (args := #[]) (mvT hZ (hw _ (List.mem_of_getElem? (i := 15) rfl)))) (mvT hZ (hw _ (List.mem_of_getElem? (i := 15) rfl))) (mvT hZ (hw _ (List.mem_of_getElem? (i := 14) rfl))) (by decide) (backOf (W := 0) (rm9 l Z a0 hw [] b172 i2 bb180 ((fun _ : Nat => (0 : Int32))) 0 0 T188.heap n0 Z188 E_a188 F_buf188 F_sta188 F_end188 A_b188 ne_ab188 fg188 g_a188 g_b188 (by decide) (by decide)) hZ (hw _ (List.mem_of_getElem? (i := 16) rfl)) (hw _ (List.mem_of_getElem? (i := 2) rfl)) (by decide) (by decide)) q196a q196c (g := (mkF m 136 #[iv i0, iv i1, iv i2, iv i3, iv (0 : Int32), iv (1 : Int32), iv (0 : Int32), rv b172, iv (0 : Int32), iv (0 : Int32), iv (0 : Int32), iv (0 : Int32), iv (1 : Int32), .unset, .unset, .unset] [(.int i2), (.ref b172)])) rfl (by rw [hml]; rfl) (Steps.refl _) (argsL := [(.int i2)]) (rest := []) (lenOf pd0_2 rfl) rfl (by show 2 * 0 + _ ≤ _; exact Nat.le_of_eq rfl) (hb hby at_136) (fun _ _ => ⟨rfl, e192, (by decide : 2 + 0 ≤ _), (by decide : 68 + 0 ≤ _)⟩)
        dsimp only [Pt.U, Pt.locs, Pt.cells, Pt.slots] at X196 l196 y196 z196 st196 hQ196
        subst l196 y196 z196
        obtain ⟨rfl, Nq196, Kq196, E_a196, F_buf196, F_sta196, F_end196, A_b196, ne_ab196, fg196, g_a196, g_b196⟩ := hQ196
        have N196 := Fr.app N193 Nq196
        have e196 : T196.heap = T196.heap := rfl
        have Z196 : n0 ≤ T196.heap.size := Nat.le_trans Z188 Kq196.1
        obtain ⟨LL197, X197, N197⟩ : ∃ LL, Stand p l e room_1 s m #[(.int i0), (.int i1), (.int i2), (.int i3)] below meth c T196 LL 2 68 ∧ Fr n0 LL := ⟨_, X196, N196⟩
        have pre198 : ∀ t, own_s p e below T196 m 139 #[iv i0, iv i1, iv i2, iv i3, iv (0 : Int32), iv (1 : Int32), iv (0 : Int32), rv b172, iv (0 : Int32), iv (0 : Int32), iv (0 : Int32), iv (0 : Int32), iv (1 : Int32), .unset, .unset, .unset] [(.ref b172)] t → Steps p.tables e below S0 t := fun tX kX => pre195 _ (st196.trans kX)
        have pre199 : ∀ t, own_s p e below T196 m 142 #[iv i0, iv i1, iv i2, iv i3, iv (0 : Int32), iv (1 : Int32), iv (0 : Int32), rv b172, iv (0 : Int32), iv (0 : Int32), iv (0 : Int32), iv (0 : Int32), iv (1 : Int32), .unset, .unset, .unset] [(.ref b172)] t → Steps p.tables e below S0 t := by
          intro tX kX
          refine pre198 _ ?_
          show own_s p e below T196 m 139 #[iv i0, iv i1, iv i2, iv i3, iv (0 : Int32), iv (1 : Int32), iv (0 : Int32), rv b172, iv (0 : Int32), iv (0 : Int32), iv (0 : Int32), iv (0 : Int32), iv (1 : Int32), .unset, .unset, .unset] [(.ref b172)] _
          refine XS.pop X197.here hx rfl (hb hby at_139) rfl rfl ?_
          refine XS.aload X197.here hx rfl (hb hby at_140) rfl rfl ?_
          exact kX
        obtain ⟨cq200, kq200, q200a, q200b, q200c⟩ := isOf hZ e196 E_a196
        obtain ⟨_, _, ⟨T200, L200, k200, n200⟩, -, X200, ⟨Lc200, hQ200, l200, y200, z200⟩, st200⟩ := X197.virtualBack hx (y := (⟨"com/example/farcall/farcall/io/XdrEncoder", "toByteArray", "()[B"⟩ : MethodName)) (z := (⟨"com/example/farcall/farcall/io/XdrEncoder", "toByteArray", "()[B"⟩ : MethodName)) hown (mvT hZ (hw _ (List.mem_of_getElem? (i := 41) rfl))) (mvT hZ (hw _ (List.mem_of_getElem? (i := 42) rfl))) (notFace_of_selects (args := #[]) (mvT hZ (hw _ (List.mem_of_getElem? (i := 44) rfl)))) (mvT hZ (hw _ (List.mem_of_getElem? (i := 44) rfl))) (mvT hZ (hw _ (List.mem_of_getElem? (i := 43) rfl))) (by decide) (backOf (W := 0) (rm5 l Z a0 hw [] b172 bb180 ((own_put (fun _ : Nat => (0 : Int32)) 0 i2)) 0 4 T196.heap n0 Z196 E_a196 F_buf196 F_sta196 F_end196 A_b196 ne_ab196 fg196 g_a196 g_b196 (by decide) (by decide) (by decide)) hZ (hw _ (List.mem_of_getElem? (i := 45) rfl)) (hw _ (List.mem_of_getElem? (i := 2) rfl)) (by decide) (by decide)) q200a q200c (g := (mkF m 142 #[iv i0, iv i1, iv i2, iv i3, iv (0 : Int32), iv (1 : Int32), iv (0 : Int32), rv b172, iv (0 : Int32), iv (0 : Int32), iv (0 : Int32), iv (0 : Int32), iv (1 : Int32), .unset, .unset, .unset] [(.ref b172)])) rfl (by rw [hml]; rfl) (Steps.refl _) (argsL := []) (rest := []) (lenOf pd0_3 rfl) rfl (by show 2 * 0 + _ ≤ _; exact Nat.le_of_eq rfl) (hb hby at_142) (fun _ _ => ⟨rfl, e196, (by decide : 2 + 1 ≤ _), (by decide : 68 + 64 ≤ _)⟩)
        dsimp only [Pt.U, Pt.locs, Pt.cells, Pt.slots] at X200 l200 y200 z200 st200 hQ200
        subst l200 y200 z200
        obtain ⟨r200, rfl, Nq200, Kq200, sz_r200, g_r200, fA200⟩ := hQ200
        have N200 := Fr.app N197 Nq200
        have e200 : T200.heap = T200.heap := rfl
        have Z200 : n0 ≤ T200.heap.size := Nat.le_trans Z196 Kq200.1
        have ne201 : b172 ≠ r200 := Nat.ne_of_lt (Nat.lt_of_lt_of_le E_a196.lt sz_r200)
        have ne202 : bb180 ≠ r200 := Nat.ne_of_lt (Nat.lt_of_lt_of_le A_b196.lt sz_r200)
        have f203_E : Exa Z T200.heap b172 "com/example/farcall/farcall/io/XdrEncoder" := E_a196.keep Kq200
        have f204_F : Fld Z T200.heap b172 "com/example/farcall/farcall/io/XdrEncoder" "buffer" "[B" (.ref bb180) := F_buf196.keep Kq200 nin0
        have f205_F : Fld Z T200.heap b172 "com/example/farcall/farcall/io/XdrEncoder" "start" "I" (.int (Int32.ofNat 0)) := F_sta196.keep Kq200 nin0
        have f206_F : Fld Z T200.heap b172 "com/example/farcall/farcall/io/XdrEncoder" "end" "I" (.int (Int32.ofNat 4)) := F_end196.keep Kq200 nin0
        have f207_A : own_Af Z T200.heap bb180 .byte 64 (fun j => .int ((own_put (fun _ : Nat => (0 : Int32)) 0 i2) j)) := A_b196.keep Kq200 nin0
        obtain ⟨LL208, X208, N208⟩ : ∃ LL, Stand p l e room_1 s m #[(.int i0), (.int i1), (.int i2), (.int i3)] below meth c T200 LL 3 132 ∧ Fr n0 LL := ⟨_, X200, N200⟩
        have pre209 : ∀ t, own_s p e below T200 m 145 #[iv i0, iv i1, iv i2, iv i3, iv (0 : Int32), iv (1 : Int32), iv (0 : Int32), rv b172, iv (0 : Int32), iv (0 : Int32), iv (0 : Int32), iv (0 : Int32), iv (1 : Int32), .unset, .unset, .unset] [(.ref r200)] t → Steps p.tables e below S0 t := fun tX kX => pre199 _ (st200.trans kX)
        have pre210 : ∀ t, own_s p e below T200 m 154 #[iv i0, iv i1, iv i2, iv i3, iv (0 : Int32), iv (1 : Int32), iv (0 : Int32), rv b172, iv (0 : Int32), iv (0 : Int32), iv (0 : Int32), iv (0 : Int32), iv (1 : Int32), rv r200, .unset, .unset] [(.ref b172)] t → Steps p.tables e below S0 t := by
          intro tX kX
          refine pre209 _ ?_
          show own_s p e below T200 m 145 #[iv i0, iv i1, iv i2, iv i3, iv (0 : Int32), iv (1 : Int32), iv (0 : Int32), rv b172, iv (0 : Int32), iv (0 : Int32), iv (0 : Int32), iv (0 : Int32), iv (1 : Int32), .unset, .unset, .unset] [(.ref r200)] _
          refine XS.astore X208.here hx rfl (hb hby at_145) rfl rfl (l' := #[iv i0, iv i1, iv i2, iv i3, iv (0 : Int32), iv (1 : Int32), iv (0 : Int32), rv b172, iv (0 : Int32), iv (0 : Int32), iv (0 : Int32), iv (0 : Int32), iv (1 : Int32), rv r200, .unset, .unset]) rfl ?_
          refine XS.iload X208.here hx rfl (hb hby at_147) rfl ?_
          refine XS.ifNo X208.here hx rfl (hb hby at_149) rfl ((if0 _ _).trans (feq (by decide : ¬ ((1 : Int32) = (0 : Int32)))).1) ?_
          show own_s p e below T200 m 152 #[iv i0, iv i1, iv i2, iv i3, iv (0 : Int32), iv (1 : Int32), iv (0 : Int32), rv b172, iv (0 : Int32), iv (0 : Int32), iv (0 : Int32), iv (0 : Int32), iv (1 : Int32), rv r200, .unset, .unset] [] _
          refine XS.aload X208.here hx rfl (hb hby at_152) rfl rfl ?_
          exact kX
        obtain ⟨cq211, kq211, q211a, q211b, q211c⟩ := isOf hZ e200 f203_E
        obtain ⟨_, _, ⟨T211, L211, k211, n211⟩, -, X211, ⟨Lc211, hQ211, l211, y211, z211⟩, st211⟩ := X208.virtualBack hx (y := (⟨"com/example/farcall/farcall/io/XdrEncoder", "size", "()I"⟩ : MethodName)) (z := (⟨"com/example/farcall/farcall/io/XdrEncoder", "size", "()I"⟩ : MethodName)) hown (mvT hZ (hw _ (List.mem_of_getElem? (i := 40) rfl))) (mvT hZ (hw _ (List.mem_of_getElem? (i := 24) rfl))) (notFace_of_selects (args := #[]) (mvT hZ (hw _ (List.mem_of_getElem? (i := 26) rfl)))) (mvT hZ (hw _ (List.mem_of_getElem? (i := 26) rfl))) (mvT hZ (hw _ (List.mem_of_getElem? (i := 25) rfl))) (by decide) (backOf (W := 0) (rm6 l Z a0 hw [] b172 bb180 ((own_put (fun _ : Nat => (0 : Int32)) 0 i2)) 0 4 T200.heap n0 Z200 f203_E f204_F f205_F f206_F f207_A ne_ab196 fg196 g_a196 g_b196 (by decide) (by decide)) hZ (hw _ (List.mem_of_getElem? (i := 27) rfl)) (hw _ (List.mem_of_getElem? (i := 2) rfl)) (by decide) (by decide)) q211a q211c (g := (mkF m 154 #[iv i0, iv i1, iv i2, iv i3, iv (0 : Int32), iv (1 : Int32), iv (0 : Int32), rv b172, iv (0 : Int32), iv (0 : Int32), iv (0 : Int32), iv (0 : Int32), iv (1 : Int32), rv r200, .unset, .unset] [(.ref b172)])) rfl (by rw [hml]; rfl) (Steps.refl _) (argsL := []) (rest := []) (lenOf pd0_1 rfl) rfl (by show 2 * 0 + _ ≤ _; exact Nat.le_of_eq rfl) (hb hby at_154) (fun _ _ => ⟨rfl, e200, (by decide : 3 + 0 ≤ _), (by decide : 132 + 0 ≤ _)⟩)
        dsimp only [Pt.U, Pt.locs, Pt.cells, Pt.slots] at X211 l211 y211 z211 st211 hQ211
        subst l211 y211 z211
        obtain ⟨rfl, Nq211, e211⟩ := hQ211
        have N211 := Fr.app N208 Nq211
        obtain ⟨LL212, X212, N212⟩ : ∃ LL, Stand p l e room_1 s m #[(.int i0), (.int i1), (.int i2), (.int i3)] below meth c T211 LL 3 132 ∧ Fr n0 LL := ⟨_, X211, N211⟩
        have pre213 : ∀ t, own_s p e below T211 m 157 #[iv i0, iv i1, iv i2, iv i3, iv (0 : Int32), iv (1 : Int32), iv (0 : Int32), rv b172, iv (0 : Int32), iv (0 : Int32), iv (0 : Int32), iv (0 : Int32), iv (1 : Int32), rv r200, .unset, .unset] [(.int (4 : Int32))] t → Steps p.tables e below S0 t := fun tX kX => pre210 _ (st211.trans kX)
        have pre215 : ∀ t, own_s p e below T211 m 163 #[iv i0, iv i1, iv i2, iv i3, iv (0 : Int32), iv (1 : Int32), iv (0 : Int32), rv b172, iv (0 : Int32), iv (0 : Int32), iv (0 : Int32), iv (0 : Int32), iv (1 : Int32), rv r200, .unset, .unset] [(.ref r200)] t → Steps p.tables e below S0 t := by
          intro tX kX
          refine pre213 _ ?_
          show own_s p e below T211 m 157 #[iv i0, iv i1, iv i2, iv i3, iv (0 : Int32), iv (1 : Int32), iv (0 : Int32), rv b172, iv (0 : Int32), iv (0 : Int32), iv (0 : Int32), iv (0 : Int32), iv (1 : Int32), rv r200, .unset, .unset] [(.int (4 : Int32))] _
          refine XS.iconst X212.here hx rfl (hb hby at_157) ?_
          refine XS.icmpNo X212.here hx rfl (hb hby at_158) rfl (teq (by decide : (4 : Int32) = (4 : Int32))).2 ?_
          refine XS.aload X212.here hx rfl (hb hby at_161) rfl rfl ?_
          exact kX
        obtain ⟨cl214, Ar214, S214, M214, H214⟩ := id fA200
        have pre217 : ∀ t, own_s p e below T211 m 171 #[iv i0, iv i1, iv i2, iv i3, iv (0 : Int32), iv (1 : Int32), iv (0 : Int32), rv b172, iv (0 : Int32), iv (0 : Int32), iv (0 : Int32), iv (0 : Int32), iv (1 : Int32), rv r200, .unset, .unset] [(.int (0 : Int32)), (.ref r200)] t → Steps p.tables e below S0 t := by
          intro tX kX
          refine pre215 _ ?_
          show own_s p e below T211 m 163 #[iv i0, iv i1, iv i2, iv i3, iv (0 : Int32), iv (1 : Int32), iv (0 : Int32), rv b172, iv (0 : Int32), iv (0 : Int32), iv (0 : Int32), iv (0 : Int32), iv (1 : Int32), rv r200, .unset, .unset] [(.ref r200)] _
          refine X212.arraylength hx (by rw [e211]; exact Ar214.1) (State.isArrayOf_alike hZ.alike Ar214.2.1) (g := (mkF m 163 #[iv i0, iv i1, iv i2, iv i3, iv (0 : Int32), iv (1 : Int32), iv (0 : Int32), rv b172, iv (0 : Int32), iv (0 : Int32), iv (0 : Int32), iv (0 : Int32), iv (1 : Int32), rv r200, .unset, .unset] [(.ref r200)])) rfl rfl (hb hby at_163) _ ?_
          rw [show cl214.slots.size.toInt32 = (4 : Int32) from by rw [S214]; exact rfl]
          refine XS.iconst X212.here hx rfl (hb hby at_164) ?_
          refine XS.icmpNo X212.here hx rfl (hb hby at_165) rfl (teq (by decide : (4 : Int32) = (4 : Int32))).2 ?_
          show own_s p e below T211 m 168 #[iv i0, iv i1, iv i2, iv i3, iv (0 : Int32), iv (1 : Int32), iv (0 : Int32), rv b172, iv (0 : Int32), iv (0 : Int32), iv (0 : Int32), iv (0 : Int32), iv (1 : Int32), rv r200, .unset, .unset] [] _
          refine XS.aload X212.here hx rfl (hb hby at_168) rfl rfl ?_
          refine XS.iconst X212.here hx rfl (hb hby at_170) ?_
          exact kX
        obtain ⟨cl216, Ar216, S216, M216, H216⟩ := id fA200
        have pre219 : ∀ t, own_s p e below T211 m 183 #[iv i0, iv i1, iv i2, iv i3, iv (0 : Int32), iv (1 : Int32), iv (0 : Int32), rv b172, iv (0 : Int32), iv (0 : Int32), iv (0 : Int32), iv (0 : Int32), iv (1 : Int32), rv r200, .unset, .unset] [(.int (1 : Int32)), (.ref r200)] t → Steps p.tables e below S0 t := by
          intro tX kX
          refine pre217 _ ?_
          show own_s p e below T211 m 171 #[iv i0, iv i1, iv i2, iv i3, iv (0 : Int32), iv (1 : Int32), iv (0 : Int32), rv b172, iv (0 : Int32), iv (0 : Int32), iv (0 : Int32), iv (0 : Int32), iv (1 : Int32), rv r200, .unset, .unset] [(.int (0 : Int32)), (.ref r200)] _
          refine X212.baloadBytes hx (j := (0 : Int32)) (v := (.int (((i2.toUInt32 >>> ((24 : Int32) &&& 31).toUInt32).toInt32).toInt8.toInt32))) (by rw [e211]; exact Ar216.1) (State.isArrayOf_alike hZ.alike Ar216.2.1) Ar216.2.2 (own_inb S216 M216 (by decide)) (own_get H216 S216 (by decide) (show Value.int ((own_put (fun _ : Nat => (0 : Int32)) 0 i2) (0 + 0)) = Value.int (((i2.toUInt32 >>> ((24 : Int32) &&& 31).toUInt32).toInt32).toInt8.toInt32) from congrArg Value.int (((own_put_in (by decide) (by decide)).trans (congrArg (own_by i2) (show _ = 0 from by decide))).trans (show own_by i2 0 = (((i2.toUInt32 >>> ((24 : Int32) &&& 31).toUInt32).toInt32).toInt8.toInt32) from rfl)))) (g := (mkF m 171 #[iv i0, iv i1, iv i2, iv i3, iv (0 : Int32), iv (1 : Int32), iv (0 : Int32), rv b172, iv (0 : Int32), iv (0 : Int32), iv (0 : Int32), iv (0 : Int32), iv (1 : Int32), rv r200, .unset, .unset] [(.int (0 : Int32)), (.ref r200)])) rfl rfl (hb hby at_171) _ ?_
          refine XS.iloadN X212.here hx rfl (hb hby at_172) rfl ?_
          refine XS.bipush X212.here hx rfl (hb hby at_173) ?_
          show own_s p e below T211 m 175 #[iv i0, iv i1, iv i2, iv i3, iv (0 : Int32), iv (1 : Int32), iv (0 : Int32), rv b172, iv (0 : Int32), iv (0 : Int32), iv (0 : Int32), iv (0 : Int32), iv (1 : Int32), rv r200, .unset, .unset] [(.int (24 : Int32)), (.int i2), (.int (((i2.toUInt32 >>> ((24 : Int32) &&& 31).toUInt32).toInt32).toInt8.toInt32))] _
          refine XS.iushr X212.here hx rfl (hb hby at_175) rfl ?_
          refine XS.i2b X212.here hx rfl (hb hby at_176) rfl ?_
          refine XS.icmpNo X212.here hx rfl (hb hby at_177) rfl (teq (rfl : (((i2.toUInt32 >>> ((24 : Int32) &&& 31).toUInt32).toInt32).toInt8.toInt32) = (((i2.toUInt32 >>> ((24 : Int32) &&& 31).toUInt32).toInt32).toInt8.toInt32))).2 ?_
          show own_s p e below T211 m 180 #[iv i0, iv i1, iv i2, iv i3, iv (0 : Int32), iv (1 : Int32), iv (0 : Int32), rv b172, iv (0 : Int32), iv (0 : Int32), iv (0 : Int32), iv (0 : Int32), iv (1 : Int32), rv r200, .unset, .unset] [] _
          refine XS.aload X212.here hx rfl (hb hby at_180) rfl rfl ?_
          refine XS.iconst X212.here hx rfl (hb hby at_182) ?_
          exact kX
        obtain ⟨cl218, Ar218, S218, M218, H218⟩ := id fA200
        have pre221 : ∀ t, own_s p e below T211 m 195 #[iv i0, iv i1, iv i2, iv i3, iv (0 : Int32), iv (1 : Int32), iv (0 : Int32), rv b172, iv (0 : Int32), iv (0 : Int32), iv (0 : Int32), iv (0 : Int32), iv (1 : Int32), rv r200, .unset, .unset] [(.int (2 : Int32)), (.ref r200)] t → Steps p.tables e below S0 t := by
          intro tX kX
          refine pre219 _ ?_
          show own_s p e below T211 m 183 #[iv i0, iv i1, iv i2, iv i3, iv (0 : Int32), iv (1 : Int32), iv (0 : Int32), rv b172, iv (0 : Int32), iv (0 : Int32), iv (0 : Int32), iv (0 : Int32), iv (1 : Int32), rv r200, .unset, .unset] [(.int (1 : Int32)), (.ref r200)] _
          refine X212.baloadBytes hx (j := (1 : Int32)) (v := (.int (((i2.toUInt32 >>> ((16 : Int32) &&& 31).toUInt32).toInt32).toInt8.toInt32))) (by rw [e211]; exact Ar218.1) (State.isArrayOf_alike hZ.alike Ar218.2.1) Ar218.2.2 (own_inb S218 M218 (by decide)) (own_get H218 S218 (by decide) (show Value.int ((own_put (fun _ : Nat => (0 : Int32)) 0 i2) (0 + 1)) = Value.int (((i2.toUInt32 >>> ((16 : Int32) &&& 31).toUInt32).toInt32).toInt8.toInt32) from congrArg Value.int (((own_put_in (by decide) (by decide)).trans (congrArg (own_by i2) (show _ = 1 from by decide))).trans (show own_by i2 1 = (((i2.toUInt32 >>> ((16 : Int32) &&& 31).toUInt32).toInt32).toInt8.toInt32) from rfl)))) (g := (mkF m 183 #[iv i0, iv i1, iv i2, iv i3, iv (0 : Int32), iv (1 : Int32), iv (0 : Int32), rv b172, iv (0 : Int32), iv (0 : Int32), iv (0 : Int32), iv (0 : Int32), iv (1 : Int32), rv r200, .unset, .unset] [(.int (1 : Int32)), (.ref r200)])) rfl rfl (hb hby at_183) _ ?_
          refine XS.iloadN X212.here hx rfl (hb hby at_184) rfl ?_
          refine XS.bipush X212.here hx rfl (hb hby at_185) ?_
          show own_s p e below T211 m 187 #[iv i0, iv i1, iv i2, iv i3, iv (0 : Int32), iv (1 : Int32), iv (0 : Int32), rv b172, iv (0 : Int32), iv (0 : Int32), iv (0 : Int32), iv (0 : Int32), iv (1 : Int32), rv r200, .unset, .unset] [(.int (16 : Int32)), (.int i2), (.int (((i2.toUInt32 >>> ((16 : Int32) &&& 31).toUInt32).toInt32).toInt8.toInt32))] _
          refine XS.iushr X212.here hx rfl (hb hby at_187) rfl ?_
          refine XS.i2b X212.here hx rfl (hb hby at_188) rfl ?_
          refine XS.icmpNo X212.here hx rfl (hb hby at_189) rfl (teq (rfl : (((i2.toUInt32 >>> ((16 : Int32) &&& 31).toUInt32).toInt32).toInt8.toInt32) = (((i2.toUInt32 >>> ((16 : Int32) &&& 31).toUInt32).toInt32).toInt8.toInt32))).2 ?_
          show own_s p e below T211 m 192 #[iv i0, iv i1, iv i2, iv i3, iv (0 : Int32), iv (1 : Int32), iv (0 : Int32), rv b172, iv (0 : Int32), iv (0 : Int32), iv (0 : Int32), iv (0 : Int32), iv (1 : Int32), rv r200, .unset, .unset] [] _
          refine XS.aload X212.here hx rfl (hb hby at_192) rfl rfl ?_
          refine XS.iconst X212.here hx rfl (hb hby at_194) ?_
          exact kX
        obtain ⟨cl220, Ar220, S220, M220, H220⟩ := id fA200
        have pre223 : ∀ t, own_s p e below T211 m 207 #[iv i0, iv i1, iv i2, iv i3, iv (0 : Int32), iv (1 : Int32), iv (0 : Int32), rv b172, iv (0 : Int32), iv (0 : Int32), iv (0 : Int32), iv (0 : Int32), iv (1 : Int32), rv r200, .unset, .unset] [(.int (3 : Int32)), (.ref r200)] t → Steps p.tables e below S0 t := by
          intro tX kX
          refine pre221 _ ?_
          show own_s p e below T211 m 195 #[iv i0, iv i1, iv i2, iv i3, iv (0 : Int32), iv (1 : Int32), iv (0 : Int32), rv b172, iv (0 : Int32), iv (0 : Int32), iv (0 : Int32), iv (0 : Int32), iv (1 : Int32), rv r200, .unset, .unset] [(.int (2 : Int32)), (.ref r200)] _
          refine X212.baloadBytes hx (j := (2 : Int32)) (v := (.int (((i2.toUInt32 >>> ((8 : Int32) &&& 31).toUInt32).toInt32).toInt8.toInt32))) (by rw [e211]; exact Ar220.1) (State.isArrayOf_alike hZ.alike Ar220.2.1) Ar220.2.2 (own_inb S220 M220 (by decide)) (own_get H220 S220 (by decide) (show Value.int ((own_put (fun _ : Nat => (0 : Int32)) 0 i2) (0 + 2)) = Value.int (((i2.toUInt32 >>> ((8 : Int32) &&& 31).toUInt32).toInt32).toInt8.toInt32) from congrArg Value.int (((own_put_in (by decide) (by decide)).trans (congrArg (own_by i2) (show _ = 2 from by decide))).trans (show own_by i2 2 = (((i2.toUInt32 >>> ((8 : Int32) &&& 31).toUInt32).toInt32).toInt8.toInt32) from rfl)))) (g := (mkF m 195 #[iv i0, iv i1, iv i2, iv i3, iv (0 : Int32), iv (1 : Int32), iv (0 : Int32), rv b172, iv (0 : Int32), iv (0 : Int32), iv (0 : Int32), iv (0 : Int32), iv (1 : Int32), rv r200, .unset, .unset] [(.int (2 : Int32)), (.ref r200)])) rfl rfl (hb hby at_195) _ ?_
          refine XS.iloadN X212.here hx rfl (hb hby at_196) rfl ?_
          refine XS.bipush X212.here hx rfl (hb hby at_197) ?_
          show own_s p e below T211 m 199 #[iv i0, iv i1, iv i2, iv i3, iv (0 : Int32), iv (1 : Int32), iv (0 : Int32), rv b172, iv (0 : Int32), iv (0 : Int32), iv (0 : Int32), iv (0 : Int32), iv (1 : Int32), rv r200, .unset, .unset] [(.int (8 : Int32)), (.int i2), (.int (((i2.toUInt32 >>> ((8 : Int32) &&& 31).toUInt32).toInt32).toInt8.toInt32))] _
          refine XS.iushr X212.here hx rfl (hb hby at_199) rfl ?_
          refine XS.i2b X212.here hx rfl (hb hby at_200) rfl ?_
          refine XS.icmpNo X212.here hx rfl (hb hby at_201) rfl (teq (rfl : (((i2.toUInt32 >>> ((8 : Int32) &&& 31).toUInt32).toInt32).toInt8.toInt32) = (((i2.toUInt32 >>> ((8 : Int32) &&& 31).toUInt32).toInt32).toInt8.toInt32))).2 ?_
          show own_s p e below T211 m 204 #[iv i0, iv i1, iv i2, iv i3, iv (0 : Int32), iv (1 : Int32), iv (0 : Int32), rv b172, iv (0 : Int32), iv (0 : Int32), iv (0 : Int32), iv (0 : Int32), iv (1 : Int32), rv r200, .unset, .unset] [] _
          refine XS.aload X212.here hx rfl (hb hby at_204) rfl rfl ?_
          refine XS.iconst X212.here hx rfl (hb hby at_206) ?_
          exact kX
        obtain ⟨cl222, Ar222, S222, M222, H222⟩ := id fA200
        have pre224 : ∀ t, own_s p e below T211 m 231 #[iv i0, iv i1, iv i2, iv i3, iv (0 : Int32), iv (1 : Int32), iv (0 : Int32), rv b172, iv (0 : Int32), iv (0 : Int32), iv (0 : Int32), iv (0 : Int32), iv (1 : Int32), rv r200, .unset, .unset] [(.int (0 : Int32)), (.ref b172)] t → Steps p.tables e below S0 t := by
          intro tX kX
          refine pre223 _ ?_
          show own_s p e below T211 m 207 #[iv i0, iv i1, iv i2, iv i3, iv (0 : Int32), iv (1 : Int32), iv (0 : Int32), rv b172, iv (0 : Int32), iv (0 : Int32), iv (0 : Int32), iv (0 : Int32), iv (1 : Int32), rv r200, .unset, .unset] [(.int (3 : Int32)), (.ref r200)] _
          refine X212.baloadBytes hx (j := (3 : Int32)) (v := (.int (i2.toInt8.toInt32))) (by rw [e211]; exact Ar222.1) (State.isArrayOf_alike hZ.alike Ar222.2.1) Ar222.2.2 (own_inb S222 M222 (by decide)) (own_get H222 S222 (by decide) (show Value.int ((own_put (fun _ : Nat => (0 : Int32)) 0 i2) (0 + 3)) = Value.int (i2.toInt8.toInt32) from congrArg Value.int (((own_put_in (by decide) (by decide)).trans (congrArg (own_by i2) (show _ = 3 from by decide))).trans (show own_by i2 3 = (i2.toInt8.toInt32) from rfl)))) (g := (mkF m 207 #[iv i0, iv i1, iv i2, iv i3, iv (0 : Int32), iv (1 : Int32), iv (0 : Int32), rv b172, iv (0 : Int32), iv (0 : Int32), iv (0 : Int32), iv (0 : Int32), iv (1 : Int32), rv r200, .unset, .unset] [(.int (3 : Int32)), (.ref r200)])) rfl rfl (hb hby at_207) _ ?_
          refine XS.iloadN X212.here hx rfl (hb hby at_208) rfl ?_
          refine XS.i2b X212.here hx rfl (hb hby at_209) rfl ?_
          show own_s p e below T211 m 210 #[iv i0, iv i1, iv i2, iv i3, iv (0 : Int32), iv (1 : Int32), iv (0 : Int32), rv b172, iv (0 : Int32), iv (0 : Int32), iv (0 : Int32), iv (0 : Int32), iv (1 : Int32), rv r200, .unset, .unset] [(.int (i2.toInt8.toInt32)), (.int (i2.toInt8.toInt32))] _
          refine XS.icmpNo X212.here hx rfl (hb hby at_210) rfl (teq (rfl : (i2.toInt8.toInt32) = (i2.toInt8.toInt32))).2 ?_
          refine XS.iconst X212.here hx rfl (hb hby at_213) ?_
          refine XS.goto X212.here hx rfl (pc0 := 214) (pc' := 218) rfl (hb hby at_214) (by decide) (by decide) ?_
          show own_s p e below T211 m 218 #[iv i0, iv i1, iv i2, iv i3, iv (0 : Int32), iv (1 : Int32), iv (0 : Int32), rv b172, iv (0 : Int32), iv (0 : Int32), iv (0 : Int32), iv (0 : Int32), iv (1 : Int32), rv r200, .unset, .unset] [(.int (1 : Int32))] _
          refine XS.istore X212.here hx rfl (hb hby at_218) rfl (l' := #[iv i0, iv i1, iv i2, iv i3, iv (0 : Int32), iv (1 : Int32), iv (0 : Int32), rv b172, iv (0 : Int32), iv (0 : Int32), iv (0 : Int32), iv (0 : Int32), iv (1 : Int32), rv r200, .unset, .unset]) rfl ?_
          refine XS.iload X212.here hx rfl (hb hby at_220) rfl ?_
          refine XS.ifYes X212.here hx rfl (pc0 := 222) (pc' := 227) rfl (hb hby at_222) rfl ((if0 _ _).trans (feq (by decide : ¬ ((1 : Int32) = (0 : Int32)))).2) (by decide) (by decide) ?_
          show own_s p e below T211 m 227 #[iv i0, iv i1, iv i2, iv i3, iv (0 : Int32), iv (1 : Int32), iv (0 : Int32), rv b172, iv (0 : Int32), iv (0 : Int32), iv (0 : Int32), iv (0 : Int32), iv (1 : Int32), rv r200, .unset, .unset] [] _
          refine XS.aload X212.here hx rfl (hb hby at_227) rfl rfl ?_
          refine XS.iload X212.here hx rfl (hb hby at_229) rfl ?_
          exact kX
        obtain ⟨cq225, kq225, q225a, q225b, q225c⟩ := isOf hZ e211 f203_E
        obtain ⟨_, _, ⟨T225, L225, k225, n225⟩, -, X225, ⟨Lc225, hQ225, l225, y225, z225⟩, st225⟩ := X212.virtualBack hx (y := (⟨"com/example/farcall/farcall/io/XdrEncoder", "endPart", "(I)V"⟩ : MethodName)) (z := (⟨"com/example/farcall/farcall/io/XdrEncoder", "endPart", "(I)V"⟩ : MethodName)) hown (mvT hZ (hw _ (List.mem_of_getElem? (i := 64) rfl))) (mvT hZ (hw _ (List.mem_of_getElem? (i := 65) rfl))) (notFace_of_selects (args := #[]) (mvT hZ (hw _ (List.mem_of_getElem? (i := 67) rfl)))) (mvT hZ (hw _ (List.mem_of_getElem? (i := 67) rfl))) (mvT hZ (hw _ (List.mem_of_getElem? (i := 66) rfl))) (by decide) (backOf (W := 0) (rm11 l Z a0 hw [] b172 (0 : Int32) bb180 ((own_put (fun _ : Nat => (0 : Int32)) 0 i2)) 0 4 0 T200.heap n0 Z200 f203_E f204_F f205_F f206_F f207_A ne_ab196 fg196 g_a196 g_b196 rfl (by decide) (by decide)) hZ (hw _ (List.mem_of_getElem? (i := 68) rfl)) (hw _ (List.mem_of_getElem? (i := 2) rfl)) (by decide) (by decide)) q225a q225c (g := (mkF m 231 #[iv i0, iv i1, iv i2, iv i3, iv (0 : Int32), iv (1 : Int32), iv (0 : Int32), rv b172, iv (0 : Int32), iv (0 : Int32), iv (0 : Int32), iv (0 : Int32), iv (1 : Int32), rv r200, .unset, .unset] [(.int (0 : Int32)), (.ref b172)])) rfl (by rw [hml]; rfl) (Steps.refl _) (argsL := [(.int (0 : Int32))]) (rest := []) (lenOf pd0_4 rfl) rfl (by show 2 * 0 + _ ≤ _; exact Nat.le_of_eq rfl) (hb hby at_231) (fun _ _ => ⟨rfl, e211, (by decide : 3 + 0 ≤ _), (by decide : 132 + 0 ≤ _)⟩)
        dsimp only [Pt.U, Pt.locs, Pt.cells, Pt.slots] at X225 l225 y225 z225 st225 hQ225
        subst l225 y225 z225
        obtain ⟨rfl, Nq225, Kq225, E_a225, F_buf225, F_sta225, F_end225, A_b225, ne_ab225, fg225, g_a225, g_b225⟩ := hQ225
        have N225 := Fr.app N212 Nq225
        have e225 : T225.heap = T225.heap := rfl
        have Z225 : n0 ≤ T225.heap.size := Nat.le_trans Z200 Kq225.1
        have f226_A : own_Af Z T225.heap r200 .byte 4 (fun j => .int ((own_put (fun _ : Nat => (0 : Int32)) 0 i2) (0 + j))) := fA200.keep Kq225 (ninS (Ne.symm ne201) (nin0))
        obtain ⟨LL227, X227, N227⟩ : ∃ LL, Stand p l e room_1 s m #[(.int i0), (.int i1), (.int i2), (.int i3)] below meth c T225 LL 3 132 ∧ Fr n0 LL := ⟨_, X225, N225⟩
        have pre228 : ∀ t, own_s p e below T225 m 234 #[iv i0, iv i1, iv i2, iv i3, iv (0 : Int32), iv (1 : Int32), iv (0 : Int32), rv b172, iv (0 : Int32), iv (0 : Int32), iv (0 : Int32), iv (0 : Int32), iv (1 : Int32), rv r200, .unset, .unset] [] t → Steps p.tables e below S0 t := fun tX kX => pre224 _ (st225.trans kX)
        have pre229 : ∀ t, own_s p e below T225 m 257 #[iv i0, iv i1, iv i2, iv i3, iv (0 : Int32), iv (1 : Int32), iv (0 : Int32), rv b172, iv (0 : Int32), iv (0 : Int32), iv (0 : Int32), iv (0 : Int32), iv (1 : Int32), rv r200, iv (4 : Int32), .unset] [(.ref b172)] t → Steps p.tables e below S0 t := by
          intro tX kX
          refine pre228 _ ?_
          show own_s p e below T225 m 234 #[iv i0, iv i1, iv i2, iv i3, iv (0 : Int32), iv (1 : Int32), iv (0 : Int32), rv b172, iv (0 : Int32), iv (0 : Int32), iv (0 : Int32), iv (0 : Int32), iv (1 : Int32), rv r200, .unset, .unset] [] _
          refine XS.iload X227.here hx rfl (hb hby at_234) rfl ?_
          refine XS.ifNo X227.here hx rfl (hb hby at_236) rfl ((if0 _ _).trans (feq (by decide : ¬ ((1 : Int32) = (0 : Int32)))).1) ?_
          refine XS.iload X227.here hx rfl (hb hby at_239) rfl ?_
          show own_s p e below T225 m 241 #[iv i0, iv i1, iv i2, iv i3, iv (0 : Int32), iv (1 : Int32), iv (0 : Int32), rv b172, iv (0 : Int32), iv (0 : Int32), iv (0 : Int32), iv (0 : Int32), iv (1 : Int32), rv r200, .unset, .unset] [(.int (0 : Int32))] _
          refine XS.iconst X227.here hx rfl (hb hby at_241) ?_
          refine XS.iadd X227.here hx rfl (hb hby at_242) rfl ?_
          refine XS.goto X227.here hx rfl (pc0 := 243) (pc' := 253) rfl (hb hby at_243) (by decide) (by decide) ?_
          show own_s p e below T225 m 253 #[iv i0, iv i1, iv i2, iv i3, iv (0 : Int32), iv (1 : Int32), iv (0 : Int32), rv b172, iv (0 : Int32), iv (0 : Int32), iv (0 : Int32), iv (0 : Int32), iv (1 : Int32), rv r200, .unset, .unset] [(.int (4 : Int32))] _
          refine XS.istore X227.here hx rfl (hb hby at_253) rfl (l' := #[iv i0, iv i1, iv i2, iv i3, iv (0 : Int32), iv (1 : Int32), iv (0 : Int32), rv b172, iv (0 : Int32), iv (0 : Int32), iv (0 : Int32), iv (0 : Int32), iv (1 : Int32), rv r200, iv (4 : Int32), .unset]) rfl ?_
          refine XS.aload X227.here hx rfl (hb hby at_255) rfl rfl ?_
          exact kX
        obtain ⟨cq230, kq230, q230a, q230b, q230c⟩ := isOf hZ e225 E_a225
        obtain ⟨_, _, ⟨T230, L230, k230, n230⟩, -, X230, ⟨Lc230, hQ230, l230, y230, z230⟩, st230⟩ := X227.virtualBack hx (y := (⟨"com/example/farcall/farcall/io/XdrEncoder", "size", "()I"⟩ : MethodName)) (z := (⟨"com/example/farcall/farcall/io/XdrEncoder", "size", "()I"⟩ : MethodName)) hown (mvT hZ (hw _ (List.mem_of_getElem? (i := 40) rfl))) (mvT hZ (hw _ (List.mem_of_getElem? (i := 24) rfl))) (notFace_of_selects (args := #[]) (mvT hZ (hw _ (List.mem_of_getElem? (i := 26) rfl)))) (mvT hZ (hw _ (List.mem_of_getElem? (i := 26) rfl))) (mvT hZ (hw _ (List.mem_of_getElem? (i := 25) rfl))) (by decide) (backOf (W := 0) (rm6 l Z a0 hw [] b172 bb180 ((own_put (fun _ : Nat => (0 : Int32)) 0 i2)) 0 4 T225.heap n0 Z225 E_a225 F_buf225 F_sta225 F_end225 A_b225 ne_ab225 fg225 g_a225 g_b225 (by decide) (by decide)) hZ (hw _ (List.mem_of_getElem? (i := 27) rfl)) (hw _ (List.mem_of_getElem? (i := 2) rfl)) (by decide) (by decide)) q230a q230c (g := (mkF m 257 #[iv i0, iv i1, iv i2, iv i3, iv (0 : Int32), iv (1 : Int32), iv (0 : Int32), rv b172, iv (0 : Int32), iv (0 : Int32), iv (0 : Int32), iv (0 : Int32), iv (1 : Int32), rv r200, iv (4 : Int32), .unset] [(.ref b172)])) rfl (by rw [hml]; rfl) (Steps.refl _) (argsL := []) (rest := []) (lenOf pd0_1 rfl) rfl (by show 2 * 0 + _ ≤ _; exact Nat.le_of_eq rfl) (hb hby at_257) (fun _ _ => ⟨rfl, e225, (by decide : 3 + 0 ≤ _), (by decide : 132 + 0 ≤ _)⟩)
        dsimp only [Pt.U, Pt.locs, Pt.cells, Pt.slots] at X230 l230 y230 z230 st230 hQ230
        subst l230 y230 z230
        obtain ⟨rfl, Nq230, e230⟩ := hQ230
        have N230 := Fr.app N227 Nq230
        obtain ⟨LL231, X231, N231⟩ : ∃ LL, Stand p l e room_1 s m #[(.int i0), (.int i1), (.int i2), (.int i3)] below meth c T230 LL 3 132 ∧ Fr n0 LL := ⟨_, X230, N230⟩
        have pre232 : ∀ t, own_s p e below T230 m 260 #[iv i0, iv i1, iv i2, iv i3, iv (0 : Int32), iv (1 : Int32), iv (0 : Int32), rv b172, iv (0 : Int32), iv (0 : Int32), iv (0 : Int32), iv (0 : Int32), iv (1 : Int32), rv r200, iv (4 : Int32), .unset] [(.int (4 : Int32))] t → Steps p.tables e below S0 t := fun tX kX => pre229 _ (st230.trans kX)
        have pre233 : ∀ t, own_s p e below T230 m 312 #[iv i0, iv i1, iv i2, iv i3, iv (0 : Int32), iv (1 : Int32), iv (0 : Int32), rv b172, iv (0 : Int32), iv (0 : Int32), iv (0 : Int32), iv (0 : Int32), iv (1 : Int32), rv r200, iv (4 : Int32), .unset] [(.int (0 : Int32)), (.ref b172)] t → Steps p.tables e below S0 t := by
          intro tX kX
          refine pre232 _ ?_
          show own_s p e below T230 m 260 #[iv i0, iv i1, iv i2, iv i3, iv (0 : Int32), iv (1 : Int32), iv (0 : Int32), rv b172, iv (0 : Int32), iv (0 : Int32), iv (0 : Int32), iv (0 : Int32), iv (1 : Int32), rv r200, iv (4 : Int32), .unset] [(.int (4 : Int32))] _
          refine XS.iload X231.here hx rfl (hb hby at_260) rfl ?_
          refine XS.icmpNo X231.here hx rfl (hb hby at_262) rfl (teq (by decide : (4 : Int32) = (4 : Int32))).2 ?_
          refine XS.iconst X231.here hx rfl (hb hby at_265) ?_
          show own_s p e below T230 m 266 #[iv i0, iv i1, iv i2, iv i3, iv (0 : Int32), iv (1 : Int32), iv (0 : Int32), rv b172, iv (0 : Int32), iv (0 : Int32), iv (0 : Int32), iv (0 : Int32), iv (1 : Int32), rv r200, iv (4 : Int32), .unset] [(.int (1 : Int32))] _
          refine XS.goto X231.here hx rfl (pc0 := 266) (pc' := 270) rfl (hb hby at_266) (by decide) (by decide) ?_
          refine XS.istore X231.here hx rfl (hb hby at_270) rfl (l' := #[iv i0, iv i1, iv i2, iv i3, iv (0 : Int32), iv (1 : Int32), iv (0 : Int32), rv b172, iv (0 : Int32), iv (0 : Int32), iv (0 : Int32), iv (0 : Int32), iv (1 : Int32), rv r200, iv (4 : Int32), .unset]) rfl ?_
          refine XS.iload X231.here hx rfl (hb hby at_272) rfl ?_
          show own_s p e below T230 m 274 #[iv i0, iv i1, iv i2, iv i3, iv (0 : Int32), iv (1 : Int32), iv (0 : Int32), rv b172, iv (0 : Int32), iv (0 : Int32), iv (0 : Int32), iv (0 : Int32), iv (1 : Int32), rv r200, iv (4 : Int32), .unset] [(.int (1 : Int32))] _
          refine XS.ifNo X231.here hx rfl (hb hby at_274) rfl ((if0 _ _).trans (feq (by decide : ¬ ((1 : Int32) = (0 : Int32)))).1) ?_
          refine XS.iload X231.here hx rfl (hb hby at_277) rfl ?_
          refine XS.ifNo X231.here hx rfl (hb hby at_279) rfl ((if0 _ _).trans (feq (by decide : ¬ ((1 : Int32) = (0 : Int32)))).1) ?_
          show own_s p e below T230 m 282 #[iv i0, iv i1, iv i2, iv i3, iv (0 : Int32), iv (1 : Int32), iv (0 : Int32), rv b172, iv (0 : Int32), iv (0 : Int32), iv (0 : Int32), iv (0 : Int32), iv (1 : Int32), rv r200, iv (4 : Int32), .unset] [] _
          refine XS.iload X231.here hx rfl (hb hby at_282) rfl ?_
          refine XS.ifNo X231.here hx rfl (hb hby at_284) rfl ((if0 _ _).trans (teq (by decide : (0 : Int32) = (0 : Int32))).2) ?_
          refine XS.iload X231.here hx rfl (hb hby at_287) rfl ?_
          show own_s p e below T230 m 289 #[iv i0, iv i1, iv i2, iv i3, iv (0 : Int32), iv (1 : Int32), iv (0 : Int32), rv b172, iv (0 : Int32), iv (0 : Int32), iv (0 : Int32), iv (0 : Int32), iv (1 : Int32), rv r200, iv (4 : Int32), .unset] [(.int (0 : Int32))] _
          refine XS.iload X231.here hx rfl (hb hby at_289) rfl ?_
          refine XS.icmpNo X231.here hx rfl (hb hby at_291) rfl (teq (by decide : (0 : Int32) = (0 : Int32))).2 ?_
          refine XS.iconst X231.here hx rfl (hb hby at_294) ?_
          show own_s p e below T230 m 295 #[iv i0, iv i1, iv i2, iv i3, iv (0 : Int32), iv (1 : Int32), iv (0 : Int32), rv b172, iv (0 : Int32), iv (0 : Int32), iv (0 : Int32), iv (0 : Int32), iv (1 : Int32), rv r200, iv (4 : Int32), .unset] [(.int (1 : Int32))] _
          refine XS.goto X231.here hx rfl (pc0 := 295) (pc' := 299) rfl (hb hby at_295) (by decide) (by decide) ?_
          refine XS.istore X231.here hx rfl (hb hby at_299) rfl (l' := #[iv i0, iv i1, iv i2, iv i3, iv (0 : Int32), iv (1 : Int32), iv (0 : Int32), rv b172, iv (0 : Int32), iv (0 : Int32), iv (0 : Int32), iv (0 : Int32), iv (1 : Int32), rv r200, iv (4 : Int32), .unset]) rfl ?_
          refine XS.iload X231.here hx rfl (hb hby at_301) rfl ?_
          show own_s p e below T230 m 303 #[iv i0, iv i1, iv i2, iv i3, iv (0 : Int32), iv (1 : Int32), iv (0 : Int32), rv b172, iv (0 : Int32), iv (0 : Int32), iv (0 : Int32), iv (0 : Int32), iv (1 : Int32), rv r200, iv (4 : Int32), .unset] [(.int (1 : Int32))] _
          refine XS.ifYes X231.here hx rfl (pc0 := 303) (pc' := 308) rfl (hb hby at_303) rfl ((if0 _ _).trans (feq (by decide : ¬ ((1 : Int32) = (0 : Int32)))).2) (by decide) (by decide) ?_
          refine XS.aload X231.here hx rfl (hb hby at_308) rfl rfl ?_
          refine XS.iload X231.here hx rfl (hb hby at_310) rfl ?_
          exact kX
        obtain ⟨cq234, kq234, q234a, q234b, q234c⟩ := isOf hZ e230 E_a225
        obtain ⟨_, _, ⟨T234, L234, k234, n234⟩, -, X234, ⟨Lc234, hQ234, l234, y234, z234⟩, st234⟩ := X231.virtualBack hx (y := (⟨"com/example/farcall/farcall/io/XdrEncoder", "endPart", "(I)V"⟩ : MethodName)) (z := (⟨"com/example/farcall/farcall/io/XdrEncoder", "endPart", "(I)V"⟩ : MethodName)) hown (mvT hZ (hw _ (List.mem_of_getElem? (i := 64) rfl))) (mvT hZ (hw _ (List.mem_of_getElem? (i := 65) rfl))) (notFace_of_selects (args := #[]) (mvT hZ (hw _ (List.mem_of_getElem? (i := 67) rfl)))) (mvT hZ (hw _ (List.mem_of_getElem? (i := 67) rfl))) (mvT hZ (hw _ (List.mem_of_getElem? (i := 66) rfl))) (by decide) (backOf (W := 0) (rm11 l Z a0 hw [] b172 (0 : Int32) bb180 ((own_put (fun _ : Nat => (0 : Int32)) 0 i2)) 0 4 0 T225.heap n0 Z225 E_a225 F_buf225 F_sta225 F_end225 A_b225 ne_ab225 fg225 g_a225 g_b225 rfl (by decide) (by decide)) hZ (hw _ (List.mem_of_getElem? (i := 68) rfl)) (hw _ (List.mem_of_getElem? (i := 2) rfl)) (by decide) (by decide)) q234a q234c (g := (mkF m 312 #[iv i0, iv i1, iv i2, iv i3, iv (0 : Int32), iv (1 : Int32), iv (0 : Int32), rv b172, iv (0 : Int32), iv (0 : Int32), iv (0 : Int32), iv (0 : Int32), iv (1 : Int32), rv r200, iv (4 : Int32), .unset] [(.int (0 : Int32)), (.ref b172)])) rfl (by rw [hml]; rfl) (Steps.refl _) (argsL := [(.int (0 : Int32))]) (rest := []) (lenOf pd0_4 rfl) rfl (by show 2 * 0 + _ ≤ _; exact Nat.le_of_eq rfl) (hb hby at_312) (fun _ _ => ⟨rfl, e230, (by decide : 3 + 0 ≤ _), (by decide : 132 + 0 ≤ _)⟩)
        dsimp only [Pt.U, Pt.locs, Pt.cells, Pt.slots] at X234 l234 y234 z234 st234 hQ234
        subst l234 y234 z234
        obtain ⟨rfl, Nq234, Kq234, E_a234, F_buf234, F_sta234, F_end234, A_b234, ne_ab234, fg234, g_a234, g_b234⟩ := hQ234
        have N234 := Fr.app N231 Nq234
        have e234 : T234.heap = T234.heap := rfl
        have Z234 : n0 ≤ T234.heap.size := Nat.le_trans Z225 Kq234.1
        have f235_A : own_Af Z T234.heap r200 .byte 4 (fun j => .int ((own_put (fun _ : Nat => (0 : Int32)) 0 i2) (0 + j))) := f226_A.keep Kq234 (ninS (Ne.symm ne201) (nin0))
        obtain ⟨LL236, X236, N236⟩ : ∃ LL, Stand p l e room_1 s m #[(.int i0), (.int i1), (.int i2), (.int i3)] below meth c T234 LL 3 132 ∧ Fr n0 LL := ⟨_, X234, N234⟩
        have pre237 : ∀ t, own_s p e below T234 m 315 #[iv i0, iv i1, iv i2, iv i3, iv (0 : Int32), iv (1 : Int32), iv (0 : Int32), rv b172, iv (0 : Int32), iv (0 : Int32), iv (0 : Int32), iv (0 : Int32), iv (1 : Int32), rv r200, iv (4 : Int32), .unset] [] t → Steps p.tables e below S0 t := fun tX kX => pre233 _ (st234.trans kX)
        have pre238 : ∀ t, own_s p e below T234 m 317 #[iv i0, iv i1, iv i2, iv i3, iv (0 : Int32), iv (1 : Int32), iv (0 : Int32), rv b172, iv (0 : Int32), iv (0 : Int32), iv (0 : Int32), iv (0 : Int32), iv (1 : Int32), rv r200, iv (4 : Int32), .unset] [(.ref b172)] t → Steps p.tables e below S0 t := by
          intro tX kX
          refine pre237 _ ?_
          show own_s p e below T234 m 315 #[iv i0, iv i1, iv i2, iv i3, iv (0 : Int32), iv (1 : Int32), iv (0 : Int32), rv b172, iv (0 : Int32), iv (0 : Int32), iv (0 : Int32), iv (0 : Int32), iv (1 : Int32), rv r200, iv (4 : Int32), .unset] [] _
          refine XS.aload X236.here hx rfl (hb hby at_315) rfl rfl ?_
          exact kX
        obtain ⟨cq239, kq239, q239a, q239b, q239c⟩ := isOf hZ e234 E_a234
        obtain ⟨_, _, ⟨T239, L239, k239, n239⟩, -, X239, ⟨Lc239, hQ239, l239, y239, z239⟩, st239⟩ := X236.virtualBack hx (y := (⟨"com/example/farcall/farcall/io/XdrEncoder", "size", "()I"⟩ : MethodName)) (z := (⟨"com/example/farcall/farcall/io/XdrEncoder", "size", "()I"⟩ : MethodName)) hown (mvT hZ (hw _ (List.mem_of_getElem? (i := 40) rfl))) (mvT hZ (hw _ (List.mem_of_getElem? (i := 24) rfl))) (notFace_of_selects (args := #[]) (mvT hZ (hw _ (List.mem_of_getElem? (i := 26) rfl)))) (mvT hZ (hw _ (List.mem_of_getElem? (i := 26) rfl))) (mvT hZ (hw _ (List.mem_of_getElem? (i := 25) rfl))) (by decide) (backOf (W := 0) (rm6 l Z a0 hw [] b172 bb180 ((own_put (fun _ : Nat => (0 : Int32)) 0 i2)) 0 4 T234.heap n0 Z234 E_a234 F_buf234 F_sta234 F_end234 A_b234 ne_ab234 fg234 g_a234 g_b234 (by decide) (by decide)) hZ (hw _ (List.mem_of_getElem? (i := 27) rfl)) (hw _ (List.mem_of_getElem? (i := 2) rfl)) (by decide) (by decide)) q239a q239c (g := (mkF m 317 #[iv i0, iv i1, iv i2, iv i3, iv (0 : Int32), iv (1 : Int32), iv (0 : Int32), rv b172, iv (0 : Int32), iv (0 : Int32), iv (0 : Int32), iv (0 : Int32), iv (1 : Int32), rv r200, iv (4 : Int32), .unset] [(.ref b172)])) rfl (by rw [hml]; rfl) (Steps.refl _) (argsL := []) (rest := []) (lenOf pd0_1 rfl) rfl (by show 2 * 0 + _ ≤ _; exact Nat.le_of_eq rfl) (hb hby at_317) (fun _ _ => ⟨rfl, e234, (by decide : 3 + 0 ≤ _), (by decide : 132 + 0 ≤ _)⟩)
        dsimp only [Pt.U, Pt.locs, Pt.cells, Pt.slots] at X239 l239 y239 z239 st239 hQ239
        subst l239 y239 z239
        obtain ⟨rfl, Nq239, e239⟩ := hQ239
        have N239 := Fr.app N236 Nq239
        obtain ⟨LL240, X240, N240⟩ : ∃ LL, Stand p l e room_1 s m #[(.int i0), (.int i1), (.int i2), (.int i3)] below meth c T239 LL 3 132 ∧ Fr n0 LL := ⟨_, X239, N239⟩
        have pre241 : ∀ t, own_s p e below T239 m 320 #[iv i0, iv i1, iv i2, iv i3, iv (0 : Int32), iv (1 : Int32), iv (0 : Int32), rv b172, iv (0 : Int32), iv (0 : Int32), iv (0 : Int32), iv (0 : Int32), iv (1 : Int32), rv r200, iv (4 : Int32), .unset] [(.int (4 : Int32))] t → Steps p.tables e below S0 t := fun tX kX => pre238 _ (st239.trans kX)
        have pre242 : ∀ t, own_s p e below T239 m 366 #[iv i0, iv i1, iv i2, iv i3, iv (0 : Int32), iv (1 : Int32), iv (0 : Int32), rv b172, iv (0 : Int32), iv (0 : Int32), iv (0 : Int32), iv (0 : Int32), iv (1 : Int32), rv r200, iv (4 : Int32), .unset] [(.ref b172)] t → Steps p.tables e below S0 t := by
          intro tX kX
          refine pre241 _ ?_
          show own_s p e below T239 m 320 #[iv i0, iv i1, iv i2, iv i3, iv (0 : Int32), iv (1 : Int32), iv (0 : Int32), rv b172, iv (0 : Int32), iv (0 : Int32), iv (0 : Int32), iv (0 : Int32), iv (1 : Int32), rv r200, iv (4 : Int32), .unset] [(.int (4 : Int32))] _
          refine XS.iload X240.here hx rfl (hb hby at_320) rfl ?_
          refine XS.iload X240.here hx rfl (hb hby at_322) rfl ?_
          refine XS.iadd X240.here hx rfl (hb hby at_324) rfl ?_
          show own_s p e below T239 m 325 #[iv i0, iv i1, iv i2, iv i3, iv (0 : Int32), iv (1 : Int32), iv (0 : Int32), rv b172, iv (0 : Int32), iv (0 : Int32), iv (0 : Int32), iv (0 : Int32), iv (1 : Int32), rv r200, iv (4 : Int32), .unset] [(.int (0 : Int32)), (.int (4 : Int32))] _
          refine XS.iconst X240.here hx rfl (hb hby at_325) ?_
          refine XS.iadd X240.here hx rfl (hb hby at_326) rfl ?_
          refine XS.icmpNo X240.here hx rfl (hb hby at_327) rfl (teq (by decide : (4 : Int32) = (4 : Int32))).2 ?_
          show own_s p e below T239 m 330 #[iv i0, iv i1, iv i2, iv i3, iv (0 : Int32), iv (1 : Int32), iv (0 : Int32), rv b172, iv (0 : Int32), iv (0 : Int32), iv (0 : Int32), iv (0 : Int32), iv (1 : Int32), rv r200, iv (4 : Int32), .unset] [] _
          refine XS.iconst X240.here hx rfl (hb hby at_330) ?_
          refine XS.goto X240.here hx rfl (pc0 := 331) (pc' := 335) rfl (hb hby at_331) (by decide) (by decide) ?_
          refine XS.istore X240.here hx rfl (hb hby at_335) rfl (l' := #[iv i0, iv i1, iv i2, iv i3, iv (0 : Int32), iv (1 : Int32), iv (0 : Int32), rv b172, iv (0 : Int32), iv (0 : Int32), iv (0 : Int32), iv (0 : Int32), iv (1 : Int32), rv r200, iv (4 : Int32), .unset]) rfl ?_
          show own_s p e below T239 m 337 #[iv i0, iv i1, iv i2, iv i3, iv (0 : Int32), iv (1 : Int32), iv (0 : Int32), rv b172, iv (0 : Int32), iv (0 : Int32), iv (0 : Int32), iv (0 : Int32), iv (1 : Int32), rv r200, iv (4 : Int32), .unset] [] _
          refine XS.goto X240.here hx rfl (pc0 := 337) (pc' := 357) rfl (hb hby at_337) (by decide) (by decide) ?_
          refine XS.iload X240.here hx rfl (hb hby at_357) rfl ?_
          refine XS.ifYes X240.here hx rfl (pc0 := 359) (pc' := 364) rfl (hb hby at_359) rfl ((if0 _ _).trans (feq (by decide : ¬ ((1 : Int32) = (0 : Int32)))).2) (by decide) (by decide) ?_
          show own_s p e below T239 m 364 #[iv i0, iv i1, iv i2, iv i3, iv (0 : Int32), iv (1 : Int32), iv (0 : Int32), rv b172, iv (0 : Int32), iv (0 : Int32), iv (0 : Int32), iv (0 : Int32), iv (1 : Int32), rv r200, iv (4 : Int32), .unset] [] _
          refine XS.aload X240.here hx rfl (hb hby at_364) rfl rfl ?_
          exact kX
        obtain ⟨cq243, kq243, q243a, q243b, q243c⟩ := isOf hZ e239 E_a234
        obtain ⟨_, _, ⟨T243, L243, k243, n243⟩, -, X243, ⟨Lc243, hQ243, l243, y243, z243⟩, st243⟩ := X240.virtualBack hx (y := (⟨"com/example/farcall/farcall/io/XdrEncoder", "toByteArray", "()[B"⟩ : MethodName)) (z := (⟨"com/example/farcall/farcall/io/XdrEncoder", "toByteArray", "()[B"⟩ : MethodName)) hown (mvT hZ (hw _ (List.mem_of_getElem? (i := 41) rfl))) (mvT hZ (hw _ (List.mem_of_getElem? (i := 42) rfl))) (notFace_of_selects (args := #[]) (mvT hZ (hw _ (List.mem_of_getElem? (i := 44) rfl)))) (mvT hZ (hw _ (List.mem_of_getElem? (i := 44) rfl))) (mvT hZ (hw _ (List.mem_of_getElem? (i := 43) rfl))) (by decide) (backOf (W := 0) (rm5 l Z a0 hw [] b172 bb180 ((own_put (fun _ : Nat => (0 : Int32)) 0 i2)) 0 4 T234.heap n0 Z234 E_a234 F_buf234 F_sta234 F_end234 A_b234 ne_ab234 fg234 g_a234 g_b234 (by decide) (by decide) (by decide)) hZ (hw _ (List.mem_of_getElem? (i := 45) rfl)) (hw _ (List.mem_of_getElem? (i := 2) rfl)) (by decide) (by decide)) q243a q243c (g := (mkF m 366 #[iv i0, iv i1, iv i2, iv i3, iv (0 : Int32), iv (1 : Int32), iv (0 : Int32), rv b172, iv (0 : Int32), iv (0 : Int32), iv (0 : Int32), iv (0 : Int32), iv (1 : Int32), rv r200, iv (4 : Int32), .unset] [(.ref b172)])) rfl (by rw [hml]; rfl) (Steps.refl _) (argsL := []) (rest := []) (lenOf pd0_3 rfl) rfl (by show 2 * 0 + _ ≤ _; exact Nat.le_of_eq rfl) (hb hby at_366) (fun _ _ => ⟨rfl, e239, (by decide : 3 + 1 ≤ _), (by decide : 132 + 64 ≤ _)⟩)
        dsimp only [Pt.U, Pt.locs, Pt.cells, Pt.slots] at X243 l243 y243 z243 st243 hQ243
        subst l243 y243 z243
        obtain ⟨r243, rfl, Nq243, Kq243, sz_r243, g_r243, fA243⟩ := hQ243
        have N243 := Fr.app N240 Nq243
        have e243 : T243.heap = T243.heap := rfl
        have Z243 : n0 ≤ T243.heap.size := Nat.le_trans Z234 Kq243.1
        have ne244 : b172 ≠ r243 := Nat.ne_of_lt (Nat.lt_of_lt_of_le E_a234.lt sz_r243)
        have ne245 : bb180 ≠ r243 := Nat.ne_of_lt (Nat.lt_of_lt_of_le A_b234.lt sz_r243)
        have ne246 : r200 ≠ r243 := Nat.ne_of_lt (Nat.lt_of_lt_of_le f235_A.lt sz_r243)
        have f247_E : Exa Z T243.heap b172 "com/example/farcall/farcall/io/XdrEncoder" := E_a234.keep Kq243
        have f248_F : Fld Z T243.heap b172 "com/example/farcall/farcall/io/XdrEncoder" "buffer" "[B" (.ref bb180) := F_buf234.keep Kq243 nin0
        have f249_F : Fld Z T243.heap b172 "com/example/farcall/farcall/io/XdrEncoder" "start" "I" (.int (Int32.ofNat 0)) := F_sta234.keep Kq243 nin0
        have f250_F : Fld Z T243.heap b172 "com/example/farcall/farcall/io/XdrEncoder" "end" "I" (.int (Int32.ofNat 4)) := F_end234.keep Kq243 nin0
        have f251_A : own_Af Z T243.heap bb180 .byte 64 (fun j => .int ((own_put (fun _ : Nat => (0 : Int32)) 0 i2) j)) := A_b234.keep Kq243 nin0
        have f252_A : own_Af Z T243.heap r200 .byte 4 (fun j => .int ((own_put (fun _ : Nat => (0 : Int32)) 0 i2) (0 + j))) := f235_A.keep Kq243 nin0
        obtain ⟨LL253, X253, N253⟩ : ∃ LL, Stand p l e room_1 s m #[(.int i0), (.int i1), (.int i2), (.int i3)] below meth c T243 LL 4 196 ∧ Fr n0 LL := ⟨_, X243, N243⟩
        have pre254 : ∀ t, own_s p e below T243 m 369 #[iv i0, iv i1, iv i2, iv i3, iv (0 : Int32), iv (1 : Int32), iv (0 : Int32), rv b172, iv (0 : Int32), iv (0 : Int32), iv (0 : Int32), iv (0 : Int32), iv (1 : Int32), rv r200, iv (4 : Int32), .unset] [(.ref r243)] t → Steps p.tables e below S0 t := fun tX kX => pre242 _ (st243.trans kX)
        have pre256 : ∀ t, own_s p e below T243 m 373 #[iv i0, iv i1, iv i2, iv i3, iv (0 : Int32), iv (1 : Int32), iv (0 : Int32), rv b172, iv (0 : Int32), iv (0 : Int32), iv (0 : Int32), iv (0 : Int32), iv (1 : Int32), rv r200, iv (4 : Int32), rv r243] [(.ref r243)] t → Steps p.tables e below S0 t := by
          intro tX kX
          refine pre254 _ ?_
          show own_s p e below T243 m 369 #[iv i0, iv i1, iv i2, iv i3, iv (0 : Int32), iv (1 : Int32), iv (0 : Int32), rv b172, iv (0 : Int32), iv (0 : Int32), iv (0 : Int32), iv (0 : Int32), iv (1 : Int32), rv r200, iv (4 : Int32), .unset] [(.ref r243)] _
          refine XS.astore X253.here hx rfl (hb hby at_369) rfl rfl (l' := #[iv i0, iv i1, iv i2, iv i3, iv (0 : Int32), iv (1 : Int32), iv (0 : Int32), rv b172, iv (0 : Int32), iv (0 : Int32), iv (0 : Int32), iv (0 : Int32), iv (1 : Int32), rv r200, iv (4 : Int32), rv r243]) rfl ?_
          refine XS.aload X253.here hx rfl (hb hby at_371) rfl rfl ?_
          exact kX
        obtain ⟨cl255, Ar255, S255, M255, H255⟩ := id fA243
        have pre258 : ∀ t, own_s p e below T243 m 395 #[iv i0, iv i1, iv i2, iv i3, iv (0 : Int32), iv (1 : Int32), iv (0 : Int32), rv b172, iv (0 : Int32), iv (0 : Int32), iv (0 : Int32), iv (0 : Int32), iv (1 : Int32), rv r200, iv (4 : Int32), rv r243] [(.int (3 : Int32)), (.ref r243)] t → Steps p.tables e below S0 t := by
          intro tX kX
          refine pre256 _ ?_
          show own_s p e below T243 m 373 #[iv i0, iv i1, iv i2, iv i3, iv (0 : Int32), iv (1 : Int32), iv (0 : Int32), rv b172, iv (0 : Int32), iv (0 : Int32), iv (0 : Int32), iv (0 : Int32), iv (1 : Int32), rv r200, iv (4 : Int32), rv r243] [(.ref r243)] _
          refine X253.arraylength hx (by rw [e243]; exact Ar255.1) (State.isArrayOf_alike hZ.alike Ar255.2.1) (g := (mkF m 373 #[iv i0, iv i1, iv i2, iv i3, iv (0 : Int32), iv (1 : Int32), iv (0 : Int32), rv b172, iv (0 : Int32), iv (0 : Int32), iv (0 : Int32), iv (0 : Int32), iv (1 : Int32), rv r200, iv (4 : Int32), rv r243] [(.ref r243)])) rfl rfl (hb hby at_373) _ ?_
          rw [show cl255.slots.size.toInt32 = (4 : Int32) from by rw [S255]; exact rfl]
          refine XS.iload X253.here hx rfl (hb hby at_374) rfl ?_
          refine XS.iload X253.here hx rfl (hb hby at_376) rfl ?_
          show own_s p e below T243 m 378 #[iv i0, iv i1, iv i2, iv i3, iv (0 : Int32), iv (1 : Int32), iv (0 : Int32), rv b172, iv (0 : Int32), iv (0 : Int32), iv (0 : Int32), iv (0 : Int32), iv (1 : Int32), rv r200, iv (4 : Int32), rv r243] [(.int (0 : Int32)), (.int (0 : Int32)), (.int (4 : Int32))] _
          refine XS.iadd X253.here hx rfl (hb hby at_378) rfl ?_
          refine XS.iconst X253.here hx rfl (hb hby at_379) ?_
          refine XS.iadd X253.here hx rfl (hb hby at_380) rfl ?_
          show own_s p e below T243 m 381 #[iv i0, iv i1, iv i2, iv i3, iv (0 : Int32), iv (1 : Int32), iv (0 : Int32), rv b172, iv (0 : Int32), iv (0 : Int32), iv (0 : Int32), iv (0 : Int32), iv (1 : Int32), rv r200, iv (4 : Int32), rv r243] [(.int (4 : Int32)), (.int (4 : Int32))] _
          refine XS.icmpYes X253.here hx rfl (pc0 := 381) (pc' := 386) rfl (hb hby at_381) rfl (teq (by decide : (4 : Int32) = (4 : Int32))).1 (by decide) (by decide) ?_
          refine XS.aload X253.here hx rfl (hb hby at_386) rfl rfl ?_
          refine XS.iload X253.here hx rfl (hb hby at_388) rfl ?_
          show own_s p e below T243 m 390 #[iv i0, iv i1, iv i2, iv i3, iv (0 : Int32), iv (1 : Int32), iv (0 : Int32), rv b172, iv (0 : Int32), iv (0 : Int32), iv (0 : Int32), iv (0 : Int32), iv (1 : Int32), rv r200, iv (4 : Int32), rv r243] [(.int (0 : Int32)), (.ref r243)] _
          refine XS.iload X253.here hx rfl (hb hby at_390) rfl ?_
          refine XS.iadd X253.here hx rfl (hb hby at_392) rfl ?_
          refine XS.iconst X253.here hx rfl (hb hby at_393) ?_
          show own_s p e below T243 m 394 #[iv i0, iv i1, iv i2, iv i3, iv (0 : Int32), iv (1 : Int32), iv (0 : Int32), rv b172, iv (0 : Int32), iv (0 : Int32), iv (0 : Int32), iv (0 : Int32), iv (1 : Int32), rv r200, iv (4 : Int32), rv r243] [(.int (3 : Int32)), (.int (0 : Int32)), (.ref r243)] _
          refine XS.iadd X253.here hx rfl (hb hby at_394) rfl ?_
          exact kX
        obtain ⟨cl257, Ar257, S257, M257, H257⟩ := id fA243
        have pre260 : ∀ t, own_s p e below T243 m 408 #[iv i0, iv i1, iv i2, iv i3, iv (0 : Int32), iv (1 : Int32), iv (0 : Int32), rv b172, iv (0 : Int32), iv (0 : Int32), iv (0 : Int32), iv (0 : Int32), iv (1 : Int32), rv r200, iv (4 : Int32), rv r243] [(.int (0 : Int32)), (.ref r243)] t → Steps p.tables e below S0 t := by
          intro tX kX
          refine pre258 _ ?_
          show own_s p e below T243 m 395 #[iv i0, iv i1, iv i2, iv i3, iv (0 : Int32), iv (1 : Int32), iv (0 : Int32), rv b172, iv (0 : Int32), iv (0 : Int32), iv (0 : Int32), iv (0 : Int32), iv (1 : Int32), rv r200, iv (4 : Int32), rv r243] [(.int (3 : Int32)), (.ref r243)] _
          refine X253.baloadBytes hx (j := (3 : Int32)) (v := (.int (i2.toInt8.toInt32))) (by rw [e243]; exact Ar257.1) (State.isArrayOf_alike hZ.alike Ar257.2.1) Ar257.2.2 (own_inb S257 M257 (by decide)) (own_get H257 S257 (by decide) (show Value.int ((own_put (fun _ : Nat => (0 : Int32)) 0 i2) (0 + 3)) = Value.int (i2.toInt8.toInt32) from congrArg Value.int (((own_put_in (by decide) (by decide)).trans (congrArg (own_by i2) (show _ = 3 from by decide))).trans (show own_by i2 3 = (i2.toInt8.toInt32) from rfl)))) (g := (mkF m 395 #[iv i0, iv i1, iv i2, iv i3, iv (0 : Int32), iv (1 : Int32), iv (0 : Int32), rv b172, iv (0 : Int32), iv (0 : Int32), iv (0 : Int32), iv (0 : Int32), iv (1 : Int32), rv r200, iv (4 : Int32), rv r243] [(.int (3 : Int32)), (.ref r243)])) rfl rfl (hb hby at_395) _ ?_
          refine XS.iloadN X253.here hx rfl (hb hby at_396) rfl ?_
          refine XS.i2b X253.here hx rfl (hb hby at_397) rfl ?_
          show own_s p e below T243 m 398 #[iv i0, iv i1, iv i2, iv i3, iv (0 : Int32), iv (1 : Int32), iv (0 : Int32), rv b172, iv (0 : Int32), iv (0 : Int32), iv (0 : Int32), iv (0 : Int32), iv (1 : Int32), rv r200, iv (4 : Int32), rv r243] [(.int (i2.toInt8.toInt32)), (.int (i2.toInt8.toInt32))] _
          refine XS.icmpNo X253.here hx rfl (hb hby at_398) rfl (teq (rfl : (i2.toInt8.toInt32) = (i2.toInt8.toInt32))).2 ?_
          refine XS.aload X253.here hx rfl (hb hby at_401) rfl rfl ?_
          refine XS.iload X253.here hx rfl (hb hby at_403) rfl ?_
          show own_s p e below T243 m 405 #[iv i0, iv i1, iv i2, iv i3, iv (0 : Int32), iv (1 : Int32), iv (0 : Int32), rv b172, iv (0 : Int32), iv (0 : Int32), iv (0 : Int32), iv (0 : Int32), iv (1 : Int32), rv r200, iv (4 : Int32), rv r243] [(.int (0 : Int32)), (.ref r243)] _
          refine XS.iload X253.here hx rfl (hb hby at_405) rfl ?_
          refine XS.iadd X253.here hx rfl (hb hby at_407) rfl ?_
          exact kX
        obtain ⟨cl259, Ar259, S259, M259, H259⟩ := id fA243
        have pre261 : ∀ t, own_s p e below T243 m 458 #[iv i0, iv i1, iv i2, iv i3, iv (0 : Int32), iv (1 : Int32), iv (0 : Int32), rv b172, iv (0 : Int32), iv (0 : Int32), iv (0 : Int32), iv (0 : Int32), iv (1 : Int32), rv r200, iv (4 : Int32), rv r243] [(.int (1 : Int32))] t → Steps p.tables e below S0 t := by
          intro tX kX
          refine pre260 _ ?_
          show own_s p e below T243 m 408 #[iv i0, iv i1, iv i2, iv i3, iv (0 : Int32), iv (1 : Int32), iv (0 : Int32), rv b172, iv (0 : Int32), iv (0 : Int32), iv (0 : Int32), iv (0 : Int32), iv (1 : Int32), rv r200, iv (4 : Int32), rv r243] [(.int (0 : Int32)), (.ref r243)] _
          refine X253.baloadBytes hx (j := (0 : Int32)) (v := (.int (((i2.toUInt32 >>> ((24 : Int32) &&& 31).toUInt32).toInt32).toInt8.toInt32))) (by rw [e243]; exact Ar259.1) (State.isArrayOf_alike hZ.alike Ar259.2.1) Ar259.2.2 (own_inb S259 M259 (by decide)) (own_get H259 S259 (by decide) (show Value.int ((own_put (fun _ : Nat => (0 : Int32)) 0 i2) (0 + 0)) = Value.int (((i2.toUInt32 >>> ((24 : Int32) &&& 31).toUInt32).toInt32).toInt8.toInt32) from congrArg Value.int (((own_put_in (by decide) (by decide)).trans (congrArg (own_by i2) (show _ = 0 from by decide))).trans (show own_by i2 0 = (((i2.toUInt32 >>> ((24 : Int32) &&& 31).toUInt32).toInt32).toInt8.toInt32) from rfl)))) (g := (mkF m 408 #[iv i0, iv i1, iv i2, iv i3, iv (0 : Int32), iv (1 : Int32), iv (0 : Int32), rv b172, iv (0 : Int32), iv (0 : Int32), iv (0 : Int32), iv (0 : Int32), iv (1 : Int32), rv r200, iv (4 : Int32), rv r243] [(.int (0 : Int32)), (.ref r243)])) rfl rfl (hb hby at_408) _ ?_
          refine XS.iloadN X253.here hx rfl (hb hby at_409) rfl ?_
          refine XS.bipush X253.here hx rfl (hb hby at_410) ?_
          show own_s p e below T243 m 412 #[iv i0, iv i1, iv i2, iv i3, iv (0 : Int32), iv (1 : Int32), iv (0 : Int32), rv b172, iv (0 : Int32), iv (0 : Int32), iv (0 : Int32), iv (0 : Int32), iv (1 : Int32), rv r200, iv (4 : Int32), rv r243] [(.int (24 : Int32)), (.int i2), (.int (((i2.toUInt32 >>> ((24 : Int32) &&& 31).toUInt32).toInt32).toInt8.toInt32))] _
          refine XS.iushr X253.here hx rfl (hb hby at_412) rfl ?_
          refine XS.i2b X253.here hx rfl (hb hby at_413) rfl ?_
          refine XS.icmpYes X253.here hx rfl (pc0 := 414) (pc' := 419) rfl (hb hby at_414) rfl (teq (rfl : (((i2.toUInt32 >>> ((24 : Int32) &&& 31).toUInt32).toInt32).toInt8.toInt32) = (((i2.toUInt32 >>> ((24 : Int32) &&& 31).toUInt32).toInt32).toInt8.toInt32))).1 (by decide) (by decide) ?_
          show own_s p e below T243 m 419 #[iv i0, iv i1, iv i2, iv i3, iv (0 : Int32), iv (1 : Int32), iv (0 : Int32), rv b172, iv (0 : Int32), iv (0 : Int32), iv (0 : Int32), iv (0 : Int32), iv (1 : Int32), rv r200, iv (4 : Int32), rv r243] [] _
          refine XS.iload X253.here hx rfl (hb hby at_419) rfl ?_
          refine XS.ifYes X253.here hx rfl (pc0 := 421) (pc' := 438) rfl (hb hby at_421) rfl ((if0 _ _).trans (teq (by decide : (0 : Int32) = (0 : Int32))).1) (by decide) (by decide) ?_
          refine XS.iload X253.here hx rfl (hb hby at_438) rfl ?_
          show own_s p e below T243 m 440 #[iv i0, iv i1, iv i2, iv i3, iv (0 : Int32), iv (1 : Int32), iv (0 : Int32), rv b172, iv (0 : Int32), iv (0 : Int32), iv (0 : Int32), iv (0 : Int32), iv (1 : Int32), rv r200, iv (4 : Int32), rv r243] [(.int (0 : Int32))] _
          refine XS.ifYes X253.here hx rfl (pc0 := 440) (pc' := 457) rfl (hb hby at_440) rfl ((if0 _ _).trans (teq (by decide : (0 : Int32) = (0 : Int32))).1) (by decide) (by decide) ?_
          refine XS.iconst X253.here hx rfl (hb hby at_457) ?_
          exact kX
        subst hS0
        obtain ⟨fs, hr, hrun, hended, hW, hsame⟩ := X253.leave (v := (some (.int (1 : Int32)))) (fun h => by rw [Bd.returns] at h; cases h)
        refine ⟨_, _, pre261 _ (retN X253 hx (t := .boolean) Bd.returns (by simp) (hb hby at_458) hr), hrun, hended, _, _, rfl, ?_, ⟨_, rfl⟩, hW, hsame.mono (by decide) (by decide)⟩
        show Q0 Z i0 i1 i2 i3 h0 n0 (some (.int (1 : Int32))) T243.heap _
        exact ⟨rfl, N253⟩
      · skip
        have pre262 : ∀ t, own_s p e below s₁ m 39 #[iv i0, iv i1, iv i2, iv i3, iv (0 : Int32), iv (1 : Int32), iv (1 : Int32), .unset, .unset, .unset, .unset, .unset, .unset, .unset, .unset, .unset] [] t → Steps p.tables e below S0 t := by
          intro tX kX
          refine pre169 _ ?_
          show own_s p e below s₁ m 29 #[iv i0, iv i1, iv i2, iv i3, iv (0 : Int32), iv (1 : Int32), .unset, .unset, .unset, .unset, .unset, .unset, .unset, .unset, .unset, .unset] [(.int (i3 &&& (4 : Int32)))] _
          refine XS.ifNo X0.here hx rfl (hb hby at_29) rfl ((if0 _ _).trans (feq hc170).1) ?_
          refine XS.iconst X0.here hx rfl (hb hby at_32) ?_
          refine XS.goto X0.here hx rfl (pc0 := 33) (pc' := 37) rfl (hb hby at_33) (by decide) (by decide) ?_
          show own_s p e below s₁ m 37 #[iv i0, iv i1, iv i2, iv i3, iv (0 : Int32), iv (1 : Int32), .unset, .unset, .unset, .unset, .unset, .unset, .unset, .unset, .unset, .unset] [(.int (1 : Int32))] _
          refine XS.istore X0.here hx rfl (hb hby at_37) rfl (l' := #[iv i0, iv i1, iv i2, iv i3, iv (0 : Int32), iv (1 : Int32), iv (1 : Int32), .unset, .unset, .unset, .unset, .unset, .unset, .unset, .unset, .unset]) rfl ?_
          exact kX
        obtain ⟨T263, h263, X263, e263, E263, A263, D263, -, st263⟩ := newO X0 hx hZ hown (hw _ (List.mem_of_getElem? (i := 0) rfl)) (hw _ (List.mem_of_getElem? (i := 1) rfl)) (hw _ (List.mem_of_getElem? (i := 2) rfl)) e0 (g := (mkF m 39 #[iv i0, iv i1, iv i2, iv i3, iv (0 : Int32), iv (1 : Int32), iv (1 : Int32), .unset, .unset, .unset, .unset, .unset, .unset, .unset, .unset, .unset] [])) rfl (hb hby at_39) (by decide) (by decide)
        obtain ⟨b263, g263⟩ : ∃ z, z = h0.size := ⟨_, rfl⟩
        rw [← g263] at A263 D263 st263
        have g_b263 : n0 ≤ b263 := Nat.le_trans Z0 (Nat.le_of_eq g263.symm)
        have pre264 : ∀ t, own_s p e below T263 m 42 #[iv i0, iv i1, iv i2, iv i3, iv (0 : Int32), iv (1 : Int32), iv (1 : Int32), .unset, .unset, .unset, .unset, .unset, .unset, .unset, .unset, .unset] [(.ref b263)] t → Steps p.tables e below S0 t := fun tX kX => pre262 _ (st263 _ kX)
        have Z265 : n0 ≤ h263.size := Nat.le_trans Z0 E263.1
        have f266_E : Exa Z h263 b263 "com/example/farcall/farcall/io/XdrEncoder" := A263
        have f267_F : Fld Z h263 b263 "com/example/farcall/farcall/io/XdrEncoder" "buffer" "[B" .null := D263 (Or.inl (hw _ (List.mem_of_getElem? (i := 11) rfl))) (ty := (.array .byte)) (by decide)
        have f268_F : Fld Z h263 b263 "com/example/farcall/farcall/io/XdrEncoder" "end" "I" (.int (0 : Int32)) := D263 (Or.inl (hw _ (List.mem_of_getElem? (i := 22) rfl))) (ty := .int) (by decide)
        have f269_F : Fld Z h263 b263 "com/example/farcall/farcall/io/XdrEncoder" "start" "I" (.int (0 : Int32)) := D263 (Or.inl (hw _ (List.mem_of_getElem? (i := 29) rfl))) (ty := .int) (by decide)
        have pre270 : ∀ t, own_s p e below T263 m 43 #[iv i0, iv i1, iv i2, iv i3, iv (0 : Int32), iv (1 : Int32), iv (1 : Int32), .unset, .unset, .unset, .unset, .unset, .unset, .unset, .unset, .unset] [(.ref b263), (.ref b263)] t → Steps p.tables e below S0 t := by
          intro tX kX
          refine pre264 _ ?_
          show own_s p e below T263 m 42 #[iv i0, iv i1, iv i2, iv i3, iv (0 : Int32), iv (1 : Int32), iv (1 : Int32), .unset, .unset, .unset, .unset, .unset, .unset, .unset, .unset, .unset] [(.ref b263)] _
          refine XS.dup X263.here hx rfl (hb hby at_42) rfl rfl ?_
          exact kX
        obtain ⟨_, _, ⟨T271, L271, k271, n271⟩, -, X271, ⟨Lc271, hQ271, l271, y271, z271⟩, st271⟩ := X263.specialBack hx (y := (⟨"com/example/farcall/farcall/io/XdrEncoder", "<init>", "()V"⟩ : MethodName)) rfl hown (mvT hZ (hw _ (List.mem_of_getElem? (i := 3) rfl))) (mvT hZ (hw _ (List.mem_of_getElem? (i := 4) rfl))) (mvT hZ (hw _ (List.mem_of_getElem? (i := 5) rfl))) (by decide) (backOf (W := 1) (rm12 l Z a0 hw [] b263  h263 n0 Z265 f266_E f267_F f269_F f268_F g_b263) hZ (hw _ (List.mem_of_getElem? (i := 5) rfl)) (hw _ (List.mem_of_getElem? (i := 2) rfl)) (by decide) (by decide)) (g := (mkF m 43 #[iv i0, iv i1, iv i2, iv i3, iv (0 : Int32), iv (1 : Int32), iv (1 : Int32), .unset, .unset, .unset, .unset, .unset, .unset, .unset, .unset, .unset] [(.ref b263), (.ref b263)])) rfl (by rw [hml]; rfl) (Steps.refl _) (a := b263) (argsL := []) (rest := [(.ref b263)]) (lenOf pd0_0 rfl) rfl (by show 2 * 0 + _ ≤ _; exact Nat.le_of_eq rfl) (hb hby at_43) (fun _ _ => ⟨rfl, e263, (by decide : 1 + 1 ≤ _), (by decide : 4 + 64 ≤ _)⟩)
        dsimp only [Pt.U, Pt.locs, Pt.cells, Pt.slots] at X271 l271 y271 z271 st271 hQ271
        subst l271 y271 z271
        obtain ⟨rfl, Nq271, Kq271, bb271, szq271, E_a271, F_buf271, F_sta271, F_end271, A_b271, ne_ab271, fg271, g_a271, g_b271⟩ := hQ271
        have N271 := Fr.app N0 Nq271
        have e271 : T271.heap = T271.heap := rfl
        have Z271 : n0 ≤ T271.heap.size := Nat.le_trans Z265 Kq271.1
        obtain ⟨LL272, X272, N272⟩ : ∃ LL, Stand p l e room_1 s m #[(.int i0), (.int i1), (.int i2), (.int i3)] below meth c T271 LL 2 68 ∧ Fr n0 LL := ⟨_, X271, N271⟩
        have pre273 : ∀ t, own_s p e below T271 m 46 #[iv i0, iv i1, iv i2, iv i3, iv (0 : Int32), iv (1 : Int32), iv (1 : Int32), .unset, .unset, .unset, .unset, .unset, .unset, .unset, .unset, .unset] [(.ref b263)] t → Steps p.tables e below S0 t := fun tX kX => pre270 _ (st271.trans kX)
        have pre274 : ∀ t, own_s p e below T271 m 82 #[iv i0, iv i1, iv i2, iv i3, iv (0 : Int32), iv (1 : Int32), iv (1 : Int32), rv b263, iv (0 : Int32), iv (0 : Int32), .unset, .unset, .unset, .unset, .unset, .unset] [(.ref b263)] t → Steps p.tables e below S0 t := by
          intro tX kX
          refine pre273 _ ?_
          show own_s p e below T271 m 46 #[iv i0, iv i1, iv i2, iv i3, iv (0 : Int32), iv (1 : Int32), iv (1 : Int32), .unset, .unset, .unset, .unset, .unset, .unset, .unset, .unset, .unset] [(.ref b263)] _
          refine XS.astore X272.here hx rfl (hb hby at_46) rfl rfl (l' := #[iv i0, iv i1, iv i2, iv i3, iv (0 : Int32), iv (1 : Int32), iv (1 : Int32), rv b263, .unset, .unset, .unset, .unset, .unset, .unset, .unset, .unset]) rfl ?_
          refine XS.iload X272.here hx rfl (hb hby at_48) rfl ?_
          refine XS.ifYes X272.here hx rfl (pc0 := 50) (pc' := 60) rfl (hb hby at_50) rfl ((if0 _ _).trans (teq (by decide : (0 : Int32) = (0 : Int32))).1) (by decide) (by decide) ?_
          show own_s p e below T271 m 60 #[iv i0, iv i1, iv i2, iv i3, iv (0 : Int32), iv (1 : Int32), iv (1 : Int32), rv b263, .unset, .unset, .unset, .unset, .unset, .unset, .unset, .unset] [] _
          refine XS.iload X272.here hx rfl (hb hby at_60) rfl ?_
          refine XS.ifYes X272.here hx rfl (pc0 := 62) (pc' := 69) rfl (hb hby at_62) rfl ((if0 _ _).trans (teq (by decide : (0 : Int32) = (0 : Int32))).1) (by decide) (by decide) ?_
          refine XS.iconst X272.here hx rfl (hb hby at_69) ?_
          show own_s p e below T271 m 70 #[iv i0, iv i1, iv i2, iv i3, iv (0 : Int32), iv (1 : Int32), iv (1 : Int32), rv b263, .unset, .unset, .unset, .unset, .unset, .unset, .unset, .unset] [(.int (0 : Int32))] _
          refine XS.istore X272.here hx rfl (hb hby at_70) rfl (l' := #[iv i0, iv i1, iv i2, iv i3, iv (0 : Int32), iv (1 : Int32), iv (1 : Int32), rv b263, iv (0 : Int32), .unset, .unset, .unset, .unset, .unset, .unset, .unset]) rfl ?_
          refine XS.iconst X272.here hx rfl (hb hby at_72) ?_
          refine XS.istore X272.here hx rfl (hb hby at_73) rfl (l' := #[iv i0, iv i1, iv i2, iv i3, iv (0 : Int32), iv (1 : Int32), iv (1 : Int32), rv b263, iv (0 : Int32), iv (0 : Int32), .unset, .unset, .unset, .unset, .unset, .unset]) rfl ?_
          show own_s p e below T271 m 75 #[iv i0, iv i1, iv i2, iv i3, iv (0 : Int32), iv (1 : Int32), iv (1 : Int32), rv b263, iv (0 : Int32), iv (0 : Int32), .unset, .unset, .unset, .unset, .unset, .unset] [] _
          refine XS.iload X272.here hx rfl (hb hby at_75) rfl ?_
          refine XS.ifNo X272.here hx rfl (hb hby at_77) rfl ((if0 _ _).trans (feq (by decide : ¬ ((1 : Int32) = (0 : Int32)))).1) ?_
          refine XS.aload X272.here hx rfl (hb hby at_80) rfl rfl ?_
          exact kX
        obtain ⟨cq275, kq275, q275a, q275b, q275c⟩ := isOf hZ e271 E_a271
        obtain ⟨_, _, ⟨T275, L275, k275, n275⟩, -, X275, ⟨Lc275, hQ275, l275, y275, z275⟩, st275⟩ := X272.virtualBack hx (y := (⟨"com/example/farcall/farcall/io/XdrEncoder", "beginPart", "()I"⟩ : MethodName)) (z := (⟨"com/example/farcall/farcall/io/XdrEncoder", "beginPart", "()I"⟩ : MethodName)) hown (mvT hZ (hw _ (List.mem_of_getElem? (i := 35) rfl))) (mvT hZ (hw _ (List.mem_of_getElem? (i := 36) rfl))) (notFace_of_selects (args := #[]) (mvT hZ (hw _ (List.mem_of_getElem? (i := 38) rfl)))) (mvT hZ (hw _ (List.mem_of_getElem? (i := 38) rfl))) (mvT hZ (hw _ (List.mem_of_getElem? (i := 37) rfl))) (by decide) (backOf (W := 0) (rm10 l Z a0 hw [] b263 bb271 ((fun _ : Nat => (0 : Int32))) 0 0 T271.heap n0 Z271 E_a271 F_buf271 F_sta271 F_end271 A_b271 ne_ab271 fg271 g_a271 g_b271) hZ (hw _ (List.mem_of_getElem? (i := 39) rfl)) (hw _ (List.mem_of_getElem? (i := 2) rfl)) (by decide) (by decide)) q275a q275c (g := (mkF m 82 #[iv i0, iv i1, iv i2, iv i3, iv (0 : Int32), iv (1 : Int32), iv (1 : Int32), rv b263, iv (0 : Int32), iv (0 : Int32), .unset, .unset, .unset, .unset, .unset, .unset] [(.ref b263)])) rfl (by rw [hml]; rfl) (Steps.refl _) (argsL := []) (rest := []) (lenOf pd0_1 rfl) rfl (by show 2 * 0 + _ ≤ _; exact Nat.le_of_eq rfl) (hb hby at_82) (fun _ _ => ⟨rfl, e271, (by decide : 2 + 0 ≤ _), (by decide : 68 + 0 ≤ _)⟩)
        dsimp only [Pt.U, Pt.locs, Pt.cells, Pt.slots] at X275 l275 y275 z275 st275 hQ275
        subst l275 y275 z275
        obtain ⟨rfl, Nq275, Kq275, E_a275, F_buf275, F_sta275, F_end275, A_b275, ne_ab275, fg275, g_a275, g_b275⟩ := hQ275
        have N275 := Fr.app N272 Nq275
        have e275 : T275.heap = T275.heap := rfl
        have Z275 : n0 ≤ T275.heap.size := Nat.le_trans Z271 Kq275.1
        obtain ⟨LL276, X276, N276⟩ : ∃ LL, Stand p l e room_1 s m #[(.int i0), (.int i1), (.int i2), (.int i3)] below meth c T275 LL 2 68 ∧ Fr n0 LL := ⟨_, X275, N275⟩
        have pre277 : ∀ t, own_s p e below T275 m 85 #[iv i0, iv i1, iv i2, iv i3, iv (0 : Int32), iv (1 : Int32), iv (1 : Int32), rv b263, iv (0 : Int32), iv (0 : Int32), .unset, .unset, .unset, .unset, .unset, .unset] [(.int (0 : Int32))] t → Steps p.tables e below S0 t := fun tX kX => pre274 _ (st275.trans kX)
        have pre278 : ∀ t, own_s p e below T275 m 95 #[iv i0, iv i1, iv i2, iv i3, iv (0 : Int32), iv (1 : Int32), iv (1 : Int32), rv b263, iv (0 : Int32), iv (0 : Int32), .unset, .unset, .unset, .unset, .unset, .unset] [(.int i1), (.ref b263)] t → Steps p.tables e below S0 t := by
          intro tX kX
          refine pre277 _ ?_
          show own_s p e below T275 m 85 #[iv i0, iv i1, iv i2, iv i3, iv (0 : Int32), iv (1 : Int32), iv (1 : Int32), rv b263, iv (0 : Int32), iv (0 : Int32), .unset, .unset, .unset, .unset, .unset, .unset] [(.int (0 : Int32))] _
          refine XS.istore X276.here hx rfl (hb hby at_85) rfl (l' := #[iv i0, iv i1, iv i2, iv i3, iv (0 : Int32), iv (1 : Int32), iv (1 : Int32), rv b263, iv (0 : Int32), iv (0 : Int32), .unset, .unset, .unset, .unset, .unset, .unset]) rfl ?_
          refine XS.iload X276.here hx rfl (hb hby at_87) rfl ?_
          refine XS.ifNo X276.here hx rfl (hb hby at_89) rfl ((if0 _ _).trans (feq (by decide : ¬ ((1 : Int32) = (0 : Int32)))).1) ?_
          show own_s p e below T275 m 92 #[iv i0, iv i1, iv i2, iv i3, iv (0 : Int32), iv (1 : Int32), iv (1 : Int32), rv b263, iv (0 : Int32), iv (0 : Int32), .unset, .unset, .unset, .unset, .unset, .unset] [] _
          refine XS.aload X276.here hx rfl (hb hby at_92) rfl rfl ?_
          refine XS.iloadN X276.here hx rfl (hb hby at_94) rfl ?_
          exact kX
        obtain ⟨cq279, kq279, q279a, q279b, q279c⟩ := isOf hZ e275 E_a275
        obtain ⟨_, _, ⟨T279, L279, k279, n279⟩, -, X279, ⟨Lc279, hQ279, l279, y279, z279⟩, st279⟩ := X276.virtualBack hx (y := (⟨"com/example/farcall/farcall/io/XdrEncoder", "writeInt", "(I)Lcom/example/farcall/farcall/io/XdrEncoder;"⟩ : MethodName)) (z := (⟨"com/example/farcall/farcall/io/XdrEncoder", "writeInt", "(I)Lcom/example/farcall/farcall/io/XdrEncoder;"⟩ : MethodName)) hown (mvT hZ (hw _ (List.mem_of_getElem? (i := 12) rfl))) (mvT hZ (hw _ (List.mem_of_getElem? (i := 13) rfl))) (notFace_of_selects (args := #[]) (mvT hZ (hw _ (List.mem_of_getElem? (i := 15) rfl)))) (mvT hZ (hw _ (List.mem_of_getElem? (i := 15) rfl))) (mvT hZ (hw _ (List.mem_of_getElem? (i := 14) rfl))) (by decide) (backOf (W := 0) (rm9 l Z a0 hw [] b263 i1 bb271 ((fun _ : Nat => (0 : Int32))) 0 0 T275.heap n0 Z275 E_a275 F_buf275 F_sta275 F_end275 A_b275 ne_ab275 fg275 g_a275 g_b275 (by decide) (by decide)) hZ (hw _ (List.mem_of_getElem? (i := 16) rfl)) (hw _ (List.mem_of_getElem? (i := 2) rfl)) (by decide) (by decide)) q279a q279c (g := (mkF m 95 #[iv i0, iv i1, iv i2, iv i3, iv (0 : Int32), iv (1 : Int32), iv (1 : Int32), rv b263, iv (0 : Int32), iv (0 : Int32), .unset, .unset, .unset, .unset, .unset, .unset] [(.int i1), (.ref b263)])) rfl (by rw [hml]; rfl) (Steps.refl _) (argsL := [(.int i1)]) (rest := []) (lenOf pd0_2 rfl) rfl (by show 2 * 0 + _ ≤ _; exact Nat.le_of_eq rfl) (hb hby at_95) (fun _ _ => ⟨rfl, e275, (by decide : 2 + 0 ≤ _), (by decide : 68 + 0 ≤ _)⟩)
        dsimp only [Pt.U, Pt.locs, Pt.cells, Pt.slots] at X279 l279 y279 z279 st279 hQ279
        subst l279 y279 z279
        obtain ⟨rfl, Nq279, Kq279, E_a279, F_buf279, F_sta279, F_end279, A_b279, ne_ab279, fg279, g_a279, g_b279⟩ := hQ279
        have N279 := Fr.app N276 Nq279
        have e279 : T279.heap = T279.heap := rfl
        have Z279 : n0 ≤ T279.heap.size := Nat.le_trans Z275 Kq279.1
        obtain ⟨LL280, X280, N280⟩ : ∃ LL, Stand p l e room_1 s m #[(.int i0), (.int i1), (.int i2), (.int i3)] below meth c T279 LL 2 68 ∧ Fr n0 LL := ⟨_, X279, N279⟩
        have pre281 : ∀ t, own_s p e below T279 m 98 #[iv i0, iv i1, iv i2, iv i3, iv (0 : Int32), iv (1 : Int32), iv (1 : Int32), rv b263, iv (0 : Int32), iv (0 : Int32), .unset, .unset, .unset, .unset, .unset, .unset] [(.ref b263)] t → Steps p.tables e below S0 t := fun tX kX => pre278 _ (st279.trans kX)
        have pre282 : ∀ t, own_s p e below T279 m 113 #[iv i0, iv i1, iv i2, iv i3, iv (0 : Int32), iv (1 : Int32), iv (1 : Int32), rv b263, iv (0 : Int32), iv (0 : Int32), iv (4 : Int32), .unset, .unset, .unset, .unset, .unset] [(.ref b263)] t → Steps p.tables e below S0 t := by
          intro tX kX
          refine pre281 _ ?_
          show own_s p e below T279 m 98 #[iv i0, iv i1, iv i2, iv i3, iv (0 : Int32), iv (1 : Int32), iv (1 : Int32), rv b263, iv (0 : Int32), iv (0 : Int32), .unset, .unset, .unset, .unset, .unset, .unset] [(.ref b263)] _
          refine XS.pop X280.here hx rfl (hb hby at_98) rfl rfl ?_
          refine XS.iload X280.here hx rfl (hb hby at_99) rfl ?_
          refine XS.ifNo X280.here hx rfl (hb hby at_101) rfl ((if0 _ _).trans (feq (by decide : ¬ ((1 : Int32) = (0 : Int32)))).1) ?_
          show own_s p e below T279 m 104 #[iv i0, iv i1, iv i2, iv i3, iv (0 : Int32), iv (1 : Int32), iv (1 : Int32), rv b263, iv (0 : Int32), iv (0 : Int32), .unset, .unset, .unset, .unset, .unset, .unset] [] _
          refine XS.iconst X280.here hx rfl (hb hby at_104) ?_
          refine XS.goto X280.here hx rfl (pc0 := 105) (pc' := 109) rfl (hb hby at_105) (by decide) (by decide) ?_
          refine XS.istore X280.here hx rfl (hb hby at_109) rfl (l' := #[iv i0, iv i1, iv i2, iv i3, iv (0 : Int32), iv (1 : Int32), iv (1 : Int32), rv b263, iv (0 : Int32), iv (0 : Int32), iv (4 : Int32), .unset, .unset, .unset, .unset, .unset]) rfl ?_
          show own_s p e below T279 m 111 #[iv i0, iv i1, iv i2, iv i3, iv (0 : Int32), iv (1 : Int32), iv (1 : Int32), rv b263, iv (0 : Int32), iv (0 : Int32), iv (4 : Int32), .unset, .unset, .unset, .unset, .unset] [] _
          refine XS.aload X280.here hx rfl (hb hby at_111) rfl rfl ?_
          exact kX
        obtain ⟨cq283, kq283, q283a, q283b, q283c⟩ := isOf hZ e279 E_a279
        obtain ⟨_, _, ⟨T283, L283, k283, n283⟩, -, X283, ⟨Lc283, hQ283, l283, y283, z283⟩, st283⟩ := X280.virtualBack hx (y := (⟨"com/example/farcall/farcall/io/XdrEncoder", "beginPart", "()I"⟩ : MethodName)) (z := (⟨"com/example/farcall/farcall/io/XdrEncoder", "beginPart", "()I"⟩ : MethodName)) hown (mvT hZ (hw _ (List.mem_of_getElem? (i := 35) rfl))) (mvT hZ (hw _ (List.mem_of_getElem? (i := 36) rfl))) (notFace_of_selects (args := #[]) (mvT hZ (hw _ (List.mem_of_getElem? (i := 38) rfl)))) (mvT hZ (hw _ (List.mem_of_getElem? (i := 38) rfl))) (mvT hZ (hw _ (List.mem_of_getElem? (i := 37) rfl))) (by decide) (backOf (W := 0) (rm10 l Z a0 hw [] b263 bb271 ((own_put (fun _ : Nat => (0 : Int32)) 0 i1)) 0 4 T279.heap n0 Z279 E_a279 F_buf279 F_sta279 F_end279 A_b279 ne_ab279 fg279 g_a279 g_b279) hZ (hw _ (List.mem_of_getElem? (i := 39) rfl)) (hw _ (List.mem_of_getElem? (i := 2) rfl)) (by decide) (by decide)) q283a q283c (g := (mkF m 113 #[iv i0, iv i1, iv i2, iv i3, iv (0 : Int32), iv (1 : Int32), iv (1 : Int32), rv b263, iv (0 : Int32), iv (0 : Int32), iv (4 : Int32), .unset, .unset, .unset, .unset, .unset] [(.ref b263)])) rfl (by rw [hml]; rfl) (Steps.refl _) (argsL := []) (rest := []) (lenOf pd0_1 rfl) rfl (by show 2 * 0 + _ ≤ _; exact Nat.le_of_eq rfl) (hb hby at_113) (fun _ _ => ⟨rfl, e279, (by decide : 2 + 0 ≤ _), (by decide : 68 + 0 ≤ _)⟩)
        dsimp only [Pt.U, Pt.locs, Pt.cells, Pt.slots] at X283 l283 y283 z283 st283 hQ283
        subst l283 y283 z283
        obtain ⟨rfl, Nq283, Kq283, E_a283, F_buf283, F_sta283, F_end283, A_b283, ne_ab283, fg283, g_a283, g_b283⟩ := hQ283
        have N283 := Fr.app N280 Nq283
        have e283 : T283.heap = T283.heap := rfl
        have Z283 : n0 ≤ T283.heap.size := Nat.le_trans Z279 Kq283.1
        obtain ⟨LL284, X284, N284⟩ : ∃ LL, Stand p l e room_1 s m #[(.int i0), (.int i1), (.int i2), (.int i3)] below meth c T283 LL 2 68 ∧ Fr n0 LL := ⟨_, X283, N283⟩
        have pre285 : ∀ t, own_s p e below T283 m 116 #[iv i0, iv i1, iv i2, iv i3, iv (0 : Int32), iv (1 : Int32), iv (1 : Int32), rv b263, iv (0 : Int32), iv (0 : Int32), iv (4 : Int32), .unset, .unset, .unset, .unset, .unset] [(.int (0 : Int32))] t → Steps p.tables e below S0 t := fun tX kX => pre282 _ (st283.trans kX)
        have pre286 : ∀ t, own_s p e below T283 m 120 #[iv i0, iv i1, iv i2, iv i3, iv (0 : Int32), iv (1 : Int32), iv (1 : Int32), rv b263, iv (0 : Int32), iv (0 : Int32), iv (4 : Int32), iv (0 : Int32), .unset, .unset, .unset, .unset] [(.ref b263)] t → Steps p.tables e below S0 t := by
          intro tX kX
          refine pre285 _ ?_
          show own_s p e below T283 m 116 #[iv i0, iv i1, iv i2, iv i3, iv (0 : Int32), iv (1 : Int32), iv (1 : Int32), rv b263, iv (0 : Int32), iv (0 : Int32), iv (4 : Int32), .unset, .unset, .unset, .unset, .unset] [(.int (0 : Int32))] _
          refine XS.istore X284.here hx rfl (hb hby at_116) rfl (l' := #[iv i0, iv i1, iv i2, iv i3, iv (0 : Int32), iv (1 : Int32), iv (1 : Int32), rv b263, iv (0 : Int32), iv (0 : Int32), iv (4 : Int32), iv (0 : Int32), .unset, .unset, .unset, .unset]) rfl ?_
          refine XS.aload X284.here hx rfl (hb hby at_118) rfl rfl ?_
          exact kX
        obtain ⟨cq287, kq287, q287a, q287b, q287c⟩ := isOf hZ e283 E_a283
        obtain ⟨_, _, ⟨T287, L287, k287, n287⟩, -, X287, ⟨Lc287, hQ287, l287, y287, z287⟩, st287⟩ := X284.virtualBack hx (y := (⟨"com/example/farcall/farcall/io/XdrEncoder", "size", "()I"⟩ : MethodName)) (z := (⟨"com/example/farcall/farcall/io/XdrEncoder", "size", "()I"⟩ : MethodName)) hown (mvT hZ (hw _ (List.mem_of_getElem? (i := 40) rfl))) (mvT hZ (hw _ (List.mem_of_getElem? (i := 24) rfl))) (notFace_of_selects (args := #[]) (mvT hZ (hw _ (List.mem_of_getElem? (i := 26) rfl)))) (mvT hZ (hw _ (List.mem_of_getElem? (i := 26) rfl))) (mvT hZ (hw _ (List.mem_of_getElem? (i := 25) rfl))) (by decide) (backOf (W := 0) (rm6 l Z a0 hw [] b263 bb271 ((own_put (fun _ : Nat => (0 : Int32)) 0 i1)) 4 4 T283.heap n0 Z283 E_a283 F_buf283 F_sta283 F_end283 A_b283 ne_ab283 fg283 g_a283 g_b283 (by decide) (by decide)) hZ (hw _ (List.mem_of_getElem? (i := 27) rfl)) (hw _ (List.mem_of_getElem? (i := 2) rfl)) (by decide) (by decide)) q287a q287c (g := (mkF m 120 #[iv i0, iv i1, iv i2, iv i3, iv (0 : Int32), iv (1 : Int32), iv (1 : Int32), rv b263, iv (0 : Int32), iv (0 : Int32), iv (4 : Int32), iv (0 : Int32), .unset, .unset, .unset, .unset] [(.ref b263)])) rfl (by rw [hml]; rfl) (Steps.refl _) (argsL := []) (rest := []) (lenOf pd0_1 rfl) rfl (by show 2 * 0 + _ ≤ _; exact Nat.le_of_eq rfl) (hb hby at_120) (fun _ _ => ⟨rfl, e283, (by decide : 2 + 0 ≤ _), (by decide : 68 + 0 ≤ _)⟩)
        dsimp only [Pt.U, Pt.locs, Pt.cells, Pt.slots] at X287 l287 y287 z287 st287 hQ287
        subst l287 y287 z287
        obtain ⟨rfl, Nq287, e287⟩ := hQ287
        have N287 := Fr.app N284 Nq287
        obtain ⟨LL288, X288, N288⟩ : ∃ LL, Stand p l e room_1 s m #[(.int i0), (.int i1), (.int i2), (.int i3)] below meth c T287 LL 2 68 ∧ Fr n0 LL := ⟨_, X287, N287⟩
        have pre289 : ∀ t, own_s p e below T287 m 123 #[iv i0, iv i1, iv i2, iv i3, iv (0 : Int32), iv (1 : Int32), iv (1 : Int32), rv b263, iv (0 : Int32), iv (0 : Int32), iv (4 : Int32), iv (0 : Int32), .unset, .unset, .unset, .unset] [(.int (0 : Int32))] t → Steps p.tables e below S0 t := fun tX kX => pre286 _ (st287.trans kX)
        have pre290 : ∀ t, own_s p e below T287 m 136 #[iv i0, iv i1, iv i2, iv i3, iv (0 : Int32), iv (1 : Int32), iv (1 : Int32), rv b263, iv (0 : Int32), iv (0 : Int32), iv (4 : Int32), iv (0 : Int32), iv (1 : Int32), .unset, .unset, .unset] [(.int i2), (.ref b263)] t → Steps p.tables e below S0 t := by
          intro tX kX
          refine pre289 _ ?_
          show own_s p e below T287 m 123 #[iv i0, iv i1, iv i2, iv i3, iv (0 : Int32), iv (1 : Int32), iv (1 : Int32), rv b263, iv (0 : Int32), iv (0 : Int32), iv (4 : Int32), iv (0 : Int32), .unset, .unset, .unset, .unset] [(.int (0 : Int32))] _
          refine XS.ifNo X288.here hx rfl (hb hby at_123) rfl ((if0 _ _).trans (teq (by decide : (0 : Int32) = (0 : Int32))).2) ?_
          refine XS.iconst X288.here hx rfl (hb hby at_126) ?_
          refine XS.goto X288.here hx rfl (pc0 := 127) (pc' := 131) rfl (hb hby at_127) (by decide) (by decide) ?_
          show own_s p e below T287 m 131 #[iv i0, iv i1, iv i2, iv i3, iv (0 : Int32), iv (1 : Int32), iv (1 : Int32), rv b263, iv (0 : Int32), iv (0 : Int32), iv (4 : Int32), iv (0 : Int32), .unset, .unset, .unset, .unset] [(.int (1 : Int32))] _
          refine XS.istore X288.here hx rfl (hb hby at_131) rfl (l' := #[iv i0, iv i1, iv i2, iv i3, iv (0 : Int32), iv (1 : Int32), iv (1 : Int32), rv b263, iv (0 : Int32), iv (0 : Int32), iv (4 : Int32), iv (0 : Int32), iv (1 : Int32), .unset, .unset, .unset]) rfl ?_
          refine XS.aload X288.here hx rfl (hb hby at_133) rfl rfl ?_
          refine XS.iloadN X288.here hx rfl (hb hby at_135) rfl ?_
          exact kX
        obtain ⟨cq291, kq291, q291a, q291b, q291c⟩ := isOf hZ e287 E_a283
        obtain ⟨_, _, ⟨T291, L291, k291, n291⟩, -, X291, ⟨Lc291, hQ291, l291, y291, z291⟩, st291⟩ := X288.virtualBack hx (y := (⟨"com/example/farcall/farcall/io/XdrEncoder", "writeInt", "(I)Lcom/example/farcall/farcall/io/XdrEncoder;"⟩ : MethodName)) (z := (⟨"com/example/farcall/farcall/io/XdrEncoder", "writeInt", "(I)Lcom/example/farcall/farcall/io/XdrEncoder;"⟩ : MethodName)) hown (mvT hZ (hw _ (List.mem_of_getElem? (i := 12) rfl))) (mvT hZ (hw _ (List.mem_of_getElem? (i := 13) rfl))) (notFace_of_selects (args := #[]) (mvT hZ (hw _ (List.mem_of_getElem? (i := 15) rfl)))) (mvT hZ (hw _ (List.mem_of_getElem? (i := 15) rfl))) (mvT hZ (hw _ (List.mem_of_getElem? (i := 14) rfl))) (by decide) (backOf (W := 0) (rm9 l Z a0 hw [] b263 i2 bb271 ((own_put (fun _ : Nat => (0 : Int32)) 0 i1)) 4 4 T283.heap n0 Z283 E_a283 F_buf283 F_sta283 F_end283 A_b283 ne_ab283 fg283 g_a283 g_b283 (by decide) (by decide)) hZ (hw _ (List.mem_of_getElem? (i := 16) rfl)) (hw _ (List.mem_of_getElem? (i := 2) rfl)) (by decide) (by decide)) q291a q291c (g := (mkF m 136 #[iv i0, iv i1, iv i2, iv i3, iv (0 : Int32), iv (1 : Int32), iv (1 : Int32), rv b263, iv (0 : Int32), iv (0 : Int32), iv (4 : Int32), iv (0 : Int32), iv (1 : Int32), .unset, .unset, .unset] [(.int i2), (.ref b263)])) rfl (by rw [hml]; rfl) (Steps.refl _) (argsL := [(.int i2)]) (rest := []) (lenOf pd0_2 rfl) rfl (by show 2 * 0 + _ ≤ _; exact Nat.le_of_eq rfl) (hb hby at_136) (fun _ _ => ⟨rfl, e287, (by decide : 2 + 0 ≤ _), (by decide : 68 + 0 ≤ _)⟩)
        dsimp only [Pt.U, Pt.locs, Pt.cells, Pt.slots] at X291 l291 y291 z291 st291 hQ291
        subst l291 y291 z291
        obtain ⟨rfl, Nq291, Kq291, E_a291, F_buf291, F_sta291, F_end291, A_b291, ne_ab291, fg291, g_a291, g_b291⟩ := hQ291
        have N291 := Fr.app N288 Nq291
        have e291 : T291.heap = T291.heap := rfl
        have Z291 : n0 ≤ T291.heap.size := Nat.le_trans Z283 Kq291.1
        obtain ⟨LL292, X292, N292⟩ : ∃ LL, Stand p l e room_1 s m #[(.int i0), (.int i1), (.int i2), (.int i3)] below meth c T291 LL 2 68 ∧ Fr n0 LL := ⟨_, X291, N291⟩
        have pre293 : ∀ t, own_s p e below T291 m 139 #[iv i0, iv i1, iv i2, iv i3, iv (0 : Int32), iv (1 : Int32), iv (1 : Int32), rv b263, iv (0 : Int32), iv (0 : Int32), iv (4 : Int32), iv (0 : Int32), iv (1 : Int32), .unset, .unset, .unset] [(.ref b263)] t → Steps p.tables e below S0 t := fun tX kX => pre290 _ (st291.trans kX)
        have pre294 : ∀ t, own_s p e below T291 m 142 #[iv i0, iv i1, iv i2, iv i3, iv (0 : Int32), iv (1 : Int32), iv (1 : Int32), rv b263, iv (0 : Int32), iv (0 : Int32), iv (4 : Int32), iv (0 : Int32), iv (1 : Int32), .unset, .unset, .unset] [(.ref b263)] t → Steps p.tables e below S0 t := by
          intro tX kX
          refine pre293 _ ?_
          show own_s p e below T291 m 139 #[iv i0, iv i1, iv i2, iv i3, iv (0 : Int32), iv (1 : Int32), iv (1 : Int32), rv b263, iv (0 : Int32), iv (0 : Int32), iv (4 : Int32), iv (0 : Int32), iv (1 : Int32), .unset, .unset, .unset] [(.ref b263)] _
          refine XS.pop X292.here hx rfl (hb hby at_139) rfl rfl ?_
          refine XS.aload X292.here hx rfl (hb hby at_140) rfl rfl ?_
          exact kX
        obtain ⟨cq295, kq295, q295a, q295b, q295c⟩ := isOf hZ e291 E_a291
        obtain ⟨_, _, ⟨T295, L295, k295, n295⟩, -, X295, ⟨Lc295, hQ295, l295, y295, z295⟩, st295⟩ := X292.virtualBack hx (y := (⟨"com/example/farcall/farcall/io/XdrEncoder", "toByteArray", "()[B"⟩ : MethodName)) (z := (⟨"com/example/farcall/farcall/io/XdrEncoder", "toByteArray", "()[B"⟩ : MethodName)) hown (mvT hZ (hw _ (List.mem_of_getElem? (i := 41) rfl))) (mvT hZ (hw _ (List.mem_of_getElem? (i := 42) rfl))) (notFace_of_selects (args := #[]) (mvT hZ (hw _ (List.mem_of_getElem? (i := 44) rfl)))) (mvT hZ (hw _ (List.mem_of_getElem? (i := 44) rfl))) (mvT hZ (hw _ (List.mem_of_getElem? (i := 43) rfl))) (by decide) (backOf (W := 0) (rm5 l Z a0 hw [] b263 bb271 ((own_put (own_put (fun _ : Nat => (0 : Int32)) 0 i1) 4 i2)) 4 8 T291.heap n0 Z291 E_a291 F_buf291 F_sta291 F_end291 A_b291 ne_ab291 fg291 g_a291 g_b291 (by decide) (by decide) (by decide)) hZ (hw _ (List.mem_of_getElem? (i := 45) rfl)) (hw _ (List.mem_of_getElem? (i := 2) rfl)) (by decide) (by decide)) q295a q295c (g := (mkF m 142 #[iv i0, iv i1, iv i2, iv i3, iv (0 : Int32), iv (1 : Int32), iv (1 : Int32), rv b263, iv (0 : Int32), iv (0 : Int32), iv (4 : Int32), iv (0 : Int32), iv (1 : Int32), .unset, .unset, .unset] [(.ref b263)])) rfl (by rw [hml]; rfl) (Steps.refl _) (argsL := []) (rest := []) (lenOf pd0_3 rfl) rfl (by show 2 * 0 + _ ≤ _; exact Nat.le_of_eq rfl) (hb hby at_142) (fun _ _ => ⟨rfl, e291, (by decide : 2 + 1 ≤ _), (by decide : 68 + 64 ≤ _)⟩)
        dsimp only [Pt.U, Pt.locs, Pt.cells, Pt.slots] at X295 l295 y295 z295 st295 hQ295
        subst l295 y295 z295
        obtain ⟨r295, rfl, Nq295, Kq295, sz_r295, g_r295, fA295⟩ := hQ295
        have N295 := Fr.app N292 Nq295
        have e295 : T295.heap = T295.heap := rfl
        have Z295 : n0 ≤ T295.heap.size := Nat.le_trans Z291 Kq295.1
        have ne296 : b263 ≠ r295 := Nat.ne_of_lt (Nat.lt_of_lt_of_le E_a291.lt sz_r295)
        have ne297 : bb271 ≠ r295 := Nat.ne_of_lt (Nat.lt_of_lt_of_le A_b291.lt sz_r295)
        have f298_E : Exa Z T295.heap b263 "com/example/farcall/farcall/io/XdrEncoder" := E_a291.keep Kq295
        have f299_F : Fld Z T295.heap b263 "com/example/farcall/farcall/io/XdrEncoder" "buffer" "[B" (.ref bb271) := F_buf291.keep Kq295 nin0
        have f300_F : Fld Z T295.heap b263 "com/example/farcall/farcall/io/XdrEncoder" "start" "I" (.int (Int32.ofNat 4)) := F_sta291.keep Kq295 nin0
        have f301_F : Fld Z T295.heap b263 "com/example/farcall/farcall/io/XdrEncoder" "end" "I" (.int (Int32.ofNat 8)) := F_end291.keep Kq295 nin0
        have f302_A : own_Af Z T295.heap bb271 .byte 64 (fun j => .int ((own_put (own_put (fun _ : Nat => (0 : Int32)) 0 i1) 4 i2) j)) := A_b291.keep Kq295 nin0
        obtain ⟨LL303, X303, N303⟩ : ∃ LL, Stand p l e room_1 s m #[(.int i0), (.int i1), (.int i2), (.int i3)] below meth c T295 LL 3 132 ∧ Fr n0 LL := ⟨_, X295, N295⟩
        have pre304 : ∀ t, own_s p e below T295 m 145 #[iv i0, iv i1, iv i2, iv i3, iv (0 : Int32), iv (1 : Int32), iv (1 : Int32), rv b263, iv (0 : Int32), iv (0 : Int32), iv (4 : Int32), iv (0 : Int32), iv (1 : Int32), .unset, .unset, .unset] [(.ref r295)] t → Steps p.tables e below S0 t := fun tX kX => pre294 _ (st295.trans kX)
        have pre305 : ∀ t, own_s p e below T295 m 154 #[iv i0, iv i1, iv i2, iv i3, iv (0 : Int32), iv (1 : Int32), iv (1 : Int32), rv b263, iv (0 : Int32), iv (0 : Int32), iv (4 : Int32), iv (0 : Int32), iv (1 : Int32), rv r295, .unset, .unset] [(.ref b263)] t → Steps p.tables e below S0 t := by
          intro tX kX
          refine pre304 _ ?_
          show own_s p e below T295 m 145 #[iv i0, iv i1, iv i2, iv i3, iv (0 : Int32), iv (1 : Int32), iv (1 : Int32), rv b263, iv (0 : Int32), iv (0 : Int32), iv (4 : Int32), iv (0 : Int32), iv (1 : Int32), .unset, .unset, .unset] [(.ref r295)] _
          refine XS.astore X303.here hx rfl (hb hby at_145) rfl rfl (l' := #[iv i0, iv i1, iv i2, iv i3, iv (0 : Int32), iv (1 : Int32), iv (1 : Int32), rv b263, iv (0 : Int32), iv (0 : Int32), iv (4 : Int32), iv (0 : Int32), iv (1 : Int32), rv r295, .unset, .unset]) rfl ?_
          refine XS.iload X303.here hx rfl (hb hby at_147) rfl ?_
          refine XS.ifNo X303.here hx rfl (hb hby at_149) rfl ((if0 _ _).trans (feq (by decide : ¬ ((1 : Int32) = (0 : Int32)))).1) ?_
          show own_s p e below T295 m 152 #[iv i0, iv i1, iv i2, iv i3, iv (0 : Int32), iv (1 : Int32), iv (1 : Int32), rv b263, iv (0 : Int32), iv (0 : Int32), iv (4 : Int32), iv (0 : Int32), iv (1 : Int32), rv r295, .unset, .unset] [] _
          refine XS.aload X303.here hx rfl (hb hby at_152) rfl rfl ?_
          exact kX
        obtain ⟨cq306, kq306, q306a, q306b, q306c⟩ := isOf hZ e295 f298_E
        obtain ⟨_, _, ⟨T306, L306, k306, n306⟩, -, X306, ⟨Lc306, hQ306, l306, y306, z306⟩, st306⟩ := X303.virtualBack hx (y := (⟨"com/example/farcall/farcall/io/XdrEncoder", "size", "()I"⟩ : MethodName)) (z := (⟨"com/example/farcall/farcall/io/XdrEncoder", "size", "()I"⟩ : MethodName)) hown (mvT hZ (hw _ (List.mem_of_getElem? (i := 40) rfl))) (mvT hZ (hw _ (List.mem_of_getElem? (i := 24) rfl))) (notFace_of_selects (args := #[]) (mvT hZ (hw _ (List.mem_of_getElem? (i := 26) rfl)))) (mvT hZ (hw _ (List.mem_of_getElem? (i := 26) rfl))) (mvT hZ (hw _ (List.mem_of_getElem? (i := 25) rfl))) (by decide) (backOf (W := 0) (rm6 l Z a0 hw [] b263 bb271 ((own_put (own_put (fun _ : Nat => (0 : Int32)) 0 i1) 4 i2)) 4 8 T295.heap n0 Z295 f298_E f299_F f300_F f301_F f302_A ne_ab291 fg291 g_a291 g_b291 (by decide) (by decide)) hZ (hw _ (List.mem_of_getElem? (i := 27) rfl)) (hw _ (List.mem_of_getElem? (i := 2) rfl)) (by decide) (by decide)) q306a q306c (g := (mkF m 154 #[iv i0, iv i1, iv i2, iv i3, iv (0 : Int32), iv (1 : Int32), iv (1 : Int32), rv b263, iv (0 : Int32), iv (0 : Int32), iv (4 : Int32), iv (0 : Int32), iv (1 : Int32), rv r295, .unset, .unset] [(.ref b263)])) rfl (by rw [hml]; rfl) (Steps.refl _) (argsL := []) (rest := []) (lenOf pd0_1 rfl) rfl (by show 2 * 0 + _ ≤ _; exact Nat.le_of_eq rfl) (hb hby at_154) (fun _ _ => ⟨rfl, e295, (by decide : 3 + 0 ≤ _), (by decide : 132 + 0 ≤ _)⟩)
        dsimp only [Pt.U, Pt.locs, Pt.cells, Pt.slots] at X306 l306 y306 z306 st306 hQ306
        subst l306 y306 z306
        obtain ⟨rfl, Nq306, e306⟩ := hQ306
        have N306 := Fr.app N303 Nq306
        obtain ⟨LL307, X307, N307⟩ : ∃ LL, Stand p l e room_1 s m #[(.int i0), (.int i1), (.int i2), (.int i3)] below meth c T306 LL 3 132 ∧ Fr n0 LL := ⟨_, X306, N306⟩
        have pre308 : ∀ t, own_s p e below T306 m 157 #[iv i0, iv i1, iv i2, iv i3, iv (0 : Int32), iv (1 : Int32), iv (1 : Int32), rv b263, iv (0 : Int32), iv (0 : Int32), iv (4 : Int32), iv (0 : Int32), iv (1 : Int32), rv r295, .unset, .unset] [(.int (4 : Int32))] t → Steps p.tables e below S0 t := fun tX kX => pre305 _ (st306.trans kX)
        have pre310 : ∀ t, own_s p e below T306 m 163 #[iv i0, iv i1, iv i2, iv i3, iv (0 : Int32), iv (1 : Int32), iv (1 : Int32), rv b263, iv (0 : Int32), iv (0 : Int32), iv (4 : Int32), iv (0 : Int32), iv (1 : Int32), rv r295, .unset, .unset] [(.ref r295)] t → Steps p.tables e below S0 t := by
          intro tX kX
          refine pre308 _ ?_
          show own_s p e below T306 m 157 #[iv i0, iv i1, iv i2, iv i3, iv (0 : Int32), iv (1 : Int32), iv (1 : Int32), rv b263, iv (0 : Int32), iv (0 : Int32), iv (4 : Int32), iv (0 : Int32), iv (1 : Int32), rv r295, .unset, .unset] [(.int (4 : Int32))] _
          refine XS.iconst X307.here hx rfl (hb hby at_157) ?_
          refine XS.icmpNo X307.here hx rfl (hb hby at_158) rfl (teq (by decide : (4 : Int32) = (4 : Int32))).2 ?_
          refine XS.aload X307.here hx rfl (hb hby at_161) rfl rfl ?_
          exact kX
        obtain ⟨cl309, Ar309, S309, M309, H309⟩ := id fA295
        have pre312 : ∀ t, own_s p e below T306 m 171 #[iv i0, iv i1, iv i2, iv i3, iv (0 : Int32), iv (1 : Int32), iv (1 : Int32), rv b263, iv (0 : Int32), iv (0 : Int32), iv (4 : Int32), iv (0 : Int32), iv (1 : Int32), rv r295, .unset, .unset] [(.int (0 : Int32)), (.ref r295)] t → Steps p.tables e below S0 t := by
          intro tX kX
          refine pre310 _ ?_
          show own_s p e below T306 m 163 #[iv i0, iv i1, iv i2, iv i3, iv (0 : Int32), iv (1 : Int32), iv (1 : Int32), rv b263, iv (0 : Int32), iv (0 : Int32), iv (4 : Int32), iv (0 : Int32), iv (1 : Int32), rv r295, .unset, .unset] [(.ref r295)] _
          refine X307.arraylength hx (by rw [e306]; exact Ar309.1) (State.isArrayOf_alike hZ.alike Ar309.2.1) (g := (mkF m 163 #[iv i0, iv i1, iv i2, iv i3, iv (0 : Int32), iv (1 : Int32), iv (1 : Int32), rv b263, iv (0 : Int32), iv (0 : Int32), iv (4 : Int32), iv (0 : Int32), iv (1 : Int32), rv r295, .unset, .unset] [(.ref r295)])) rfl rfl (hb hby at_163) _ ?_
          rw [show cl309.slots.size.toInt32 = (4 : Int32) from by rw [S309]; exact rfl]
          refine XS.iconst X307.here hx rfl (hb hby at_164) ?_
          refine XS.icmpNo X307.here hx rfl (hb hby at_165) rfl (teq (by decide : (4 : Int32) = (4 : Int32))).2 ?_
          show own_s p e below T306 m 168 #[iv i0, iv i1, iv i2, iv i3, iv (0 : Int32), iv (1 : Int32), iv (1 : Int32), rv b263, iv (0 : Int32), iv (0 : Int32), iv (4 : Int32), iv (0 : Int32), iv (1 : Int32), rv r295, .unset, .unset] [] _
          refine XS.aload X307.here hx rfl (hb hby at_168) rfl rfl ?_
          refine XS.iconst X307.here hx rfl (hb hby at_170) ?_
          exact kX
        obtain ⟨cl311, Ar311, S311, M311, H311⟩ := id fA295
        have pre314 : ∀ t, own_s p e below T306 m 183 #[iv i0, iv i1, iv i2, iv i3, iv (0 : Int32), iv (1 : Int32), iv (1 : Int32), rv b263, iv (0 : Int32), iv (0 : Int32), iv (4 : Int32), iv (0 : Int32), iv (1 : Int32), rv r295, .unset, .unset] [(.int (1 : Int32)), (.ref r295)] t → Steps p.tables e below S0 t := by
          intro tX kX
          refine pre312 _ ?_
          show own_s p e below T306 m 171 #[iv i0, iv i1, iv i2, iv i3, iv (0 : Int32), iv (1 : Int32), iv (1 : Int32), rv b263, iv (0 : Int32), iv (0 : Int32), iv (4 : Int32), iv (0 : Int32), iv (1 : Int32), rv r295, .unset, .unset] [(.int (0 : Int32)), (.ref r295)] _
          refine X307.baloadBytes hx (j := (0 : Int32)) (v := (.int (((i2.toUInt32 >>> ((24 : Int32) &&& 31).toUInt32).toInt32).toInt8.toInt32))) (by rw [e306]; exact Ar311.1) (State.isArrayOf_alike hZ.alike Ar311.2.1) Ar311.2.2 (own_inb S311 M311 (by decide)) (own_get H311 S311 (by decide) (show Value.int ((own_put (own_put (fun _ : Nat => (0 : Int32)) 0 i1) 4 i2) (4 + 0)) = Value.int (((i2.toUInt32 >>> ((24 : Int32) &&& 31).toUInt32).toInt32).toInt8.toInt32) from congrArg Value.int (((own_put_in (by decide) (by decide)).trans (congrArg (own_by i2) (show _ = 0 from by decide))).trans (show own_by i2 0 = (((i2.toUInt32 >>> ((24 : Int32) &&& 31).toUInt32).toInt32).toInt8.toInt32) from rfl)))) (g := (mkF m 171 #[iv i0, iv i1, iv i2, iv i3, iv (0 : Int32), iv (1 : Int32), iv (1 : Int32), rv b263, iv (0 : Int32), iv (0 : Int32), iv (4 : Int32), iv (0 : Int32), iv (1 : Int32), rv r295, .unset, .unset] [(.int (0 : Int32)), (.ref r295)])) rfl rfl (hb hby at_171) _ ?_
          refine XS.iloadN X307.here hx rfl (hb hby at_172) rfl ?_
          refine XS.bipush X307.here hx rfl (hb hby at_173) ?_
          show own_s p e below T306 m 175 #[iv i0, iv i1, iv i2, iv i3, iv (0 : Int32), iv (1 : Int32), iv (1 : Int32), rv b263, iv (0 : Int32), iv (0 : Int32), iv (4 : Int32), iv (0 : Int32), iv (1 : Int32), rv r295, .unset, .unset] [(.int (24 : Int32)), (.int i2), (.int (((i2.toUInt32 >>> ((24 : Int32) &&& 31).toUInt32).toInt32).toInt8.toInt32))] _
          refine XS.iushr X307.here hx rfl (hb hby at_175) rfl ?_
          refine XS.i2b X307.here hx rfl (hb hby at_176) rfl ?_
          refine XS.icmpNo X307.here hx rfl (hb hby at_177) rfl (teq (rfl : (((i2.toUInt32 >>> ((24 : Int32) &&& 31).toUInt32).toInt32).toInt8.toInt32) = (((i2.toUInt32 >>> ((24 : Int32) &&& 31).toUInt32).toInt32).toInt8.toInt32))).2 ?_
          show own_s p e below T306 m 180 #[iv i0, iv i1, iv i2, iv i3, iv (0 : Int32), iv (1 : Int32), iv (1 : Int32), rv b263, iv (0 : Int32), iv (0 : Int32), iv (4 : Int32), iv (0 : Int32), iv (1 : Int32), rv r295, .unset, .unset] [] _
          refine XS.aload X307.here hx rfl (hb hby at_180) rfl rfl ?_
          refine XS.iconst X307.here hx rfl (hb hby at_182) ?_
          exact kX
        obtain ⟨cl313, Ar313, S313, M313, H313⟩ := id fA295
        have pre316 : ∀ t, own_s p e below T306 m 195 #[iv i0, iv i1, iv i2, iv i3, iv (0 : Int32), iv (1 : Int32), iv (1 : Int32), rv b263, iv (0 : Int32), iv (0 : Int32), iv (4 : Int32), iv (0 : Int32), iv (1 : Int32), rv r295, .unset, .unset] [(.int (2 : Int32)), (.ref r295)] t → Steps p.tables e below S0 t := by
          intro tX kX
          refine pre314 _ ?_
          show own_s p e below T306 m 183 #[iv i0, iv i1, iv i2, iv i3, iv (0 : Int32), iv (1 : Int32), iv (1 : Int32), rv b263, iv (0 : Int32), iv (0 : Int32), iv (4 : Int32), iv (0 : Int32), iv (1 : Int32), rv r295, .unset, .unset] [(.int (1 : Int32)), (.ref r295)] _
          refine X307.baloadBytes hx (j := (1 : Int32)) (v := (.int (((i2.toUInt32 >>> ((16 : Int32) &&& 31).toUInt32).toInt32).toInt8.toInt32))) (by rw [e306]; exact Ar313.1) (State.isArrayOf_alike hZ.alike Ar313.2.1) Ar313.2.2 (own_inb S313 M313 (by decide)) (own_get H313 S313 (by decide) (show Value.int ((own_put (own_put (fun _ : Nat => (0 : Int32)) 0 i1) 4 i2) (4 + 1)) = Value.int (((i2.toUInt32 >>> ((16 : Int32) &&& 31).toUInt32).toInt32).toInt8.toInt32) from congrArg Value.int (((own_put_in (by decide) (by decide)).trans (congrArg (own_by i2) (show _ = 1 from by decide))).trans (show own_by i2 1 = (((i2.toUInt32 >>> ((16 : Int32) &&& 31).toUInt32).toInt32).toInt8.toInt32) from rfl)))) (g := (mkF m 183 #[iv i0, iv i1, iv i2, iv i3, iv (0 : Int32), iv (1 : Int32), iv (1 : Int32), rv b263, iv (0 : Int32), iv (0 : Int32), iv (4 : Int32), iv (0 : Int32), iv (1 : Int32), rv r295, .unset, .unset] [(.int (1 : Int32)), (.ref r295)])) rfl rfl (hb hby at_183) _ ?_
          refine XS.iloadN X307.here hx rfl (hb hby at_184) rfl ?_
          refine XS.bipush X307.here hx rfl (hb hby at_185) ?_
          show own_s p e below T306 m 187 #[iv i0, iv i1, iv i2, iv i3, iv (0 : Int32), iv (1 : Int32), iv (1 : Int32), rv b263, iv (0 : Int32), iv (0 : Int32), iv (4 : Int32), iv (0 : Int32), iv (1 : Int32), rv r295, .unset, .unset] [(.int (16 : Int32)), (.int i2), (.int (((i2.toUInt32 >>> ((16 : Int32) &&& 31).toUInt32).toInt32).toInt8.toInt32))] _
          refine XS.iushr X307.here hx rfl (hb hby at_187) rfl ?_
          refine XS.i2b X307.here hx rfl (hb hby at_188) rfl ?_
          refine XS.icmpNo X307.here hx rfl (hb hby at_189) rfl (teq (rfl : (((i2.toUInt32 >>> ((16 : Int32) &&& 31).toUInt32).toInt32).toInt8.toInt32) = (((i2.toUInt32 >>> ((16 : Int32) &&& 31).toUInt32).toInt32).toInt8.toInt32))).2 ?_
          show own_s p e below T306 m 192 #[iv i0, iv i1, iv i2, iv i3, iv (0 : Int32), iv (1 : Int32), iv (1 : Int32), rv b263, iv (0 : Int32), iv (0 : Int32), iv (4 : Int32), iv (0 : Int32), iv (1 : Int32), rv r295, .unset, .unset] [] _
          refine XS.aload X307.here hx rfl (hb hby at_192) rfl rfl ?_
          refine XS.iconst X307.here hx rfl (hb hby at_194) ?_
          exact kX
        obtain ⟨cl315, Ar315, S315, M315, H315⟩ := id fA295
        have pre318 : ∀ t, own_s p e below T306 m 207 #[iv i0, iv i1, iv i2, iv i3, iv (0 : Int32), iv (1 : Int32), iv (1 : Int32), rv b263, iv (0 : Int32), iv (0 : Int32), iv (4 : Int32), iv (0 : Int32), iv (1 : Int32), rv r295, .unset, .unset] [(.int (3 : Int32)), (.ref r295)] t → Steps p.tables e below S0 t := by
          intro tX kX
          refine pre316 _ ?_
          show own_s p e below T306 m 195 #[iv i0, iv i1, iv i2, iv i3, iv (0 : Int32), iv (1 : Int32), iv (1 : Int32), rv b263, iv (0 : Int32), iv (0 : Int32), iv (4 : Int32), iv (0 : Int32), iv (1 : Int32), rv r295, .unset, .unset] [(.int (2 : Int32)), (.ref r295)] _
          refine X307.baloadBytes hx (j := (2 : Int32)) (v := (.int (((i2.toUInt32 >>> ((8 : Int32) &&& 31).toUInt32).toInt32).toInt8.toInt32))) (by rw [e306]; exact Ar315.1) (State.isArrayOf_alike hZ.alike Ar315.2.1) Ar315.2.2 (own_inb S315 M315 (by decide)) (own_get H315 S315 (by decide) (show Value.int ((own_put (own_put (fun _ : Nat => (0 : Int32)) 0 i1) 4 i2) (4 + 2)) = Value.int (((i2.toUInt32 >>> ((8 : Int32) &&& 31).toUInt32).toInt32).toInt8.toInt32) from congrArg Value.int (((own_put_in (by decide) (by decide)).trans (congrArg (own_by i2) (show _ = 2 from by decide))).trans (show own_by i2 2 = (((i2.toUInt32 >>> ((8 : Int32) &&& 31).toUInt32).toInt32).toInt8.toInt32) from rfl)))) (g := (mkF m 195 #[iv i0, iv i1, iv i2, iv i3, iv (0 : Int32), iv (1 : Int32), iv (1 : Int32), rv b263, iv (0 : Int32), iv (0 : Int32), iv (4 : Int32), iv (0 : Int32), iv (1 : Int32), rv r295, .unset, .unset] [(.int (2 : Int32)), (.ref r295)])) rfl rfl (hb hby at_195) _ ?_
          refine XS.iloadN X307.here hx rfl (hb hby at_196) rfl ?_
          refine XS.bipush X307.here hx rfl (hb hby at_197) ?_
          show own_s p e below T306 m 199 #[iv i0, iv i1, iv i2, iv i3, iv (0 : Int32), iv (1 : Int32), iv (1 : Int32), rv b263, iv (0 : Int32), iv (0 : Int32), iv (4 : Int32), iv (0 : Int32), iv (1 : Int32), rv r295, .unset, .unset] [(.int (8 : Int32)), (.int i2), (.int (((i2.toUInt32 >>> ((8 : Int32) &&& 31).toUInt32).toInt32).toInt8.toInt32))] _
          refine XS.iushr X307.here hx rfl (hb hby at_199) rfl ?_
          refine XS.i2b X307.here hx rfl (hb hby at_200) rfl ?_
          refine XS.icmpNo X307.here hx rfl (hb hby at_201) rfl (teq (rfl : (((i2.toUInt32 >>> ((8 : Int32) &&& 31).toUInt32).toInt32).toInt8.toInt32) = (((i2.toUInt32 >>> ((8 : Int32) &&& 31).toUInt32).toInt32).toInt8.toInt32))).2 ?_
          show own_s p e below T306 m 204 #[iv i0, iv i1, iv i2, iv i3, iv (0 : Int32), iv (1 : Int32), iv (1 : Int32), rv b263, iv (0 : Int32), iv (0 : Int32), iv (4 : Int32), iv (0 : Int32), iv (1 : Int32), rv r295, .unset, .unset] [] _
          refine XS.aload X307.here hx rfl (hb hby at_204) rfl rfl ?_
          refine XS.iconst X307.here hx rfl (hb hby at_206) ?_
          exact kX
        obtain ⟨cl317, Ar317, S317, M317, H317⟩ := id fA295
        have pre319 : ∀ t, own_s p e below T306 m 231 #[iv i0, iv i1, iv i2, iv i3, iv (0 : Int32), iv (1 : Int32), iv (1 : Int32), rv b263, iv (0 : Int32), iv (0 : Int32), iv (4 : Int32), iv (0 : Int32), iv (1 : Int32), rv r295, .unset, .unset] [(.int (0 : Int32)), (.ref b263)] t → Steps p.tables e below S0 t := by
          intro tX kX
          refine pre318 _ ?_
          show own_s p e below T306 m 207 #[iv i0, iv i1, iv i2, iv i3, iv (0 : Int32), iv (1 : Int32), iv (1 : Int32), rv b263, iv (0 : Int32), iv (0 : Int32), iv (4 : Int32), iv (0 : Int32), iv (1 : Int32), rv r295, .unset, .unset] [(.int (3 : Int32)), (.ref r295)] _
          refine X307.baloadBytes hx (j := (3 : Int32)) (v := (.int (i2.toInt8.toInt32))) (by rw [e306]; exact Ar317.1) (State.isArrayOf_alike hZ.alike Ar317.2.1) Ar317.2.2 (own_inb S317 M317 (by decide)) (own_get H317 S317 (by decide) (show Value.int ((own_put (own_put (fun _ : Nat => (0 : Int32)) 0 i1) 4 i2) (4 + 3)) = Value.int (i2.toInt8.toInt32) from congrArg Value.int (((own_put_in (by decide) (by decide)).trans (congrArg (own_by i2) (show _ = 3 from by decide))).trans (show own_by i2 3 = (i2.toInt8.toInt32) from rfl)))) (g := (mkF m 207 #[iv i0, iv i1, iv i2, iv i3, iv (0 : Int32), iv (1 : Int32), iv (1 : Int32), rv b263, iv (0 : Int32), iv (0 : Int32), iv (4 : Int32), iv (0 : Int32), iv (1 : Int32), rv r295, .unset, .unset] [(.int (3 : Int32)), (.ref r295)])) rfl rfl (hb hby at_207) _ ?_
          refine XS.iloadN X307.here hx rfl (hb hby at_208) rfl ?_
          refine XS.i2b X307.here hx rfl (hb hby at_209) rfl ?_
          show own_s p e below T306 m 210 #[iv i0, iv i1, iv i2, iv i3, iv (0 : Int32), iv (1 : Int32), iv (1 : Int32), rv b263, iv (0 : Int32), iv (0 : Int32), iv (4 : Int32), iv (0 : Int32), iv (1 : Int32), rv r295, .unset, .unset] [(.int (i2.toInt8.toInt32)), (.int (i2.toInt8.toInt32))] _
          refine XS.icmpNo X307.here hx rfl (hb hby at_210) rfl (teq (rfl : (i2.toInt8.toInt32) = (i2.toInt8.toInt32))).2 ?_
          refine XS.iconst X307.here hx rfl (hb hby at_213) ?_
          refine XS.goto X307.here hx rfl (pc0 := 214) (pc' := 218) rfl (hb hby at_214) (by decide) (by decide) ?_
          show own_s p e below T306 m 218 #[iv i0, iv i1, iv i2, iv i3, iv (0 : Int32), iv (1 : Int32), iv (1 : Int32), rv b263, iv (0 : Int32), iv (0 : Int32), iv (4 : Int32), iv (0 : Int32), iv (1 : Int32), rv r295, .unset, .unset] [(.int (1 : Int32))] _
          refine XS.istore X307.here hx rfl (hb hby at_218) rfl (l' := #[iv i0, iv i1, iv i2, iv i3, iv (0 : Int32), iv (1 : Int32), iv (1 : Int32), rv b263, iv (0 : Int32), iv (0 : Int32), iv (4 : Int32), iv (0 : Int32), iv (1 : Int32), rv r295, .unset, .unset]) rfl ?_
          refine XS.iload X307.here hx rfl (hb hby at_220) rfl ?_
          refine XS.ifYes X307.here hx rfl (pc0 := 222) (pc' := 227) rfl (hb hby at_222) rfl ((if0 _ _).trans (feq (by decide : ¬ ((1 : Int32) = (0 : Int32)))).2) (by decide) (by decide) ?_
          show own_s p e below T306 m 227 #[iv i0, iv i1, iv i2, iv i3, iv (0 : Int32), iv (1 : Int32), iv (1 : Int32), rv b263, iv (0 : Int32), iv (0 : Int32), iv (4 : Int32), iv (0 : Int32), iv (1 : Int32), rv r295, .unset, .unset] [] _
          refine XS.aload X307.here hx rfl (hb hby at_227) rfl rfl ?_
          refine XS.iload X307.here hx rfl (hb hby at_229) rfl ?_
          exact kX
        obtain ⟨cq320, kq320, q320a, q320b, q320c⟩ := isOf hZ e306 f298_E
        obtain ⟨_, _, ⟨T320, L320, k320, n320⟩, -, X320, ⟨Lc320, hQ320, l320, y320, z320⟩, st320⟩ := X307.virtualBack hx (y := (⟨"com/example/farcall/farcall/io/XdrEncoder", "endPart", "(I)V"⟩ : MethodName)) (z := (⟨"com/example/farcall/farcall/io/XdrEncoder", "endPart", "(I)V"⟩ : MethodName)) hown (mvT hZ (hw _ (List.mem_of_getElem? (i := 64) rfl))) (mvT hZ (hw _ (List.mem_of_getElem? (i := 65) rfl))) (notFace_of_selects (args := #[]) (mvT hZ (hw _ (List.mem_of_getElem? (i := 67) rfl)))) (mvT hZ (hw _ (List.mem_of_getElem? (i := 67) rfl))) (mvT hZ (hw _ (List.mem_of_getElem? (i := 66) rfl))) (by decide) (backOf (W := 0) (rm11 l Z a0 hw [] b263 (0 : Int32) bb271 ((own_put (own_put (fun _ : Nat => (0 : Int32)) 0 i1) 4 i2)) 4 8 0 T295.heap n0 Z295 f298_E f299_F f300_F f301_F f302_A ne_ab291 fg291 g_a291 g_b291 rfl (by decide) (by decide)) hZ (hw _ (List.mem_of_getElem? (i := 68) rfl)) (hw _ (List.mem_of_getElem? (i := 2) rfl)) (by decide) (by decide)) q320a q320c (g := (mkF m 231 #[iv i0, iv i1, iv i2, iv i3, iv (0 : Int32), iv (1 : Int32), iv (1 : Int32), rv b263, iv (0 : Int32), iv (0 : Int32), iv (4 : Int32), iv (0 : Int32), iv (1 : Int32), rv r295, .unset, .unset] [(.int (0 : Int32)), (.ref b263)])) rfl (by rw [hml]; rfl) (Steps.refl _) (argsL := [(.int (0 : Int32))]) (rest := []) (lenOf pd0_4 rfl) rfl (by show 2 * 0 + _ ≤ _; exact Nat.le_of_eq rfl) (hb hby at_231) (fun _ _ => ⟨rfl, e306, (by decide : 3 + 0 ≤ _), (by decide : 132 + 0 ≤ _)⟩)
        dsimp only [Pt.U, Pt.locs, Pt.cells, Pt.slots] at X320 l320 y320 z320 st320 hQ320
        subst l320 y320 z320
        obtain ⟨rfl, Nq320, Kq320, E_a320, F_buf320, F_sta320, F_end320, A_b320, ne_ab320, fg320, g_a320, g_b320⟩ := hQ320
        have N320 := Fr.app N307 Nq320
        have e320 : T320.heap = T320.heap := rfl
        have Z320 : n0 ≤ T320.heap.size := Nat.le_trans Z295 Kq320.1
        have f321_A : own_Af Z T320.heap r295 .byte 4 (fun j => .int ((own_put (own_put (fun _ : Nat => (0 : Int32)) 0 i1) 4 i2) (4 + j))) := fA295.keep Kq320 (ninS (Ne.symm ne296) (nin0))
        obtain ⟨LL322, X322, N322⟩ : ∃ LL, Stand p l e room_1 s m #[(.int i0), (.int i1), (.int i2), (.int i3)] below meth c T320 LL 3 132 ∧ Fr n0 LL := ⟨_, X320, N320⟩
        have pre323 : ∀ t, own_s p e below T320 m 234 #[iv i0, iv i1, iv i2, iv i3, iv (0 : Int32), iv (1 : Int32), iv (1 : Int32), rv b263, iv (0 : Int32), iv (0 : Int32), iv (4 : Int32), iv (0 : Int32), iv (1 : Int32), rv r295, .unset, .unset] [] t → Steps p.tables e below S0 t := fun tX kX => pre319 _ (st320.trans kX)
        have pre324 : ∀ t, own_s p e below T320 m 257 #[iv i0, iv i1, iv i2, iv i3, iv (0 : Int32), iv (1 : Int32), iv (1 : Int32), rv b263, iv (0 : Int32), iv (0 : Int32), iv (4 : Int32), iv (0 : Int32), iv (1 : Int32), rv r295, iv (8 : Int32), .unset] [(.ref b263)] t → Steps p.tables e below S0 t := by
          intro tX kX
          refine pre323 _ ?_
          show own_s p e below T320 m 234 #[iv i0, iv i1, iv i2, iv i3, iv (0 : Int32), iv (1 : Int32), iv (1 : Int32), rv b263, iv (0 : Int32), iv (0 : Int32), iv (4 : Int32), iv (0 : Int32), iv (1 : Int32), rv r295, .unset, .unset] [] _
          refine XS.iload X322.here hx rfl (hb hby at_234) rfl ?_
          refine XS.ifNo X322.here hx rfl (hb hby at_236) rfl ((if0 _ _).trans (feq (by decide : ¬ ((1 : Int32) = (0 : Int32)))).1) ?_
          refine XS.iload X322.here hx rfl (hb hby at_239) rfl ?_
          show own_s p e below T320 m 241 #[iv i0, iv i1, iv i2, iv i3, iv (0 : Int32), iv (1 : Int32), iv (1 : Int32), rv b263, iv (0 : Int32), iv (0 : Int32), iv (4 : Int32), iv (0 : Int32), iv (1 : Int32), rv r295, .unset, .unset] [(.int (4 : Int32))] _
          refine XS.iconst X322.here hx rfl (hb hby at_241) ?_
          refine XS.iadd X322.here hx rfl (hb hby at_242) rfl ?_
          refine XS.goto X322.here hx rfl (pc0 := 243) (pc' := 253) rfl (hb hby at_243) (by decide) (by decide) ?_
          show own_s p e below T320 m 253 #[iv i0, iv i1, iv i2, iv i3, iv (0 : Int32), iv (1 : Int32), iv (1 : Int32), rv b263, iv (0 : Int32), iv (0 : Int32), iv (4 : Int32), iv (0 : Int32), iv (1 : Int32), rv r295, .unset, .unset] [(.int (8 : Int32))] _
          refine XS.istore X322.here hx rfl (hb hby at_253) rfl (l' := #[iv i0, iv i1, iv i2, iv i3, iv (0 : Int32), iv (1 : Int32), iv (1 : Int32), rv b263, iv (0 : Int32), iv (0 : Int32), iv (4 : Int32), iv (0 : Int32), iv (1 : Int32), rv r295, iv (8 : Int32), .unset]) rfl ?_
          refine XS.aload X322.here hx rfl (hb hby at_255) rfl rfl ?_
          exact kX
        obtain ⟨cq325, kq325, q325a, q325b, q325c⟩ := isOf hZ e320 E_a320
        obtain ⟨_, _, ⟨T325, L325, k325, n325⟩, -, X325, ⟨Lc325, hQ325, l325, y325, z325⟩, st325⟩ := X322.virtualBack hx (y := (⟨"com/example/farcall/farcall/io/XdrEncoder", "size", "()I"⟩ : MethodName)) (z := (⟨"com/example/farcall/farcall/io/XdrEncoder", "size", "()I"⟩ : MethodName)) hown (mvT hZ (hw _ (List.mem_of_getElem? (i := 40) rfl))) (mvT hZ (hw _ (List.mem_of_getElem? (i := 24) rfl))) (notFace_of_selects (args := #[]) (mvT hZ (hw _ (List.mem_of_getElem? (i := 26) rfl)))) (mvT hZ (hw _ (List.mem_of_getElem? (i := 26) rfl))) (mvT hZ (hw _ (List.mem_of_getElem? (i := 25) rfl))) (by decide) (backOf (W := 0) (rm6 l Z a0 hw [] b263 bb271 ((own_put (own_put (fun _ : Nat => (0 : Int32)) 0 i1) 4 i2)) 0 8 T320.heap n0 Z320 E_a320 F_buf320 F_sta320 F_end320 A_b320 ne_ab320 fg320 g_a320 g_b320 (by decide) (by decide)) hZ (hw _ (List.mem_of_getElem? (i := 27) rfl)) (hw _ (List.mem_of_getElem? (i := 2) rfl)) (by decide) (by decide)) q325a q325c (g := (mkF m 257 #[iv i0, iv i1, iv i2, iv i3, iv (0 : Int32), iv (1 : Int32), iv (1 : Int32), rv b263, iv (0 : Int32), iv (0 : Int32), iv (4 : Int32), iv (0 : Int32), iv (1 : Int32), rv r295, iv (8 : Int32), .unset] [(.ref b263)])) rfl (by rw [hml]; rfl) (Steps.refl _) (argsL := []) (rest := []) (lenOf pd0_1 rfl) rfl (by show 2 * 0 + _ ≤ _; exact Nat.le_of_eq rfl) (hb hby at_257) (fun _ _ => ⟨rfl, e320, (by decide : 3 + 0 ≤ _), (by decide : 132 + 0 ≤ _)⟩)
        dsimp only [Pt.U, Pt.locs, Pt.cells, Pt.slots] at X325 l325 y325 z325 st325 hQ325
        subst l325 y325 z325
        obtain ⟨rfl, Nq325, e325⟩ := hQ325
        have N325 := Fr.app N322 Nq325
        obtain ⟨LL326, X326, N326⟩ : ∃ LL, Stand p l e room_1 s m #[(.int i0), (.int i1), (.int i2), (.int i3)] below meth c T325 LL 3 132 ∧ Fr n0 LL := ⟨_, X325, N325⟩
        have pre327 : ∀ t, own_s p e below T325 m 260 #[iv i0, iv i1, iv i2, iv i3, iv (0 : Int32), iv (1 : Int32), iv (1 : Int32), rv b263, iv (0 : Int32), iv (0 : Int32), iv (4 : Int32), iv (0 : Int32), iv (1 : Int32), rv r295, iv (8 : Int32), .unset] [(.int (8 : Int32))] t → Steps p.tables e below S0 t := fun tX kX => pre324 _ (st325.trans kX)
        have pre328 : ∀ t, own_s p e below T325 m 312 #[iv i0, iv i1, iv i2, iv i3, iv (0 : Int32), iv (1 : Int32), iv (1 : Int32), rv b263, iv (0 : Int32), iv (0 : Int32), iv (4 : Int32), iv (0 : Int32), iv (1 : Int32), rv r295, iv (8 : Int32), .unset] [(.int (0 : Int32)), (.ref b263)] t → Steps p.tables e below S0 t := by
          intro tX kX
          refine pre327 _ ?_
          show own_s p e below T325 m 260 #[iv i0, iv i1, iv i2, iv i3, iv (0 : Int32), iv (1 : Int32), iv (1 : Int32), rv b263, iv (0 : Int32), iv (0 : Int32), iv (4 : Int32), iv (0 : Int32), iv (1 : Int32), rv r295, iv (8 : Int32), .unset] [(.int (8 : Int32))] _
          refine XS.iload X326.here hx rfl (hb hby at_260) rfl ?_
          refine XS.icmpNo X326.here hx rfl (hb hby at_262) rfl (teq (by decide : (8 : Int32) = (8 : Int32))).2 ?_
          refine XS.iconst X326.here hx rfl (hb hby at_265) ?_
          show own_s p e below T325 m 266 #[iv i0, iv i1, iv i2, iv i3, iv (0 : Int32), iv (1 : Int32), iv (1 : Int32), rv b263, iv (0 : Int32), iv (0 : Int32), iv (4 : Int32), iv (0 : Int32), iv (1 : Int32), rv r295, iv (8 : Int32), .unset] [(.int (1 : Int32))] _
          refine XS.goto X326.here hx rfl (pc0 := 266) (pc' := 270) rfl (hb hby at_266) (by decide) (by decide) ?_
          refine XS.istore X326.here hx rfl (hb hby at_270) rfl (l' := #[iv i0, iv i1, iv i2, iv i3, iv (0 : Int32), iv (1 : Int32), iv (1 : Int32), rv b263, iv (0 : Int32), iv (0 : Int32), iv (4 : Int32), iv (0 : Int32), iv (1 : Int32), rv r295, iv (8 : Int32), .unset]) rfl ?_
          refine XS.iload X326.here hx rfl (hb hby at_272) rfl ?_
          show own_s p e below T325 m 274 #[iv i0, iv i1, iv i2, iv i3, iv (0 : Int32), iv (1 : Int32), iv (1 : Int32), rv b263, iv (0 : Int32), iv (0 : Int32), iv (4 : Int32), iv (0 : Int32), iv (1 : Int32), rv r295, iv (8 : Int32), .unset] [(.int (1 : Int32))] _
          refine XS.ifNo X326.here hx rfl (hb hby at_274) rfl ((if0 _ _).trans (feq (by decide : ¬ ((1 : Int32) = (0 : Int32)))).1) ?_
          refine XS.iload X326.here hx rfl (hb hby at_277) rfl ?_
          refine XS.ifNo X326.here hx rfl (hb hby at_279) rfl ((if0 _ _).trans (feq (by decide : ¬ ((1 : Int32) = (0 : Int32)))).1) ?_
          show own_s p e below T325 m 282 #[iv i0, iv i1, iv i2, iv i3, iv (0 : Int32), iv (1 : Int32), iv (1 : Int32), rv b263, iv (0 : Int32), iv (0 : Int32), iv (4 : Int32), iv (0 : Int32), iv (1 : Int32), rv r295, iv (8 : Int32), .unset] [] _
          refine XS.iload X326.here hx rfl (hb hby at_282) rfl ?_
          refine XS.ifNo X326.here hx rfl (hb hby at_284) rfl ((if0 _ _).trans (teq (by decide : (0 : Int32) = (0 : Int32))).2) ?_
          refine XS.iload X326.here hx rfl (hb hby at_287) rfl ?_
          show own_s p e below T325 m 289 #[iv i0, iv i1, iv i2, iv i3, iv (0 : Int32), iv (1 : Int32), iv (1 : Int32), rv b263, iv (0 : Int32), iv (0 : Int32), iv (4 : Int32), iv (0 : Int32), iv (1 : Int32), rv r295, iv (8 : Int32), .unset] [(.int (0 : Int32))] _
          refine XS.iload X326.here hx rfl (hb hby at_289) rfl ?_
          refine XS.icmpNo X326.here hx rfl (hb hby at_291) rfl (teq (by decide : (0 : Int32) = (0 : Int32))).2 ?_
          refine XS.iconst X326.here hx rfl (hb hby at_294) ?_
          show own_s p e below T325 m 295 #[iv i0, iv i1, iv i2, iv i3, iv (0 : Int32), iv (1 : Int32), iv (1 : Int32), rv b263, iv (0 : Int32), iv (0 : Int32), iv (4 : Int32), iv (0 : Int32), iv (1 : Int32), rv r295, iv (8 : Int32), .unset] [(.int (1 : Int32))] _
          refine XS.goto X326.here hx rfl (pc0 := 295) (pc' := 299) rfl (hb hby at_295) (by decide) (by decide) ?_
          refine XS.istore X326.here hx rfl (hb hby at_299) rfl (l' := #[iv i0, iv i1, iv i2, iv i3, iv (0 : Int32), iv (1 : Int32), iv (1 : Int32), rv b263, iv (0 : Int32), iv (0 : Int32), iv (4 : Int32), iv (0 : Int32), iv (1 : Int32), rv r295, iv (8 : Int32), .unset]) rfl ?_
          refine XS.iload X326.here hx rfl (hb hby at_301) rfl ?_
          show own_s p e below T325 m 303 #[iv i0, iv i1, iv i2, iv i3, iv (0 : Int32), iv (1 : Int32), iv (1 : Int32), rv b263, iv (0 : Int32), iv (0 : Int32), iv (4 : Int32), iv (0 : Int32), iv (1 : Int32), rv r295, iv (8 : Int32), .unset] [(.int (1 : Int32))] _
          refine XS.ifYes X326.here hx rfl (pc0 := 303) (pc' := 308) rfl (hb hby at_303) rfl ((if0 _ _).trans (feq (by decide : ¬ ((1 : Int32) = (0 : Int32)))).2) (by decide) (by decide) ?_
          refine XS.aload X326.here hx rfl (hb hby at_308) rfl rfl ?_
          refine XS.iload X326.here hx rfl (hb hby at_310) rfl ?_
          exact kX
        obtain ⟨cq329, kq329, q329a, q329b, q329c⟩ := isOf hZ e325 E_a320
        obtain ⟨_, _, ⟨T329, L329, k329, n329⟩, -, X329, ⟨Lc329, hQ329, l329, y329, z329⟩, st329⟩ := X326.virtualBack hx (y := (⟨"com/example/farcall/farcall/io/XdrEncoder", "endPart", "(I)V"⟩ : MethodName)) (z := (⟨"com/example/farcall/farcall/io/XdrEncoder", "endPart", "(I)V"⟩ : MethodName)) hown (mvT hZ (hw _ (List.mem_of_getElem? (i := 64) rfl))) (mvT hZ (hw _ (List.mem_of_getElem? (i := 65) rfl))) (notFace_of_selects (args := #[]) (mvT hZ (hw _ (List.mem_of_getElem? (i := 67) rfl)))) (mvT hZ (hw _ (List.mem_of_getElem? (i := 67) rfl))) (mvT hZ (hw _ (List.mem_of_getElem? (i := 66) rfl))) (by decide) (backOf (W := 0) (rm11 l Z a0 hw [] b263 (0 : Int32) bb271 ((own_put (own_put (fun _ : Nat => (0 : Int32)) 0 i1) 4 i2)) 0 8 0 T320.heap n0 Z320 E_a320 F_buf320 F_sta320 F_end320 A_b320 ne_ab320 fg320 g_a320 g_b320 rfl (by decide) (by decide)) hZ (hw _ (List.mem_of_getElem? (i := 68) rfl)) (hw _ (List.mem_of_getElem? (i := 2) rfl)) (by decide) (by decide)) q329a q329c (g := (mkF m 312 #[iv i0, iv i1, iv i2, iv i3, iv (0 : Int32), iv (1 : Int32), iv (1 : Int32), rv b263, iv (0 : Int32), iv (0 : Int32), iv (4 : Int32), iv (0 : Int32), iv (1 : Int32), rv r295, iv (8 : Int32), .unset] [(.int (0 : Int32)), (.ref b263)])) rfl (by rw [hml]; rfl) (Steps.refl _) (argsL := [(.int (0 : Int32))]) (rest := []) (lenOf pd0_4 rfl) rfl (by show 2 * 0 + _ ≤ _; exact Nat.le_of_eq rfl) (hb hby at_312) (fun _ _ => ⟨rfl, e325, (by decide : 3 + 0 ≤ _), (by decide : 132 + 0 ≤ _)⟩)
        dsimp only [Pt.U, Pt.locs, Pt.cells, Pt.slots] at X329 l329 y329 z329 st329 hQ329
        subst l329 y329 z329
        obtain ⟨rfl, Nq329, Kq329, E_a329, F_buf329, F_sta329, F_end329, A_b329, ne_ab329, fg329, g_a329, g_b329⟩ := hQ329
        have N329 := Fr.app N326 Nq329
        have e329 : T329.heap = T329.heap := rfl
        have Z329 : n0 ≤ T329.heap.size := Nat.le_trans Z320 Kq329.1
        have f330_A : own_Af Z T329.heap r295 .byte 4 (fun j => .int ((own_put (own_put (fun _ : Nat => (0 : Int32)) 0 i1) 4 i2) (4 + j))) := f321_A.keep Kq329 (ninS (Ne.symm ne296) (nin0))
        obtain ⟨LL331, X331, N331⟩ : ∃ LL, Stand p l e room_1 s m #[(.int i0), (.int i1), (.int i2), (.int i3)] below meth c T329 LL 3 132 ∧ Fr n0 LL := ⟨_, X329, N329⟩
        have pre332 : ∀ t, own_s p e below T329 m 315 #[iv i0, iv i1, iv i2, iv i3, iv (0 : Int32), iv (1 : Int32), iv (1 : Int32), rv b263, iv (0 : Int32), iv (0 : Int32), iv (4 : Int32), iv (0 : Int32), iv (1 : Int32), rv r295, iv (8 : Int32), .unset] [] t → Steps p.tables e below S0 t := fun tX kX => pre328 _ (st329.trans kX)
        have pre333 : ∀ t, own_s p e below T329 m 317 #[iv i0, iv i1, iv i2, iv i3, iv (0 : Int32), iv (1 : Int32), iv (1 : Int32), rv b263, iv (0 : Int32), iv (0 : Int32), iv (4 : Int32), iv (0 : Int32), iv (1 : Int32), rv r295, iv (8 : Int32), .unset] [(.ref b263)] t → Steps p.tables e below S0 t := by
          intro tX kX
          refine pre332 _ ?_
          show own_s p e below T329 m 315 #[iv i0, iv i1, iv i2, iv i3, iv (0 : Int32), iv (1 : Int32), iv (1 : Int32), rv b263, iv (0 : Int32), iv (0 : Int32), iv (4 : Int32), iv (0 : Int32), iv (1 : Int32), rv r295, iv (8 : Int32), .unset] [] _
          refine XS.aload X331.here hx rfl (hb hby at_315) rfl rfl ?_
          exact kX
        obtain ⟨cq334, kq334, q334a, q334b, q334c⟩ := isOf hZ e329 E_a329
        obtain ⟨_, _, ⟨T334, L334, k334, n334⟩, -, X334, ⟨Lc334, hQ334, l334, y334, z334⟩, st334⟩ := X331.virtualBack hx (y := (⟨"com/example/farcall/farcall/io/XdrEncoder", "size", "()I"⟩ : MethodName)) (z := (⟨"com/example/farcall/farcall/io/XdrEncoder", "size", "()I"⟩ : MethodName)) hown (mvT hZ (hw _ (List.mem_of_getElem? (i := 40) rfl))) (mvT hZ (hw _ (List.mem_of_getElem? (i := 24) rfl))) (notFace_of_selects (args := #[]) (mvT hZ (hw _ (List.mem_of_getElem? (i := 26) rfl)))) (mvT hZ (hw _ (List.mem_of_getElem? (i := 26) rfl))) (mvT hZ (hw _ (List.mem_of_getElem? (i := 25) rfl))) (by decide) (backOf (W := 0) (rm6 l Z a0 hw [] b263 bb271 ((own_put (own_put (fun _ : Nat => (0 : Int32)) 0 i1) 4 i2)) 0 8 T329.heap n0 Z329 E_a329 F_buf329 F_sta329 F_end329 A_b329 ne_ab329 fg329 g_a329 g_b329 (by decide) (by decide)) hZ (hw _ (List.mem_of_getElem? (i := 27) rfl)) (hw _ (List.mem_of_getElem? (i := 2) rfl)) (by decide) (by decide)) q334a q334c (g := (mkF m 317 #[iv i0, iv i1, iv i2, iv i3, iv (0 : Int32), iv (1 : Int32), iv (1 : Int32), rv b263, iv (0 : Int32), iv (0 : Int32), iv (4 : Int32), iv (0 : Int32), iv (1 : Int32), rv r295, iv (8 : Int32), .unset] [(.ref b263)])) rfl (by rw [hml]; rfl) (Steps.refl _) (argsL := []) (rest := []) (lenOf pd0_1 rfl) rfl (by show 2 * 0 + _ ≤ _; exact Nat.le_of_eq rfl) (hb hby at_317) (fun _ _ => ⟨rfl, e329, (by decide : 3 + 0 ≤ _), (by decide : 132 + 0 ≤ _)⟩)
        dsimp only [Pt.U, Pt.locs, Pt.cells, Pt.slots] at X334 l334 y334 z334 st334 hQ334
        subst l334 y334 z334
        obtain ⟨rfl, Nq334, e334⟩ := hQ334
        have N334 := Fr.app N331 Nq334
        obtain ⟨LL335, X335, N335⟩ : ∃ LL, Stand p l e room_1 s m #[(.int i0), (.int i1), (.int i2), (.int i3)] below meth c T334 LL 3 132 ∧ Fr n0 LL := ⟨_, X334, N334⟩
        have pre336 : ∀ t, own_s p e below T334 m 320 #[iv i0, iv i1, iv i2, iv i3, iv (0 : Int32), iv (1 : Int32), iv (1 : Int32), rv b263, iv (0 : Int32), iv (0 : Int32), iv (4 : Int32), iv (0 : Int32), iv (1 : Int32), rv r295, iv (8 : Int32), .unset] [(.int (8 : Int32))] t → Steps p.tables e below S0 t := fun tX kX => pre333 _ (st334.trans kX)
        have pre337 : ∀ t, own_s p e below T334 m 366 #[iv i0, iv i1, iv i2, iv i3, iv (0 : Int32), iv (1 : Int32), iv (1 : Int32), rv b263, iv (0 : Int32), iv (0 : Int32), iv (4 : Int32), iv (0 : Int32), iv (1 : Int32), rv r295, iv (8 : Int32), .unset] [(.ref b263)] t → Steps p.tables e below S0 t := by
          intro tX kX
          refine pre336 _ ?_
          show own_s p e below T334 m 320 #[iv i0, iv i1, iv i2, iv i3, iv (0 : Int32), iv (1 : Int32), iv (1 : Int32), rv b263, iv (0 : Int32), iv (0 : Int32), iv (4 : Int32), iv (0 : Int32), iv (1 : Int32), rv r295, iv (8 : Int32), .unset] [(.int (8 : Int32))] _
          refine XS.iload X335.here hx rfl (hb hby at_320) rfl ?_
          refine XS.iload X335.here hx rfl (hb hby at_322) rfl ?_
          refine XS.iadd X335.here hx rfl (hb hby at_324) rfl ?_
          show own_s p e below T334 m 325 #[iv i0, iv i1, iv i2, iv i3, iv (0 : Int32), iv (1 : Int32), iv (1 : Int32), rv b263, iv (0 : Int32), iv (0 : Int32), iv (4 : Int32), iv (0 : Int32), iv (1 : Int32), rv r295, iv (8 : Int32), .unset] [(.int (4 : Int32)), (.int (8 : Int32))] _
          refine XS.iconst X335.here hx rfl (hb hby at_325) ?_
          refine XS.iadd X335.here hx rfl (hb hby at_326) rfl ?_
          refine XS.icmpNo X335.here hx rfl (hb hby at_327) rfl (teq (by decide : (8 : Int32) = (8 : Int32))).2 ?_
          show own_s p e below T334 m 330 #[iv i0, iv i1, iv i2, iv i3, iv (0 : Int32), iv (1 : Int32), iv (1 : Int32), rv b263, iv (0 : Int32), iv (0 : Int32), iv (4 : Int32), iv (0 : Int32), iv (1 : Int32), rv r295, iv (8 : Int32), .unset] [] _
          refine XS.iconst X335.here hx rfl (hb hby at_330) ?_
          refine XS.goto X335.here hx rfl (pc0 := 331) (pc' := 335) rfl (hb hby at_331) (by decide) (by decide) ?_
          refine XS.istore X335.here hx rfl (hb hby at_335) rfl (l' := #[iv i0, iv i1, iv i2, iv i3, iv (0 : Int32), iv (1 : Int32), iv (1 : Int32), rv b263, iv (0 : Int32), iv (0 : Int32), iv (4 : Int32), iv (0 : Int32), iv (1 : Int32), rv r295, iv (8 : Int32), .unset]) rfl ?_
          show own_s p e below T334 m 337 #[iv i0, iv i1, iv i2, iv i3, iv (0 : Int32), iv (1 : Int32), iv (1 : Int32), rv b263, iv (0 : Int32), iv (0 : Int32), iv (4 : Int32), iv (0 : Int32), iv (1 : Int32), rv r295, iv (8 : Int32), .unset] [] _
          refine XS.goto X335.here hx rfl (pc0 := 337) (pc' := 357) rfl (hb hby at_337) (by decide) (by decide) ?_
          refine XS.iload X335.here hx rfl (hb hby at_357) rfl ?_
          refine XS.ifYes X335.here hx rfl (pc0 := 359) (pc' := 364) rfl (hb hby at_359) rfl ((if0 _ _).trans (feq (by decide : ¬ ((1 : Int32) = (0 : Int32)))).2) (by decide) (by decide) ?_
          show own_s p e below T334 m 364 #[iv i0, iv i1, iv i2, iv i3, iv (0 : Int32), iv (1 : Int32), iv (1 : Int32), rv b263, iv (0 : Int32), iv (0 : Int32), iv (4 : Int32), iv (0 : Int32), iv (1 : Int32), rv r295, iv (8 : Int32), .unset] [] _
          refine XS.aload X335.here hx rfl (hb hby at_364) rfl rfl ?_
          exact kX
        obtain ⟨cq338, kq338, q338a, q338b, q338c⟩ := isOf hZ e334 E_a329
        obtain ⟨_, _, ⟨T338, L338, k338, n338⟩, -, X338, ⟨Lc338, hQ338, l338, y338, z338⟩, st338⟩ := X335.virtualBack hx (y := (⟨"com/example/farcall/farcall/io/XdrEncoder", "toByteArray", "()[B"⟩ : MethodName)) (z := (⟨"com/example/farcall/farcall/io/XdrEncoder", "toByteArray", "()[B"⟩ : MethodName)) hown (mvT hZ (hw _ (List.mem_of_getElem? (i := 41) rfl))) (mvT hZ (hw _ (List.mem_of_getElem? (i := 42) rfl))) (notFace_of_selects (args := #[]) (mvT hZ (hw _ (List.mem_of_getElem? (i := 44) rfl)))) (mvT hZ (hw _ (List.mem_of_getElem? (i := 44) rfl))) (mvT hZ (hw _ (List.mem_of_getElem? (i := 43) rfl))) (by decide) (backOf (W := 0) (rm5 l Z a0 hw [] b263 bb271 ((own_put (own_put (fun _ : Nat => (0 : Int32)) 0 i1) 4 i2)) 0 8 T329.heap n0 Z329 E_a329 F_buf329 F_sta329 F_end329 A_b329 ne_ab329 fg329 g_a329 g_b329 (by decide) (by decide) (by decide)) hZ (hw _ (List.mem_of_getElem? (i := 45) rfl)) (hw _ (List.mem_of_getElem? (i := 2) rfl)) (by decide) (by decide)) q338a q338c (g := (mkF m 366 #[iv i0, iv i1, iv i2, iv i3, iv (0 : Int32), iv (1 : Int32), iv (1 : Int32), rv b263, iv (0 : Int32), iv (0 : Int32), iv (4 : Int32), iv (0 : Int32), iv (1 : Int32), rv r295, iv (8 : Int32), .unset] [(.ref b263)])) rfl (by rw [hml]; rfl) (Steps.refl _) (argsL := []) (rest := []) (lenOf pd0_3 rfl) rfl (by show 2 * 0 + _ ≤ _; exact Nat.le_of_eq rfl) (hb hby at_366) (fun _ _ => ⟨rfl, e334, (by decide : 3 + 1 ≤ _), (by decide : 132 + 64 ≤ _)⟩)
        dsimp only [Pt.U, Pt.locs, Pt.cells, Pt.slots] at X338 l338 y338 z338 st338 hQ338
        subst l338 y338 z338
        obtain ⟨r338, rfl, Nq338, Kq338, sz_r338, g_r338, fA338⟩ := hQ338
        have N338 := Fr.app N335 Nq338
        have e338 : T338.heap = T338.heap := rfl
        have Z338 : n0 ≤ T338.heap.size := Nat.le_trans Z329 Kq338.1
        have ne339 : b263 ≠ r338 := Nat.ne_of_lt (Nat.lt_of_lt_of_le E_a329.lt sz_r338)
        have ne340 : bb271 ≠ r338 := Nat.ne_of_lt (Nat.lt_of_lt_of_le A_b329.lt sz_r338)
        have ne341 : r295 ≠ r338 := Nat.ne_of_lt (Nat.lt_of_lt_of_le f330_A.lt sz_r338)
        have f342_E : Exa Z T338.heap b263 "com/example/farcall/farcall/io/XdrEncoder" := E_a329.keep Kq338
        have f343_F : Fld Z T338.heap b263 "com/example/farcall/farcall/io/XdrEncoder" "buffer" "[B" (.ref bb271) := F_buf329.keep Kq338 nin0
        have f344_F : Fld Z T338.heap b263 "com/example/farcall/farcall/io/XdrEncoder" "start" "I" (.int (Int32.ofNat 0)) := F_sta329.keep Kq338 nin0
        have f345_F : Fld Z T338.heap b263 "com/example/farcall/farcall/io/XdrEncoder" "end" "I" (.int (Int32.ofNat 8)) := F_end329.keep Kq338 nin0
        have f346_A : own_Af Z T338.heap bb271 .byte 64 (fun j => .int ((own_put (own_put (fun _ : Nat => (0 : Int32)) 0 i1) 4 i2) j)) := A_b329.keep Kq338 nin0
        have f347_A : own_Af Z T338.heap r295 .byte 4 (fun j => .int ((own_put (own_put (fun _ : Nat => (0 : Int32)) 0 i1) 4 i2) (4 + j))) := f330_A.keep Kq338 nin0
        obtain ⟨LL348, X348, N348⟩ : ∃ LL, Stand p l e room_1 s m #[(.int i0), (.int i1), (.int i2), (.int i3)] below meth c T338 LL 4 196 ∧ Fr n0 LL := ⟨_, X338, N338⟩
        have pre349 : ∀ t, own_s p e below T338 m 369 #[iv i0, iv i1, iv i2, iv i3, iv (0 : Int32), iv (1 : Int32), iv (1 : Int32), rv b263, iv (0 : Int32), iv (0 : Int32), iv (4 : Int32), iv (0 : Int32), iv (1 : Int32), rv r295, iv (8 : Int32), .unset] [(.ref r338)] t → Steps p.tables e below S0 t := fun tX kX => pre337 _ (st338.trans kX)
        have pre351 : ∀ t, own_s p e below T338 m 373 #[iv i0, iv i1, iv i2, iv i3, iv (0 : Int32), iv (1 : Int32), iv (1 : Int32), rv b263, iv (0 : Int32), iv (0 : Int32), iv (4 : Int32), iv (0 : Int32), iv (1 : Int32), rv r295, iv (8 : Int32), rv r338] [(.ref r338)] t → Steps p.tables e below S0 t := by
          intro tX kX
          refine pre349 _ ?_
          show own_s p e below T338 m 369 #[iv i0, iv i1, iv i2, iv i3, iv (0 : Int32), iv (1 : Int32), iv (1 : Int32), rv b263, iv (0 : Int32), iv (0 : Int32), iv (4 : Int32), iv (0 : Int32), iv (1 : Int32), rv r295, iv (8 : Int32), .unset] [(.ref r338)] _
          refine XS.astore X348.here hx rfl (hb hby at_369) rfl rfl (l' := #[iv i0, iv i1, iv i2, iv i3, iv (0 : Int32), iv (1 : Int32), iv (1 : Int32), rv b263, iv (0 : Int32), iv (0 : Int32), iv (4 : Int32), iv (0 : Int32), iv (1 : Int32), rv r295, iv (8 : Int32), rv r338]) rfl ?_
          refine XS.aload X348.here hx rfl (hb hby at_371) rfl rfl ?_
          exact kX
        obtain ⟨cl350, Ar350, S350, M350, H350⟩ := id fA338
        have pre353 : ∀ t, own_s p e below T338 m 395 #[iv i0, iv i1, iv i2, iv i3, iv (0 : Int32), iv (1 : Int32), iv (1 : Int32), rv b263, iv (0 : Int32), iv (0 : Int32), iv (4 : Int32), iv (0 : Int32), iv (1 : Int32), rv r295, iv (8 : Int32), rv r338] [(.int (7 : Int32)), (.ref r338)] t → Steps p.tables e below S0 t := by
          intro tX kX
          refine pre351 _ ?_
          show own_s p e below T338 m 373 #[iv i0, iv i1, iv i2, iv i3, iv (0 : Int32), iv (1 : Int32), iv (1 : Int32), rv b263, iv (0 : Int32), iv (0 : Int32), iv (4 : Int32), iv (0 : Int32), iv (1 : Int32), rv r295, iv (8 : Int32), rv r338] [(.ref r338)] _
          refine X348.arraylength hx (by rw [e338]; exact Ar350.1) (State.isArrayOf_alike hZ.alike Ar350.2.1) (g := (mkF m 373 #[iv i0, iv i1, iv i2, iv i3, iv (0 : Int32), iv (1 : Int32), iv (1 : Int32), rv b263, iv (0 : Int32), iv (0 : Int32), iv (4 : Int32), iv (0 : Int32), iv (1 : Int32), rv r295, iv (8 : Int32), rv r338] [(.ref r338)])) rfl rfl (hb hby at_373) _ ?_
          rw [show cl350.slots.size.toInt32 = (8 : Int32) from by rw [S350]; exact rfl]
          refine XS.iload X348.here hx rfl (hb hby at_374) rfl ?_
          refine XS.iload X348.here hx rfl (hb hby at_376) rfl ?_
          show own_s p e below T338 m 378 #[iv i0, iv i1, iv i2, iv i3, iv (0 : Int32), iv (1 : Int32), iv (1 : Int32), rv b263, iv (0 : Int32), iv (0 : Int32), iv (4 : Int32), iv (0 : Int32), iv (1 : Int32), rv r295, iv (8 : Int32), rv r338] [(.int (4 : Int32)), (.int (0 : Int32)), (.int (8 : Int32))] _
          refine XS.iadd X348.here hx rfl (hb hby at_378) rfl ?_
          refine XS.iconst X348.here hx rfl (hb hby at_379) ?_
          refine XS.iadd X348.here hx rfl (hb hby at_380) rfl ?_
          show own_s p e below T338 m 381 #[iv i0, iv i1, iv i2, iv i3, iv (0 : Int32), iv (1 : Int32), iv (1 : Int32), rv b263, iv (0 : Int32), iv (0 : Int32), iv (4 : Int32), iv (0 : Int32), iv (1 : Int32), rv r295, iv (8 : Int32), rv r338] [(.int (8 : Int32)), (.int (8 : Int32))] _
          refine XS.icmpYes X348.here hx rfl (pc0 := 381) (pc' := 386) rfl (hb hby at_381) rfl (teq (by decide : (8 : Int32) = (8 : Int32))).1 (by decide) (by decide) ?_
          refine XS.aload X348.here hx rfl (hb hby at_386) rfl rfl ?_
          refine XS.iload X348.here hx rfl (hb hby at_388) rfl ?_
          show own_s p e below T338 m 390 #[iv i0, iv i1, iv i2, iv i3, iv (0 : Int32), iv (1 : Int32), iv (1 : Int32), rv b263, iv (0 : Int32), iv (0 : Int32), iv (4 : Int32), iv (0 : Int32), iv (1 : Int32), rv r295, iv (8 : Int32), rv r338] [(.int (0 : Int32)), (.ref r338)] _
          refine XS.iload X348.here hx rfl (hb hby at_390) rfl ?_
          refine XS.iadd X348.here hx rfl (hb hby at_392) rfl ?_
          refine XS.iconst X348.here hx rfl (hb hby at_393) ?_
          show own_s p e below T338 m 394 #[iv i0, iv i1, iv i2, iv i3, iv (0 : Int32), iv (1 : Int32), iv (1 : Int32), rv b263, iv (0 : Int32), iv (0 : Int32), iv (4 : Int32), iv (0 : Int32), iv (1 : Int32), rv r295, iv (8 : Int32), rv r338] [(.int (3 : Int32)), (.int (4 : Int32)), (.ref r338)] _
          refine XS.iadd X348.here hx rfl (hb hby at_394) rfl ?_
          exact kX
        obtain ⟨cl352, Ar352, S352, M352, H352⟩ := id fA338
        have pre355 : ∀ t, own_s p e below T338 m 408 #[iv i0, iv i1, iv i2, iv i3, iv (0 : Int32), iv (1 : Int32), iv (1 : Int32), rv b263, iv (0 : Int32), iv (0 : Int32), iv (4 : Int32), iv (0 : Int32), iv (1 : Int32), rv r295, iv (8 : Int32), rv r338] [(.int (4 : Int32)), (.ref r338)] t → Steps p.tables e below S0 t := by
          intro tX kX
          refine pre353 _ ?_
          show own_s p e below T338 m 395 #[iv i0, iv i1, iv i2, iv i3, iv (0 : Int32), iv (1 : Int32), iv (1 : Int32), rv b263, iv (0 : Int32), iv (0 : Int32), iv (4 : Int32), iv (0 : Int32), iv (1 : Int32), rv r295, iv (8 : Int32), rv r338] [(.int (7 : Int32)), (.ref r338)] _
          refine X348.baloadBytes hx (j := (7 : Int32)) (v := (.int (i2.toInt8.toInt32))) (by rw [e338]; exact Ar352.1) (State.isArrayOf_alike hZ.alike Ar352.2.1) Ar352.2.2 (own_inb S352 M352 (by decide)) (own_get H352 S352 (by decide) (show Value.int ((own_put (own_put (fun _ : Nat => (0 : Int32)) 0 i1) 4 i2) (0 + 7)) = Value.int (i2.toInt8.toInt32) from congrArg Value.int (((own_put_in (by decide) (by decide)).trans (congrArg (own_by i2) (show _ = 3 from by decide))).trans (show own_by i2 3 = (i2.toInt8.toInt32) from rfl)))) (g := (mkF m 395 #[iv i0, iv i1, iv i2, iv i3, iv (0 : Int32), iv (1 : Int32), iv (1 : Int32), rv b263, iv (0 : Int32), iv (0 : Int32), iv (4 : Int32), iv (0 : Int32), iv (1 : Int32), rv r295, iv (8 : Int32), rv r338] [(.int (7 : Int32)), (.ref r338)])) rfl rfl (hb hby at_395) _ ?_
          refine XS.iloadN X348.here hx rfl (hb hby at_396) rfl ?_
          refine XS.i2b X348.here hx rfl (hb hby at_397) rfl ?_
          show own_s p e below T338 m 398 #[iv i0, iv i1, iv i2, iv i3, iv (0 : Int32), iv (1 : Int32), iv (1 : Int32), rv b263, iv (0 : Int32), iv (0 : Int32), iv (4 : Int32), iv (0 : Int32), iv (1 : Int32), rv r295, iv (8 : Int32), rv r338] [(.int (i2.toInt8.toInt32)), (.int (i2.toInt8.toInt32))] _
          refine XS.icmpNo X348.here hx rfl (hb hby at_398) rfl (teq (rfl : (i2.toInt8.toInt32) = (i2.toInt8.toInt32))).2 ?_
          refine XS.aload X348.here hx rfl (hb hby at_401) rfl rfl ?_
          refine XS.iload X348.here hx rfl (hb hby at_403) rfl ?_
          show own_s p e below T338 m 405 #[iv i0, iv i1, iv i2, iv i3, iv (0 : Int32), iv (1 : Int32), iv (1 : Int32), rv b263, iv (0 : Int32), iv (0 : Int32), iv (4 : Int32), iv (0 : Int32), iv (1 : Int32), rv r295, iv (8 : Int32), rv r338] [(.int (0 : Int32)), (.ref r338)] _
          refine XS.iload X348.here hx rfl (hb hby at_405) rfl ?_
          refine XS.iadd X348.here hx rfl (hb hby at_407) rfl ?_
          exact kX
        obtain ⟨cl354, Ar354, S354, M354, H354⟩ := id fA338
        have pre357 : ∀ t, own_s p e below T338 m 449 #[iv i0, iv i1, iv i2, iv i3, iv (0 : Int32), iv (1 : Int32), iv (1 : Int32), rv b263, iv (0 : Int32), iv (0 : Int32), iv (4 : Int32), iv (0 : Int32), iv (1 : Int32), rv r295, iv (8 : Int32), rv r338] [(.int (3 : Int32)), (.ref r338)] t → Steps p.tables e below S0 t := by
          intro tX kX
          refine pre355 _ ?_
          show own_s p e below T338 m 408 #[iv i0, iv i1, iv i2, iv i3, iv (0 : Int32), iv (1 : Int32), iv (1 : Int32), rv b263, iv (0 : Int32), iv (0 : Int32), iv (4 : Int32), iv (0 : Int32), iv (1 : Int32), rv r295, iv (8 : Int32), rv r338] [(.int (4 : Int32)), (.ref r338)] _
          refine X348.baloadBytes hx (j := (4 : Int32)) (v := (.int (((i2.toUInt32 >>> ((24 : Int32) &&& 31).toUInt32).toInt32).toInt8.toInt32))) (by rw [e338]; exact Ar354.1) (State.isArrayOf_alike hZ.alike Ar354.2.1) Ar354.2.2 (own_inb S354 M354 (by decide)) (own_get H354 S354 (by decide) (show Value.int ((own_put (own_put (fun _ : Nat => (0 : Int32)) 0 i1) 4 i2) (0 + 4)) = Value.int (((i2.toUInt32 >>> ((24 : Int32) &&& 31).toUInt32).toInt32).toInt8.toInt32) from congrArg Value.int (((own_put_in (by decide) (by decide)).trans (congrArg (own_by i2) (show _ = 0 from by decide))).trans (show own_by i2 0 = (((i2.toUInt32 >>> ((24 : Int32) &&& 31).toUInt32).toInt32).toInt8.toInt32) from rfl)))) (g := (mkF m 408 #[iv i0, iv i1, iv i2, iv i3, iv (0 : Int32), iv (1 : Int32), iv (1 : Int32), rv b263, iv (0 : Int32), iv (0 : Int32), iv (4 : Int32), iv (0 : Int32), iv (1 : Int32), rv r295, iv (8 : Int32), rv r338] [(.int (4 : Int32)), (.ref r338)])) rfl rfl (hb hby at_408) _ ?_
          refine XS.iloadN X348.here hx rfl (hb hby at_409) rfl ?_
          refine XS.bipush X348.here hx rfl (hb hby at_410) ?_
          show own_s p e below T338 m 412 #[iv i0, iv i1, iv i2, iv i3, iv (0 : Int32), iv (1 : Int32), iv (1 : Int32), rv b263, iv (0 : Int32), iv (0 : Int32), iv (4 : Int32), iv (0 : Int32), iv (1 : Int32), rv r295, iv (8 : Int32), rv r338] [(.int (24 : Int32)), (.int i2), (.int (((i2.toUInt32 >>> ((24 : Int32) &&& 31).toUInt32).toInt32).toInt8.toInt32))] _
          refine XS.iushr X348.here hx rfl (hb hby at_412) rfl ?_
          refine XS.i2b X348.here hx rfl (hb hby at_413) rfl ?_
          refine XS.icmpYes X348.here hx rfl (pc0 := 414) (pc' := 419) rfl (hb hby at_414) rfl (teq (rfl : (((i2.toUInt32 >>> ((24 : Int32) &&& 31).toUInt32).toInt32).toInt8.toInt32) = (((i2.toUInt32 >>> ((24 : Int32) &&& 31).toUInt32).toInt32).toInt8.toInt32))).1 (by decide) (by decide) ?_
          show own_s p e below T338 m 419 #[iv i0, iv i1, iv i2, iv i3, iv (0 : Int32), iv (1 : Int32), iv (1 : Int32), rv b263, iv (0 : Int32), iv (0 : Int32), iv (4 : Int32), iv (0 : Int32), iv (1 : Int32), rv r295, iv (8 : Int32), rv r338] [] _
          refine XS.iload X348.here hx rfl (hb hby at_419) rfl ?_
          refine XS.ifYes X348.here hx rfl (pc0 := 421) (pc' := 438) rfl (hb hby at_421) rfl ((if0 _ _).trans (teq (by decide : (0 : Int32) = (0 : Int32))).1) (by decide) (by decide) ?_
          refine XS.iload X348.here hx rfl (hb hby at_438) rfl ?_
          show own_s p e below T338 m 440 #[iv i0, iv i1, iv i2, iv i3, iv (0 : Int32), iv (1 : Int32), iv (1 : Int32), rv b263, iv (0 : Int32), iv (0 : Int32), iv (4 : Int32), iv (0 : Int32), iv (1 : Int32), rv r295, iv (8 : Int32), rv r338] [(.int (1 : Int32))] _
          refine XS.ifNo X348.here hx rfl (hb hby at_440) rfl ((if0 _ _).trans (feq (by decide : ¬ ((1 : Int32) = (0 : Int32)))).1) ?_
          refine XS.aload X348.here hx rfl (hb hby at_443) rfl rfl ?_
          refine XS.iload X348.here hx rfl (hb hby at_445) rfl ?_
          show own_s p e below T338 m 447 #[iv i0, iv i1, iv i2, iv i3, iv (0 : Int32), iv (1 : Int32), iv (1 : Int32), rv b263, iv (0 : Int32), iv (0 : Int32), iv (4 : Int32), iv (0 : Int32), iv (1 : Int32), rv r295, iv (8 : Int32), rv r338] [(.int (0 : Int32)), (.ref r338)] _
          refine XS.iconst X348.here hx rfl (hb hby at_447) ?_
          refine XS.iadd X348.here hx rfl (hb hby at_448) rfl ?_
          exact kX
        obtain ⟨cl356, Ar356, S356, M356, H356⟩ := id fA338
        have pre358 : ∀ t, own_s p e below T338 m 458 #[iv i0, iv i1, iv i2, iv i3, iv (0 : Int32), iv (1 : Int32), iv (1 : Int32), rv b263, iv (0 : Int32), iv (0 : Int32), iv (4 : Int32), iv (0 : Int32), iv (1 : Int32), rv r295, iv (8 : Int32), rv r338] [(.int (1 : Int32))] t → Steps p.tables e below S0 t := by
          intro tX kX
          refine pre357 _ ?_
          show own_s p e below T338 m 449 #[iv i0, iv i1, iv i2, iv i3, iv (0 : Int32), iv (1 : Int32), iv (1 : Int32), rv b263, iv (0 : Int32), iv (0 : Int32), iv (4 : Int32), iv (0 : Int32), iv (1 : Int32), rv r295, iv (8 : Int32), rv r338] [(.int (3 : Int32)), (.ref r338)] _
          refine X348.baloadBytes hx (j := (3 : Int32)) (v := (.int (i1.toInt8.toInt32))) (by rw [e338]; exact Ar356.1) (State.isArrayOf_alike hZ.alike Ar356.2.1) Ar356.2.2 (own_inb S356 M356 (by decide)) (own_get H356 S356 (by decide) (show Value.int ((own_put (own_put (fun _ : Nat => (0 : Int32)) 0 i1) 4 i2) (0 + 3)) = Value.int (i1.toInt8.toInt32) from congrArg Value.int (((own_put_out (by decide)).trans ((own_put_in (by decide) (by decide)).trans (congrArg (own_by i1) (show _ = 3 from by decide)))).trans (show own_by i1 3 = (i1.toInt8.toInt32) from rfl)))) (g := (mkF m 449 #[iv i0, iv i1, iv i2, iv i3, iv (0 : Int32), iv (1 : Int32), iv (1 : Int32), rv b263, iv (0 : Int32), iv (0 : Int32), iv (4 : Int32), iv (0 : Int32), iv (1 : Int32), rv r295, iv (8 : Int32), rv r338] [(.int (3 : Int32)), (.ref r338)])) rfl rfl (hb hby at_449) _ ?_
          refine XS.iloadN X348.here hx rfl (hb hby at_450) rfl ?_
          refine XS.i2b X348.here hx rfl (hb hby at_451) rfl ?_
          show own_s p e below T338 m 452 #[iv i0, iv i1, iv i2, iv i3, iv (0 : Int32), iv (1 : Int32), iv (1 : Int32), rv b263, iv (0 : Int32), iv (0 : Int32), iv (4 : Int32), iv (0 : Int32), iv (1 : Int32), rv r295, iv (8 : Int32), rv r338] [(.int (i1.toInt8.toInt32)), (.int (i1.toInt8.toInt32))] _
          refine XS.icmpYes X348.here hx rfl (pc0 := 452) (pc' := 457) rfl (hb hby at_452) rfl (teq (rfl : (i1.toInt8.toInt32) = (i1.toInt8.toInt32))).1 (by decide) (by decide) ?_
          refine XS.iconst X348.here hx rfl (hb hby at_457) ?_
          exact kX
        subst hS0
        obtain ⟨fs, hr, hrun, hended, hW, hsame⟩ := X348.leave (v := (some (.int (1 : Int32)))) (fun h => by rw [Bd.returns] at h; cases h)
        refine ⟨_, _, pre358 _ (retN X348 hx (t := .boolean) Bd.returns (by simp) (hb hby at_458) hr), hrun, hended, _, _, rfl, ?_, ⟨_, rfl⟩, hW, hsame.mono (by decide) (by decide)⟩
        show Q0 Z i0 i1 i2 i3 h0 n0 (some (.int (1 : Int32))) T338.heap _
        exact ⟨rfl, N348⟩
  · skip
    have pre359 : ∀ t, own_s p e below s₁ m 16 #[iv i0, iv i1, iv i2, iv i3, iv (1 : Int32), .unset, .unset, .unset, .unset, .unset, .unset, .unset, .unset, .unset, .unset, .unset] [(.int (i3 &&& (2 : Int32)))] t → Steps p.tables e below S0 t := by
      intro tX kX
      refine pre1 _ ?_
      show own_s p e below s₁ m 3 #[iv i0, iv i1, iv i2, iv i3, .unset, .unset, .unset, .unset, .unset, .unset, .unset, .unset, .unset, .unset, .unset, .unset] [(.int (i3 &&& (1 : Int32)))] _
      refine XS.ifNo X0.here hx rfl (hb hby at_3) rfl ((if0 _ _).trans (feq hc2).1) ?_
      refine XS.iconst X0.here hx rfl (hb hby at_6) ?_
      refine XS.goto X0.here hx rfl (pc0 := 7) (pc' := 11) rfl (hb hby at_7) (by decide) (by decide) ?_
      show own_s p e below s₁ m 11 #[iv i0, iv i1, iv i2, iv i3, .unset, .unset, .unset, .unset, .unset, .unset, .unset, .unset, .unset, .unset, .unset, .unset] [(.int (1 : Int32))] _
      refine XS.istore X0.here hx rfl (hb hby at_11) rfl (l' := #[iv i0, iv i1, iv i2, iv i3, iv (1 : Int32), .unset, .unset, .unset, .unset, .unset, .unset, .unset, .unset, .unset, .unset, .unset]) rfl ?_
      refine XS.iloadN X0.here hx rfl (hb hby at_13) rfl ?_
      refine XS.iconst X0.here hx rfl (hb hby at_14) ?_
      show own_s p e below s₁ m 15 #[iv i0, iv i1, iv i2, iv i3, iv (1 : Int32), .unset, .unset, .unset, .unset, .unset, .unset, .unset, .unset, .unset, .unset, .unset] [(.int (2 : Int32)), (.int i3)] _
      refine XS.iand X0.here hx rfl (hb hby at_15) rfl ?_
      exact kX
    by_cases hc360 : (i3 &&& (2 : Int32)) = (0 : Int32)
    · skip
      have pre361 : ∀ t, own_s p e below s₁ m 29 #[iv i0, iv i1, iv i2, iv i3, iv (1 : Int32), iv (0 : Int32), .unset, .unset, .unset, .unset, .unset, .unset, .unset, .unset, .unset, .unset] [(.int (i3 &&& (4 : Int32)))] t → Steps p.tables e below S0 t := by
        intro tX kX
        refine pre359 _ ?_
        show own_s p e below s₁ m 16 #[iv i0, iv i1, iv i2, iv i3, iv (1 : Int32), .unset, .unset, .unset, .unset, .unset, .unset, .unset, .unset, .unset, .unset, .unset] [(.int (i3 &&& (2 : Int32)))] _
        refine XS.ifYes X0.here hx rfl (pc0 := 16) (pc' := 23) rfl (hb hby at_16) rfl ((if0 _ _).trans (teq hc360).1) (by decide) (by decide) ?_
        refine XS.iconst X0.here hx rfl (hb hby at_23) ?_
        refine XS.istore X0.here hx rfl (hb hby at_24) rfl (l' := #[iv i0, iv i1, iv i2, iv i3, iv (1 : Int32), iv (0 : Int32), .unset, .unset, .unset, .unset, .unset, .unset, .unset, .unset, .unset, .unset]) rfl ?_
        show own_s p e below s₁ m 26 #[iv i0, iv i1, iv i2, iv i3, iv (1 : Int32), iv (0 : Int32), .unset, .unset, .unset, .unset, .unset, .unset, .unset, .unset, .unset, .unset] [] _
        refine XS.iloadN X0.here hx rfl (hb hby at_26) rfl ?_
        refine XS.iconst X0.here hx rfl (hb hby at_27) ?_
        refine XS.iand X0.here hx rfl (hb hby at_28) rfl ?_
        exact kX
      by_cases hc362 : (i3 &&& (4 : Int32)) = (0 : Int32)
      · skip
        have pre363 : ∀ t, own_s p e below s₁ m 39 #[iv i0, iv i1, iv i2, iv i3, iv (1 : Int32), iv (0 : Int32), iv (0 : Int32), .unset, .unset, .unset, .unset, .unset, .unset, .unset, .unset, .unset] [] t → Steps p.tables e below S0 t := by
          intro tX kX
          refine pre361 _ ?_
          show own_s p e below s₁ m 29 #[iv i0, iv i1, iv i2, iv i3, iv (1 : Int32), iv (0 : Int32), .unset, .unset, .unset, .unset, .unset, .unset, .unset, .unset, .unset, .unset] [(.int (i3 &&& (4 : Int32)))] _
          refine XS.ifYes X0.here hx rfl (pc0 := 29) (pc' := 36) rfl (hb hby at_29) rfl ((if0 _ _).trans (teq hc362).1) (by decide) (by decide) ?_
          refine XS.iconst X0.here hx rfl (hb hby at_36) ?_
          refine XS.istore X0.here hx rfl (hb hby at_37) rfl (l' := #[iv i0, iv i1, iv i2, iv i3, iv (1 : Int32), iv (0 : Int32), iv (0 : Int32), .unset, .unset, .unset, .unset, .unset, .unset, .unset, .unset, .unset]) rfl ?_
          exact kX
        obtain ⟨T364, h364, X364, e364, E364, A364, D364, -, st364⟩ := newO X0 hx hZ hown (hw _ (List.mem_of_getElem? (i := 0) rfl)) (hw _ (List.mem_of_getElem? (i := 1) rfl)) (hw _ (List.mem_of_getElem? (i := 2) rfl)) e0 (g := (mkF m 39 #[iv i0, iv i1, iv i2, iv i3, iv (1 : Int32), iv (0 : Int32), iv (0 : Int32), .unset, .unset, .unset, .unset, .unset, .unset, .unset, .unset, .unset] [])) rfl (hb hby at_39) (by decide) (by decide)
        obtain ⟨b364, g364⟩ : ∃ z, z = h0.size := ⟨_, rfl⟩
        rw [← g364] at A364 D364 st364
        have g_b364 : n0 ≤ b364 := Nat.le_trans Z0 (Nat.le_of_eq g364.symm)
        have pre365 : ∀ t, own_s p e below T364 m 42 #[iv i0, iv i1, iv i2, iv i3, iv (1 : Int32), iv (0 : Int32), iv (0 : Int32), .unset, .unset, .unset, .unset, .unset, .unset, .unset, .unset, .unset] [(.ref b364)] t → Steps p.tables e below S0 t := fun tX kX => pre363 _ (st364 _ kX)
        have Z366 : n0 ≤ h364.size := Nat.le_trans Z0 E364.1
        have f367_E : Exa Z h364 b364 "com/example/farcall/farcall/io/XdrEncoder" := A364
        have f368_F : Fld Z h364 b364 "com/example/farcall/farcall/io/XdrEncoder" "buffer" "[B" .null := D364 (Or.inl (hw _ (List.mem_of_getElem? (i := 11) rfl))) (ty := (.array .byte)) (by decide)
        have f369_F : Fld Z h364 b364 "com/example/farcall/farcall/io/XdrEncoder" "end" "I" (.int (0 : Int32)) := D364 (Or.inl (hw _ (List.mem_of_getElem? (i := 22) rfl))) (ty := .int) (by decide)
        have f370_F : Fld Z h364 b364 "com/example/farcall/farcall/io/XdrEncoder" "start" "I" (.int (0 : Int32)) := D364 (Or.inl (hw _ (List.mem_of_getElem? (i := 29) rfl))) (ty := .int) (by decide)
        have pre371 : ∀ t, own_s p e below T364 m 43 #[iv i0, iv i1, iv i2, iv i3, iv (1 : Int32), iv (0 : Int32), iv (0 : Int32), .unset, .unset, .unset, .unset, .unset, .unset, .unset, .unset, .unset] [(.ref b364), (.ref b364)] t → Steps p.tables e below S0 t := by
          intro tX kX
          refine pre365 _ ?_
          show own_s p e below T364 m 42 #[iv i0, iv i1, iv i2, iv i3, iv (1 : Int32), iv (0 : Int32), iv (0 : Int32), .unset, .unset, .unset, .unset, .unset, .unset, .unset, .unset, .unset] [(.ref b364)] _
          refine XS.dup X364.here hx rfl (hb hby at_42) rfl rfl ?_
          exact kX
        obtain ⟨_, _, ⟨T372, L372, k372, n372⟩, -, X372, ⟨Lc372, hQ372, l372, y372, z372⟩, st372⟩ := X364.specialBack hx (y := (⟨"com/example/farcall/farcall/io/XdrEncoder", "<init>", "()V"⟩ : MethodName)) rfl hown (mvT hZ (hw _ (List.mem_of_getElem? (i := 3) rfl))) (mvT hZ (hw _ (List.mem_of_getElem? (i := 4) rfl))) (mvT hZ (hw _ (List.mem_of_getElem? (i := 5) rfl))) (by decide) (backOf (W := 1) (rm12 l Z a0 hw [] b364  h364 n0 Z366 f367_E f368_F f370_F f369_F g_b364) hZ (hw _ (List.mem_of_getElem? (i := 5) rfl)) (hw _ (List.mem_of_getElem? (i := 2) rfl)) (by decide) (by decide)) (g := (mkF m 43 #[iv i0, iv i1, iv i2, iv i3, iv (1 : Int32), iv (0 : Int32), iv (0 : Int32), .unset, .unset, .unset, .unset, .unset, .unset, .unset, .unset, .unset] [(.ref b364), (.ref b364)])) rfl (by rw [hml]; rfl) (Steps.refl _) (a := b364) (argsL := []) (rest := [(.ref b364)]) (lenOf pd0_0 rfl) rfl (by show 2 * 0 + _ ≤ _; exact Nat.le_of_eq rfl) (hb hby at_43) (fun _ _ => ⟨rfl, e364, (by decide : 1 + 1 ≤ _), (by decide : 4 + 64 ≤ _)⟩)
        dsimp only [Pt.U, Pt.locs, Pt.cells, Pt.slots] at X372 l372 y372 z372 st372 hQ372
        subst l372 y372 z372
        obtain ⟨rfl, Nq372, Kq372, bb372, szq372, E_a372, F_buf372, F_sta372, F_end372, A_b372, ne_ab372, fg372, g_a372, g_b372⟩ := hQ372
        have N372 := Fr.app N0 Nq372
        have e372 : T372.heap = T372.heap := rfl
        have Z372 : n0 ≤ T372.heap.size := Nat.le_trans Z366 Kq372.1
        obtain ⟨LL373, X373, N373⟩ : ∃ LL, Stand p l e room_1 s m #[(.int i0), (.int i1), (.int i2), (.int i3)] below meth c T372 LL 2 68 ∧ Fr n0 LL := ⟨_, X372, N372⟩
        have pre374 : ∀ t, own_s p e below T372 m 46 #[iv i0, iv i1, iv i2, iv i3, iv (1 : Int32), iv (0 : Int32), iv (0 : Int32), .unset, .unset, .unset, .unset, .unset, .unset, .unset, .unset, .unset] [(.ref b364)] t → Steps p.tables e below S0 t := fun tX kX => pre371 _ (st372.trans kX)
        have pre375 : ∀ t, own_s p e below T372 m 56 #[iv i0, iv i1, iv i2, iv i3, iv (1 : Int32), iv (0 : Int32), iv (0 : Int32), rv b364, .unset, .unset, .unset, .unset, .unset, .unset, .unset, .unset] [(.int i0), (.ref b364)] t → Steps p.tables e below S0 t := by
          intro tX kX
          refine pre374 _ ?_
          show own_s p e below T372 m 46 #[iv i0, iv i1, iv i2, iv i3, iv (1 : Int32), iv (0 : Int32), iv (0 : Int32), .unset, .unset, .unset, .unset, .unset, .unset, .unset, .unset, .unset] [(.ref b364)] _
          refine XS.astore X373.here hx rfl (hb hby at_46) rfl rfl (l' := #[iv i0, iv i1, iv i2, iv i3, iv (1 : Int32), iv (0 : Int32), iv (0 : Int32), rv b364, .unset, .unset, .unset, .unset, .unset, .unset, .unset, .unset]) rfl ?_
          refine XS.iload X373.here hx rfl (hb hby at_48) rfl ?_
          refine XS.ifNo X373.here hx rfl (hb hby at_50) rfl ((if0 _ _).trans (feq (by decide : ¬ ((1 : Int32) = (0 : Int32)))).1) ?_
          show own_s p e below T372 m 53 #[iv i0, iv i1, iv i2, iv i3, iv (1 : Int32), iv (0 : Int32), iv (0 : Int32), rv b364, .unset, .unset, .unset, .unset, .unset, .unset, .unset, .unset] [] _
          refine XS.aload X373.here hx rfl (hb hby at_53) rfl rfl ?_
          refine XS.iloadN X373.here hx rfl (hb hby at_55) rfl ?_
          exact kX
        obtain ⟨cq376, kq376, q376a, q376b, q376c⟩ := isOf hZ e372 E_a372
        obtain ⟨_, _, ⟨T376, L376, k376, n376⟩, -, X376, ⟨Lc376, hQ376, l376, y376, z376⟩, st376⟩ := X373.virtualBack hx (y := (⟨"com/example/farcall/farcall/io/XdrEncoder", "writeInt", "(I)Lcom/example/farcall/farcall/io/XdrEncoder;"⟩ : MethodName)) (z := (⟨"com/example/farcall/farcall/io/XdrEncoder", "writeInt", "(I)Lcom/example/farcall/farcall/io/XdrEncoder;"⟩ : MethodName)) hown (mvT hZ (hw _ (List.mem_of_getElem? (i := 12) rfl))) (mvT hZ (hw _ (List.mem_of_getElem? (i := 13) rfl))) (notFace_of_selects (args := #[]) (mvT hZ (hw _ (List.mem_of_getElem? (i := 15) rfl)))) (mvT hZ (hw _ (List.mem_of_getElem? (i := 15) rfl))) (mvT hZ (hw _ (List.mem_of_getElem? (i := 14) rfl))) (by decide) (backOf (W := 0) (rm9 l Z a0 hw [] b364 i0 bb372 ((fun _ : Nat => (0 : Int32))) 0 0 T372.heap n0 Z372 E_a372 F_buf372 F_sta372 F_end372 A_b372 ne_ab372 fg372 g_a372 g_b372 (by decide) (by decide)) hZ (hw _ (List.mem_of_getElem? (i := 16) rfl)) (hw _ (List.mem_of_getElem? (i := 2) rfl)) (by decide) (by decide)) q376a q376c (g := (mkF m 56 #[iv i0, iv i1, iv i2, iv i3, iv (1 : Int32), iv (0 : Int32), iv (0 : Int32), rv b364, .unset, .unset, .unset, .unset, .unset, .unset, .unset, .unset] [(.int i0), (.ref b364)])) rfl (by rw [hml]; rfl) (Steps.refl _) (argsL := [(.int i0)]) (rest := []) (lenOf pd0_2 rfl) rfl (by show 2 * 0 + _ ≤ _; exact Nat.le_of_eq rfl) (hb hby at_56) (fun _ _ => ⟨rfl, e372, (by decide : 2 + 0 ≤ _), (by decide : 68 + 0 ≤ _)⟩)
        dsimp only [Pt.U, Pt.locs, Pt.cells, Pt.slots] at X376 l376 y376 z376 st376 hQ376
        subst l376 y376 z376
        obtain ⟨rfl, Nq376, Kq376, E_a376, F_buf376, F_sta376, F_end376, A_b376, ne_ab376, fg376, g_a376, g_b376⟩ := hQ376
        have N376 := Fr.app N373 Nq376
        have e376 : T376.heap = T376.heap := rfl
        have Z376 : n0 ≤ T376.heap.size := Nat.le_trans Z372 Kq376.1
        obtain ⟨LL377, X377, N377⟩ : ∃ LL, Stand p l e room_1 s m #[(.int i0), (.int i1), (.int i2), (.int i3)] below meth c T376 LL 2 68 ∧ Fr n0 LL := ⟨_, X376, N376⟩
        have pre378 : ∀ t, own_s p e below T376 m 59 #[iv i0, iv i1, iv i2, iv i3, iv (1 : Int32), iv (0 : Int32), iv (0 : Int32), rv b364, .unset, .unset, .unset, .unset, .unset, .unset, .unset, .unset] [(.ref b364)] t → Steps p.tables e below S0 t := fun tX kX => pre375 _ (st376.trans kX)
        have pre379 : ∀ t, own_s p e below T376 m 113 #[iv i0, iv i1, iv i2, iv i3, iv (1 : Int32), iv (0 : Int32), iv (0 : Int32), rv b364, iv (4 : Int32), iv (0 : Int32), iv (0 : Int32), .unset, .unset, .unset, .unset, .unset] [(.ref b364)] t → Steps p.tables e below S0 t := by
          intro tX kX
          refine pre378 _ ?_
          show own_s p e below T376 m 59 #[iv i0, iv i1, iv i2, iv i3, iv (1 : Int32), iv (0 : Int32), iv (0 : Int32), rv b364, .unset, .unset, .unset, .unset, .unset, .unset, .unset, .unset] [(.ref b364)] _
          refine XS.pop X377.here hx rfl (hb hby at_59) rfl rfl ?_
          refine XS.iload X377.here hx rfl (hb hby at_60) rfl ?_
          refine XS.ifNo X377.here hx rfl (hb hby at_62) rfl ((if0 _ _).trans (feq (by decide : ¬ ((1 : Int32) = (0 : Int32)))).1) ?_
          show own_s p e below T376 m 65 #[iv i0, iv i1, iv i2, iv i3, iv (1 : Int32), iv (0 : Int32), iv (0 : Int32), rv b364, .unset, .unset, .unset, .unset, .unset, .unset, .unset, .unset] [] _
          refine XS.iconst X377.here hx rfl (hb hby at_65) ?_
          refine XS.goto X377.here hx rfl (pc0 := 66) (pc' := 70) rfl (hb hby at_66) (by decide) (by decide) ?_
          refine XS.istore X377.here hx rfl (hb hby at_70) rfl (l' := #[iv i0, iv i1, iv i2, iv i3, iv (1 : Int32), iv (0 : Int32), iv (0 : Int32), rv b364, iv (4 : Int32), .unset, .unset, .unset, .unset, .unset, .unset, .unset]) rfl ?_
          show own_s p e below T376 m 72 #[iv i0, iv i1, iv i2, iv i3, iv (1 : Int32), iv (0 : Int32), iv (0 : Int32), rv b364, iv (4 : Int32), .unset, .unset, .unset, .unset, .unset, .unset, .unset] [] _
          refine XS.iconst X377.here hx rfl (hb hby at_72) ?_
          refine XS.istore X377.here hx rfl (hb hby at_73) rfl (l' := #[iv i0, iv i1, iv i2, iv i3, iv (1 : Int32), iv (0 : Int32), iv (0 : Int32), rv b364, iv (4 : Int32), iv (0 : Int32), .unset, .unset, .unset, .unset, .unset, .unset]) rfl ?_
          refine XS.iload X377.here hx rfl (hb hby at_75) rfl ?_
          show own_s p e below T376 m 77 #[iv i0, iv i1, iv i2, iv i3, iv (1 : Int32), iv (0 : Int32), iv (0 : Int32), rv b364, iv (4 : Int32), iv (0 : Int32), .unset, .unset, .unset, .unset, .unset, .unset] [(.int (0 : Int32))] _
          refine XS.ifYes X377.here hx rfl (pc0 := 77) (pc' := 87) rfl (hb hby at_77) rfl ((if0 _ _).trans (teq (by decide : (0 : Int32) = (0 : Int32))).1) (by decide) (by decide) ?_
          refine XS.iload X377.here hx rfl (hb hby at_87) rfl ?_
          refine XS.ifYes X377.here hx rfl (pc0 := 89) (pc' := 99) rfl (hb hby at_89) rfl ((if0 _ _).trans (teq (by decide : (0 : Int32) = (0 : Int32))).1) (by decide) (by decide) ?_
          show own_s p e below T376 m 99 #[iv i0, iv i1, iv i2, iv i3, iv (1 : Int32), iv (0 : Int32), iv (0 : Int32), rv b364, iv (4 : Int32), iv (0 : Int32), .unset, .unset, .unset, .unset, .unset, .unset] [] _
          refine XS.iload X377.here hx rfl (hb hby at_99) rfl ?_
          refine XS.ifYes X377.here hx rfl (pc0 := 101) (pc' := 108) rfl (hb hby at_101) rfl ((if0 _ _).trans (teq (by decide : (0 : Int32) = (0 : Int32))).1) (by decide) (by decide) ?_
          refine XS.iconst X377.here hx rfl (hb hby at_108) ?_
          show own_s p e below T376 m 109 #[iv i0, iv i1, iv i2, iv i3, iv (1 : Int32), iv (0 : Int32), iv (0 : Int32), rv b364, iv (4 : Int32), iv (0 : Int32), .unset, .unset, .unset, .unset, .unset, .unset] [(.int (0 : Int32))] _
          refine XS.istore X377.here hx rfl (hb hby at_109) rfl (l' := #[iv i0, iv i1, iv i2, iv i3, iv (1 : Int32), iv (0 : Int32), iv (0 : Int32), rv b364, iv (4 : Int32), iv (0 : Int32), iv (0 : Int32), .unset, .unset, .unset, .unset, .unset]) rfl ?_
          refine XS.aload X377.here hx rfl (hb hby at_111) rfl rfl ?_
          exact kX
        obtain ⟨cq380, kq380, q380a, q380b, q380c⟩ := isOf hZ e376 E_a376
        obtain ⟨_, _, ⟨T380, L380, k380, n380⟩, -, X380, ⟨Lc380, hQ380, l380, y380, z380⟩, st380⟩ := X377.virtualBack hx (y := (⟨"com/example/farcall/farcall/io/XdrEncoder", "beginPart", "()I"⟩ : MethodName)) (z := (⟨"com/example/farcall/farcall/io/XdrEncoder", "beginPart", "()I"⟩ : MethodName)) hown (mvT hZ (hw _ (List.mem_of_getElem? (i := 35) rfl))) (mvT hZ (hw _ (List.mem_of_getElem? (i := 36) rfl))) (notFace_of_selects (args := #[]) (mvT hZ (hw _ (List.mem_of_getElem? (i := 38) rfl)))) (mvT hZ (hw _ (List.mem_of_getElem? (i := 38) rfl))) (mvT hZ (hw _ (List.mem_of_getElem? (i := 37) rfl))) (by decide) (backOf (W := 0) (rm10 l Z a0 hw [] b364 bb372 ((own_put (fun _ : Nat => (0 : Int32)) 0 i0)) 0 4 T376.heap n0 Z376 E_a376 F_buf376 F_sta376 F_end376 A_b376 ne_ab376 fg376 g_a376 g_b376) hZ (hw _ (List.mem_of_getElem? (i := 39) rfl)) (hw _ (List.mem_of_getElem? (i := 2) rfl)) (by decide) (by decide)) q380a q380c (g := (mkF m 113 #[iv i0, iv i1, iv i2, iv i3, iv (1 : Int32), iv (0 : Int32), iv (0 : Int32), rv b364, iv (4 : Int32), iv (0 : Int32), iv (0 : Int32), .unset, .unset, .unset, .unset, .unset] [(.ref b364)])) rfl (by rw [hml]; rfl) (Steps.refl _) (argsL := []) (rest := []) (lenOf pd0_1 rfl) rfl (by show 2 * 0 + _ ≤ _; exact Nat.le_of_eq rfl) (hb hby at_113) (fun _ _ => ⟨rfl, e376, (by decide : 2 + 0 ≤ _), (by decide : 68 + 0 ≤ _)⟩)
        dsimp only [Pt.U, Pt.locs, Pt.cells, Pt.slots] at X380 l380 y380 z380 st380 hQ380
        subst l380 y380 z380
        obtain ⟨rfl, Nq380, Kq380, E_a380, F_buf380, F_sta380, F_end380, A_b380, ne_ab380, fg380, g_a380, g_b380⟩ := hQ380
        have N380 := Fr.app N377 Nq380
        have e380 : T380.heap = T380.heap := rfl
        have Z380 : n0 ≤ T380.heap.size := Nat.le_trans Z376 Kq380.1
        obtain ⟨LL381, X381, N381⟩ : ∃ LL, Stand p l e room_1 s m #[(.int i0), (.int i1), (.int i2), (.int i3)] below meth c T380 LL 2 68 ∧ Fr n0 LL := ⟨_, X380, N380⟩
        have pre382 : ∀ t, own_s p e below T380 m 116 #[iv i0, iv i1, iv i2, iv i3, iv (1 : Int32), iv (0 : Int32), iv (0 : Int32), rv b364, iv (4 : Int32), iv (0 : Int32), iv (0 : Int32), .unset, .unset, .unset, .unset, .unset] [(.int (0 : Int32))] t → Steps p.tables e below S0 t := fun tX kX => pre379 _ (st380.trans kX)
        have pre383 : ∀ t, own_s p e below T380 m 120 #[iv i0, iv i1, iv i2, iv i3, iv (1 : Int32), iv (0 : Int32), iv (0 : Int32), rv b364, iv (4 : Int32), iv (0 : Int32), iv (0 : Int32), iv (0 : Int32), .unset, .unset, .unset, .unset] [(.ref b364)] t → Steps p.tables e below S0 t := by
          intro tX kX
          refine pre382 _ ?_
          show own_s p e below T380 m 116 #[iv i0, iv i1, iv i2, iv i3, iv (1 : Int32), iv (0 : Int32), iv (0 : Int32), rv b364, iv (4 : Int32), iv (0 : Int32), iv (0 : Int32), .unset, .unset, .unset, .unset, .unset] [(.int (0 : Int32))] _
          refine XS.istore X381.here hx rfl (hb hby at_116) rfl (l' := #[iv i0, iv i1, iv i2, iv i3, iv (1 : Int32), iv (0 : Int32), iv (0 : Int32), rv b364, iv (4 : Int32), iv (0 : Int32), iv (0 : Int32), iv (0 : Int32), .unset, .unset, .unset, .unset]) rfl ?_
          refine XS.aload X381.here hx rfl (hb hby at_118) rfl rfl ?_
          exact kX
        obtain ⟨cq384, kq384, q384a, q384b, q384c⟩ := isOf hZ e380 E_a380
        obtain ⟨_, _, ⟨T384, L384, k384, n384⟩, -, X384, ⟨Lc384, hQ384, l384, y384, z384⟩, st384⟩ := X381.virtualBack hx (y := (⟨"com/example/farcall/farcall/io/XdrEncoder", "size", "()I"⟩ : MethodName)) (z := (⟨"com/example/farcall/farcall/io/XdrEncoder", "size", "()I"⟩ : MethodName)) hown (mvT hZ (hw _ (List.mem_of_getElem? (i := 40) rfl))) (mvT hZ (hw _ (List.mem_of_getElem? (i := 24) rfl))) (notFace_of_selects (args := #[]) (mvT hZ (hw _ (List.mem_of_getElem? (i := 26) rfl)))) (mvT hZ (hw _ (List.mem_of_getElem? (i := 26) rfl))) (mvT hZ (hw _ (List.mem_of_getElem? (i := 25) rfl))) (by decide) (backOf (W := 0) (rm6 l Z a0 hw [] b364 bb372 ((own_put (fun _ : Nat => (0 : Int32)) 0 i0)) 4 4 T380.heap n0 Z380 E_a380 F_buf380 F_sta380 F_end380 A_b380 ne_ab380 fg380 g_a380 g_b380 (by decide) (by decide)) hZ (hw _ (List.mem_of_getElem? (i := 27) rfl)) (hw _ (List.mem_of_getElem? (i := 2) rfl)) (by decide) (by decide)) q384a q384c (g := (mkF m 120 #[iv i0, iv i1, iv i2, iv i3, iv (1 : Int32), iv (0 : Int32), iv (0 : Int32), rv b364, iv (4 : Int32), iv (0 : Int32), iv (0 : Int32), iv (0 : Int32), .unset, .unset, .unset, .unset] [(.ref b364)])) rfl (by rw [hml]; rfl) (Steps.refl _) (argsL := []) (rest := []) (lenOf pd0_1 rfl) rfl (by show 2 * 0 + _ ≤ _; exact Nat.le_of_eq rfl) (hb hby at_120) (fun _ _ => ⟨rfl, e380, (by decide : 2 + 0 ≤ _), (by decide : 68 + 0 ≤ _)⟩)
        dsimp only [Pt.U, Pt.locs, Pt.cells, Pt.slots] at X384 l384 y384 z384 st384 hQ384
        subst l384 y384 z384
        obtain ⟨rfl, Nq384, e384⟩ := hQ384
        have N384 := Fr.app N381 Nq384
        obtain ⟨LL385, X385, N385⟩ : ∃ LL, Stand p l e room_1 s m #[(.int i0), (.int i1), (.int i2), (.int i3)] below meth c T384 LL 2 68 ∧ Fr n0 LL := ⟨_, X384, N384⟩
        have pre386 : ∀ t, own_s p e below T384 m 123 #[iv i0, iv i1, iv i2, iv i3, iv (1 : Int32), iv (0 : Int32), iv (0 : Int32), rv b364, iv (4 : Int32), iv (0 : Int32), iv (0 : Int32), iv (0 : Int32), .unset, .unset, .unset, .unset] [(.int (0 : Int32))] t → Steps p.tables e below S0 t := fun tX kX => pre383 _ (st384.trans kX)
        have pre387 : ∀ t, own_s p e below T384 m 136 #[iv i0, iv i1, iv i2, iv i3, iv (1 : Int32), iv (0 : Int32), iv (0 : Int32), rv b364, iv (4 : Int32), iv (0 : Int32), iv (0 : Int32), iv (0 : Int32), iv (1 : Int32), .unset, .unset, .unset] [(.int i2), (.ref b364)] t → Steps p.tables e below S0 t := by
          intro tX kX
          refine pre386 _ ?_
          show own_s p e below T384 m 123 #[iv i0, iv i1, iv i2, iv i3, iv (1 : Int32), iv (0 : Int32), iv (0 : Int32), rv b364, iv (4 : Int32), iv (0 : Int32), iv (0 : Int32), iv (0 : Int32), .unset, .unset, .unset, .unset] [(.int (0 : Int32))] _
          refine XS.ifNo X385.here hx rfl (hb hby at_123) rfl ((if0 _ _).trans (teq (by decide : (0 : Int32) = (0 : Int32))).2) ?_
          refine XS.iconst X385.here hx rfl (hb hby at_126) ?_
          refine XS.goto X385.here hx rfl (pc0 := 127) (pc' := 131) rfl (hb hby at_127) (by decide) (by decide) ?_
          show own_s p e below T384 m 131 #[iv i0, iv i1, iv i2, iv i3, iv (1 : Int32), iv (0 : Int32), iv (0 : Int32), rv b364, iv (4 : Int32), iv (0 : Int32), iv (0 : Int32), iv (0 : Int32), .unset, .unset, .unset, .unset] [(.int (1 : Int32))] _
          refine XS.istore X385.here hx rfl (hb hby at_131) rfl (l' := #[iv i0, iv i1, iv i2, iv i3, iv (1 : Int32), iv (0 : Int32), iv (0 : Int32), rv b364, iv (4 : Int32), iv (0 : Int32), iv (0 : Int32), iv (0 : Int32), iv (1 : Int32), .unset, .unset, .unset]) rfl ?_
          refine XS.aload X385.here hx rfl (hb hby at_133) rfl rfl ?_
          refine XS.iloadN X385.here hx rfl (hb hby at_135) rfl ?_
          exact kX
        obtain ⟨cq388, kq388, q388a, q388b, q388c⟩ := isOf hZ e384 E_a380
        obtain ⟨_, _, ⟨T388, L388, k388, n388⟩, -, X388, ⟨Lc388, hQ388, l388, y388, z388⟩, st388⟩ := X385.virtualBack hx (y := (⟨"com/example/farcall/farcall/io/XdrEncoder", "writeInt", "(I)Lcom/example/farcall/farcall/io/XdrEncoder;"⟩ : MethodName)) (z := (⟨"com/example/farcall/farcall/io/XdrEncoder", "writeInt", "(I)Lcom/example/farcall/farcall/io/XdrEncoder;"⟩ : MethodName)) hown (mvT hZ (hw _ (List.mem_of_getElem? (i := 12) rfl))) (mvT hZ (hw _ (List.mem_of_getElem? (i := 13) rfl))) (notFace_of_selects (args := #[]) (mvT hZ (hw _ (List.mem_of_getElem? (i := 15) rfl)))) (mvT hZ (hw _ (List.mem_of_getElem? (i := 15) rfl))) (mvT hZ (hw _ (List.mem_of_getElem? (i := 14) rfl))) (by decide) (backOf (W := 0) (rm9 l Z a0 hw [] b364 i2 bb372 ((own_put (fun _ : Nat => (0 : Int32)) 0 i0)) 4 4 T380.heap n0 Z380 E_a380 F_buf380 F_sta380 F_end380 A_b380 ne_ab380 fg380 g_a380 g_b380 (by decide) (by decide)) hZ (hw _ (List.mem_of_getElem? (i := 16) rfl)) (hw _ (List.mem_of_getElem? (i := 2) rfl)) (by decide) (by decide)) q388a q388c (g := (mkF m 136 #[iv i0, iv i1, iv i2, iv i3, iv (1 : Int32), iv (0 : Int32), iv (0 : Int32), rv b364, iv (4 : Int32), iv (0 : Int32), iv (0 : Int32), iv (0 : Int32), iv (1 : Int32), .unset, .unset, .unset] [(.int i2), (.ref b364)])) rfl (by rw [hml]; rfl) (Steps.refl _) (argsL := [(.int i2)]) (rest := []) (lenOf pd0_2 rfl) rfl (by show 2 * 0 + _ ≤ _; exact Nat.le_of_eq rfl) (hb hby at_136) (fun _ _ => ⟨rfl, e384, (by decide : 2 + 0 ≤ _), (by decide : 68 + 0 ≤ _)⟩)
        dsimp only [Pt.U, Pt.locs, Pt.cells, Pt.slots] at X388 l388 y388 z388 st388 hQ388
        subst l388 y388 z388
        obtain ⟨rfl, Nq388, Kq388, E_a388, F_buf388, F_sta388, F_end388, A_b388, ne_ab388, fg388, g_a388, g_b388⟩ := hQ388
        have N388 := Fr.app N385 Nq388
        have e388 : T388.heap = T388.heap := rfl
        have Z388 : n0 ≤ T388.heap.size := Nat.le_trans Z380 Kq388.1
        obtain ⟨LL389, X389, N389⟩ : ∃ LL, Stand p l e room_1 s m #[(.int i0), (.int i1), (.int i2), (.int i3)] below meth c T388 LL 2 68 ∧ Fr n0 LL := ⟨_, X388, N388⟩
        have pre390 : ∀ t, own_s p e below T388 m 139 #[iv i0, iv i1, iv i2, iv i3, iv (1 : Int32), iv (0 : Int32), iv (0 : Int32), rv b364, iv (4 : Int32), iv (0 : Int32), iv (0 : Int32), iv (0 : Int32), iv (1 : Int32), .unset, .unset, .unset] [(.ref b364)] t → Steps p.tables e below S0 t := fun tX kX => pre387 _ (st388.trans kX)
        have pre391 : ∀ t, own_s p e below T388 m 142 #[iv i0, iv i1, iv i2, iv i3, iv (1 : Int32), iv (0 : Int32), iv (0 : Int32), rv b364, iv (4 : Int32), iv (0 : Int32), iv (0 : Int32), iv (0 : Int32), iv (1 : Int32), .unset, .unset, .unset] [(.ref b364)] t → Steps p.tables e below S0 t := by
          intro tX kX
          refine pre390 _ ?_
          show own_s p e below T388 m 139 #[iv i0, iv i1, iv i2, iv i3, iv (1 : Int32), iv (0 : Int32), iv (0 : Int32), rv b364, iv (4 : Int32), iv (0 : Int32), iv (0 : Int32), iv (0 : Int32), iv (1 : Int32), .unset, .unset, .unset] [(.ref b364)] _
          refine XS.pop X389.here hx rfl (hb hby at_139) rfl rfl ?_
          refine XS.aload X389.here hx rfl (hb hby at_140) rfl rfl ?_
          exact kX
        obtain ⟨cq392, kq392, q392a, q392b, q392c⟩ := isOf hZ e388 E_a388
        obtain ⟨_, _, ⟨T392, L392, k392, n392⟩, -, X392, ⟨Lc392, hQ392, l392, y392, z392⟩, st392⟩ := X389.virtualBack hx (y := (⟨"com/example/farcall/farcall/io/XdrEncoder", "toByteArray", "()[B"⟩ : MethodName)) (z := (⟨"com/example/farcall/farcall/io/XdrEncoder", "toByteArray", "()[B"⟩ : MethodName)) hown (mvT hZ (hw _ (List.mem_of_getElem? (i := 41) rfl))) (mvT hZ (hw _ (List.mem_of_getElem? (i := 42) rfl))) (notFace_of_selects (args := #[]) (mvT hZ (hw _ (List.mem_of_getElem? (i := 44) rfl)))) (mvT hZ (hw _ (List.mem_of_getElem? (i := 44) rfl))) (mvT hZ (hw _ (List.mem_of_getElem? (i := 43) rfl))) (by decide) (backOf (W := 0) (rm5 l Z a0 hw [] b364 bb372 ((own_put (own_put (fun _ : Nat => (0 : Int32)) 0 i0) 4 i2)) 4 8 T388.heap n0 Z388 E_a388 F_buf388 F_sta388 F_end388 A_b388 ne_ab388 fg388 g_a388 g_b388 (by decide) (by decide) (by decide)) hZ (hw _ (List.mem_of_getElem? (i := 45) rfl)) (hw _ (List.mem_of_getElem? (i := 2) rfl)) (by decide) (by decide)) q392a q392c (g := (mkF m 142 #[iv i0, iv i1, iv i2, iv i3, iv (1 : Int32), iv (0 : Int32), iv (0 : Int32), rv b364, iv (4 : Int32), iv (0 : Int32), iv (0 : Int32), iv (0 : Int32), iv (1 : Int32), .unset, .unset, .unset] [(.ref b364)])) rfl (by rw [hml]; rfl) (Steps.refl _) (argsL := []) (rest := []) (lenOf pd0_3 rfl) rfl (by show 2 * 0 + _ ≤ _; exact Nat.le_of_eq rfl) (hb hby at_142) (fun _ _ => ⟨rfl, e388, (by decide : 2 + 1 ≤ _), (by decide : 68 + 64 ≤ _)⟩)
        dsimp only [Pt.U, Pt.locs, Pt.cells, Pt.slots] at X392 l392 y392 z392 st392 hQ392
        subst l392 y392 z392
        obtain ⟨r392, rfl, Nq392, Kq392, sz_r392, g_r392, fA392⟩ := hQ392
        have N392 := Fr.app N389 Nq392
        have e392 : T392.heap = T392.heap := rfl
        have Z392 : n0 ≤ T392.heap.size := Nat.le_trans Z388 Kq392.1
        have ne393 : b364 ≠ r392 := Nat.ne_of_lt (Nat.lt_of_lt_of_le E_a388.lt sz_r392)
        have ne394 : bb372 ≠ r392 := Nat.ne_of_lt (Nat.lt_of_lt_of_le A_b388.lt sz_r392)
        have f395_E : Exa Z T392.heap b364 "com/example/farcall/farcall/io/XdrEncoder" := E_a388.keep Kq392
        have f396_F : Fld Z T392.heap b364 "com/example/farcall/farcall/io/XdrEncoder" "buffer" "[B" (.ref bb372) := F_buf388.keep Kq392 nin0
        have f397_F : Fld Z T392.heap b364 "com/example/farcall/farcall/io/XdrEncoder" "start" "I" (.int (Int32.ofNat 4)) := F_sta388.keep Kq392 nin0
        have f398_F : Fld Z T392.heap b364 "com/example/farcall/farcall/io/XdrEncoder" "end" "I" (.int (Int32.ofNat 8)) := F_end388.keep Kq392 nin0
        have f399_A : own_Af Z T392.heap bb372 .byte 64 (fun j => .int ((own_put (own_put (fun _ : Nat => (0 : Int32)) 0 i0) 4 i2) j)) := A_b388.keep Kq392 nin0
        obtain ⟨LL400, X400, N400⟩ : ∃ LL, Stand p l e room_1 s m #[(.int i0), (.int i1), (.int i2), (.int i3)] below meth c T392 LL 3 132 ∧ Fr n0 LL := ⟨_, X392, N392⟩
        have pre401 : ∀ t, own_s p e below T392 m 145 #[iv i0, iv i1, iv i2, iv i3, iv (1 : Int32), iv (0 : Int32), iv (0 : Int32), rv b364, iv (4 : Int32), iv (0 : Int32), iv (0 : Int32), iv (0 : Int32), iv (1 : Int32), .unset, .unset, .unset] [(.ref r392)] t → Steps p.tables e below S0 t := fun tX kX => pre391 _ (st392.trans kX)
        have pre402 : ∀ t, own_s p e below T392 m 154 #[iv i0, iv i1, iv i2, iv i3, iv (1 : Int32), iv (0 : Int32), iv (0 : Int32), rv b364, iv (4 : Int32), iv (0 : Int32), iv (0 : Int32), iv (0 : Int32), iv (1 : Int32), rv r392, .unset, .unset] [(.ref b364)] t → Steps p.tables e below S0 t := by
          intro tX kX
          refine pre401 _ ?_
          show own_s p e below T392 m 145 #[iv i0, iv i1, iv i2, iv i3, iv (1 : Int32), iv (0 : Int32), iv (0 : Int32), rv b364, iv (4 : Int32), iv (0 : Int32), iv (0 : Int32), iv (0 : Int32), iv (1 : Int32), .unset, .unset, .unset] [(.ref r392)] _
          refine XS.astore X400.here hx rfl (hb hby at_145) rfl rfl (l' := #[iv i0, iv i1, iv i2, iv i3, iv (1 : Int32), iv (0 : Int32), iv (0 : Int32), rv b364, iv (4 : Int32), iv (0 : Int32), iv (0 : Int32), iv (0 : Int32), iv (1 : Int32), rv r392, .unset, .unset]) rfl ?_
          refine XS.iload X400.here hx rfl (hb hby at_147) rfl ?_
          refine XS.ifNo X400.here hx rfl (hb hby at_149) rfl ((if0 _ _).trans (feq (by decide : ¬ ((1 : Int32) = (0 : Int32)))).1) ?_
          show own_s p e below T392 m 152 #[iv i0, iv i1, iv i2, iv i3, iv (1 : Int32), iv (0 : Int32), iv (0 : Int32), rv b364, iv (4 : Int32), iv (0 : Int32), iv (0 : Int32), iv (0 : Int32), iv (1 : Int32), rv r392, .unset, .unset] [] _
          refine XS.aload X400.here hx rfl (hb hby at_152) rfl rfl ?_
          exact kX
        obtain ⟨cq403, kq403, q403a, q403b, q403c⟩ := isOf hZ e392 f395_E
        obtain ⟨_, _, ⟨T403, L403, k403, n403⟩, -, X403, ⟨Lc403, hQ403, l403, y403, z403⟩, st403⟩ := X400.virtualBack hx (y := (⟨"com/example/farcall/farcall/io/XdrEncoder", "size", "()I"⟩ : MethodName)) (z := (⟨"com/example/farcall/farcall/io/XdrEncoder", "size", "()I"⟩ : MethodName)) hown (mvT hZ (hw _ (List.mem_of_getElem? (i := 40) rfl))) (mvT hZ (hw _ (List.mem_of_getElem? (i := 24) rfl))) (notFace_of_selects (args := #[]) (mvT hZ (hw _ (List.mem_of_getElem? (i := 26) rfl)))) (mvT hZ (hw _ (List.mem_of_getElem? (i := 26) rfl))) (mvT hZ (hw _ (List.mem_of_getElem? (i := 25) rfl))) (by decide) (backOf (W := 0) (rm6 l Z a0 hw [] b364 bb372 ((own_put (own_put (fun _ : Nat => (0 : Int32)) 0 i0) 4 i2)) 4 8 T392.heap n0 Z392 f395_E f396_F f397_F f398_F f399_A ne_ab388 fg388 g_a388 g_b388 (by decide) (by decide)) hZ (hw _ (List.mem_of_getElem? (i := 27) rfl)) (hw _ (List.mem_of_getElem? (i := 2) rfl)) (by decide) (by decide)) q403a q403c (g := (mkF m 154 #[iv i0, iv i1, iv i2, iv i3, iv (1 : Int32), iv (0 : Int32), iv (0 : Int32), rv b364, iv (4 : Int32), iv (0 : Int32), iv (0 : Int32), iv (0 : Int32), iv (1 : Int32), rv r392, .unset, .unset] [(.ref b364)])) rfl (by rw [hml]; rfl) (Steps.refl _) (argsL := []) (rest := []) (lenOf pd0_1 rfl) rfl (by show 2 * 0 + _ ≤ _; exact Nat.le_of_eq rfl) (hb hby at_154) (fun _ _ => ⟨rfl, e392, (by decide : 3 + 0 ≤ _), (by decide : 132 + 0 ≤ _)⟩)
        dsimp only [Pt.U, Pt.locs, Pt.cells, Pt.slots] at X403 l403 y403 z403 st403 hQ403
        subst l403 y403 z403
        obtain ⟨rfl, Nq403, e403⟩ := hQ403
        have N403 := Fr.app N400 Nq403
        obtain ⟨LL404, X404, N404⟩ : ∃ LL, Stand p l e room_1 s m #[(.int i0), (.int i1), (.int i2), (.int i3)] below meth c T403 LL 3 132 ∧ Fr n0 LL := ⟨_, X403, N403⟩
        have pre405 : ∀ t, own_s p e below T403 m 157 #[iv i0, iv i1, iv i2, iv i3, iv (1 : Int32), iv (0 : Int32), iv (0 : Int32), rv b364, iv (4 : Int32), iv (0 : Int32), iv (0 : Int32), iv (0 : Int32), iv (1 : Int32), rv r392, .unset, .unset] [(.int (4 : Int32))] t → Steps p.tables e below S0 t := fun tX kX => pre402 _ (st403.trans kX)
        have pre407 : ∀ t, own_s p e below T403 m 163 #[iv i0, iv i1, iv i2, iv i3, iv (1 : Int32), iv (0 : Int32), iv (0 : Int32), rv b364, iv (4 : Int32), iv (0 : Int32), iv (0 : Int32), iv (0 : Int32), iv (1 : Int32), rv r392, .unset, .unset] [(.ref r392)] t → Steps p.tables e below S0 t := by
          intro tX kX
          refine pre405 _ ?_
          show own_s p e below T403 m 157 #[iv i0, iv i1, iv i2, iv i3, iv (1 : Int32), iv (0 : Int32), iv (0 : Int32), rv b364, iv (4 : Int32), iv (0 : Int32), iv (0 : Int32), iv (0 : Int32), iv (1 : Int32), rv r392, .unset, .unset] [(.int (4 : Int32))] _
          refine XS.iconst X404.here hx rfl (hb hby at_157) ?_
          refine XS.icmpNo X404.here hx rfl (hb hby at_158) rfl (teq (by decide : (4 : Int32) = (4 : Int32))).2 ?_
          refine XS.aload X404.here hx rfl (hb hby at_161) rfl rfl ?_
          exact kX
        obtain ⟨cl406, Ar406, S406, M406, H406⟩ := id fA392
        have pre409 : ∀ t, own_s p e below T403 m 171 #[iv i0, iv i1, iv i2, iv i3, iv (1 : Int32), iv (0 : Int32), iv (0 : Int32), rv b364, iv (4 : Int32), iv (0 : Int32), iv (0 : Int32), iv (0 : Int32), iv (1 : Int32), rv r392, .unset, .unset] [(.int (0 : Int32)), (.ref r392)] t → Steps p.tables e below S0 t := by
          intro tX kX
          refine pre407 _ ?_
          show own_s p e below T403 m 163 #[iv i0, iv i1, iv i2, iv i3, iv (1 : Int32), iv (0 : Int32), iv (0 : Int32), rv b364, iv (4 : Int32), iv (0 : Int32), iv (0 : Int32), iv (0 : Int32), iv (1 : Int32), rv r392, .unset, .unset] [(.ref r392)] _
          refine X404.arraylength hx (by rw [e403]; exact Ar406.1) (State.isArrayOf_alike hZ.alike Ar406.2.1) (g := (mkF m 163 #[iv i0, iv i1, iv i2, iv i3, iv (1 : Int32), iv (0 : Int32), iv (0 : Int32), rv b364, iv (4 : Int32), iv (0 : Int32), iv (0 : Int32), iv (0 : Int32), iv (1 : Int32), rv r392, .unset, .unset] [(.ref r392)])) rfl rfl (hb hby at_163) _ ?_
          rw [show cl406.slots.size.toInt32 = (4 : Int32) from by rw [S406]; exact rfl]
          refine XS.iconst X404.here hx rfl (hb hby at_164) ?_
          refine XS.icmpNo X404.here hx rfl (hb hby at_165) rfl (teq (by decide : (4 : Int32) = (4 : Int32))).2 ?_
          show own_s p e below T403 m 168 #[iv i0, iv i1, iv i2, iv i3, iv (1 : Int32), iv (0 : Int32), iv (0 : Int32), rv b364, iv (4 : Int32), iv (0 : Int32), iv (0 : Int32), iv (0 : Int32), iv (1 : Int32), rv r392, .unset, .unset] [] _
          refine XS.aload X404.here hx rfl (hb hby at_168) rfl rfl ?_
          refine XS.iconst X404.here hx rfl (hb hby at_170) ?_
          exact kX
        obtain ⟨cl408, Ar408, S408, M408, H408⟩ := id fA392
        have pre411 : ∀ t, own_s p e below T403 m 183 #[iv i0, iv i1, iv i2, iv i3, iv (1 : Int32), iv (0 : Int32), iv (0 : Int32), rv b364, iv (4 : Int32), iv (0 : Int32), iv (0 : Int32), iv (0 : Int32), iv (1 : Int32), rv r392, .unset, .unset] [(.int (1 : Int32)), (.ref r392)] t → Steps p.tables e below S0 t := by
          intro tX kX
          refine pre409 _ ?_
          show own_s p e below T403 m 171 #[iv i0, iv i1, iv i2, iv i3, iv (1 : Int32), iv (0 : Int32), iv (0 : Int32), rv b364, iv (4 : Int32), iv (0 : Int32), iv (0 : Int32), iv (0 : Int32), iv (1 : Int32), rv r392, .unset, .unset] [(.int (0 : Int32)), (.ref r392)] _
          refine X404.baloadBytes hx (j := (0 : Int32)) (v := (.int (((i2.toUInt32 >>> ((24 : Int32) &&& 31).toUInt32).toInt32).toInt8.toInt32))) (by rw [e403]; exact Ar408.1) (State.isArrayOf_alike hZ.alike Ar408.2.1) Ar408.2.2 (own_inb S408 M408 (by decide)) (own_get H408 S408 (by decide) (show Value.int ((own_put (own_put (fun _ : Nat => (0 : Int32)) 0 i0) 4 i2) (4 + 0)) = Value.int (((i2.toUInt32 >>> ((24 : Int32) &&& 31).toUInt32).toInt32).toInt8.toInt32) from congrArg Value.int (((own_put_in (by decide) (by decide)).trans (congrArg (own_by i2) (show _ = 0 from by decide))).trans (show own_by i2 0 = (((i2.toUInt32 >>> ((24 : Int32) &&& 31).toUInt32).toInt32).toInt8.toInt32) from rfl)))) (g := (mkF m 171 #[iv i0, iv i1, iv i2, iv i3, iv (1 : Int32), iv (0 : Int32), iv (0 : Int32), rv b364, iv (4 : Int32), iv (0 : Int32), iv (0 : Int32), iv (0 : Int32), iv (1 : Int32), rv r392, .unset, .unset] [(.int (0 : Int32)), (.ref r392)])) rfl rfl (hb hby at_171) _ ?_
          refine XS.iloadN X404.here hx rfl (hb hby at_172) rfl ?_
          refine XS.bipush X404.here hx rfl (hb hby at_173) ?_
          show own_s p e below T403 m 175 #[iv i0, iv i1, iv i2, iv i3, iv (1 : Int32), iv (0 : Int32), iv (0 : Int32), rv b364, iv (4 : Int32), iv (0 : Int32), iv (0 : Int32), iv (0 : Int32), iv (1 : Int32), rv r392, .unset, .unset] [(.int (24 : Int32)), (.int i2), (.int (((i2.toUInt32 >>> ((24 : Int32) &&& 31).toUInt32).toInt32).toInt8.toInt32))] _
          refine XS.iushr X404.here hx rfl (hb hby at_175) rfl ?_
          refine XS.i2b X404.here hx rfl (hb hby at_176) rfl ?_
          refine XS.icmpNo X404.here hx rfl (hb hby at_177) rfl (teq (rfl : (((i2.toUInt32 >>> ((24 : Int32) &&& 31).toUInt32).toInt32).toInt8.toInt32) = (((i2.toUInt32 >>> ((24 : Int32) &&& 31).toUInt32).toInt32).toInt8.toInt32))).2 ?_
          show own_s p e below T403 m 180 #[iv i0, iv i1, iv i2, iv i3, iv (1 : Int32), iv (0 : Int32), iv (0 : Int32), rv b364, iv (4 : Int32), iv (0 : Int32), iv (0 : Int32), iv (0 : Int32), iv (1 : Int32), rv r392, .unset, .unset] [] _
          refine XS.aload X404.here hx rfl (hb hby at_180) rfl rfl ?_
          refine XS.iconst X404.here hx rfl (hb hby at_182) ?_
          exact kX
        obtain ⟨cl410, Ar410, S410, M410, H410⟩ := id fA392
        have pre413 : ∀ t, own_s p e below T403 m 195 #[iv i0, iv i1, iv i2, iv i3, iv (1 : Int32), iv (0 : Int32), iv (0 : Int32), rv b364, iv (4 : Int32), iv (0 : Int32), iv (0 : Int32), iv (0 : Int32), iv (1 : Int32), rv r392, .unset, .unset] [(.int (2 : Int32)), (.ref r392)] t → Steps p.tables e below S0 t := by
          intro tX kX
          refine pre411 _ ?_
          show own_s p e below T403 m 183 #[iv i0, iv i1, iv i2, iv i3, iv (1 : Int32), iv (0 : Int32), iv (0 : Int32), rv b364, iv (4 : Int32), iv (0 : Int32), iv (0 : Int32), iv (0 : Int32), iv (1 : Int32), rv r392, .unset, .unset] [(.int (1 : Int32)), (.ref r392)] _
          refine X404.baloadBytes hx (j := (1 : Int32)) (v := (.int (((i2.toUInt32 >>> ((16 : Int32) &&& 31).toUInt32).toInt32).toInt8.toInt32))) (by rw [e403]; exact Ar410.1) (State.isArrayOf_alike hZ.alike Ar410.2.1) Ar410.2.2 (own_inb S410 M410 (by decide)) (own_get H410 S410 (by decide) (show Value.int ((own_put (own_put (fun _ : Nat => (0 : Int32)) 0 i0) 4 i2) (4 + 1)) = Value.int (((i2.toUInt32 >>> ((16 : Int32) &&& 31).toUInt32).toInt32).toInt8.toInt32) from congrArg Value.int (((own_put_in (by decide) (by decide)).trans (congrArg (own_by i2) (show _ = 1 from by decide))).trans (show own_by i2 1 = (((i2.toUInt32 >>> ((16 : Int32) &&& 31).toUInt32).toInt32).toInt8.toInt32) from rfl)))) (g := (mkF m 183 #[iv i0, iv i1, iv i2, iv i3, iv (1 : Int32), iv (0 : Int32), iv (0 : Int32), rv b364, iv (4 : Int32), iv (0 : Int32), iv (0 : Int32), iv (0 : Int32), iv (1 : Int32), rv r392, .unset, .unset] [(.int (1 : Int32)), (.ref r392)])) rfl rfl (hb hby at_183) _ ?_
          refine XS.iloadN X404.here hx rfl (hb hby at_184) rfl ?_
          refine XS.bipush X404.here hx rfl (hb hby at_185) ?_
          show own_s p e below T403 m 187 #[iv i0, iv i1, iv i2, iv i3, iv (1 : Int32), iv (0 : Int32), iv (0 : Int32), rv b364, iv (4 : Int32), iv (0 : Int32), iv (0 : Int32), iv (0 : Int32), iv (1 : Int32), rv r392, .unset, .unset] [(.int (16 : Int32)), (.int i2), (.int (((i2.toUInt32 >>> ((16 : Int32) &&& 31).toUInt32).toInt32).toInt8.toInt32))] _
          refine XS.iushr X404.here hx rfl (hb hby at_187) rfl ?_
          refine XS.i2b X404.here hx rfl (hb hby at_188) rfl ?_
          refine XS.icmpNo X404.here hx rfl (hb hby at_189) rfl (teq (rfl : (((i2.toUInt32 >>> ((16 : Int32) &&& 31).toUInt32).toInt32).toInt8.toInt32) = (((i2.toUInt32 >>> ((16 : Int32) &&& 31).toUInt32).toInt32).toInt8.toInt32))).2 ?_
          show own_s p e below T403 m 192 #[iv i0, iv i1, iv i2, iv i3, iv (1 : Int32), iv (0 : Int32), iv (0 : Int32), rv b364, iv (4 : Int32), iv (0 : Int32), iv (0 : Int32), iv (0 : Int32), iv (1 : Int32), rv r392, .unset, .unset] [] _
          refine XS.aload X404.here hx rfl (hb hby at_192) rfl rfl ?_
          refine XS.iconst X404.here hx rfl (hb hby at_194) ?_
          exact kX
        obtain ⟨cl412, Ar412, S412, M412, H412⟩ := id fA392
        have pre415 : ∀ t, own_s p e below T403 m 207 #[iv i0, iv i1, iv i2, iv i3, iv (1 : Int32), iv (0 : Int32), iv (0 : Int32), rv b364, iv (4 : Int32), iv (0 : Int32), iv (0 : Int32), iv (0 : Int32), iv (1 : Int32), rv r392, .unset, .unset] [(.int (3 : Int32)), (.ref r392)] t → Steps p.tables e below S0 t := by
          intro tX kX
          refine pre413 _ ?_
          show own_s p e below T403 m 195 #[iv i0, iv i1, iv i2, iv i3, iv (1 : Int32), iv (0 : Int32), iv (0 : Int32), rv b364, iv (4 : Int32), iv (0 : Int32), iv (0 : Int32), iv (0 : Int32), iv (1 : Int32), rv r392, .unset, .unset] [(.int (2 : Int32)), (.ref r392)] _
          refine X404.baloadBytes hx (j := (2 : Int32)) (v := (.int (((i2.toUInt32 >>> ((8 : Int32) &&& 31).toUInt32).toInt32).toInt8.toInt32))) (by rw [e403]; exact Ar412.1) (State.isArrayOf_alike hZ.alike Ar412.2.1) Ar412.2.2 (own_inb S412 M412 (by decide)) (own_get H412 S412 (by decide) (show Value.int ((own_put (own_put (fun _ : Nat => (0 : Int32)) 0 i0) 4 i2) (4 + 2)) = Value.int (((i2.toUInt32 >>> ((8 : Int32) &&& 31).toUInt32).toInt32).toInt8.toInt32) from congrArg Value.int (((own_put_in (by decide) (by decide)).trans (congrArg (own_by i2) (show _ = 2 from by decide))).trans (show own_by i2 2 = (((i2.toUInt32 >>> ((8 : Int32) &&& 31).toUInt32).toInt32).toInt8.toInt32) from rfl)))) (g := (mkF m 195 #[iv i0, iv i1, iv i2, iv i3, iv (1 : Int32), iv (0 : Int32), iv (0 : Int32), rv b364, iv (4 : Int32), iv (0 : Int32), iv (0 : Int32), iv (0 : Int32), iv (1 : Int32), rv r392, .unset, .unset] [(.int (2 : Int32)), (.ref r392)])) rfl rfl (hb hby at_195) _ ?_
          refine XS.iloadN X404.here hx rfl (hb hby at_196) rfl ?_
          refine XS.bipush X404.here hx rfl (hb hby at_197) ?_
          show own_s p e below T403 m 199 #[iv i0, iv i1, iv i2, iv i3, iv (1 : Int32), iv (0 : Int32), iv (0 : Int32), rv b364, iv (4 : Int32), iv (0 : Int32), iv (0 : Int32), iv (0 : Int32), iv (1 : Int32), rv r392, .unset, .unset] [(.int (8 : Int32)), (.int i2), (.int (((i2.toUInt32 >>> ((8 : Int32) &&& 31).toUInt32).toInt32).toInt8.toInt32))] _
          refine XS.iushr X404.here hx rfl (hb hby at_199) rfl ?_
          refine XS.i2b X404.here hx rfl (hb hby at_200) rfl ?_
          refine XS.icmpNo X404.here hx rfl (hb hby at_201) rfl (teq (rfl : (((i2.toUInt32 >>> ((8 : Int32) &&& 31).toUInt32).toInt32).toInt8.toInt32) = (((i2.toUInt32 >>> ((8 : Int32) &&& 31).toUInt32).toInt32).toInt8.toInt32))).2 ?_
          show own_s p e below T403 m 204 #[iv i0, iv i1, iv i2, iv i3, iv (1 : Int32), iv (0 : Int32), iv (0 : Int32), rv b364, iv (4 : Int32), iv (0 : Int32), iv (0 : Int32), iv (0 : Int32), iv (1 : Int32), rv r392, .unset, .unset] [] _
          refine XS.aload X404.here hx rfl (hb hby at_204) rfl rfl ?_
          refine XS.iconst X404.here hx rfl (hb hby at_206) ?_
          exact kX
        obtain ⟨cl414, Ar414, S414, M414, H414⟩ := id fA392
        have pre416 : ∀ t, own_s p e below T403 m 231 #[iv i0, iv i1, iv i2, iv i3, iv (1 : Int32), iv (0 : Int32), iv (0 : Int32), rv b364, iv (4 : Int32), iv (0 : Int32), iv (0 : Int32), iv (0 : Int32), iv (1 : Int32), rv r392, .unset, .unset] [(.int (0 : Int32)), (.ref b364)] t → Steps p.tables e below S0 t := by
          intro tX kX
          refine pre415 _ ?_
          show own_s p e below T403 m 207 #[iv i0, iv i1, iv i2, iv i3, iv (1 : Int32), iv (0 : Int32), iv (0 : Int32), rv b364, iv (4 : Int32), iv (0 : Int32), iv (0 : Int32), iv (0 : Int32), iv (1 : Int32), rv r392, .unset, .unset] [(.int (3 : Int32)), (.ref r392)] _
          refine X404.baloadBytes hx (j := (3 : Int32)) (v := (.int (i2.toInt8.toInt32))) (by rw [e403]; exact Ar414.1) (State.isArrayOf_alike hZ.alike Ar414.2.1) Ar414.2.2 (own_inb S414 M414 (by decide)) (own_get H414 S414 (by decide) (show Value.int ((own_put (own_put (fun _ : Nat => (0 : Int32)) 0 i0) 4 i2) (4 + 3)) = Value.int (i2.toInt8.toInt32) from congrArg Value.int (((own_put_in (by decide) (by decide)).trans (congrArg (own_by i2) (show _ = 3 from by decide))).trans (show own_by i2 3 = (i2.toInt8.toInt32) from rfl)))) (g := (mkF m 207 #[iv i0, iv i1, iv i2, iv i3, iv (1 : Int32), iv (0 : Int32), iv (0 : Int32), rv b364, iv (4 : Int32), iv (0 : Int32), iv (0 : Int32), iv (0 : Int32), iv (1 : Int32), rv r392, .unset, .unset] [(.int (3 : Int32)), (.ref r392)])) rfl rfl (hb hby at_207) _ ?_
          refine XS.iloadN X404.here hx rfl (hb hby at_208) rfl ?_
          refine XS.i2b X404.here hx rfl (hb hby at_209) rfl ?_
          show own_s p e below T403 m 210 #[iv i0, iv i1, iv i2, iv i3, iv (1 : Int32), iv (0 : Int32), iv (0 : Int32), rv b364, iv (4 : Int32), iv (0 : Int32), iv (0 : Int32), iv (0 : Int32), iv (1 : Int32), rv r392, .unset, .unset] [(.int (i2.toInt8.toInt32)), (.int (i2.toInt8.toInt32))] _
          refine XS.icmpNo X404.here hx rfl (hb hby at_210) rfl (teq (rfl : (i2.toInt8.toInt32) = (i2.toInt8.toInt32))).2 ?_
          refine XS.iconst X404.here hx rfl (hb hby at_213) ?_
          refine XS.goto X404.here hx rfl (pc0 := 214) (pc' := 218) rfl (hb hby at_214) (by decide) (by decide) ?_
          show own_s p e below T403 m 218 #[iv i0, iv i1, iv i2, iv i3, iv (1 : Int32), iv (0 : Int32), iv (0 : Int32), rv b364, iv (4 : Int32), iv (0 : Int32), iv (0 : Int32), iv (0 : Int32), iv (1 : Int32), rv r392, .unset, .unset] [(.int (1 : Int32))] _
          refine XS.istore X404.here hx rfl (hb hby at_218) rfl (l' := #[iv i0, iv i1, iv i2, iv i3, iv (1 : Int32), iv (0 : Int32), iv (0 : Int32), rv b364, iv (4 : Int32), iv (0 : Int32), iv (0 : Int32), iv (0 : Int32), iv (1 : Int32), rv r392, .unset, .unset]) rfl ?_
          refine XS.iload X404.here hx rfl (hb hby at_220) rfl ?_
          refine XS.ifYes X404.here hx rfl (pc0 := 222) (pc' := 227) rfl (hb hby at_222) rfl ((if0 _ _).trans (feq (by decide : ¬ ((1 : Int32) = (0 : Int32)))).2) (by decide) (by decide) ?_
          show own_s p e below T403 m 227 #[iv i0, iv i1, iv i2, iv i3, iv (1 : Int32), iv (0 : Int32), iv (0 : Int32), rv b364, iv (4 : Int32), iv (0 : Int32), iv (0 : Int32), iv (0 : Int32), iv (1 : Int32), rv r392, .unset, .unset] [] _
          refine XS.aload X404.here hx rfl (hb hby at_227) rfl rfl ?_
          refine XS.iload X404.here hx rfl (hb hby at_229) rfl ?_
          exact kX
        obtain ⟨cq417, kq417, q417a, q417b, q417c⟩ := isOf hZ e403 f395_E
        obtain ⟨_, _, ⟨T417, L417, k417, n417⟩, -, X417, ⟨Lc417, hQ417, l417, y417, z417⟩, st417⟩ := X404.virtualBack hx (y := (⟨"com/example/farcall/farcall/io/XdrEncoder", "endPart", "(I)V"⟩ : MethodName)) (z := (⟨"com/example/farcall/farcall/io/XdrEncoder", "endPart", "(I)V"⟩ : MethodName)) hown (mvT hZ (hw _ (List.mem_of_getElem? (i := 64) rfl))) (mvT hZ (hw _ (List.mem_of_getElem? (i := 65) rfl))) (notFace_of_selects (args := #[]) (mvT hZ (hw _ (List.mem_of_getElem? (i := 67) rfl)))) (mvT hZ (hw _ (List.mem_of_getElem? (i := 67) rfl))) (mvT hZ (hw _ (List.mem_of_getElem? (i := 66) rfl))) (by decide) (backOf (W := 0) (rm11 l Z a0 hw [] b364 (0 : Int32) bb372 ((own_put (own_put (fun _ : Nat => (0 : Int32)) 0 i0) 4 i2)) 4 8 0 T392.heap n0 Z392 f395_E f396_F f397_F f398_F f399_A ne_ab388 fg388 g_a388 g_b388 rfl (by decide) (by decide)) hZ (hw _ (List.mem_of_getElem? (i := 68) rfl)) (hw _ (List.mem_of_getElem? (i := 2) rfl)) (by decide) (by decide)) q417a q417c (g := (mkF m 231 #[iv i0, iv i1, iv i2, iv i3, iv (1 : Int32), iv (0 : Int32), iv (0 : Int32), rv b364, iv (4 : Int32), iv (0 : Int32), iv (0 : Int32), iv (0 : Int32), iv (1 : Int32), rv r392, .unset, .unset] [(.int (0 : Int32)), (.ref b364)])) rfl (by rw [hml]; rfl) (Steps.refl _) (argsL := [(.int (0 : Int32))]) (rest := []) (lenOf pd0_4 rfl) rfl (by show 2 * 0 + _ ≤ _; exact Nat.le_of_eq rfl) (hb hby at_231) (fun _ _ => ⟨rfl, e403, (by decide : 3 + 0 ≤ _), (by decide : 132 + 0 ≤ _)⟩)
        dsimp only [Pt.U, Pt.locs, Pt.cells, Pt.slots] at X417 l417 y417 z417 st417 hQ417
        subst l417 y417 z417
        obtain ⟨rfl, Nq417, Kq417, E_a417, F_buf417, F_sta417, F_end417, A_b417, ne_ab417, fg417, g_a417, g_b417⟩ := hQ417
        have N417 := Fr.app N404 Nq417
        have e417 : T417.heap = T417.heap := rfl
        have Z417 : n0 ≤ T417.heap.size := Nat.le_trans Z392 Kq417.1
        have f418_A : own_Af Z T417.heap r392 .byte 4 (fun j => .int ((own_put (own_put (fun _ : Nat => (0 : Int32)) 0 i0) 4 i2) (4 + j))) := fA392.keep Kq417 (ninS (Ne.symm ne393) (nin0))
        obtain ⟨LL419, X419, N419⟩ : ∃ LL, Stand p l e room_1 s m #[(.int i0), (.int i1), (.int i2), (.int i3)] below meth c T417 LL 3 132 ∧ Fr n0 LL := ⟨_, X417, N417⟩
        have pre420 : ∀ t, own_s p e below T417 m 234 #[iv i0, iv i1, iv i2, iv i3, iv (1 : Int32), iv (0 : Int32), iv (0 : Int32), rv b364, iv (4 : Int32), iv (0 : Int32), iv (0 : Int32), iv (0 : Int32), iv (1 : Int32), rv r392, .unset, .unset] [] t → Steps p.tables e below S0 t := fun tX kX => pre416 _ (st417.trans kX)
        have pre421 : ∀ t, own_s p e below T417 m 257 #[iv i0, iv i1, iv i2, iv i3, iv (1 : Int32), iv (0 : Int32), iv (0 : Int32), rv b364, iv (4 : Int32), iv (0 : Int32), iv (0 : Int32), iv (0 : Int32), iv (1 : Int32), rv r392, iv (8 : Int32), .unset] [(.ref b364)] t → Steps p.tables e below S0 t := by
          intro tX kX
          refine pre420 _ ?_
          show own_s p e below T417 m 234 #[iv i0, iv i1, iv i2, iv i3, iv (1 : Int32), iv (0 : Int32), iv (0 : Int32), rv b364, iv (4 : Int32), iv (0 : Int32), iv (0 : Int32), iv (0 : Int32), iv (1 : Int32), rv r392, .unset, .unset] [] _
          refine XS.iload X419.here hx rfl (hb hby at_234) rfl ?_
          refine XS.ifYes X419.here hx rfl (pc0 := 236) (pc' := 246) rfl (hb hby at_236) rfl ((if0 _ _).trans (teq (by decide : (0 : Int32) = (0 : Int32))).1) (by decide) (by decide) ?_
          refine XS.iload X419.here hx rfl (hb hby at_246) rfl ?_
          show own_s p e below T417 m 248 #[iv i0, iv i1, iv i2, iv i3, iv (1 : Int32), iv (0 : Int32), iv (0 : Int32), rv b364, iv (4 : Int32), iv (0 : Int32), iv (0 : Int32), iv (0 : Int32), iv (1 : Int32), rv r392, .unset, .unset] [(.int (4 : Int32))] _
          refine XS.iload X419.here hx rfl (hb hby at_248) rfl ?_
          refine XS.iadd X419.here hx rfl (hb hby at_250) rfl ?_
          refine XS.iconst X419.here hx rfl (hb hby at_251) ?_
          show own_s p e below T417 m 252 #[iv i0, iv i1, iv i2, iv i3, iv (1 : Int32), iv (0 : Int32), iv (0 : Int32), rv b364, iv (4 : Int32), iv (0 : Int32), iv (0 : Int32), iv (0 : Int32), iv (1 : Int32), rv r392, .unset, .unset] [(.int (4 : Int32)), (.int (4 : Int32))] _
          refine XS.iadd X419.here hx rfl (hb hby at_252) rfl ?_
          refine XS.istore X419.here hx rfl (hb hby at_253) rfl (l' := #[iv i0, iv i1, iv i2, iv i3, iv (1 : Int32), iv (0 : Int32), iv (0 : Int32), rv b364, iv (4 : Int32), iv (0 : Int32), iv (0 : Int32), iv (0 : Int32), iv (1 : Int32), rv r392, iv (8 : Int32), .unset]) rfl ?_
          refine XS.aload X419.here hx rfl (hb hby at_255) rfl rfl ?_
          exact kX
        obtain ⟨cq422, kq422, q422a, q422b, q422c⟩ := isOf hZ e417 E_a417
        obtain ⟨_, _, ⟨T422, L422, k422, n422⟩, -, X422, ⟨Lc422, hQ422, l422, y422, z422⟩, st422⟩ := X419.virtualBack hx (y := (⟨"com/example/farcall/farcall/io/XdrEncoder", "size", "()I"⟩ : MethodName)) (z := (⟨"com/example/farcall/farcall/io/XdrEncoder", "size", "()I"⟩ : MethodName)) hown (mvT hZ (hw _ (List.mem_of_getElem? (i := 40) rfl))) (mvT hZ (hw _ (List.mem_of_getElem? (i := 24) rfl))) (notFace_of_selects (args := #[]) (mvT hZ (hw _ (List.mem_of_getElem? (i := 26) rfl)))) (mvT hZ (hw _ (List.mem_of_getElem? (i := 26) rfl))) (mvT hZ (hw _ (List.mem_of_getElem? (i := 25) rfl))) (by decide) (backOf (W := 0) (rm6 l Z a0 hw [] b364 bb372 ((own_put (own_put (fun _ : Nat => (0 : Int32)) 0 i0) 4 i2)) 0 8 T417.heap n0 Z417 E_a417 F_buf417 F_sta417 F_end417 A_b417 ne_ab417 fg417 g_a417 g_b417 (by decide) (by decide)) hZ (hw _ (List.mem_of_getElem? (i := 27) rfl)) (hw _ (List.mem_of_getElem? (i := 2) rfl)) (by decide) (by decide)) q422a q422c (g := (mkF m 257 #[iv i0, iv i1, iv i2, iv i3, iv (1 : Int32), iv (0 : Int32), iv (0 : Int32), rv b364, iv (4 : Int32), iv (0 : Int32), iv (0 : Int32), iv (0 : Int32), iv (1 : Int32), rv r392, iv (8 : Int32), .unset] [(.ref b364)])) rfl (by rw [hml]; rfl) (Steps.refl _) (argsL := []) (rest := []) (lenOf pd0_1 rfl) rfl (by show 2 * 0 + _ ≤ _; exact Nat.le_of_eq rfl) (hb hby at_257) (fun _ _ => ⟨rfl, e417, (by decide : 3 + 0 ≤ _), (by decide : 132 + 0 ≤ _)⟩)
        dsimp only [Pt.U, Pt.locs, Pt.cells, Pt.slots] at X422 l422 y422 z422 st422 hQ422
        subst l422 y422 z422
        obtain ⟨rfl, Nq422, e422⟩ := hQ422
        have N422 := Fr.app N419 Nq422
        obtain ⟨LL423, X423, N423⟩ : ∃ LL, Stand p l e room_1 s m #[(.int i0), (.int i1), (.int i2), (.int i3)] below meth c T422 LL 3 132 ∧ Fr n0 LL := ⟨_, X422, N422⟩
        have pre424 : ∀ t, own_s p e below T422 m 260 #[iv i0, iv i1, iv i2, iv i3, iv (1 : Int32), iv (0 : Int32), iv (0 : Int32), rv b364, iv (4 : Int32), iv (0 : Int32), iv (0 : Int32), iv (0 : Int32), iv (1 : Int32), rv r392, iv (8 : Int32), .unset] [(.int (8 : Int32))] t → Steps p.tables e below S0 t := fun tX kX => pre421 _ (st422.trans kX)
        have pre425 : ∀ t, own_s p e below T422 m 366 #[iv i0, iv i1, iv i2, iv i3, iv (1 : Int32), iv (0 : Int32), iv (0 : Int32), rv b364, iv (4 : Int32), iv (0 : Int32), iv (0 : Int32), iv (0 : Int32), iv (1 : Int32), rv r392, iv (8 : Int32), .unset] [(.ref b364)] t → Steps p.tables e below S0 t := by
          intro tX kX
          refine pre424 _ ?_
          show own_s p e below T422 m 260 #[iv i0, iv i1, iv i2, iv i3, iv (1 : Int32), iv (0 : Int32), iv (0 : Int32), rv b364, iv (4 : Int32), iv (0 : Int32), iv (0 : Int32), iv (0 : Int32), iv (1 : Int32), rv r392, iv (8 : Int32), .unset] [(.int (8 : Int32))] _
          refine XS.iload X423.here hx rfl (hb hby at_260) rfl ?_
          refine XS.icmpNo X423.here hx rfl (hb hby at_262) rfl (teq (by decide : (8 : Int32) = (8 : Int32))).2 ?_
          refine XS.iconst X423.here hx rfl (hb hby at_265) ?_
          show own_s p e below T422 m 266 #[iv i0, iv i1, iv i2, iv i3, iv (1 : Int32), iv (0 : Int32), iv (0 : Int32), rv b364, iv (4 : Int32), iv (0 : Int32), iv (0 : Int32), iv (0 : Int32), iv (1 : Int32), rv r392, iv (8 : Int32), .unset] [(.int (1 : Int32))] _
          refine XS.goto X423.here hx rfl (pc0 := 266) (pc' := 270) rfl (hb hby at_266) (by decide) (by decide) ?_
          refine XS.istore X423.here hx rfl (hb hby at_270) rfl (l' := #[iv i0, iv i1, iv i2, iv i3, iv (1 : Int32), iv (0 : Int32), iv (0 : Int32), rv b364, iv (4 : Int32), iv (0 : Int32), iv (0 : Int32), iv (0 : Int32), iv (1 : Int32), rv r392, iv (8 : Int32), .unset]) rfl ?_
          refine XS.iload X423.here hx rfl (hb hby at_272) rfl ?_
          show own_s p e below T422 m 274 #[iv i0, iv i1, iv i2, iv i3, iv (1 : Int32), iv (0 : Int32), iv (0 : Int32), rv b364, iv (4 : Int32), iv (0 : Int32), iv (0 : Int32), iv (0 : Int32), iv (1 : Int32), rv r392, iv (8 : Int32), .unset] [(.int (0 : Int32))] _
          refine XS.ifYes X423.here hx rfl (pc0 := 274) (pc' := 340) rfl (hb hby at_274) rfl ((if0 _ _).trans (teq (by decide : (0 : Int32) = (0 : Int32))).1) (by decide) (by decide) ?_
          refine XS.iload X423.here hx rfl (hb hby at_340) rfl ?_
          refine XS.ifNo X423.here hx rfl (hb hby at_342) rfl ((if0 _ _).trans (feq (by decide : ¬ ((1 : Int32) = (0 : Int32)))).1) ?_
          show own_s p e below T422 m 345 #[iv i0, iv i1, iv i2, iv i3, iv (1 : Int32), iv (0 : Int32), iv (0 : Int32), rv b364, iv (4 : Int32), iv (0 : Int32), iv (0 : Int32), iv (0 : Int32), iv (1 : Int32), rv r392, iv (8 : Int32), .unset] [] _
          refine XS.iload X423.here hx rfl (hb hby at_345) rfl ?_
          refine XS.ifNo X423.here hx rfl (hb hby at_347) rfl ((if0 _ _).trans (teq (by decide : (0 : Int32) = (0 : Int32))).2) ?_
          refine XS.iconst X423.here hx rfl (hb hby at_350) ?_
          show own_s p e below T422 m 351 #[iv i0, iv i1, iv i2, iv i3, iv (1 : Int32), iv (0 : Int32), iv (0 : Int32), rv b364, iv (4 : Int32), iv (0 : Int32), iv (0 : Int32), iv (0 : Int32), iv (1 : Int32), rv r392, iv (8 : Int32), .unset] [(.int (1 : Int32))] _
          refine XS.goto X423.here hx rfl (pc0 := 351) (pc' := 355) rfl (hb hby at_351) (by decide) (by decide) ?_
          refine XS.istore X423.here hx rfl (hb hby at_355) rfl (l' := #[iv i0, iv i1, iv i2, iv i3, iv (1 : Int32), iv (0 : Int32), iv (0 : Int32), rv b364, iv (4 : Int32), iv (0 : Int32), iv (0 : Int32), iv (0 : Int32), iv (1 : Int32), rv r392, iv (8 : Int32), .unset]) rfl ?_
          refine XS.iload X423.here hx rfl (hb hby at_357) rfl ?_
          show own_s p e below T422 m 359 #[iv i0, iv i1, iv i2, iv i3, iv (1 : Int32), iv (0 : Int32), iv (0 : Int32), rv b364, iv (4 : Int32), iv (0 : Int32), iv (0 : Int32), iv (0 : Int32), iv (1 : Int32), rv r392, iv (8 : Int32), .unset] [(.int (1 : Int32))] _
          refine XS.ifYes X423.here hx rfl (pc0 := 359) (pc' := 364) rfl (hb hby at_359) rfl ((if0 _ _).trans (feq (by decide : ¬ ((1 : Int32) = (0 : Int32)))).2) (by decide) (by decide) ?_
          refine XS.aload X423.here hx rfl (hb hby at_364) rfl rfl ?_
          exact kX
        obtain ⟨cq426, kq426, q426a, q426b, q426c⟩ := isOf hZ e422 E_a417
        obtain ⟨_, _, ⟨T426, L426, k426, n426⟩, -, X426, ⟨Lc426, hQ426, l426, y426, z426⟩, st426⟩ := X423.virtualBack hx (y := (⟨"com/example/farcall/farcall/io/XdrEncoder", "toByteArray", "()[B"⟩ : MethodName)) (z := (⟨"com/example/farcall/farcall/io/XdrEncoder", "toByteArray", "()[B"⟩ : MethodName)) hown (mvT hZ (hw _ (List.mem_of_getElem? (i := 41) rfl))) (mvT hZ (hw _ (List.mem_of_getElem? (i := 42) rfl))) (notFace_of_selects (args := #[]) (mvT hZ (hw _ (List.mem_of_getElem? (i := 44) rfl)))) (mvT hZ (hw _ (List.mem_of_getElem? (i := 44) rfl))) (mvT hZ (hw _ (List.mem_of_getElem? (i := 43) rfl))) (by decide) (backOf (W := 0) (rm5 l Z a0 hw [] b364 bb372 ((own_put (own_put (fun _ : Nat => (0 : Int32)) 0 i0) 4 i2)) 0 8 T417.heap n0 Z417 E_a417 F_buf417 F_sta417 F_end417 A_b417 ne_ab417 fg417 g_a417 g_b417 (by decide) (by decide) (by decide)) hZ (hw _ (List.mem_of_getElem? (i := 45) rfl)) (hw _ (List.mem_of_getElem? (i := 2) rfl)) (by decide) (by decide)) q426a q426c (g := (mkF m 366 #[iv i0, iv i1, iv i2, iv i3, iv (1 : Int32), iv (0 : Int32), iv (0 : Int32), rv b364, iv (4 : Int32), iv (0 : Int32), iv (0 : Int32), iv (0 : Int32), iv (1 : Int32), rv r392, iv (8 : Int32), .unset] [(.ref b364)])) rfl (by rw [hml]; rfl) (Steps.refl _) (argsL := []) (rest := []) (lenOf pd0_3 rfl) rfl (by show 2 * 0 + _ ≤ _; exact Nat.le_of_eq rfl) (hb hby at_366) (fun _ _ => ⟨rfl, e422, (by decide : 3 + 1 ≤ _), (by decide : 132 + 64 ≤ _)⟩)
        dsimp only [Pt.U, Pt.locs, Pt.cells, Pt.slots] at X426 l426 y426 z426 st426 hQ426
        subst l426 y426 z426
        obtain ⟨r426, rfl, Nq426, Kq426, sz_r426, g_r426, fA426⟩ := hQ426
        have N426 := Fr.app N423 Nq426
        have e426 : T426.heap = T426.heap := rfl
        have Z426 : n0 ≤ T426.heap.size := Nat.le_trans Z417 Kq426.1
        have ne427 : b364 ≠ r426 := Nat.ne_of_lt (Nat.lt_of_lt_of_le E_a417.lt sz_r426)
        have ne428 : bb372 ≠ r426 := Nat.ne_of_lt (Nat.lt_of_lt_of_le A_b417.lt sz_r426)
        have ne429 : r392 ≠ r426 := Nat.ne_of_lt (Nat.lt_of_lt_of_le f418_A.lt sz_r426)
        have f430_E : Exa Z T426.heap b364 "com/example/farcall/farcall/io/XdrEncoder" := E_a417.keep Kq426
        have f431_F : Fld Z T426.heap b364 "com/example/farcall/farcall/io/XdrEncoder" "buffer" "[B" (.ref bb372) := F_buf417.keep Kq426 nin0
        have f432_F : Fld Z T426.heap b364 "com/example/farcall/farcall/io/XdrEncoder" "start" "I" (.int (Int32.ofNat 0)) := F_sta417.keep Kq426 nin0
        have f433_F : Fld Z T426.heap b364 "com/example/farcall/farcall/io/XdrEncoder" "end" "I" (.int (Int32.ofNat 8)) := F_end417.keep Kq426 nin0
        have f434_A : own_Af Z T426.heap bb372 .byte 64 (fun j => .int ((own_put (own_put (fun _ : Nat => (0 : Int32)) 0 i0) 4 i2) j)) := A_b417.keep Kq426 nin0
        have f435_A : own_Af Z T426.heap r392 .byte 4 (fun j => .int ((own_put (own_put (fun _ : Nat => (0 : Int32)) 0 i0) 4 i2) (4 + j))) := f418_A.keep Kq426 nin0
        obtain ⟨LL436, X436, N436⟩ : ∃ LL, Stand p l e room_1 s m #[(.int i0), (.int i1), (.int i2), (.int i3)] below meth c T426 LL 4 196 ∧ Fr n0 LL := ⟨_, X426, N426⟩
        have pre437 : ∀ t, own_s p e below T426 m 369 #[iv i0, iv i1, iv i2, iv i3, iv (1 : Int32), iv (0 : Int32), iv (0 : Int32), rv b364, iv (4 : Int32), iv (0 : Int32), iv (0 : Int32), iv (0 : Int32), iv (1 : Int32), rv r392, iv (8 : Int32), .unset] [(.ref r426)] t → Steps p.tables e below S0 t := fun tX kX => pre425 _ (st426.trans kX)
        have pre439 : ∀ t, own_s p e below T426 m 373 #[iv i0, iv i1, iv i2, iv i3, iv (1 : Int32), iv (0 : Int32), iv (0 : Int32), rv b364, iv (4 : Int32), iv (0 : Int32), iv (0 : Int32), iv (0 : Int32), iv (1 : Int32), rv r392, iv (8 : Int32), rv r426] [(.ref r426)] t → Steps p.tables e below S0 t := by
          intro tX kX
          refine pre437 _ ?_
          show own_s p e below T426 m 369 #[iv i0, iv i1, iv i2, iv i3, iv (1 : Int32), iv (0 : Int32), iv (0 : Int32), rv b364, iv (4 : Int32), iv (0 : Int32), iv (0 : Int32), iv (0 : Int32), iv (1 : Int32), rv r392, iv (8 : Int32), .unset] [(.ref r426)] _
          refine XS.astore X436.here hx rfl (hb hby at_369) rfl rfl (l' := #[iv i0, iv i1, iv i2, iv i3, iv (1 : Int32), iv (0 : Int32), iv (0 : Int32), rv b364, iv (4 : Int32), iv (0 : Int32), iv (0 : Int32), iv (0 : Int32), iv (1 : Int32), rv r392, iv (8 : Int32), rv r426]) rfl ?_
          refine XS.aload X436.here hx rfl (hb hby at_371) rfl rfl ?_
          exact kX
        obtain ⟨cl438, Ar438, S438, M438, H438⟩ := id fA426
        have pre441 : ∀ t, own_s p e below T426 m 395 #[iv i0, iv i1, iv i2, iv i3, iv (1 : Int32), iv (0 : Int32), iv (0 : Int32), rv b364, iv (4 : Int32), iv (0 : Int32), iv (0 : Int32), iv (0 : Int32), iv (1 : Int32), rv r392, iv (8 : Int32), rv r426] [(.int (7 : Int32)), (.ref r426)] t → Steps p.tables e below S0 t := by
          intro tX kX
          refine pre439 _ ?_
          show own_s p e below T426 m 373 #[iv i0, iv i1, iv i2, iv i3, iv (1 : Int32), iv (0 : Int32), iv (0 : Int32), rv b364, iv (4 : Int32), iv (0 : Int32), iv (0 : Int32), iv (0 : Int32), iv (1 : Int32), rv r392, iv (8 : Int32), rv r426] [(.ref r426)] _
          refine X436.arraylength hx (by rw [e426]; exact Ar438.1) (State.isArrayOf_alike hZ.alike Ar438.2.1) (g := (mkF m 373 #[iv i0, iv i1, iv i2, iv i3, iv (1 : Int32), iv (0 : Int32), iv (0 : Int32), rv b364, iv (4 : Int32), iv (0 : Int32), iv (0 : Int32), iv (0 : Int32), iv (1 : Int32), rv r392, iv (8 : Int32), rv r426] [(.ref r426)])) rfl rfl (hb hby at_373) _ ?_
          rw [show cl438.slots.size.toInt32 = (8 : Int32) from by rw [S438]; exact rfl]
          refine XS.iload X436.here hx rfl (hb hby at_374) rfl ?_
          refine XS.iload X436.here hx rfl (hb hby at_376) rfl ?_
          show own_s p e below T426 m 378 #[iv i0, iv i1, iv i2, iv i3, iv (1 : Int32), iv (0 : Int32), iv (0 : Int32), rv b364, iv (4 : Int32), iv (0 : Int32), iv (0 : Int32), iv (0 : Int32), iv (1 : Int32), rv r392, iv (8 : Int32), rv r426] [(.int (0 : Int32)), (.int (4 : Int32)), (.int (8 : Int32))] _
          refine XS.iadd X436.here hx rfl (hb hby at_378) rfl ?_
          refine XS.iconst X436.here hx rfl (hb hby at_379) ?_
          refine XS.iadd X436.here hx rfl (hb hby at_380) rfl ?_
          show own_s p e below T426 m 381 #[iv i0, iv i1, iv i2, iv i3, iv (1 : Int32), iv (0 : Int32), iv (0 : Int32), rv b364, iv (4 : Int32), iv (0 : Int32), iv (0 : Int32), iv (0 : Int32), iv (1 : Int32), rv r392, iv (8 : Int32), rv r426] [(.int (8 : Int32)), (.int (8 : Int32))] _
          refine XS.icmpYes X436.here hx rfl (pc0 := 381) (pc' := 386) rfl (hb hby at_381) rfl (teq (by decide : (8 : Int32) = (8 : Int32))).1 (by decide) (by decide) ?_
          refine XS.aload X436.here hx rfl (hb hby at_386) rfl rfl ?_
          refine XS.iload X436.here hx rfl (hb hby at_388) rfl ?_
          show own_s p e below T426 m 390 #[iv i0, iv i1, iv i2, iv i3, iv (1 : Int32), iv (0 : Int32), iv (0 : Int32), rv b364, iv (4 : Int32), iv (0 : Int32), iv (0 : Int32), iv (0 : Int32), iv (1 : Int32), rv r392, iv (8 : Int32), rv r426] [(.int (4 : Int32)), (.ref r426)] _
          refine XS.iload X436.here hx rfl (hb hby at_390) rfl ?_
          refine XS.iadd X436.here hx rfl (hb hby at_392) rfl ?_
          refine XS.iconst X436.here hx rfl (hb hby at_393) ?_
          show own_s p e below T426 m 394 #[iv i0, iv i1, iv i2, iv i3, iv (1 : Int32), iv (0 : Int32), iv (0 : Int32), rv b364, iv (4 : Int32), iv (0 : Int32), iv (0 : Int32), iv (0 : Int32), iv (1 : Int32), rv r392, iv (8 : Int32), rv r426] [(.int (3 : Int32)), (.int (4 : Int32)), (.ref r426)] _
          refine XS.iadd X436.here hx rfl (hb hby at_394) rfl ?_
          exact kX
        obtain ⟨cl440, Ar440, S440, M440, H440⟩ := id fA426
        have pre443 : ∀ t, own_s p e below T426 m 408 #[iv i0, iv i1, iv i2, iv i3, iv (1 : Int32), iv (0 : Int32), iv (0 : Int32), rv b364, iv (4 : Int32), iv (0 : Int32), iv (0 : Int32), iv (0 : Int32), iv (1 : Int32), rv r392, iv (8 : Int32), rv r426] [(.int (4 : Int32)), (.ref r426)] t → Steps p.tables e below S0 t := by
          intro tX kX
          refine pre441 _ ?_
          show own_s p e below T426 m 395 #[iv i0, iv i1, iv i2, iv i3, iv (1 : Int32), iv (0 : Int32), iv (0 : Int32), rv b364, iv (4 : Int32), iv (0 : Int32), iv (0 : Int32), iv (0 : Int32), iv (1 : Int32), rv r392, iv (8 : Int32), rv r426] [(.int (7 : Int32)), (.ref r426)] _
          refine X436.baloadBytes hx (j := (7 : Int32)) (v := (.int (i2.toInt8.toInt32))) (by rw [e426]; exact Ar440.1) (State.isArrayOf_alike hZ.alike Ar440.2.1) Ar440.2.2 (own_inb S440 M440 (by decide)) (own_get H440 S440 (by decide) (show Value.int ((own_put (own_put (fun _ : Nat => (0 : Int32)) 0 i0) 4 i2) (0 + 7)) = Value.int (i2.toInt8.toInt32) from congrArg Value.int (((own_put_in (by decide) (by decide)).trans (congrArg (own_by i2) (show _ = 3 from by decide))).trans (show own_by i2 3 = (i2.toInt8.toInt32) from rfl)))) (g := (mkF m 395 #[iv i0, iv i1, iv i2, iv i3, iv (1 : Int32), iv (0 : Int32), iv (0 : Int32), rv b364, iv (4 : Int32), iv (0 : Int32), iv (0 : Int32), iv (0 : Int32), iv (1 : Int32), rv r392, iv (8 : Int32), rv r426] [(.int (7 : Int32)), (.ref r426)])) rfl rfl (hb hby at_395) _ ?_
          refine XS.iloadN X436.here hx rfl (hb hby at_396) rfl ?_
          refine XS.i2b X436.here hx rfl (hb hby at_397) rfl ?_
          show own_s p e below T426 m 398 #[iv i0, iv i1, iv i2, iv i3, iv (1 : Int32), iv (0 : Int32), iv (0 : Int32), rv b364, iv (4 : Int32), iv (0 : Int32), iv (0 : Int32), iv (0 : Int32), iv (1 : Int32), rv r392, iv (8 : Int32), rv r426] [(.int (i2.toInt8.toInt32)), (.int (i2.toInt8.toInt32))] _
          refine XS.icmpNo X436.here hx rfl (hb hby at_398) rfl (teq (rfl : (i2.toInt8.toInt32) = (i2.toInt8.toInt32))).2 ?_
          refine XS.aload X436.here hx rfl (hb hby at_401) rfl rfl ?_
          refine XS.iload X436.here hx rfl (hb hby at_403) rfl ?_
          show own_s p e below T426 m 405 #[iv i0, iv i1, iv i2, iv i3, iv (1 : Int32), iv (0 : Int32), iv (0 : Int32), rv b364, iv (4 : Int32), iv (0 : Int32), iv (0 : Int32), iv (0 : Int32), iv (1 : Int32), rv r392, iv (8 : Int32), rv r426] [(.int (4 : Int32)), (.ref r426)] _
          refine XS.iload X436.here hx rfl (hb hby at_405) rfl ?_
          refine XS.iadd X436.here hx rfl (hb hby at_407) rfl ?_
          exact kX
        obtain ⟨cl442, Ar442, S442, M442, H442⟩ := id fA426
        have pre445 : ∀ t, own_s p e below T426 m 427 #[iv i0, iv i1, iv i2, iv i3, iv (1 : Int32), iv (0 : Int32), iv (0 : Int32), rv b364, iv (4 : Int32), iv (0 : Int32), iv (0 : Int32), iv (0 : Int32), iv (1 : Int32), rv r392, iv (8 : Int32), rv r426] [(.int (0 : Int32)), (.ref r426)] t → Steps p.tables e below S0 t := by
          intro tX kX
          refine pre443 _ ?_
          show own_s p e below T426 m 408 #[iv i0, iv i1, iv i2, iv i3, iv (1 : Int32), iv (0 : Int32), iv (0 : Int32), rv b364, iv (4 : Int32), iv (0 : Int32), iv (0 : Int32), iv (0 : Int32), iv (1 : Int32), rv r392, iv (8 : Int32), rv r426] [(.int (4 : Int32)), (.ref r426)] _
          refine X436.baloadBytes hx (j := (4 : Int32)) (v := (.int (((i2.toUInt32 >>> ((24 : Int32) &&& 31).toUInt32).toInt32).toInt8.toInt32))) (by rw [e426]; exact Ar442.1) (State.isArrayOf_alike hZ.alike Ar442.2.1) Ar442.2.2 (own_inb S442 M442 (by decide)) (own_get H442 S442 (by decide) (show Value.int ((own_put (own_put (fun _ : Nat => (0 : Int32)) 0 i0) 4 i2) (0 + 4)) = Value.int (((i2.toUInt32 >>> ((24 : Int32) &&& 31).toUInt32).toInt32).toInt8.toInt32) from congrArg Value.int (((own_put_in (by decide) (by decide)).trans (congrArg (own_by i2) (show _ = 0 from by decide))).trans (show own_by i2 0 = (((i2.toUInt32 >>> ((24 : Int32) &&& 31).toUInt32).toInt32).toInt8.toInt32) from rfl)))) (g := (mkF m 408 #[iv i0, iv i1, iv i2, iv i3, iv (1 : Int32), iv (0 : Int32), iv (0 : Int32), rv b364, iv (4 : Int32), iv (0 : Int32), iv (0 : Int32), iv (0 : Int32), iv (1 : Int32), rv r392, iv (8 : Int32), rv r426] [(.int (4 : Int32)), (.ref r426)])) rfl rfl (hb hby at_408) _ ?_
          refine XS.iloadN X436.here hx rfl (hb hby at_409) rfl ?_
          refine XS.bipush X436.here hx rfl (hb hby at_410) ?_
          show own_s p e below T426 m 412 #[iv i0, iv i1, iv i2, iv i3, iv (1 : Int32), iv (0 : Int32), iv (0 : Int32), rv b364, iv (4 : Int32), iv (0 : Int32), iv (0 : Int32), iv (0 : Int32), iv (1 : Int32), rv r392, iv (8 : Int32), rv r426] [(.int (24 : Int32)), (.int i2), (.int (((i2.toUInt32 >>> ((24 : Int32) &&& 31).toUInt32).toInt32).toInt8.toInt32))] _
          refine XS.iushr X436.here hx rfl (hb hby at_412) rfl ?_
          refine XS.i2b X436.here hx rfl (hb hby at_413) rfl ?_
          refine XS.icmpYes X436.here hx rfl (pc0 := 414) (pc' := 419) rfl (hb hby at_414) rfl (teq (rfl : (((i2.toUInt32 >>> ((24 : Int32) &&& 31).toUInt32).toInt32).toInt8.toInt32) = (((i2.toUInt32 >>> ((24 : Int32) &&& 31).toUInt32).toInt32).toInt8.toInt32))).1 (by decide) (by decide) ?_
          show own_s p e below T426 m 419 #[iv i0, iv i1, iv i2, iv i3, iv (1 : Int32), iv (0 : Int32), iv (0 : Int32), rv b364, iv (4 : Int32), iv (0 : Int32), iv (0 : Int32), iv (0 : Int32), iv (1 : Int32), rv r392, iv (8 : Int32), rv r426] [] _
          refine XS.iload X436.here hx rfl (hb hby at_419) rfl ?_
          refine XS.ifNo X436.here hx rfl (hb hby at_421) rfl ((if0 _ _).trans (feq (by decide : ¬ ((1 : Int32) = (0 : Int32)))).1) ?_
          refine XS.aload X436.here hx rfl (hb hby at_424) rfl rfl ?_
          show own_s p e below T426 m 426 #[iv i0, iv i1, iv i2, iv i3, iv (1 : Int32), iv (0 : Int32), iv (0 : Int32), rv b364, iv (4 : Int32), iv (0 : Int32), iv (0 : Int32), iv (0 : Int32), iv (1 : Int32), rv r392, iv (8 : Int32), rv r426] [(.ref r426)] _
          refine XS.iconst X436.here hx rfl (hb hby at_426) ?_
          exact kX
        obtain ⟨cl444, Ar444, S444, M444, H444⟩ := id fA426
        have pre446 : ∀ t, own_s p e below T426 m 458 #[iv i0, iv i1, iv i2, iv i3, iv (1 : Int32), iv (0 : Int32), iv (0 : Int32), rv b364, iv (4 : Int32), iv (0 : Int32), iv (0 : Int32), iv (0 : Int32), iv (1 : Int32), rv r392, iv (8 : Int32), rv r426] [(.int (1 : Int32))] t → Steps p.tables e below S0 t := by
          intro tX kX
          refine pre445 _ ?_
          show own_s p e below T426 m 427 #[iv i0, iv i1, iv i2, iv i3, iv (1 : Int32), iv (0 : Int32), iv (0 : Int32), rv b364, iv (4 : Int32), iv (0 : Int32), iv (0 : Int32), iv (0 : Int32), iv (1 : Int32), rv r392, iv (8 : Int32), rv r426] [(.int (0 : Int32)), (.ref r426)] _
          refine X436.baloadBytes hx (j := (0 : Int32)) (v := (.int (((i0.toUInt32 >>> ((24 : Int32) &&& 31).toUInt32).toInt32).toInt8.toInt32))) (by rw [e426]; exact Ar444.1) (State.isArrayOf_alike hZ.alike Ar444.2.1) Ar444.2.2 (own_inb S444 M444 (by decide)) (own_get H444 S444 (by decide) (show Value.int ((own_put (own_put (fun _ : Nat => (0 : Int32)) 0 i0) 4 i2) (0 + 0)) = Value.int (((i0.toUInt32 >>> ((24 : Int32) &&& 31).toUInt32).toInt32).toInt8.toInt32) from congrArg Value.int (((own_put_out (by decide)).trans ((own_put_in (by decide) (by decide)).trans (congrArg (own_by i0) (show _ = 0 from by decide)))).trans (show own_by i0 0 = (((i0.toUInt32 >>> ((24 : Int32) &&& 31).toUInt32).toInt32).toInt8.toInt32) from rfl)))) (g := (mkF m 427 #[iv i0, iv i1, iv i2, iv i3, iv (1 : Int32), iv (0 : Int32), iv (0 : Int32), rv b364, iv (4 : Int32), iv (0 : Int32), iv (0 : Int32), iv (0 : Int32), iv (1 : Int32), rv r392, iv (8 : Int32), rv r426] [(.int (0 : Int32)), (.ref r426)])) rfl rfl (hb hby at_427) _ ?_
          refine XS.iloadN X436.here hx rfl (hb hby at_428) rfl ?_
          refine XS.bipush X436.here hx rfl (hb hby at_429) ?_
          show own_s p e below T426 m 431 #[iv i0, iv i1, iv i2, iv i3, iv (1 : Int32), iv (0 : Int32), iv (0 : Int32), rv b364, iv (4 : Int32), iv (0 : Int32), iv (0 : Int32), iv (0 : Int32), iv (1 : Int32), rv r392, iv (8 : Int32), rv r426] [(.int (24 : Int32)), (.int i0), (.int (((i0.toUInt32 >>> ((24 : Int32) &&& 31).toUInt32).toInt32).toInt8.toInt32))] _
          refine XS.iushr X436.here hx rfl (hb hby at_431) rfl ?_
          refine XS.i2b X436.here hx rfl (hb hby at_432) rfl ?_
          refine XS.icmpYes X436.here hx rfl (pc0 := 433) (pc' := 438) rfl (hb hby at_433) rfl (teq (rfl : (((i0.toUInt32 >>> ((24 : Int32) &&& 31).toUInt32).toInt32).toInt8.toInt32) = (((i0.toUInt32 >>> ((24 : Int32) &&& 31).toUInt32).toInt32).toInt8.toInt32))).1 (by decide) (by decide) ?_
          show own_s p e below T426 m 438 #[iv i0, iv i1, iv i2, iv i3, iv (1 : Int32), iv (0 : Int32), iv (0 : Int32), rv b364, iv (4 : Int32), iv (0 : Int32), iv (0 : Int32), iv (0 : Int32), iv (1 : Int32), rv r392, iv (8 : Int32), rv r426] [] _
          refine XS.iload X436.here hx rfl (hb hby at_438) rfl ?_
          refine XS.ifYes X436.here hx rfl (pc0 := 440) (pc' := 457) rfl (hb hby at_440) rfl ((if0 _ _).trans (teq (by decide : (0 : Int32) = (0 : Int32))).1) (by decide) (by decide) ?_
          refine XS.iconst X436.here hx rfl (hb hby at_457) ?_
          exact kX
        subst hS0
        obtain ⟨fs, hr, hrun, hended, hW, hsame⟩ := X436.leave (v := (some (.int (1 : Int32)))) (fun h => by rw [Bd.returns] at h; cases h)
        refine ⟨_, _, pre446 _ (retN X436 hx (t := .boolean) Bd.returns (by simp) (hb hby at_458) hr), hrun, hended, _, _, rfl, ?_, ⟨_, rfl⟩, hW, hsame.mono (by decide) (by decide)⟩
        show Q0 Z i0 i1 i2 i3 h0 n0 (some (.int (1 : Int32))) T426.heap _
        exact ⟨rfl, N436⟩
      · skip
        have pre447 : ∀ t, own_s p e below s₁ m 39 #[iv i0, iv i1, iv i2, iv i3, iv (1 : Int32), iv (0 : Int32), iv (1 : Int32), .unset, .unset, .unset, .unset, .unset, .unset, .unset, .unset, .unset] [] t → Steps p.tables e below S0 t := by
          intro tX kX
          refine pre361 _ ?_
          show own_s p e below s₁ m 29 #[iv i0, iv i1, iv i2, iv i3, iv (1 : Int32), iv (0 : Int32), .unset, .unset, .unset, .unset, .unset, .unset, .unset, .unset, .unset, .unset] [(.int (i3 &&& (4 : Int32)))] _
          refine XS.ifNo X0.here hx rfl (hb hby at_29) rfl ((if0 _ _).trans (feq hc362).1) ?_
          refine XS.iconst X0.here hx rfl (hb hby at_32) ?_
          refine XS.goto X0.here hx rfl (pc0 := 33) (pc' := 37) rfl (hb hby at_33) (by decide) (by decide) ?_
          show own_s p e below s₁ m 37 #[iv i0, iv i1, iv i2, iv i3, iv (1 : Int32), iv (0 : Int32), .unset, .unset, .unset, .unset, .unset, .unset, .unset, .unset, .unset, .unset] [(.int (1 : Int32))] _
          refine XS.istore X0.here hx rfl (hb hby at_37) rfl (l' := #[iv i0, iv i1, iv i2, iv i3, iv (1 : Int32), iv (0 : Int32), iv (1 : Int32), .unset, .unset, .unset, .unset, .unset, .unset, .unset, .unset, .unset]) rfl ?_
          exact kX
        obtain ⟨T448, h448, X448, e448, E448, A448, D448, -, st448⟩ := newO X0 hx hZ hown (hw _ (List.mem_of_getElem? (i := 0) rfl)) (hw _ (List.mem_of_getElem? (i := 1) rfl)) (hw _ (List.mem_of_getElem? (i := 2) rfl)) e0 (g := (mkF m 39 #[iv i0, iv i1, iv i2, iv i3, iv (1 : Int32), iv (0 : Int32), iv (1 : Int32), .unset, .unset, .unset, .unset, .unset, .unset, .unset, .unset, .unset] [])) rfl (hb hby at_39) (by decide) (by decide)
        obtain ⟨b448, g448⟩ : ∃ z, z = h0.size := ⟨_, rfl⟩
        rw [← g448] at A448 D448 st448
        have g_b448 : n0 ≤ b448 := Nat.le_trans Z0 (Nat.le_of_eq g448.symm)
        have pre449 : ∀ t, own_s p e below T448 m 42 #[iv i0, iv i1, iv i2, iv i3, iv (1 : Int32), iv (0 : Int32), iv (1 : Int32), .unset, .unset, .unset, .unset, .unset, .unset, .unset, .unset, .unset] [(.ref b448)] t → Steps p.tables e below S0 t := fun tX kX => pre447 _ (st448 _ kX)
        have Z450 : n0 ≤ h448.size := Nat.le_trans Z0 E448.1
        have f451_E : Exa Z h448 b448 "com/example/farcall/farcall/io/XdrEncoder" := A448
        have f452_F : Fld Z h448 b448 "com/example/farcall/farcall/io/XdrEncoder" "buffer" "[B" .null := D448 (Or.inl (hw _ (List.mem_of_getElem? (i := 11) rfl))) (ty := (.array .byte)) (by decide)
        have f453_F : Fld Z h448 b448 "com/example/farcall/farcall/io/XdrEncoder" "end" "I" (.int (0 : Int32)) := D448 (Or.inl (hw _ (List.mem_of_getElem? (i := 22) rfl))) (ty := .int) (by decide)
        have f454_F : Fld Z h448 b448 "com/example/farcall/farcall/io/XdrEncoder" "start" "I" (.int (0 : Int32)) := D448 (Or.inl (hw _ (List.mem_of_getElem? (i := 29) rfl))) (ty := .int) (by decide)
        have pre455 : ∀ t, own_s p e below T448 m 43 #[iv i0, iv i1, iv i2, iv i3, iv (1 : Int32), iv (0 : Int32), iv (1 : Int32), .unset, .unset, .unset, .unset, .unset, .unset, .unset, .unset, .unset] [(.ref b448), (.ref b448)] t → Steps p.tables e below S0 t := by
          intro tX kX
          refine pre449 _ ?_
          show own_s p e below T448 m 42 #[iv i0, iv i1, iv i2, iv i3, iv (1 : Int32), iv (0 : Int32), iv (1 : Int32), .unset, .unset, .unset, .unset, .unset, .unset, .unset, .unset, .unset] [(.ref b448)] _
          refine XS.dup X448.here hx rfl (hb hby at_42) rfl rfl ?_
          exact kX
        obtain ⟨_, _, ⟨T456, L456, k456, n456⟩, -, X456, ⟨Lc456, hQ456, l456, y456, z456⟩, st456⟩ := X448.specialBack hx (y := (⟨"com/example/farcall/farcall/io/XdrEncoder", "<init>", "()V"⟩ : MethodName)) rfl hown (mvT hZ (hw _ (List.mem_of_getElem? (i := 3) rfl))) (mvT hZ (hw _ (List.mem_of_getElem? (i := 4) rfl))) (mvT hZ (hw _ (List.mem_of_getElem? (i := 5) rfl))) (by decide) (backOf (W := 1) (rm12 l Z a0 hw [] b448  h448 n0 Z450 f451_E f452_F f454_F f453_F g_b448) hZ (hw _ (List.mem_of_getElem? (i := 5) rfl)) (hw _ (List.mem_of_getElem? (i := 2) rfl)) (by decide) (by decide)) (g := (mkF m 43 #[iv i0, iv i1, iv i2, iv i3, iv (1 : Int32), iv (0 : Int32), iv (1 : Int32), .unset, .unset, .unset, .unset, .unset, .unset, .unset, .unset, .unset] [(.ref b448), (.ref b448)])) rfl (by rw [hml]; rfl) (Steps.refl _) (a := b448) (argsL := []) (rest := [(.ref b448)]) (lenOf pd0_0 rfl) rfl (by show 2 * 0 + _ ≤ _; exact Nat.le_of_eq rfl) (hb hby at_43) (fun _ _ => ⟨rfl, e448, (by decide : 1 + 1 ≤ _), (by decide : 4 + 64 ≤ _)⟩)
        dsimp only [Pt.U, Pt.locs, Pt.cells, Pt.slots] at X456 l456 y456 z456 st456 hQ456
        subst l456 y456 z456
        obtain ⟨rfl, Nq456, Kq456, bb456, szq456, E_a456, F_buf456, F_sta456, F_end456, A_b456, ne_ab456, fg456, g_a456, g_b456⟩ := hQ456
        have N456 := Fr.app N0 Nq456
        have e456 : T456.heap = T456.heap := rfl
        have Z456 : n0 ≤ T456.heap.size := Nat.le_trans Z450 Kq456.1
        obtain ⟨LL457, X457, N457⟩ : ∃ LL, Stand p l e room_1 s m #[(.int i0), (.int i1), (.int i2), (.int i3)] below meth c T456 LL 2 68 ∧ Fr n0 LL := ⟨_, X456, N456⟩
        have pre458 : ∀ t, own_s p e below T456 m 46 #[iv i0, iv i1, iv i2, iv i3, iv (1 : Int32), iv (0 : Int32), iv (1 : Int32), .unset, .unset, .unset, .unset, .unset, .unset, .unset, .unset, .unset] [(.ref b448)] t → Steps p.tables e below S0 t := fun tX kX => pre455 _ (st456.trans kX)
        have pre459 : ∀ t, own_s p e below T456 m 56 #[iv i0, iv i1, iv i2, iv i3, iv (1 : Int32), iv (0 : Int32), iv (1 : Int32), rv b448, .unset, .unset, .unset, .unset, .unset, .unset, .unset, .unset] [(.int i0), (.ref b448)] t → Steps p.tables e below S0 t := by
          intro tX kX
          refine pre458 _ ?_
          show own_s p e below T456 m 46 #[iv i0, iv i1, iv i2, iv i3, iv (1 : Int32), iv (0 : Int32), iv (1 : Int32), .unset, .unset, .unset, .unset, .unset, .unset, .unset, .unset, .unset] [(.ref b448)] _
          refine XS.astore X457.here hx rfl (hb hby at_46) rfl rfl (l' := #[iv i0, iv i1, iv i2, iv i3, iv (1 : Int32), iv (0 : Int32), iv (1 : Int32), rv b448, .unset, .unset, .unset, .unset, .unset, .unset, .unset, .unset]) rfl ?_
          refine XS.iload X457.here hx rfl (hb hby at_48) rfl ?_
          refine XS.ifNo X457.here hx rfl (hb hby at_50) rfl ((if0 _ _).trans (feq (by decide : ¬ ((1 : Int32) = (0 : Int32)))).1) ?_
          show own_s p e below T456 m 53 #[iv i0, iv i1, iv i2, iv i3, iv (1 : Int32), iv (0 : Int32), iv (1 : Int32), rv b448, .unset, .unset, .unset, .unset, .unset, .unset, .unset, .unset] [] _
          refine XS.aload X457.here hx rfl (hb hby at_53) rfl rfl ?_
          refine XS.iloadN X457.here hx rfl (hb hby at_55) rfl ?_
          exact kX
        obtain ⟨cq460, kq460, q460a, q460b, q460c⟩ := isOf hZ e456 E_a456
        obtain ⟨_, _, ⟨T460, L460, k460, n460⟩, -, X460, ⟨Lc460, hQ460, l460, y460, z460⟩, st460⟩ := X457.virtualBack hx (y := (⟨"com/example/farcall/farcall/io/XdrEncoder", "writeInt", "(I)Lcom/example/farcall/farcall/io/XdrEncoder;"⟩ : MethodName)) (z := (⟨"com/example/farcall/farcall/io/XdrEncoder", "writeInt", "(I)Lcom/example/farcall/farcall/io/XdrEncoder;"⟩ : MethodName)) hown (mvT hZ (hw _ (List.mem_of_getElem? (i := 12) rfl))) (mvT hZ (hw _ (List.mem_of_getElem? (i := 13) rfl))) (notFace_of_selects (args := #[]) (mvT hZ (hw _ (List.mem_of_getElem? (i := 15) rfl)))) (mvT hZ (hw _ (List.mem_of_getElem? (i := 15) rfl))) (mvT hZ (hw _ (List.mem_of_getElem? (i := 14) rfl))) (by decide) (backOf (W := 0) (rm9 l Z a0 hw [] b448 i0 bb456 ((fun _ : Nat => (0 : Int32))) 0 0 T456.heap n0 Z456 E_a456 F_buf456 F_sta456 F_end456 A_b456 ne_ab456 fg456 g_a456 g_b456 (by decide) (by decide)) hZ (hw _ (List.mem_of_getElem? (i := 16) rfl)) (hw _ (List.mem_of_getElem? (i := 2) rfl)) (by decide) (by decide)) q460a q460c (g := (mkF m 56 #[iv i0, iv i1, iv i2, iv i3, iv (1 : Int32), iv (0 : Int32), iv (1 : Int32), rv b448, .unset, .unset, .unset, .unset, .unset, .unset, .unset, .unset] [(.int i0), (.ref b448)])) rfl (by rw [hml]; rfl) (Steps.refl _) (argsL := [(.int i0)]) (rest := []) (lenOf pd0_2 rfl) rfl (by show 2 * 0 + _ ≤ _; exact Nat.le_of_eq rfl) (hb hby at_56) (fun _ _ => ⟨rfl, e456, (by decide : 2 + 0 ≤ _), (by decide : 68 + 0 ≤ _)⟩)
        dsimp only [Pt.U, Pt.locs, Pt.cells, Pt.slots] at X460 l460 y460 z460 st460 hQ460
        subst l460 y460 z460
        obtain ⟨rfl, Nq460, Kq460, E_a460, F_buf460, F_sta460, F_end460, A_b460, ne_ab460, fg460, g_a460, g_b460⟩ := hQ460
        have N460 := Fr.app N457 Nq460
        have e460 : T460.heap = T460.heap := rfl
        have Z460 : n0 ≤ T460.heap.size := Nat.le_trans Z456 Kq460.1
        obtain ⟨LL461, X461, N461⟩ : ∃ LL, Stand p l e room_1 s m #[(.int i0), (.int i1), (.int i2), (.int i3)] below meth c T460 LL 2 68 ∧ Fr n0 LL := ⟨_, X460, N460⟩
        have pre462 : ∀ t, own_s p e below T460 m 59 #[iv i0, iv i1, iv i2, iv i3, iv (1 : Int32), iv (0 : Int32), iv (1 : Int32), rv b448, .unset, .unset, .unset, .unset, .unset, .unset, .unset, .unset] [(.ref b448)] t → Steps p.tables e below S0 t := fun tX kX => pre459 _ (st460.trans kX)
        have pre463 : ∀ t, own_s p e below T460 m 95 #[iv i0, iv i1, iv i2, iv i3, iv (1 : Int32), iv (0 : Int32), iv (1 : Int32), rv b448, iv (4 : Int32), iv (0 : Int32), .unset, .unset, .unset, .unset, .unset, .unset] [(.int i1), (.ref b448)] t → Steps p.tables e below S0 t := by
          intro tX kX
          refine pre462 _ ?_
          show own_s p e below T460 m 59 #[iv i0, iv i1, iv i2, iv i3, iv (1 : Int32), iv (0 : Int32), iv (1 : Int32), rv b448, .unset, .unset, .unset, .unset, .unset, .unset, .unset, .unset] [(.ref b448)] _
          refine XS.pop X461.here hx rfl (hb hby at_59) rfl rfl ?_
          refine XS.iload X461.here hx rfl (hb hby at_60) rfl ?_
          refine XS.ifNo X461.here hx rfl (hb hby at_62) rfl ((if0 _ _).trans (feq (by decide : ¬ ((1 : Int32) = (0 : Int32)))).1) ?_
          show own_s p e below T460 m 65 #[iv i0, iv i1, iv i2, iv i3, iv (1 : Int32), iv (0 : Int32), iv (1 : Int32), rv b448, .unset, .unset, .unset, .unset, .unset, .unset, .unset, .unset] [] _
          refine XS.iconst X461.here hx rfl (hb hby at_65) ?_
          refine XS.goto X461.here hx rfl (pc0 := 66) (pc' := 70) rfl (hb hby at_66) (by decide) (by decide) ?_
          refine XS.istore X461.here hx rfl (hb hby at_70) rfl (l' := #[iv i0, iv i1, iv i2, iv i3, iv (1 : Int32), iv (0 : Int32), iv (1 : Int32), rv b448, iv (4 : Int32), .unset, .unset, .unset, .unset, .unset, .unset, .unset]) rfl ?_
          show own_s p e below T460 m 72 #[iv i0, iv i1, iv i2, iv i3, iv (1 : Int32), iv (0 : Int32), iv (1 : Int32), rv b448, iv (4 : Int32), .unset, .unset, .unset, .unset, .unset, .unset, .unset] [] _
          refine XS.iconst X461.here hx rfl (hb hby at_72) ?_
          refine XS.istore X461.here hx rfl (hb hby at_73) rfl (l' := #[iv i0, iv i1, iv i2, iv i3, iv (1 : Int32), iv (0 : Int32), iv (1 : Int32), rv b448, iv (4 : Int32), iv (0 : Int32), .unset, .unset, .unset, .unset, .unset, .unset]) rfl ?_
          refine XS.iload X461.here hx rfl (hb hby at_75) rfl ?_
          show own_s p e below T460 m 77 #[iv i0, iv i1, iv i2, iv i3, iv (1 : Int32), iv (0 : Int32), iv (1 : Int32), rv b448, iv (4 : Int32), iv (0 : Int32), .unset, .unset, .unset, .unset, .unset, .unset] [(.int (0 : Int32))] _
          refine XS.ifYes X461.here hx rfl (pc0 := 77) (pc' := 87) rfl (hb hby at_77) rfl ((if0 _ _).trans (teq (by decide : (0 : Int32) = (0 : Int32))).1) (by decide) (by decide) ?_
          refine XS.iload X461.here hx rfl (hb hby at_87) rfl ?_
          refine XS.ifNo X461.here hx rfl (hb hby at_89) rfl ((if0 _ _).trans (feq (by decide : ¬ ((1 : Int32) = (0 : Int32)))).1) ?_
          show own_s p e below T460 m 92 #[iv i0, iv i1, iv i2, iv i3, iv (1 : Int32), iv (0 : Int32), iv (1 : Int32), rv b448, iv (4 : Int32), iv (0 : Int32), .unset, .unset, .unset, .unset, .unset, .unset] [] _
          refine XS.aload X461.here hx rfl (hb hby at_92) rfl rfl ?_
          refine XS.iloadN X461.here hx rfl (hb hby at_94) rfl ?_
          exact kX
        obtain ⟨cq464, kq464, q464a, q464b, q464c⟩ := isOf hZ e460 E_a460
        obtain ⟨_, _, ⟨T464, L464, k464, n464⟩, -, X464, ⟨Lc464, hQ464, l464, y464, z464⟩, st464⟩ := X461.virtualBack hx (y := (⟨"com/example/farcall/farcall/io/XdrEncoder", "writeInt", "(I)Lcom/example/farcall/farcall/io/XdrEncoder;"⟩ : MethodName)) (z := (⟨"com/example/farcall/farcall/io/XdrEncoder", "writeInt", "(I)Lcom/example/farcall/farcall/io/XdrEncoder;"⟩ : MethodName)) hown (mvT hZ (hw _ (List.mem_of_getElem? (i := 12) rfl))) (mvT hZ (hw _ (List.mem_of_getElem? (i := 13) rfl))) (notFace_of_selects (args := #[]) (mvT hZ (hw _ (List.mem_of_getElem? (i := 15) rfl)))) (mvT hZ (hw _ (List.mem_of_getElem? (i := 15) rfl))) (mvT hZ (hw _ (List.mem_of_getElem? (i := 14) rfl))) (by decide) (backOf (W := 0) (rm9 l Z a0 hw [] b448 i1 bb456 ((own_put (fun _ : Nat => (0 : Int32)) 0 i0)) 0 4 T460.heap n0 Z460 E_a460 F_buf460 F_sta460 F_end460 A_b460 ne_ab460 fg460 g_a460 g_b460 (by decide) (by decide)) hZ (hw _ (List.mem_of_getElem? (i := 16) rfl)) (hw _ (List.mem_of_getElem? (i := 2) rfl)) (by decide) (by decide)) q464a q464c (g := (mkF m 95 #[iv i0, iv i1, iv i2, iv i3, iv (1 : Int32), iv (0 : Int32), iv (1 : Int32), rv b448, iv (4 : Int32), iv (0 : Int32), .unset, .unset, .unset, .unset, .unset, .unset] [(.int i1), (.ref b448)])) rfl (by rw [hml]; rfl) (Steps.refl _) (argsL := [(.int i1)]) (rest := []) (lenOf pd0_2 rfl) rfl (by show 2 * 0 + _ ≤ _; exact Nat.le_of_eq rfl) (hb hby at_95) (fun _ _ => ⟨rfl, e460, (by decide : 2 + 0 ≤ _), (by decide : 68 + 0 ≤ _)⟩)
        dsimp only [Pt.U, Pt.locs, Pt.cells, Pt.slots] at X464 l464 y464 z464 st464 hQ464
        subst l464 y464 z464
        obtain ⟨rfl, Nq464, Kq464, E_a464, F_buf464, F_sta464, F_end464, A_b464, ne_ab464, fg464, g_a464, g_b464⟩ := hQ464
        have N464 := Fr.app N461 Nq464
        have e464 : T464.heap = T464.heap := rfl
        have Z464 : n0 ≤ T464.heap.size := Nat.le_trans Z460 Kq464.1
        obtain ⟨LL465, X465, N465⟩ : ∃ LL, Stand p l e room_1 s m #[(.int i0), (.int i1), (.int i2), (.int i3)] below meth c T464 LL 2 68 ∧ Fr n0 LL := ⟨_, X464, N464⟩
        have pre466 : ∀ t, own_s p e below T464 m 98 #[iv i0, iv i1, iv i2, iv i3, iv (1 : Int32), iv (0 : Int32), iv (1 : Int32), rv b448, iv (4 : Int32), iv (0 : Int32), .unset, .unset, .unset, .unset, .unset, .unset] [(.ref b448)] t → Steps p.tables e below S0 t := fun tX kX => pre463 _ (st464.trans kX)
        have pre467 : ∀ t, own_s p e below T464 m 113 #[iv i0, iv i1, iv i2, iv i3, iv (1 : Int32), iv (0 : Int32), iv (1 : Int32), rv b448, iv (4 : Int32), iv (0 : Int32), iv (4 : Int32), .unset, .unset, .unset, .unset, .unset] [(.ref b448)] t → Steps p.tables e below S0 t := by
          intro tX kX
          refine pre466 _ ?_
          show own_s p e below T464 m 98 #[iv i0, iv i1, iv i2, iv i3, iv (1 : Int32), iv (0 : Int32), iv (1 : Int32), rv b448, iv (4 : Int32), iv (0 : Int32), .unset, .unset, .unset, .unset, .unset, .unset] [(.ref b448)] _
          refine XS.pop X465.here hx rfl (hb hby at_98) rfl rfl ?_
          refine XS.iload X465.here hx rfl (hb hby at_99) rfl ?_
          refine XS.ifNo X465.here hx rfl (hb hby at_101) rfl ((if0 _ _).trans (feq (by decide : ¬ ((1 : Int32) = (0 : Int32)))).1) ?_
          show own_s p e below T464 m 104 #[iv i0, iv i1, iv i2, iv i3, iv (1 : Int32), iv (0 : Int32), iv (1 : Int32), rv b448, iv (4 : Int32), iv (0 : Int32), .unset, .unset, .unset, .unset, .unset, .unset] [] _
          refine XS.iconst X465.here hx rfl (hb hby at_104) ?_
          refine XS.goto X465.here hx rfl (pc0 := 105) (pc' := 109) rfl (hb hby at_105) (by decide) (by decide) ?_
          refine XS.istore X465.here hx rfl (hb hby at_109) rfl (l' := #[iv i0, iv i1, iv i2, iv i3, iv (1 : Int32), iv (0 : Int32), iv (1 : Int32), rv b448, iv (4 : Int32), iv (0 : Int32), iv (4 : Int32), .unset, .unset, .unset, .unset, .unset]) rfl ?_
          show own_s p e below T464 m 111 #[iv i0, iv i1, iv i2, iv i3, iv (1 : Int32), iv (0 : Int32), iv (1 : Int32), rv b448, iv (4 : Int32), iv (0 : Int32), iv (4 : Int32), .unset, .unset, .unset, .unset, .unset] [] _
          refine XS.aload X465.here hx rfl (hb hby at_111) rfl rfl ?_
          exact kX
        obtain ⟨cq468, kq468, q468a, q468b, q468c⟩ := isOf hZ e464 E_a464
        obtain ⟨_, _, ⟨T468, L468, k468, n468⟩, -, X468, ⟨Lc468, hQ468, l468, y468, z468⟩, st468⟩ := X465.virtualBack hx (y := (⟨"com/example/farcall/farcall/io/XdrEncoder", "beginPart", "()I"⟩ : MethodName)) (z := (⟨"com/example/farcall/farcall/io/XdrEncoder", "beginPart", "()I"⟩ : MethodName)) hown (mvT hZ (hw _ (List.mem_of_getElem? (i := 35) rfl))) (mvT hZ (hw _ (List.mem_of_getElem? (i := 36) rfl))) (notFace_of_selects (args := #[]) (mvT hZ (hw _ (List.mem_of_getElem? (i := 38) rfl)))) (mvT hZ (hw _ (List.mem_of_getElem? (i := 38) rfl))) (mvT hZ (hw _ (List.mem_of_getElem? (i := 37) rfl))) (by decide) (backOf (W := 0) (rm10 l Z a0 hw [] b448 bb456 ((own_put (own_put (fun _ : Nat => (0 : Int32)) 0 i0) 4 i1)) 0 8 T464.heap n0 Z464 E_a464 F_buf464 F_sta464 F_end464 A_b464 ne_ab464 fg464 g_a464 g_b464) hZ (hw _ (List.mem_of_getElem? (i := 39) rfl)) (hw _ (List.mem_of_getElem? (i := 2) rfl)) (by decide) (by decide)) q468a q468c (g := (mkF m 113 #[iv i0, iv i1, iv i2, iv i3, iv (1 : Int32), iv (0 : Int32), iv (1 : Int32), rv b448, iv (4 : Int32), iv (0 : Int32), iv (4 : Int32), .unset, .unset, .unset, .unset, .unset] [(.ref b448)])) rfl (by rw [hml]; rfl) (Steps.refl _) (argsL := []) (rest := []) (lenOf pd0_1 rfl) rfl (by show 2 * 0 + _ ≤ _; exact Nat.le_of_eq rfl) (hb hby at_113) (fun _ _ => ⟨rfl, e464, (by decide : 2 + 0 ≤ _), (by decide : 68 + 0 ≤ _)⟩)
        dsimp only [Pt.U, Pt.locs, Pt.cells, Pt.slots] at X468 l468 y468 z468 st468 hQ468
        subst l468 y468 z468
        obtain ⟨rfl, Nq468, Kq468, E_a468, F_buf468, F_sta468, F_end468, A_b468, ne_ab468, fg468, g_a468, g_b468⟩ := hQ468
        have N468 := Fr.app N465 Nq468
        have e468 : T468.heap = T468.heap := rfl
        have Z468 : n0 ≤ T468.heap.size := Nat.le_trans Z464 Kq468.1
        obtain ⟨LL469, X469, N469⟩ : ∃ LL, Stand p l e room_1 s m #[(.int i0), (.int i1), (.int i2), (.int i3)] below meth c T468 LL 2 68 ∧ Fr n0 LL := ⟨_, X468, N468⟩
        have pre470 : ∀ t, own_s p e below T468 m 116 #[iv i0, iv i1, iv i2, iv i3, iv (1 : Int32), iv (0 : Int32), iv (1 : Int32), rv b448, iv (4 : Int32), iv (0 : Int32), iv (4 : Int32), .unset, .unset, .unset, .unset, .unset] [(.int (0 : Int32))] t → Steps p.tables e below S0 t := fun tX kX => pre467 _ (st468.trans kX)
        have pre471 : ∀ t, own_s p e below T468 m 120 #[iv i0, iv i1, iv i2, iv i3, iv (1 : Int32), iv (0 : Int32), iv (1 : Int32), rv b448, iv (4 : Int32), iv (0 : Int32), iv (4 : Int32), iv (0 : Int32), .unset, .unset, .unset, .unset] [(.ref b448)] t → Steps p.tables e below S0 t := by
          intro tX kX
          refine pre470 _ ?_
          show own_s p e below T468 m 116 #[iv i0, iv i1, iv i2, iv i3, iv (1 : Int32), iv (0 : Int32), iv (1 : Int32), rv b448, iv (4 : Int32), iv (0 : Int32), iv (4 : Int32), .unset, .unset, .unset, .unset, .unset] [(.int (0 : Int32))] _
          refine XS.istore X469.here hx rfl (hb hby at_116) rfl (l' := #[iv i0, iv i1, iv i2, iv i3, iv (1 : Int32), iv (0 : Int32), iv (1 : Int32), rv b448, iv (4 : Int32), iv (0 : Int32), iv (4 : Int32), iv (0 : Int32), .unset, .unset, .unset, .unset]) rfl ?_
          refine XS.aload X469.here hx rfl (hb hby at_118) rfl rfl ?_
          exact kX
        obtain ⟨cq472, kq472, q472a, q472b, q472c⟩ := isOf hZ e468 E_a468
        obtain ⟨_, _, ⟨T472, L472, k472, n472⟩, -, X472, ⟨Lc472, hQ472, l472, y472, z472⟩, st472⟩ := X469.virtualBack hx (y := (⟨"com/example/farcall/farcall/io/XdrEncoder", "size", "()I"⟩ : MethodName)) (z := (⟨"com/example/farcall/farcall/io/XdrEncoder", "size", "()I"⟩ : MethodName)) hown (mvT hZ (hw _ (List.mem_of_getElem? (i := 40) rfl))) (mvT hZ (hw _ (List.mem_of_getElem? (i := 24) rfl))) (notFace_of_selects (args := #[]) (mvT hZ (hw _ (List.mem_of_getElem? (i := 26) rfl)))) (mvT hZ (hw _ (List.mem_of_getElem? (i := 26) rfl))) (mvT hZ (hw _ (List.mem_of_getElem? (i := 25) rfl))) (by decide) (backOf (W := 0) (rm6 l Z a0 hw [] b448 bb456 ((own_put (own_put (fun _ : Nat => (0 : Int32)) 0 i0) 4 i1)) 8 8 T468.heap n0 Z468 E_a468 F_buf468 F_sta468 F_end468 A_b468 ne_ab468 fg468 g_a468 g_b468 (by decide) (by decide)) hZ (hw _ (List.mem_of_getElem? (i := 27) rfl)) (hw _ (List.mem_of_getElem? (i := 2) rfl)) (by decide) (by decide)) q472a q472c (g := (mkF m 120 #[iv i0, iv i1, iv i2, iv i3, iv (1 : Int32), iv (0 : Int32), iv (1 : Int32), rv b448, iv (4 : Int32), iv (0 : Int32), iv (4 : Int32), iv (0 : Int32), .unset, .unset, .unset, .unset] [(.ref b448)])) rfl (by rw [hml]; rfl) (Steps.refl _) (argsL := []) (rest := []) (lenOf pd0_1 rfl) rfl (by show 2 * 0 + _ ≤ _; exact Nat.le_of_eq rfl) (hb hby at_120) (fun _ _ => ⟨rfl, e468, (by decide : 2 + 0 ≤ _), (by decide : 68 + 0 ≤ _)⟩)
        dsimp only [Pt.U, Pt.locs, Pt.cells, Pt.slots] at X472 l472 y472 z472 st472 hQ472
        subst l472 y472 z472
        obtain ⟨rfl, Nq472, e472⟩ := hQ472
        have N472 := Fr.app N469 Nq472
        obtain ⟨LL473, X473, N473⟩ : ∃ LL, Stand p l e room_1 s m #[(.int i0), (.int i1), (.int i2), (.int i3)] below meth c T472 LL 2 68 ∧ Fr n0 LL := ⟨_, X472, N472⟩
        have pre474 : ∀ t, own_s p e below T472 m 123 #[iv i0, iv i1, iv i2, iv i3, iv (1 : Int32), iv (0 : Int32), iv (1 : Int32), rv b448, iv (4 : Int32), iv (0 : Int32), iv (4 : Int32), iv (0 : Int32), .unset, .unset, .unset, .unset] [(.int (0 : Int32))] t → Steps p.tables e below S0 t := fun tX kX => pre471 _ (st472.trans kX)
        have pre475 : ∀ t, own_s p e below T472 m 136 #[iv i0, iv i1, iv i2, iv i3, iv (1 : Int32), iv (0 : Int32), iv (1 : Int32), rv b448, iv (4 : Int32), iv (0 : Int32), iv (4 : Int32), iv (0 : Int32), iv (1 : Int32), .unset, .unset, .unset] [(.int i2), (.ref b448)] t → Steps p.tables e below S0 t := by
          intro tX kX
          refine pre474 _ ?_
          show own_s p e below T472 m 123 #[iv i0, iv i1, iv i2, iv i3, iv (1 : Int32), iv (0 : Int32), iv (1 : Int32), rv b448, iv (4 : Int32), iv (0 : Int32), iv (4 : Int32), iv (0 : Int32), .unset, .unset, .unset, .unset] [(.int (0 : Int32))] _
          refine XS.ifNo X473.here hx rfl (hb hby at_123) rfl ((if0 _ _).trans (teq (by decide : (0 : Int32) = (0 : Int32))).2) ?_
          refine XS.iconst X473.here hx rfl (hb hby at_126) ?_
          refine XS.goto X473.here hx rfl (pc0 := 127) (pc' := 131) rfl (hb hby at_127) (by decide) (by decide) ?_
          show own_s p e below T472 m 131 #[iv i0, iv i1, iv i2, iv i3, iv (1 : Int32), iv (0 : Int32), iv (1 : Int32), rv b448, iv (4 : Int32), iv (0 : Int32), iv (4 : Int32), iv (0 : Int32), .unset, .unset, .unset, .unset] [(.int (1 : Int32))] _
          refine XS.istore X473.here hx rfl (hb hby at_131) rfl (l' := #[iv i0, iv i1, iv i2, iv i3, iv (1 : Int32), iv (0 : Int32), iv (1 : Int32), rv b448, iv (4 : Int32), iv (0 : Int32), iv (4 : Int32), iv (0 : Int32), iv (1 : Int32), .unset, .unset, .unset]) rfl ?_
          refine XS.aload X473.here hx rfl (hb hby at_133) rfl rfl ?_
          refine XS.iloadN X473.here hx rfl (hb hby at_135) rfl ?_
          exact kX
        obtain ⟨cq476, kq476, q476a, q476b, q476c⟩ := isOf hZ e472 E_a468
        obtain ⟨_, _, ⟨T476, L476, k476, n476⟩, -, X476, ⟨Lc476, hQ476, l476, y476, z476⟩, st476⟩ := X473.virtualBack hx (y := (⟨"com/example/farcall/farcall/io/XdrEncoder", "writeInt", "(I)Lcom/example/farcall/farcall/io/XdrEncoder;"⟩ : MethodName)) (z := (⟨"com/example/farcall/farcall/io/XdrEncoder", "writeInt", "(I)Lcom/example/farcall/farcall/io/XdrEncoder;"⟩ : MethodName)) hown (mvT hZ (hw _ (List.mem_of_getElem? (i := 12) rfl))) (mvT hZ (hw _ (List.mem_of_getElem? (i := 13) rfl))) (notFace_of_selects (args := #[]) (mvT hZ (hw _ (List.mem_of_getElem? (i := 15) rfl)))) (mvT hZ (hw _ (List.mem_of_getElem? (i := 15) rfl))) (mvT hZ (hw _ (List.mem_of_getElem? (i := 14) rfl))) (by decide) (backOf (W := 0) (rm9 l Z a0 hw [] b448 i2 bb456 ((own_put (own_put (fun _ : Nat => (0 : Int32)) 0 i0) 4 i1)) 8 8 T468.heap n0 Z468 E_a468 F_buf468 F_sta468 F_end468 A_b468 ne_ab468 fg468 g_a468 g_b468 (by decide) (by decide)) hZ (hw _ (List.mem_of_getElem? (i := 16) rfl)) (hw _ (List.mem_of_getElem? (i := 2) rfl)) (by decide) (by decide)) q476a q476c (g := (mkF m 136 #[iv i0, iv i1, iv i2, iv i3, iv (1 : Int32), iv (0 : Int32), iv (1 : Int32), rv b448, iv (4 : Int32), iv (0 : Int32), iv (4 : Int32), iv (0 : Int32), iv (1 : Int32), .unset, .unset, .unset] [(.int i2), (.ref b448)])) rfl (by rw [hml]; rfl) (Steps.refl _) (argsL := [(.int i2)]) (rest := []) (lenOf pd0_2 rfl) rfl (by show 2 * 0 + _ ≤ _; exact Nat.le_of_eq rfl) (hb hby at_136) (fun _ _ => ⟨rfl, e472, (by decide : 2 + 0 ≤ _), (by decide : 68 + 0 ≤ _)⟩)
        dsimp only [Pt.U, Pt.locs, Pt.cells, Pt.slots] at X476 l476 y476 z476 st476 hQ476
        subst l476 y476 z476
        obtain ⟨rfl, Nq476, Kq476, E_a476, F_buf476, F_sta476, F_end476, A_b476, ne_ab476, fg476, g_a476, g_b476⟩ := hQ476
        have N476 := Fr.app N473 Nq476
        have e476 : T476.heap = T476.heap := rfl
        have Z476 : n0 ≤ T476.heap.size := Nat.le_trans Z468 Kq476.1
        obtain ⟨LL477, X477, N477⟩ : ∃ LL, Stand p l e room_1 s m #[(.int i0), (.int i1), (.int i2), (.int i3)] below meth c T476 LL 2 68 ∧ Fr n0 LL := ⟨_, X476, N476⟩
        have pre478 : ∀ t, own_s p e below T476 m 139 #[iv i0, iv i1, iv i2, iv i3, iv (1 : Int32), iv (0 : Int32), iv (1 : Int32), rv b448, iv (4 : Int32), iv (0 : Int32), iv (4 : Int32), iv (0 : Int32), iv (1 : Int32), .unset, .unset, .unset] [(.ref b448)] t → Steps p.tables e below S0 t := fun tX kX => pre475 _ (st476.trans kX)
        have pre479 : ∀ t, own_s p e below T476 m 142 #[iv i0, iv i1, iv i2, iv i3, iv (1 : Int32), iv (0 : Int32), iv (1 : Int32), rv b448, iv (4 : Int32), iv (0 : Int32), iv (4 : Int32), iv (0 : Int32), iv (1 : Int32), .unset, .unset, .unset] [(.ref b448)] t → Steps p.tables e below S0 t := by
          intro tX kX
          refine pre478 _ ?_
          show own_s p e below T476 m 139 #[iv i0, iv i1, iv i2, iv i3, iv (1 : Int32), iv (0 : Int32), iv (1 : Int32), rv b448, iv (4 : Int32), iv (0 : Int32), iv (4 : Int32), iv (0 : Int32), iv (1 : Int32), .unset, .unset, .unset] [(.ref b448)] _
          refine XS.pop X477.here hx rfl (hb hby at_139) rfl rfl ?_
          refine XS.aload X477.here hx rfl (hb hby at_140) rfl rfl ?_
          exact kX
        obtain ⟨cq480, kq480, q480a, q480b, q480c⟩ := isOf hZ e476 E_a476
        obtain ⟨_, _, ⟨T480, L480, k480, n480⟩, -, X480, ⟨Lc480, hQ480, l480, y480, z480⟩, st480⟩ := X477.virtualBack hx (y := (⟨"com/example/farcall/farcall/io/XdrEncoder", "toByteArray", "()[B"⟩ : MethodName)) (z := (⟨"com/example/farcall/farcall/io/XdrEncoder", "toByteArray", "()[B"⟩ : MethodName)) hown (mvT hZ (hw _ (List.mem_of_getElem? (i := 41) rfl))) (mvT hZ (hw _ (List.mem_of_getElem? (i := 42) rfl))) (notFace_of_selects (args := #[]) (mvT hZ (hw _ (List.mem_of_getElem? (i := 44) rfl)))) (mvT hZ (hw _ (List.mem_of_getElem? (i := 44) rfl))) (mvT hZ (hw _ (List.mem_of_getElem? (i := 43) rfl))) (by decide) (backOf (W := 0) (rm5 l Z a0 hw [] b448 bb456 ((own_put (own_put (own_put (fun _ : Nat => (0 : Int32)) 0 i0) 4 i1) 8 i2)) 8 12 T476.heap n0 Z476 E_a476 F_buf476 F_sta476 F_end476 A_b476 ne_ab476 fg476 g_a476 g_b476 (by decide) (by decide) (by decide)) hZ (hw _ (List.mem_of_getElem? (i := 45) rfl)) (hw _ (List.mem_of_getElem? (i := 2) rfl)) (by decide) (by decide)) q480a q480c (g := (mkF m 142 #[iv i0, iv i1, iv i2, iv i3, iv (1 : Int32), iv (0 : Int32), iv (1 : Int32), rv b448, iv (4 : Int32), iv (0 : Int32), iv (4 : Int32), iv (0 : Int32), iv (1 : Int32), .unset, .unset, .unset] [(.ref b448)])) rfl (by rw [hml]; rfl) (Steps.refl _) (argsL := []) (rest := []) (lenOf pd0_3 rfl) rfl (by show 2 * 0 + _ ≤ _; exact Nat.le_of_eq rfl) (hb hby at_142) (fun _ _ => ⟨rfl, e476, (by decide : 2 + 1 ≤ _), (by decide : 68 + 64 ≤ _)⟩)
        dsimp only [Pt.U, Pt.locs, Pt.cells, Pt.slots] at X480 l480 y480 z480 st480 hQ480
        subst l480 y480 z480
        obtain ⟨r480, rfl, Nq480, Kq480, sz_r480, g_r480, fA480⟩ := hQ480
        have N480 := Fr.app N477 Nq480
        have e480 : T480.heap = T480.heap := rfl
        have Z480 : n0 ≤ T480.heap.size := Nat.le_trans Z476 Kq480.1
        have ne481 : b448 ≠ r480 := Nat.ne_of_lt (Nat.lt_of_lt_of_le E_a476.lt sz_r480)
        have ne482 : bb456 ≠ r480 := Nat.ne_of_lt (Nat.lt_of_lt_of_le A_b476.lt sz_r480)
        have f483_E : Exa Z T480.heap b448 "com/example/farcall/farcall/io/XdrEncoder" := E_a476.keep Kq480
        have f484_F : Fld Z T480.heap b448 "com/example/farcall/farcall/io/XdrEncoder" "buffer" "[B" (.ref bb456) := F_buf476.keep Kq480 nin0
        have f485_F : Fld Z T480.heap b448 "com/example/farcall/farcall/io/XdrEncoder" "start" "I" (.int (Int32.ofNat 8)) := F_sta476.keep Kq480 nin0
        have f486_F : Fld Z T480.heap b448 "com/example/farcall/farcall/io/XdrEncoder" "end" "I" (.int (Int32.ofNat 12)) := F_end476.keep Kq480 nin0
        have f487_A : own_Af Z T480.heap bb456 .byte 64 (fun j => .int ((own_put (own_put (own_put (fun _ : Nat => (0 : Int32)) 0 i0) 4 i1) 8 i2) j)) := A_b476.keep Kq480 nin0
        obtain ⟨LL488, X488, N488⟩ : ∃ LL, Stand p l e room_1 s m #[(.int i0), (.int i1), (.int i2), (.int i3)] below meth c T480 LL 3 132 ∧ Fr n0 LL := ⟨_, X480, N480⟩
        have pre489 : ∀ t, own_s p e below T480 m 145 #[iv i0, iv i1, iv i2, iv i3, iv (1 : Int32), iv (0 : Int32), iv (1 : Int32), rv b448, iv (4 : Int32), iv (0 : Int32), iv (4 : Int32), iv (0 : Int32), iv (1 : Int32), .unset, .unset, .unset] [(.ref r480)] t → Steps p.tables e below S0 t := fun tX kX => pre479 _ (st480.trans kX)
        have pre490 : ∀ t, own_s p e below T480 m 154 #[iv i0, iv i1, iv i2, iv i3, iv (1 : Int32), iv (0 : Int32), iv (1 : Int32), rv b448, iv (4 : Int32), iv (0 : Int32), iv (4 : Int32), iv (0 : Int32), iv (1 : Int32), rv r480, .unset, .unset] [(.ref b448)] t → Steps p.tables e below S0 t := by
          intro tX kX
          refine pre489 _ ?_
          show own_s p e below T480 m 145 #[iv i0, iv i1, iv i2, iv i3, iv (1 : Int32), iv (0 : Int32), iv (1 : Int32), rv b448, iv (4 : Int32), iv (0 : Int32), iv (4 : Int32), iv (0 : Int32), iv (1 : Int32), .unset, .unset, .unset] [(.ref r480)] _
          refine XS.astore X488.here hx rfl (hb hby at_145) rfl rfl (l' := #[iv i0, iv i1, iv i2, iv i3, iv (1 : Int32), iv (0 : Int32), iv (1 : Int32), rv b448, iv (4 : Int32), iv (0 : Int32), iv (4 : Int32), iv (0 : Int32), iv (1 : Int32), rv r480, .unset, .unset]) rfl ?_
          refine XS.iload X488.here hx rfl (hb hby at_147) rfl ?_
          refine XS.ifNo X488.here hx rfl (hb hby at_149) rfl ((if0 _ _).trans (feq (by decide : ¬ ((1 : Int32) = (0 : Int32)))).1) ?_
          show own_s p e below T480 m 152 #[iv i0, iv i1, iv i2, iv i3, iv (1 : Int32), iv (0 : Int32), iv (1 : Int32), rv b448, iv (4 : Int32), iv (0 : Int32), iv (4 : Int32), iv (0 : Int32), iv (1 : Int32), rv r480, .unset, .unset] [] _
          refine XS.aload X488.here hx rfl (hb hby at_152) rfl rfl ?_
          exact kX
        obtain ⟨cq491, kq491, q491a, q491b, q491c⟩ := isOf hZ e480 f483_E
        obtain ⟨_, _, ⟨T491, L491, k491, n491⟩, -, X491, ⟨Lc491, hQ491, l491, y491, z491⟩, st491⟩ := X488.virtualBack hx (y := (⟨"com/example/farcall/farcall/io/XdrEncoder", "size", "()I"⟩ : MethodName)) (z := (⟨"com/example/farcall/farcall/io/XdrEncoder", "size", "()I"⟩ : MethodName)) hown (mvT hZ (hw _ (List.mem_of_getElem? (i := 40) rfl))) (mvT hZ (hw _ (List.mem_of_getElem? (i := 24) rfl))) (notFace_of_selects (args := #[]) (mvT hZ (hw _ (List.mem_of_getElem? (i := 26) rfl)))) (mvT hZ (hw _ (List.mem_of_getElem? (i := 26) rfl))) (mvT hZ (hw _ (List.mem_of_getElem? (i := 25) rfl))) (by decide) (backOf (W := 0) (rm6 l Z a0 hw [] b448 bb456 ((own_put (own_put (own_put (fun _ : Nat => (0 : Int32)) 0 i0) 4 i1) 8 i2)) 8 12 T480.heap n0 Z480 f483_E f484_F f485_F f486_F f487_A ne_ab476 fg476 g_a476 g_b476 (by decide) (by decide)) hZ (hw _ (List.mem_of_getElem? (i := 27) rfl)) (hw _ (List.mem_of_getElem? (i := 2) rfl)) (by decide) (by decide)) q491a q491c (g := (mkF m 154 #[iv i0, iv i1, iv i2, iv i3, iv (1 : Int32), iv (0 : Int32), iv (1 : Int32), rv b448, iv (4 : Int32), iv (0 : Int32), iv (4 : Int32), iv (0 : Int32), iv (1 : Int32), rv r480, .unset, .unset] [(.ref b448)])) rfl (by rw [hml]; rfl) (Steps.refl _) (argsL := []) (rest := []) (lenOf pd0_1 rfl) rfl (by show 2 * 0 + _ ≤ _; exact Nat.le_of_eq rfl) (hb hby at_154) (fun _ _ => ⟨rfl, e480, (by decide : 3 + 0 ≤ _), (by decide : 132 + 0 ≤ _)⟩)
        dsimp only [Pt.U, Pt.locs, Pt.cells, Pt.slots] at X491 l491 y491 z491 st491 hQ491
        subst l491 y491 z491
        obtain ⟨rfl, Nq491, e491⟩ := hQ491
        have N491 := Fr.app N488 Nq491
        obtain ⟨LL492, X492, N492⟩ : ∃ LL, Stand p l e room_1 s m #[(.int i0), (.int i1), (.int i2), (.int i3)] below meth c T491 LL 3 132 ∧ Fr n0 LL := ⟨_, X491, N491⟩
        have pre493 : ∀ t, own_s p e below T491 m 157 #[iv i0, iv i1, iv i2, iv i3, iv (1 : Int32), iv (0 : Int32), iv (1 : Int32), rv b448, iv (4 : Int32), iv (0 : Int32), iv (4 : Int32), iv (0 : Int32), iv (1 : Int32), rv r480, .unset, .unset] [(.int (4 : Int32))] t → Steps p.tables e below S0 t := fun tX kX => pre490 _ (st491.trans kX)
        have pre495 : ∀ t, own_s p e below T491 m 163 #[iv i0, iv i1, iv i2, iv i3, iv (1 : Int32), iv (0 : Int32), iv (1 : Int32), rv b448, iv (4 : Int32), iv (0 : Int32), iv (4 : Int32), iv (0 : Int32), iv (1 : Int32), rv r480, .unset, .unset] [(.ref r480)] t → Steps p.tables e below S0 t := by
          intro tX kX
          refine pre493 _ ?_
          show own_s p e below T491 m 157 #[iv i0, iv i1, iv i2, iv i3, iv (1 : Int32), iv (0 : Int32), iv (1 : Int32), rv b448, iv (4 : Int32), iv (0 : Int32), iv (4 : Int32), iv (0 : Int32), iv (1 : Int32), rv r480, .unset, .unset] [(.int (4 : Int32))] _
          refine XS.iconst X492.here hx rfl (hb hby at_157) ?_
          refine XS.icmpNo X492.here hx rfl (hb hby at_158) rfl (teq (by decide : (4 : Int32) = (4 : Int32))).2 ?_
          refine XS.aload X492.here hx rfl (hb hby at_161) rfl rfl ?_
          exact kX
        obtain ⟨cl494, Ar494, S494, M494, H494⟩ := id fA480
        have pre497 : ∀ t, own_s p e below T491 m 171 #[iv i0, iv i1, iv i2, iv i3, iv (1 : Int32), iv (0 : Int32), iv (1 : Int32), rv b448, iv (4 : Int32), iv (0 : Int32), iv (4 : Int32), iv (0 : Int32), iv (1 : Int32), rv r480, .unset, .unset] [(.int (0 : Int32)), (.ref r480)] t → Steps p.tables e below S0 t := by
          intro tX kX
          refine pre495 _ ?_
          show own_s p e below T491 m 163 #[iv i0, iv i1, iv i2, iv i3, iv (1 : Int32), iv (0 : Int32), iv (1 : Int32), rv b448, iv (4 : Int32), iv (0 : Int32), iv (4 : Int32), iv (0 : Int32), iv (1 : Int32), rv r480, .unset, .unset] [(.ref r480)] _
          refine X492.arraylength hx (by rw [e491]; exact Ar494.1) (State.isArrayOf_alike hZ.alike Ar494.2.1) (g := (mkF m 163 #[iv i0, iv i1, iv i2, iv i3, iv (1 : Int32), iv (0 : Int32), iv (1 : Int32), rv b448, iv (4 : Int32), iv (0 : Int32), iv (4 : Int32), iv (0 : Int32), iv (1 : Int32), rv r480, .unset, .unset] [(.ref r480)])) rfl rfl (hb hby at_163) _ ?_
          rw [show cl494.slots.size.toInt32 = (4 : Int32) from by rw [S494]; exact rfl]
          refine XS.iconst X492.here hx rfl (hb hby at_164) ?_
          refine XS.icmpNo X492.here hx rfl (hb hby at_165) rfl (teq (by decide : (4 : Int32) = (4 : Int32))).2 ?_
          show own_s p e below T491 m 168 #[iv i0, iv i1, iv i2, iv i3, iv (1 : Int32), iv (0 : Int32), iv (1 : Int32), rv b448, iv (4 : Int32), iv (0 : Int32), iv (4 : Int32), iv (0 : Int32), iv (1 : Int32), rv r480, .unset, .unset] [] _
          refine XS.aload X492.here hx rfl (hb hby at_168) rfl rfl ?_
          refine XS.iconst X492.here hx rfl (hb hby at_170) ?_
          exact kX
        obtain ⟨cl496, Ar496, S496, M496, H496⟩ := id fA480
        have pre499 : ∀ t, own_s p e below T491 m 183 #[iv i0, iv i1, iv i2, iv i3, iv (1 : Int32), iv (0 : Int32), iv (1 : Int32), rv b448, iv (4 : Int32), iv (0 : Int32), iv (4 : Int32), iv (0 : Int32), iv (1 : Int32), rv r480, .unset, .unset] [(.int (1 : Int32)), (.ref r480)] t → Steps p.tables e below S0 t := by
          intro tX kX
          refine pre497 _ ?_
          show own_s p e below T491 m 171 #[iv i0, iv i1, iv i2, iv i3, iv (1 : Int32), iv (0 : Int32), iv (1 : Int32), rv b448, iv (4 : Int32), iv (0 : Int32), iv (4 : Int32), iv (0 : Int32), iv (1 : Int32), rv r480, .unset, .unset] [(.int (0 : Int32)), (.ref r480)] _
          refine X492.baloadBytes hx (j := (0 : Int32)) (v := (.int (((i2.toUInt32 >>> ((24 : Int32) &&& 31).toUInt32).toInt32).toInt8.toInt32))) (by rw [e491]; exact Ar496.1) (State.isArrayOf_alike hZ.alike Ar496.2.1) Ar496.2.2 (own_inb S496 M496 (by decide)) (own_get H496 S496 (by decide) (show Value.int ((own_put (own_put (own_put (fun _ : Nat => (0 : Int32)) 0 i0) 4 i1) 8 i2) (8 + 0)) = Value.int (((i2.toUInt32 >>> ((24 : Int32) &&& 31).toUInt32).toInt32).toInt8.toInt32) from congrArg Value.int (((own_put_in (by decide) (by decide)).trans (congrArg (own_by i2) (show _ = 0 from by decide))).trans (show own_by i2 0 = (((i2.toUInt32 >>> ((24 : Int32) &&& 31).toUInt32).toInt32).toInt8.toInt32) from rfl)))) (g := (mkF m 171 #[iv i0, iv i1, iv i2, iv i3, iv (1 : Int32), iv (0 : Int32), iv (1 : Int32), rv b448, iv (4 : Int32), iv (0 : Int32), iv (4 : Int32), iv (0 : Int32), iv (1 : Int32), rv r480, .unset, .unset] [(.int (0 : Int32)), (.ref r480)])) rfl rfl (hb hby at_171) _ ?_
          refine XS.iloadN X492.here hx rfl (hb hby at_172) rfl ?_
          refine XS.bipush X492.here hx rfl (hb hby at_173) ?_
          show own_s p e below T491 m 175 #[iv i0, iv i1, iv i2, iv i3, iv (1 : Int32), iv (0 : Int32), iv (1 : Int32), rv b448, iv (4 : Int32), iv (0 : Int32), iv (4 : Int32), iv (0 : Int32), iv (1 : Int32), rv r480, .unset, .unset] [(.int (24 : Int32)), (.int i2), (.int (((i2.toUInt32 >>> ((24 : Int32) &&& 31).toUInt32).toInt32).toInt8.toInt32))] _
          refine XS.iushr X492.here hx rfl (hb hby at_175) rfl ?_
          refine XS.i2b X492.here hx rfl (hb hby at_176) rfl ?_
          refine XS.icmpNo X492.here hx rfl (hb hby at_177) rfl (teq (rfl : (((i2.toUInt32 >>> ((24 : Int32) &&& 31).toUInt32).toInt32).toInt8.toInt32) = (((i2.toUInt32 >>> ((24 : Int32) &&& 31).toUInt32).toInt32).toInt8.toInt32))).2 ?_
          show own_s p e below T491 m 180 #[iv i0, iv i1, iv i2, iv i3, iv (1 : Int32), iv (0 : Int32), iv (1 : Int32), rv b448, iv (4 : Int32), iv (0 : Int32), iv (4 : Int32), iv (0 : Int32), iv (1 : Int32), rv r480, .unset, .unset] [] _
          refine XS.aload X492.here hx rfl (hb hby at_180) rfl rfl ?_
          refine XS.iconst X492.here hx rfl (hb hby at_182) ?_
          exact kX
        obtain ⟨cl498, Ar498, S498, M498, H498⟩ := id fA480
        have pre501 : ∀ t, own_s p e below T491 m 195 #[iv i0, iv i1, iv i2, iv i3, iv (1 : Int32), iv (0 : Int32), iv (1 : Int32), rv b448, iv (4 : Int32), iv (0 : Int32), iv (4 : Int32), iv (0 : Int32), iv (1 : Int32), rv r480, .unset, .unset] [(.int (2 : Int32)), (.ref r480)] t → Steps p.tables e below S0 t := by
          intro tX kX
          refine pre499 _ ?_
          show own_s p e below T491 m 183 #[iv i0, iv i1, iv i2, iv i3, iv (1 : Int32), iv (0 : Int32), iv (1 : Int32), rv b448, iv (4 : Int32), iv (0 : Int32), iv (4 : Int32), iv (0 : Int32), iv (1 : Int32), rv r480, .unset, .unset] [(.int (1 : Int32)), (.ref r480)] _
          refine X492.baloadBytes hx (j := (1 : Int32)) (v := (.int (((i2.toUInt32 >>> ((16 : Int32) &&& 31).toUInt32).toInt32).toInt8.toInt32))) (by rw [e491]; exact Ar498.1) (State.isArrayOf_alike hZ.alike Ar498.2.1) Ar498.2.2 (own_inb S498 M498 (by decide)) (own_get H498 S498 (by decide) (show Value.int ((own_put (own_put (own_put (fun _ : Nat => (0 : Int32)) 0 i0) 4 i1) 8 i2) (8 + 1)) = Value.int (((i2.toUInt32 >>> ((16 : Int32) &&& 31).toUInt32).toInt32).toInt8.toInt32) from congrArg Value.int (((own_put_in (by decide) (by decide)).trans (congrArg (own_by i2) (show _ = 1 from by decide))).trans (show own_by i2 1 = (((i2.toUInt32 >>> ((16 : Int32) &&& 31).toUInt32).toInt32).toInt8.toInt32) from rfl)))) (g := (mkF m 183 #[iv i0, iv i1, iv i2, iv i3, iv (1 : Int32), iv (0 : Int32), iv (1 : Int32), rv b448, iv (4 : Int32), iv (0 : Int32), iv (4 : Int32), iv (0 : Int32), iv (1 : Int32), rv r480, .unset, .unset] [(.int (1 : Int32)), (.ref r480)])) rfl rfl (hb hby at_183) _ ?_
          refine XS.iloadN X492.here hx rfl (hb hby at_184) rfl ?_
          refine XS.bipush X492.here hx rfl (hb hby at_185) ?_
          show own_s p e below T491 m 187 #[iv i0, iv i1, iv i2, iv i3, iv (1 : Int32), iv (0 : Int32), iv (1 : Int32), rv b448, iv (4 : Int32), iv (0 : Int32), iv (4 : Int32), iv (0 : Int32), iv (1 : Int32), rv r480, .unset, .unset] [(.int (16 : Int32)), (.int i2), (.int (((i2.toUInt32 >>> ((16 : Int32) &&& 31).toUInt32).toInt32).toInt8.toInt32))] _
          refine XS.iushr X492.here hx rfl (hb hby at_187) rfl ?_
          refine XS.i2b X492.here hx rfl (hb hby at_188) rfl ?_
          refine XS.icmpNo X492.here hx rfl (hb hby at_189) rfl (teq (rfl : (((i2.toUInt32 >>> ((16 : Int32) &&& 31).toUInt32).toInt32).toInt8.toInt32) = (((i2.toUInt32 >>> ((16 : Int32) &&& 31).toUInt32).toInt32).toInt8.toInt32))).2 ?_
          show own_s p e below T491 m 192 #[iv i0, iv i1, iv i2, iv i3, iv (1 : Int32), iv (0 : Int32), iv (1 : Int32), rv b448, iv (4 : Int32), iv (0 : Int32), iv (4 : Int32), iv (0 : Int32), iv (1 : Int32), rv r480, .unset, .unset] [] _
          refine XS.aload X492.here hx rfl (hb hby at_192) rfl rfl ?_
          refine XS.iconst X492.here hx rfl (hb hby at_194) ?_
          exact kX
        obtain ⟨cl500, Ar500, S500, M500, H500⟩ := id fA480
        have pre503 : ∀ t, own_s p e below T491 m 207 #[iv i0, iv i1, iv i2, iv i3, iv (1 : Int32), iv (0 : Int32), iv (1 : Int32), rv b448, iv (4 : Int32), iv (0 : Int32), iv (4 : Int32), iv (0 : Int32), iv (1 : Int32), rv r480, .unset, .unset] [(.int (3 : Int32)), (.ref r480)] t → Steps p.tables e below S0 t := by
          intro tX kX
          refine pre501 _ ?_
          show own_s p e below T491 m 195 #[iv i0, iv i1, iv i2, iv i3, iv (1 : Int32), iv (0 : Int32), iv (1 : Int32), rv b448, iv (4 : Int32), iv (0 : Int32), iv (4 : Int32), iv (0 : Int32), iv (1 : Int32), rv r480, .unset, .unset] [(.int (2 : Int32)), (.ref r480)] _
          refine X492.baloadBytes hx (j := (2 : Int32)) (v := (.int (((i2.toUInt32 >>> ((8 : Int32) &&& 31).toUInt32).toInt32).toInt8.toInt32))) (by rw [e491]; exact Ar500.1) (State.isArrayOf_alike hZ.alike Ar500.2.1) Ar500.2.2 (own_inb S500 M500 (by decide)) (own_get H500 S500 (by decide) (show Value.int ((own_put (own_put (own_put (fun _ : Nat => (0 : Int32)) 0 i0) 4 i1) 8 i2) (8 + 2)) = Value.int (((i2.toUInt32 >>> ((8 : Int32) &&& 31).toUInt32).toInt32).toInt8.toInt32) from congrArg Value.int (((own_put_in (by decide) (by decide)).trans (congrArg (own_by i2) (show _ = 2 from by decide))).trans (show own_by i2 2 = (((i2.toUInt32 >>> ((8 : Int32) &&& 31).toUInt32).toInt32).toInt8.toInt32) from rfl)))) (g := (mkF m 195 #[iv i0, iv i1, iv i2, iv i3, iv (1 : Int32), iv (0 : Int32), iv (1 : Int32), rv b448, iv (4 : Int32), iv (0 : Int32), iv (4 : Int32), iv (0 : Int32), iv (1 : Int32), rv r480, .unset, .unset] [(.int (2 : Int32)), (.ref r480)])) rfl rfl (hb hby at_195) _ ?_
          refine XS.iloadN X492.here hx rfl (hb hby at_196) rfl ?_
          refine XS.bipush X492.here hx rfl (hb hby at_197) ?_
          show own_s p e below T491 m 199 #[iv i0, iv i1, iv i2, iv i3, iv (1 : Int32), iv (0 : Int32), iv (1 : Int32), rv b448, iv (4 : Int32), iv (0 : Int32), iv (4 : Int32), iv (0 : Int32), iv (1 : Int32), rv r480, .unset, .unset] [(.int (8 : Int32)), (.int i2), (.int (((i2.toUInt32 >>> ((8 : Int32) &&& 31).toUInt32).toInt32).toInt8.toInt32))] _
          refine XS.iushr X492.here hx rfl (hb hby at_199) rfl ?_
          refine XS.i2b X492.here hx rfl (hb hby at_200) rfl ?_
          refine XS.icmpNo X492.here hx rfl (hb hby at_201) rfl (teq (rfl : (((i2.toUInt32 >>> ((8 : Int32) &&& 31).toUInt32).toInt32).toInt8.toInt32) = (((i2.toUInt32 >>> ((8 : Int32) &&& 31).toUInt32).toInt32).toInt8.toInt32))).2 ?_
          show own_s p e below T491 m 204 #[iv i0, iv i1, iv i2, iv i3, iv (1 : Int32), iv (0 : Int32), iv (1 : Int32), rv b448, iv (4 : Int32), iv (0 : Int32), iv (4 : Int32), iv (0 : Int32), iv (1 : Int32), rv r480, .unset, .unset] [] _
          refine XS.aload X492.here hx rfl (hb hby at_204) rfl rfl ?_
          refine XS.iconst X492.here hx rfl (hb hby at_206) ?_
          exact kX
        obtain ⟨cl502, Ar502, S502, M502, H502⟩ := id fA480
        have pre504 : ∀ t, own_s p e below T491 m 231 #[iv i0, iv i1, iv i2, iv i3, iv (1 : Int32), iv (0 : Int32), iv (1 : Int32), rv b448, iv (4 : Int32), iv (0 : Int32), iv (4 : Int32), iv (0 : Int32), iv (1 : Int32), rv r480, .unset, .unset] [(.int (0 : Int32)), (.ref b448)] t → Steps p.tables e below S0 t := by
          intro tX kX
          refine pre503 _ ?_
          show own_s p e below T491 m 207 #[iv i0, iv i1, iv i2, iv i3, iv (1 : Int32), iv (0 : Int32), iv (1 : Int32), rv b448, iv (4 : Int32), iv (0 : Int32), iv (4 : Int32), iv (0 : Int32), iv (1 : Int32), rv r480, .unset, .unset] [(.int (3 : Int32)), (.ref r480)] _
          refine X492.baloadBytes hx (j := (3 : Int32)) (v := (.int (i2.toInt8.toInt32))) (by rw [e491]; exact Ar502.1) (State.isArrayOf_alike hZ.alike Ar502.2.1) Ar502.2.2 (own_inb S502 M502 (by decide)) (own_get H502 S502 (by decide) (show Value.int ((own_put (own_put (own_put (fun _ : Nat => (0 : Int32)) 0 i0) 4 i1) 8 i2) (8 + 3)) = Value.int (i2.toInt8.toInt32) from congrArg Value.int (((own_put_in (by decide) (by decide)).trans (congrArg (own_by i2) (show _ = 3 from by decide))).trans (show own_by i2 3 = (i2.toInt8.toInt32) from rfl)))) (g := (mkF m 207 #[iv i0, iv i1, iv i2, iv i3, iv (1 : Int32), iv (0 : Int32), iv (1 : Int32), rv b448, iv (4 : Int32), iv (0 : Int32), iv (4 : Int32), iv (0 : Int32), iv (1 : Int32), rv r480, .unset, .unset] [(.int (3 : Int32)), (.ref r480)])) rfl rfl (hb hby at_207) _ ?_
          refine XS.iloadN X492.here hx rfl (hb hby at_208) rfl ?_
          refine XS.i2b X492.here hx rfl (hb hby at_209) rfl ?_
          show own_s p e below T491 m 210 #[iv i0, iv i1, iv i2, iv i3, iv (1 : Int32), iv (0 : Int32), iv (1 : Int32), rv b448, iv (4 : Int32), iv (0 : Int32), iv (4 : Int32), iv (0 : Int32), iv (1 : Int32), rv r480, .unset, .unset] [(.int (i2.toInt8.toInt32)), (.int (i2.toInt8.toInt32))] _
          refine XS.icmpNo X492.here hx rfl (hb hby at_210) rfl (teq (rfl : (i2.toInt8.toInt32) = (i2.toInt8.toInt32))).2 ?_
          refine XS.iconst X492.here hx rfl (hb hby at_213) ?_
          refine XS.goto X492.here hx rfl (pc0 := 214) (pc' := 218) rfl (hb hby at_214) (by decide) (by decide) ?_
          show own_s p e below T491 m 218 #[iv i0, iv i1, iv i2, iv i3, iv (1 : Int32), iv (0 : Int32), iv (1 : Int32), rv b448, iv (4 : Int32), iv (0 : Int32), iv (4 : Int32), iv (0 : Int32), iv (1 : Int32), rv r480, .unset, .unset] [(.int (1 : Int32))] _
          refine XS.istore X492.here hx rfl (hb hby at_218) rfl (l' := #[iv i0, iv i1, iv i2, iv i3, iv (1 : Int32), iv (0 : Int32), iv (1 : Int32), rv b448, iv (4 : Int32), iv (0 : Int32), iv (4 : Int32), iv (0 : Int32), iv (1 : Int32), rv r480, .unset, .unset]) rfl ?_
          refine XS.iload X492.here hx rfl (hb hby at_220) rfl ?_
          refine XS.ifYes X492.here hx rfl (pc0 := 222) (pc' := 227) rfl (hb hby at_222) rfl ((if0 _ _).trans (feq (by decide : ¬ ((1 : Int32) = (0 : Int32)))).2) (by decide) (by decide) ?_
          show own_s p e below T491 m 227 #[iv i0, iv i1, iv i2, iv i3, iv (1 : Int32), iv (0 : Int32), iv (1 : Int32), rv b448, iv (4 : Int32), iv (0 : Int32), iv (4 : Int32), iv (0 : Int32), iv (1 : Int32), rv r480, .unset, .unset] [] _
          refine XS.aload X492.here hx rfl (hb hby at_227) rfl rfl ?_
          refine XS.iload X492.here hx rfl (hb hby at_229) rfl ?_
          exact kX
        obtain ⟨cq505, kq505, q505a, q505b, q505c⟩ := isOf hZ e491 f483_E
        obtain ⟨_, _, ⟨T505, L505, k505, n505⟩, -, X505, ⟨Lc505, hQ505, l505, y505, z505⟩, st505⟩ := X492.virtualBack hx (y := (⟨"com/example/farcall/farcall/io/XdrEncoder", "endPart", "(I)V"⟩ : MethodName)) (z := (⟨"com/example/farcall/farcall/io/XdrEncoder", "endPart", "(I)V"⟩ : MethodName)) hown (mvT hZ (hw _ (List.mem_of_getElem? (i := 64) rfl))) (mvT hZ (hw _ (List.mem_of_getElem? (i := 65) rfl))) (notFace_of_selects (args := #[]) (mvT hZ (hw _ (List.mem_of_getElem? (i := 67) rfl)))) (mvT hZ (hw _ (List.mem_of_getElem? (i := 67) rfl))) (mvT hZ (hw _ (List.mem_of_getElem? (i := 66) rfl))) (by decide) (backOf (W := 0) (rm11 l Z a0 hw [] b448 (0 : Int32) bb456 ((own_put (own_put (own_put (fun _ : Nat => (0 : Int32)) 0 i0) 4 i1) 8 i2)) 8 12 0 T480.heap n0 Z480 f483_E f484_F f485_F f486_F f487_A ne_ab476 fg476 g_a476 g_b476 rfl (by decide) (by decide)) hZ (hw _ (List.mem_of_getElem? (i := 68) rfl)) (hw _ (List.mem_of_getElem? (i := 2) rfl)) (by decide) (by decide)) q505a q505c (g := (mkF m 231 #[iv i0, iv i1, iv i2, iv i3, iv (1 : Int32), iv (0 : Int32), iv (1 : Int32), rv b448, iv (4 : Int32), iv (0 : Int32), iv (4 : Int32), iv (0 : Int32), iv (1 : Int32), rv r480, .unset, .unset] [(.int (0 : Int32)), (.ref b448)])) rfl (by rw [hml]; rfl) (Steps.refl _) (argsL := [(.int (0 : Int32))]) (rest := []) (lenOf pd0_4 rfl) rfl (by show 2 * 0 + _ ≤ _; exact Nat.le_of_eq rfl) (hb hby at_231) (fun _ _ => ⟨rfl, e491, (by decide : 3 + 0 ≤ _), (by decide : 132 + 0 ≤ _)⟩)
        dsimp only [Pt.U, Pt.locs, Pt.cells, Pt.slots] at X505 l505 y505 z505 st505 hQ505
        subst l505 y505 z505
        obtain ⟨rfl, Nq505, Kq505, E_a505, F_buf505, F_sta505, F_end505, A_b505, ne_ab505, fg505, g_a505, g_b505⟩ := hQ505
        have N505 := Fr.app N492 Nq505
        have e505 : T505.heap = T505.heap := rfl
        have Z505 : n0 ≤ T505.heap.size := Nat.le_trans Z480 Kq505.1
        have f506_A : own_Af Z T505.heap r480 .byte 4 (fun j => .int ((own_put (own_put (own_put (fun _ : Nat => (0 : Int32)) 0 i0) 4 i1) 8 i2) (8 + j))) := fA480.keep Kq505 (ninS (Ne.symm ne481) (nin0))
        obtain ⟨LL507, X507, N507⟩ : ∃ LL, Stand p l e room_1 s m #[(.int i0), (.int i1), (.int i2), (.int i3)] below meth c T505 LL 3 132 ∧ Fr n0 LL := ⟨_, X505, N505⟩
        have pre508 : ∀ t, own_s p e below T505 m 234 #[iv i0, iv i1, iv i2, iv i3, iv (1 : Int32), iv (0 : Int32), iv (1 : Int32), rv b448, iv (4 : Int32), iv (0 : Int32), iv (4 : Int32), iv (0 : Int32), iv (1 : Int32), rv r480, .unset, .unset] [] t → Steps p.tables e below S0 t := fun tX kX => pre504 _ (st505.trans kX)
        have pre509 : ∀ t, own_s p e below T505 m 257 #[iv i0, iv i1, iv i2, iv i3, iv (1 : Int32), iv (0 : Int32), iv (1 : Int32), rv b448, iv (4 : Int32), iv (0 : Int32), iv (4 : Int32), iv (0 : Int32), iv (1 : Int32), rv r480, iv (12 : Int32), .unset] [(.ref b448)] t → Steps p.tables e below S0 t := by
          intro tX kX
          refine pre508 _ ?_
          show own_s p e below T505 m 234 #[iv i0, iv i1, iv i2, iv i3, iv (1 : Int32), iv (0 : Int32), iv (1 : Int32), rv b448, iv (4 : Int32), iv (0 : Int32), iv (4 : Int32), iv (0 : Int32), iv (1 : Int32), rv r480, .unset, .unset] [] _
          refine XS.iload X507.here hx rfl (hb hby at_234) rfl ?_
          refine XS.ifYes X507.here hx rfl (pc0 := 236) (pc' := 246) rfl (hb hby at_236) rfl ((if0 _ _).trans (teq (by decide : (0 : Int32) = (0 : Int32))).1) (by decide) (by decide) ?_
          refine XS.iload X507.here hx rfl (hb hby at_246) rfl ?_
          show own_s p e below T505 m 248 #[iv i0, iv i1, iv i2, iv i3, iv (1 : Int32), iv (0 : Int32), iv (1 : Int32), rv b448, iv (4 : Int32), iv (0 : Int32), iv (4 : Int32), iv (0 : Int32), iv (1 : Int32), rv r480, .unset, .unset] [(.int (4 : Int32))] _
          refine XS.iload X507.here hx rfl (hb hby at_248) rfl ?_
          refine XS.iadd X507.here hx rfl (hb hby at_250) rfl ?_
          refine XS.iconst X507.here hx rfl (hb hby at_251) ?_
          show own_s p e below T505 m 252 #[iv i0, iv i1, iv i2, iv i3, iv (1 : Int32), iv (0 : Int32), iv (1 : Int32), rv b448, iv (4 : Int32), iv (0 : Int32), iv (4 : Int32), iv (0 : Int32), iv (1 : Int32), rv r480, .unset, .unset] [(.int (4 : Int32)), (.int (8 : Int32))] _
          refine XS.iadd X507.here hx rfl (hb hby at_252) rfl ?_
          refine XS.istore X507.here hx rfl (hb hby at_253) rfl (l' := #[iv i0, iv i1, iv i2, iv i3, iv (1 : Int32), iv (0 : Int32), iv (1 : Int32), rv b448, iv (4 : Int32), iv (0 : Int32), iv (4 : Int32), iv (0 : Int32), iv (1 : Int32), rv r480, iv (12 : Int32), .unset]) rfl ?_
          refine XS.aload X507.here hx rfl (hb hby at_255) rfl rfl ?_
          exact kX
        obtain ⟨cq510, kq510, q510a, q510b, q510c⟩ := isOf hZ e505 E_a505
        obtain ⟨_, _, ⟨T510, L510, k510, n510⟩, -, X510, ⟨Lc510, hQ510, l510, y510, z510⟩, st510⟩ := X507.virtualBack hx (y := (⟨"com/example/farcall/farcall/io/XdrEncoder", "size", "()I"⟩ : MethodName)) (z := (⟨"com/example/farcall/farcall/io/XdrEncoder", "size", "()I"⟩ : MethodName)) hown (mvT hZ (hw _ (List.mem_of_getElem? (i := 40) rfl))) (mvT hZ (hw _ (List.mem_of_getElem? (i := 24) rfl))) (notFace_of_selects (args := #[]) (mvT hZ (hw _ (List.mem_of_getElem? (i := 26) rfl)))) (mvT hZ (hw _ (List.mem_of_getElem? (i := 26) rfl))) (mvT hZ (hw _ (List.mem_of_getElem? (i := 25) rfl))) (by decide) (backOf (W := 0) (rm6 l Z a0 hw [] b448 bb456 ((own_put (own_put (own_put (fun _ : Nat => (0 : Int32)) 0 i0) 4 i1) 8 i2)) 0 12 T505.heap n0 Z505 E_a505 F_buf505 F_sta505 F_end505 A_b505 ne_ab505 fg505 g_a505 g_b505 (by decide) (by decide)) hZ (hw _ (List.mem_of_getElem? (i := 27) rfl)) (hw _ (List.mem_of_getElem? (i := 2) rfl)) (by decide) (by decide)) q510a q510c (g := (mkF m 257 #[iv i0, iv i1, iv i2, iv i3, iv (1 : Int32), iv (0 : Int32), iv (1 : Int32), rv b448, iv (4 : Int32), iv (0 : Int32), iv (4 : Int32), iv (0 : Int32), iv (1 : Int32), rv r480, iv (12 : Int32), .unset] [(.ref b448)])) rfl (by rw [hml]; rfl) (Steps.refl _) (argsL := []) (rest := []) (lenOf pd0_1 rfl) rfl (by show 2 * 0 + _ ≤ _; exact Nat.le_of_eq rfl) (hb hby at_257) (fun _ _ => ⟨rfl, e505, (by decide : 3 + 0 ≤ _), (by decide : 132 + 0 ≤ _)⟩)
        dsimp only [Pt.U, Pt.locs, Pt.cells, Pt.slots] at X510 l510 y510 z510 st510 hQ510
        subst l510 y510 z510
        obtain ⟨rfl, Nq510, e510⟩ := hQ510
        have N510 := Fr.app N507 Nq510
        obtain ⟨LL511, X511, N511⟩ : ∃ LL, Stand p l e room_1 s m #[(.int i0), (.int i1), (.int i2), (.int i3)] below meth c T510 LL 3 132 ∧ Fr n0 LL := ⟨_, X510, N510⟩
        have pre512 : ∀ t, own_s p e below T510 m 260 #[iv i0, iv i1, iv i2, iv i3, iv (1 : Int32), iv (0 : Int32), iv (1 : Int32), rv b448, iv (4 : Int32), iv (0 : Int32), iv (4 : Int32), iv (0 : Int32), iv (1 : Int32), rv r480, iv (12 : Int32), .unset] [(.int (12 : Int32))] t → Steps p.tables e below S0 t := fun tX kX => pre509 _ (st510.trans kX)
        have pre513 : ∀ t, own_s p e below T510 m 366 #[iv i0, iv i1, iv i2, iv i3, iv (1 : Int32), iv (0 : Int32), iv (1 : Int32), rv b448, iv (4 : Int32), iv (0 : Int32), iv (4 : Int32), iv (0 : Int32), iv (1 : Int32), rv r480, iv (12 : Int32), .unset] [(.ref b448)] t → Steps p.tables e below S0 t := by
          intro tX kX
          refine pre512 _ ?_
          show own_s p e below T510 m 260 #[iv i0, iv i1, iv i2, iv i3, iv (1 : Int32), iv (0 : Int32), iv (1 : Int32), rv b448, iv (4 : Int32), iv (0 : Int32), iv (4 : Int32), iv (0 : Int32), iv (1 : Int32), rv r480, iv (12 : Int32), .unset] [(.int (12 : Int32))] _
          refine XS.iload X511.here hx rfl (hb hby at_260) rfl ?_
          refine XS.icmpNo X511.here hx rfl (hb hby at_262) rfl (teq (by decide : (12 : Int32) = (12 : Int32))).2 ?_
          refine XS.iconst X511.here hx rfl (hb hby at_265) ?_
          show own_s p e below T510 m 266 #[iv i0, iv i1, iv i2, iv i3, iv (1 : Int32), iv (0 : Int32), iv (1 : Int32), rv b448, iv (4 : Int32), iv (0 : Int32), iv (4 : Int32), iv (0 : Int32), iv (1 : Int32), rv r480, iv (12 : Int32), .unset] [(.int (1 : Int32))] _
          refine XS.goto X511.here hx rfl (pc0 := 266) (pc' := 270) rfl (hb hby at_266) (by decide) (by decide) ?_
          refine XS.istore X511.here hx rfl (hb hby at_270) rfl (l' := #[iv i0, iv i1, iv i2, iv i3, iv (1 : Int32), iv (0 : Int32), iv (1 : Int32), rv b448, iv (4 : Int32), iv (0 : Int32), iv (4 : Int32), iv (0 : Int32), iv (1 : Int32), rv r480, iv (12 : Int32), .unset]) rfl ?_
          refine XS.iload X511.here hx rfl (hb hby at_272) rfl ?_
          show own_s p e below T510 m 274 #[iv i0, iv i1, iv i2, iv i3, iv (1 : Int32), iv (0 : Int32), iv (1 : Int32), rv b448, iv (4 : Int32), iv (0 : Int32), iv (4 : Int32), iv (0 : Int32), iv (1 : Int32), rv r480, iv (12 : Int32), .unset] [(.int (0 : Int32))] _
          refine XS.ifYes X511.here hx rfl (pc0 := 274) (pc' := 340) rfl (hb hby at_274) rfl ((if0 _ _).trans (teq (by decide : (0 : Int32) = (0 : Int32))).1) (by decide) (by decide) ?_
          refine XS.iload X511.here hx rfl (hb hby at_340) rfl ?_
          refine XS.ifNo X511.here hx rfl (hb hby at_342) rfl ((if0 _ _).trans (feq (by decide : ¬ ((1 : Int32) = (0 : Int32)))).1) ?_
          show own_s p e below T510 m 345 #[iv i0, iv i1, iv i2, iv i3, iv (1 : Int32), iv (0 : Int32), iv (1 : Int32), rv b448, iv (4 : Int32), iv (0 : Int32), iv (4 : Int32), iv (0 : Int32), iv (1 : Int32), rv r480, iv (12 : Int32), .unset] [] _
          refine XS.iload X511.here hx rfl (hb hby at_345) rfl ?_
          refine XS.ifNo X511.here hx rfl (hb hby at_347) rfl ((if0 _ _).trans (teq (by decide : (0 : Int32) = (0 : Int32))).2) ?_
          refine XS.iconst X511.here hx rfl (hb hby at_350) ?_
          show own_s p e below T510 m 351 #[iv i0, iv i1, iv i2, iv i3, iv (1 : Int32), iv (0 : Int32), iv (1 : Int32), rv b448, iv (4 : Int32), iv (0 : Int32), iv (4 : Int32), iv (0 : Int32), iv (1 : Int32), rv r480, iv (12 : Int32), .unset] [(.int (1 : Int32))] _
          refine XS.goto X511.here hx rfl (pc0 := 351) (pc' := 355) rfl (hb hby at_351) (by decide) (by decide) ?_
          refine XS.istore X511.here hx rfl (hb hby at_355) rfl (l' := #[iv i0, iv i1, iv i2, iv i3, iv (1 : Int32), iv (0 : Int32), iv (1 : Int32), rv b448, iv (4 : Int32), iv (0 : Int32), iv (4 : Int32), iv (0 : Int32), iv (1 : Int32), rv r480, iv (12 : Int32), .unset]) rfl ?_
          refine XS.iload X511.here hx rfl (hb hby at_357) rfl ?_
          show own_s p e below T510 m 359 #[iv i0, iv i1, iv i2, iv i3, iv (1 : Int32), iv (0 : Int32), iv (1 : Int32), rv b448, iv (4 : Int32), iv (0 : Int32), iv (4 : Int32), iv (0 : Int32), iv (1 : Int32), rv r480, iv (12 : Int32), .unset] [(.int (1 : Int32))] _
          refine XS.ifYes X511.here hx rfl (pc0 := 359) (pc' := 364) rfl (hb hby at_359) rfl ((if0 _ _).trans (feq (by decide : ¬ ((1 : Int32) = (0 : Int32)))).2) (by decide) (by decide) ?_
          refine XS.aload X511.here hx rfl (hb hby at_364) rfl rfl ?_
          exact kX
        obtain ⟨cq514, kq514, q514a, q514b, q514c⟩ := isOf hZ e510 E_a505
        obtain ⟨_, _, ⟨T514, L514, k514, n514⟩, -, X514, ⟨Lc514, hQ514, l514, y514, z514⟩, st514⟩ := X511.virtualBack hx (y := (⟨"com/example/farcall/farcall/io/XdrEncoder", "toByteArray", "()[B"⟩ : MethodName)) (z := (⟨"com/example/farcall/farcall/io/XdrEncoder", "toByteArray", "()[B"⟩ : MethodName)) hown (mvT hZ (hw _ (List.mem_of_getElem? (i := 41) rfl))) (mvT hZ (hw _ (List.mem_of_getElem? (i := 42) rfl))) (notFace_of_selects (args := #[]) (mvT hZ (hw _ (List.mem_of_getElem? (i := 44) rfl)))) (mvT hZ (hw _ (List.mem_of_getElem? (i := 44) rfl))) (mvT hZ (hw _ (List.mem_of_getElem? (i := 43) rfl))) (by decide) (backOf (W := 0) (rm5 l Z a0 hw [] b448 bb456 ((own_put (own_put (own_put (fun _ : Nat => (0 : Int32)) 0 i0) 4 i1) 8 i2)) 0 12 T505.heap n0 Z505 E_a505 F_buf505 F_sta505 F_end505 A_b505 ne_ab505 fg505 g_a505 g_b505 (by decide) (by decide) (by decide)) hZ (hw _ (List.mem_of_getElem? (i := 45) rfl)) (hw _ (List.mem_of_getElem? (i := 2) rfl)) (by decide) (by decide)) q514a q514c (g := (mkF m 366 #[iv i0, iv i1, iv i2, iv i3, iv (1 : Int32), iv (0 : Int32), iv (1 : Int32), rv b448, iv (4 : Int32), iv (0 : Int32), iv (4 : Int32), iv (0 : Int32), iv (1 : Int32), rv r480, iv (12 : Int32), .unset] [(.ref b448)])) rfl (by rw [hml]; rfl) (Steps.refl _) (argsL := []) (rest := []) (lenOf pd0_3 rfl) rfl (by show 2 * 0 + _ ≤ _; exact Nat.le_of_eq rfl) (hb hby at_366) (fun _ _ => ⟨rfl, e510, (by decide : 3 + 1 ≤ _), (by decide : 132 + 64 ≤ _)⟩)
        dsimp only [Pt.U, Pt.locs, Pt.cells, Pt.slots] at X514 l514 y514 z514 st514 hQ514
        subst l514 y514 z514
        obtain ⟨r514, rfl, Nq514, Kq514, sz_r514, g_r514, fA514⟩ := hQ514
        have N514 := Fr.app N511 Nq514
        have e514 : T514.heap = T514.heap := rfl
        have Z514 : n0 ≤ T514.heap.size := Nat.le_trans Z505 Kq514.1
        have ne515 : b448 ≠ r514 := Nat.ne_of_lt (Nat.lt_of_lt_of_le E_a505.lt sz_r514)
        have ne516 : bb456 ≠ r514 := Nat.ne_of_lt (Nat.lt_of_lt_of_le A_b505.lt sz_r514)
        have ne517 : r480 ≠ r514 := Nat.ne_of_lt (Nat.lt_of_lt_of_le f506_A.lt sz_r514)
        have f518_E : Exa Z T514.heap b448 "com/example/farcall/farcall/io/XdrEncoder" := E_a505.keep Kq514
        have f519_F : Fld Z T514.heap b448 "com/example/farcall/farcall/io/XdrEncoder" "buffer" "[B" (.ref bb456) := F_buf505.keep Kq514 nin0
        have f520_F : Fld Z T514.heap b448 "com/example/farcall/farcall/io/XdrEncoder" "start" "I" (.int (Int32.ofNat 0)) := F_sta505.keep Kq514 nin0
        have f521_F : Fld Z T514.heap b448 "com/example/farcall/farcall/io/XdrEncoder" "end" "I" (.int (Int32.ofNat 12)) := F_end505.keep Kq514 nin0
        have f522_A : own_Af Z T514.heap bb456 .byte 64 (fun j => .int ((own_put (own_put (own_put (fun _ : Nat => (0 : Int32)) 0 i0) 4 i1) 8 i2) j)) := A_b505.keep Kq514 nin0
        have f523_A : own_Af Z T514.heap r480 .byte 4 (fun j => .int ((own_put (own_put (own_put (fun _ : Nat => (0 : Int32)) 0 i0) 4 i1) 8 i2) (8 + j))) := f506_A.keep Kq514 nin0
        obtain ⟨LL524, X524, N524⟩ : ∃ LL, Stand p l e room_1 s m #[(.int i0), (.int i1), (.int i2), (.int i3)] below meth c T514 LL 4 196 ∧ Fr n0 LL := ⟨_, X514, N514⟩
        have pre525 : ∀ t, own_s p e below T514 m 369 #[iv i0, iv i1, iv i2, iv i3, iv (1 : Int32), iv (0 : Int32), iv (1 : Int32), rv b448, iv (4 : Int32), iv (0 : Int32), iv (4 : Int32), iv (0 : Int32), iv (1 : Int32), rv r480, iv (12 : Int32), .unset] [(.ref r514)] t → Steps p.tables e below S0 t := fun tX kX => pre513 _ (st514.trans kX)
        have pre527 : ∀ t, own_s p e below T514 m 373 #[iv i0, iv i1, iv i2, iv i3, iv (1 : Int32), iv (0 : Int32), iv (1 : Int32), rv b448, iv (4 : Int32), iv (0 : Int32), iv (4 : Int32), iv (0 : Int32), iv (1 : Int32), rv r480, iv (12 : Int32), rv r514] [(.ref r514)] t → Steps p.tables e below S0 t := by
          intro tX kX
          refine pre525 _ ?_
          show own_s p e below T514 m 369 #[iv i0, iv i1, iv i2, iv i3, iv (1 : Int32), iv (0 : Int32), iv (1 : Int32), rv b448, iv (4 : Int32), iv (0 : Int32), iv (4 : Int32), iv (0 : Int32), iv (1 : Int32), rv r480, iv (12 : Int32), .unset] [(.ref r514)] _
          refine XS.astore X524.here hx rfl (hb hby at_369) rfl rfl (l' := #[iv i0, iv i1, iv i2, iv i3, iv (1 : Int32), iv (0 : Int32), iv (1 : Int32), rv b448, iv (4 : Int32), iv (0 : Int32), iv (4 : Int32), iv (0 : Int32), iv (1 : Int32), rv r480, iv (12 : Int32), rv r514]) rfl ?_
          refine XS.aload X524.here hx rfl (hb hby at_371) rfl rfl ?_
          exact kX
        obtain ⟨cl526, Ar526, S526, M526, H526⟩ := id fA514
        have pre529 : ∀ t, own_s p e below T514 m 395 #[iv i0, iv i1, iv i2, iv i3, iv (1 : Int32), iv (0 : Int32), iv (1 : Int32), rv b448, iv (4 : Int32), iv (0 : Int32), iv (4 : Int32), iv (0 : Int32), iv (1 : Int32), rv r480, iv (12 : Int32), rv r514] [(.int (11 : Int32)), (.ref r514)] t → Steps p.tables e below S0 t := by
          intro tX kX
          refine pre527 _ ?_
          show own_s p e below T514 m 373 #[iv i0, iv i1, iv i2, iv i3, iv (1 : Int32), iv (0 : Int32), iv (1 : Int32), rv b448, iv (4 : Int32), iv (0 : Int32), iv (4 : Int32), iv (0 : Int32), iv (1 : Int32), rv r480, iv (12 : Int32), rv r514] [(.ref r514)] _
          refine X524.arraylength hx (by rw [e514]; exact Ar526.1) (State.isArrayOf_alike hZ.alike Ar526.2.1) (g := (mkF m 373 #[iv i0, iv i1, iv i2, iv i3, iv (1 : Int32), iv (0 : Int32), iv (1 : Int32), rv b448, iv (4 : Int32), iv (0 : Int32), iv (4 : Int32), iv (0 : Int32), iv (1 : Int32), rv r480, iv (12 : Int32), rv r514] [(.ref r514)])) rfl rfl (hb hby at_373) _ ?_
          rw [show cl526.slots.size.toInt32 = (12 : Int32) from by rw [S526]; exact rfl]
          refine XS.iload X524.here hx rfl (hb hby at_374) rfl ?_
          refine XS.iload X524.here hx rfl (hb hby at_376) rfl ?_
          show own_s p e below T514 m 378 #[iv i0, iv i1, iv i2, iv i3, iv (1 : Int32), iv (0 : Int32), iv (1 : Int32), rv b448, iv (4 : Int32), iv (0 : Int32), iv (4 : Int32), iv (0 : Int32), iv (1 : Int32), rv r480, iv (12 : Int32), rv r514] [(.int (4 : Int32)), (.int (4 : Int32)), (.int (12 : Int32))] _
          refine XS.iadd X524.here hx rfl (hb hby at_378) rfl ?_
          refine XS.iconst X524.here hx rfl (hb hby at_379) ?_
          refine XS.iadd X524.here hx rfl (hb hby at_380) rfl ?_
          show own_s p e below T514 m 381 #[iv i0, iv i1, iv i2, iv i3, iv (1 : Int32), iv (0 : Int32), iv (1 : Int32), rv b448, iv (4 : Int32), iv (0 : Int32), iv (4 : Int32), iv (0 : Int32), iv (1 : Int32), rv r480, iv (12 : Int32), rv r514] [(.int (12 : Int32)), (.int (12 : Int32))] _
          refine XS.icmpYes X524.here hx rfl (pc0 := 381) (pc' := 386) rfl (hb hby at_381) rfl (teq (by decide : (12 : Int32) = (12 : Int32))).1 (by decide) (by decide) ?_
          refine XS.aload X524.here hx rfl (hb hby at_386) rfl rfl ?_
          refine XS.iload X524.here hx rfl (hb hby at_388) rfl ?_
          show own_s p e below T514 m 390 #[iv i0, iv i1, iv i2, iv i3, iv (1 : Int32), iv (0 : Int32), iv (1 : Int32), rv b448, iv (4 : Int32), iv (0 : Int32), iv (4 : Int32), iv (0 : Int32), iv (1 : Int32), rv r480, iv (12 : Int32), rv r514] [(.int (4 : Int32)), (.ref r514)] _
          refine XS.iload X524.here hx rfl (hb hby at_390) rfl ?_
          refine XS.iadd X524.here hx rfl (hb hby at_392) rfl ?_
          refine XS.iconst X524.here hx rfl (hb hby at_393) ?_
          show own_s p e below T514 m 394 #[iv i0, iv i1, iv i2, iv i3, iv (1 : Int32), iv (0 : Int32), iv (1 : Int32), rv b448, iv (4 : Int32), iv (0 : Int32), iv (4 : Int32), iv (0 : Int32), iv (1 : Int32), rv r480, iv (12 : Int32), rv r514] [(.int (3 : Int32)), (.int (8 : Int32)), (.ref r514)] _
          refine XS.iadd X524.here hx rfl (hb hby at_394) rfl ?_
          exact kX
        obtain ⟨cl528, Ar528, S528, M528, H528⟩ := id fA514
        have pre531 : ∀ t, own_s p e below T514 m 408 #[iv i0, iv i1, iv i2, iv i3, iv (1 : Int32), iv (0 : Int32), iv (1 : Int32), rv b448, iv (4 : Int32), iv (0 : Int32), iv (4 : Int32), iv (0 : Int32), iv (1 : Int32), rv r480, iv (12 : Int32), rv r514] [(.int (8 : Int32)), (.ref r514)] t → Steps p.tables e below S0 t := by
          intro tX kX
          refine pre529 _ ?_
          show own_s p e below T514 m 395 #[iv i0, iv i1, iv i2, iv i3, iv (1 : Int32), iv (0 : Int32), iv (1 : Int32), rv b448, iv (4 : Int32), iv (0 : Int32), iv (4 : Int32), iv (0 : Int32), iv (1 : Int32), rv r480, iv (12 : Int32), rv r514] [(.int (11 : Int32)), (.ref r514)] _
          refine X524.baloadBytes hx (j := (11 : Int32)) (v := (.int (i2.toInt8.toInt32))) (by rw [e514]; exact Ar528.1) (State.isArrayOf_alike hZ.alike Ar528.2.1) Ar528.2.2 (own_inb S528 M528 (by decide)) (own_get H528 S528 (by decide) (show Value.int ((own_put (own_put (own_put (fun _ : Nat => (0 : Int32)) 0 i0) 4 i1) 8 i2) (0 + 11)) = Value.int (i2.toInt8.toInt32) from congrArg Value.int (((own_put_in (by decide) (by decide)).trans (congrArg (own_by i2) (show _ = 3 from by decide))).trans (show own_by i2 3 = (i2.toInt8.toInt32) from rfl)))) (g := (mkF m 395 #[iv i0, iv i1, iv i2, iv i3, iv (1 : Int32), iv (0 : Int32), iv (1 : Int32), rv b448, iv (4 : Int32), iv (0 : Int32), iv (4 : Int32), iv (0 : Int32), iv (1 : Int32), rv r480, iv (12 : Int32), rv r514] [(.int (11 : Int32)), (.ref r514)])) rfl rfl (hb hby at_395) _ ?_
          refine XS.iloadN X524.here hx rfl (hb hby at_396) rfl ?_
          refine XS.i2b X524.here hx rfl (hb hby at_397) rfl ?_
          show own_s p e below T514 m 398 #[iv i0, iv i1, iv i2, iv i3, iv (1 : Int32), iv (0 : Int32), iv (1 : Int32), rv b448, iv (4 : Int32), iv (0 : Int32), iv (4 : Int32), iv (0 : Int32), iv (1 : Int32), rv r480, iv (12 : Int32), rv r514] [(.int (i2.toInt8.toInt32)), (.int (i2.toInt8.toInt32))] _
          refine XS.icmpNo X524.here hx rfl (hb hby at_398) rfl (teq (rfl : (i2.toInt8.toInt32) = (i2.toInt8.toInt32))).2 ?_
          refine XS.aload X524.here hx rfl (hb hby at_401) rfl rfl ?_
          refine XS.iload X524.here hx rfl (hb hby at_403) rfl ?_
          show own_s p e below T514 m 405 #[iv i0, iv i1, iv i2, iv i3, iv (1 : Int32), iv (0 : Int32), iv (1 : Int32), rv b448, iv (4 : Int32), iv (0 : Int32), iv (4 : Int32), iv (0 : Int32), iv (1 : Int32), rv r480, iv (12 : Int32), rv r514] [(.int (4 : Int32)), (.ref r514)] _
          refine XS.iload X524.here hx rfl (hb hby at_405) rfl ?_
          refine XS.iadd X524.here hx rfl (hb hby at_407) rfl ?_
          exact kX
        obtain ⟨cl530, Ar530, S530, M530, H530⟩ := id fA514
        have pre533 : ∀ t, own_s p e below T514 m 427 #[iv i0, iv i1, iv i2, iv i3, iv (1 : Int32), iv (0 : Int32), iv (1 : Int32), rv b448, iv (4 : Int32), iv (0 : Int32), iv (4 : Int32), iv (0 : Int32), iv (1 : Int32), rv r480, iv (12 : Int32), rv r514] [(.int (0 : Int32)), (.ref r514)] t → Steps p.tables e below S0 t := by
          intro tX kX
          refine pre531 _ ?_
          show own_s p e below T514 m 408 #[iv i0, iv i1, iv i2, iv i3, iv (1 : Int32), iv (0 : Int32), iv (1 : Int32), rv b448, iv (4 : Int32), iv (0 : Int32), iv (4 : Int32), iv (0 : Int32), iv (1 : Int32), rv r480, iv (12 : Int32), rv r514] [(.int (8 : Int32)), (.ref r514)] _
          refine X524.baloadBytes hx (j := (8 : Int32)) (v := (.int (((i2.toUInt32 >>> ((24 : Int32) &&& 31).toUInt32).toInt32).toInt8.toInt32))) (by rw [e514]; exact Ar530.1) (State.isArrayOf_alike hZ.alike Ar530.2.1) Ar530.2.2 (own_inb S530 M530 (by decide)) (own_get H530 S530 (by decide) (show Value.int ((own_put (own_put (own_put (fun _ : Nat => (0 : Int32)) 0 i0) 4 i1) 8 i2) (0 + 8)) = Value.int (((i2.toUInt32 >>> ((24 : Int32) &&& 31).toUInt32).toInt32).toInt8.toInt32) from congrArg Value.int (((own_put_in (by decide) (by decide)).trans (congrArg (own_by i2) (show _ = 0 from by decide))).trans (show own_by i2 0 = (((i2.toUInt32 >>> ((24 : Int32) &&& 31).toUInt32).toInt32).toInt8.toInt32) from rfl)))) (g := (mkF m 408 #[iv i0, iv i1, iv i2, iv i3, iv (1 : Int32), iv (0 : Int32), iv (1 : Int32), rv b448, iv (4 : Int32), iv (0 : Int32), iv (4 : Int32), iv (0 : Int32), iv (1 : Int32), rv r480, iv (12 : Int32), rv r514] [(.int (8 : Int32)), (.ref r514)])) rfl rfl (hb hby at_408) _ ?_
          refine XS.iloadN X524.here hx rfl (hb hby at_409) rfl ?_
          refine XS.bipush X524.here hx rfl (hb hby at_410) ?_
          show own_s p e below T514 m 412 #[iv i0, iv i1, iv i2, iv i3, iv (1 : Int32), iv (0 : Int32), iv (1 : Int32), rv b448, iv (4 : Int32), iv (0 : Int32), iv (4 : Int32), iv (0 : Int32), iv (1 : Int32), rv r480, iv (12 : Int32), rv r514] [(.int (24 : Int32)), (.int i2), (.int (((i2.toUInt32 >>> ((24 : Int32) &&& 31).toUInt32).toInt32).toInt8.toInt32))] _
          refine XS.iushr X524.here hx rfl (hb hby at_412) rfl ?_
          refine XS.i2b X524.here hx rfl (hb hby at_413) rfl ?_
          refine XS.icmpYes X524.here hx rfl (pc0 := 414) (pc' := 419) rfl (hb hby at_414) rfl (teq (rfl : (((i2.toUInt32 >>> ((24 : Int32) &&& 31).toUInt32).toInt32).toInt8.toInt32) = (((i2.toUInt32 >>> ((24 : Int32) &&& 31).toUInt32).toInt32).toInt8.toInt32))).1 (by decide) (by decide) ?_
          show own_s p e below T514 m 419 #[iv i0, iv i1, iv i2, iv i3, iv (1 : Int32), iv (0 : Int32), iv (1 : Int32), rv b448, iv (4 : Int32), iv (0 : Int32), iv (4 : Int32), iv (0 : Int32), iv (1 : Int32), rv r480, iv (12 : Int32), rv r514] [] _
          refine XS.iload X524.here hx rfl (hb hby at_419) rfl ?_
          refine XS.ifNo X524.here hx rfl (hb hby at_421) rfl ((if0 _ _).trans (feq (by decide : ¬ ((1 : Int32) = (0 : Int32)))).1) ?_
          refine XS.aload X524.here hx rfl (hb hby at_424) rfl rfl ?_
          show own_s p e below T514 m 426 #[iv i0, iv i1, iv i2, iv i3, iv (1 : Int32), iv (0 : Int32), iv (1 : Int32), rv b448, iv (4 : Int32), iv (0 : Int32), iv (4 : Int32), iv (0 : Int32), iv (1 : Int32), rv r480, iv (12 : Int32), rv r514] [(.ref r514)] _
          refine XS.iconst X524.here hx rfl (hb hby at_426) ?_
          exact kX
        obtain ⟨cl532, Ar532, S532, M532, H532⟩ := id fA514
        have pre535 : ∀ t, own_s p e below T514 m 449 #[iv i0, iv i1, iv i2, iv i3, iv (1 : Int32), iv (0 : Int32), iv (1 : Int32), rv b448, iv (4 : Int32), iv (0 : Int32), iv (4 : Int32), iv (0 : Int32), iv (1 : Int32), rv r480, iv (12 : Int32), rv r514] [(.int (7 : Int32)), (.ref r514)] t → Steps p.tables e below S0 t := by
          intro tX kX
          refine pre533 _ ?_
          show own_s p e below T514 m 427 #[iv i0, iv i1, iv i2, iv i3, iv (1 : Int32), iv (0 : Int32), iv (1 : Int32), rv b448, iv (4 : Int32), iv (0 : Int32), iv (4 : Int32), iv (0 : Int32), iv (1 : Int32), rv r480, iv (12 : Int32), rv r514] [(.int (0 : Int32)), (.ref r514)] _
          refine X524.baloadBytes hx (j := (0 : Int32)) (v := (.int (((i0.toUInt32 >>> ((24 : Int32) &&& 31).toUInt32).toInt32).toInt8.toInt32))) (by rw [e514]; exact Ar532.1) (State.isArrayOf_alike hZ.alike Ar532.2.1) Ar532.2.2 (own_inb S532 M532 (by decide)) (own_get H532 S532 (by decide) (show Value.int ((own_put (own_put (own_put (fun _ : Nat => (0 : Int32)) 0 i0) 4 i1) 8 i2) (0 + 0)) = Value.int (((i0.toUInt32 >>> ((24 : Int32) &&& 31).toUInt32).toInt32).toInt8.toInt32) from congrArg Value.int (((own_put_out (by decide)).trans ((own_put_out (by decide)).trans ((own_put_in (by decide) (by decide)).trans (congrArg (own_by i0) (show _ = 0 from by decide))))).trans (show own_by i0 0 = (((i0.toUInt32 >>> ((24 : Int32) &&& 31).toUInt32).toInt32).toInt8.toInt32) from rfl)))) (g := (mkF m 427 #[iv i0, iv i1, iv i2, iv i3, iv (1 : Int32), iv (0 : Int32), iv (1 : Int32), rv b448, iv (4 : Int32), iv (0 : Int32), iv (4 : Int32), iv (0 : Int32), iv (1 : Int32), rv r480, iv (12 : Int32), rv r514] [(.int (0 : Int32)), (.ref r514)])) rfl rfl (hb hby at_427) _ ?_
          refine XS.iloadN X524.here hx rfl (hb hby at_428) rfl ?_
          refine XS.bipush X524.here hx rfl (hb hby at_429) ?_
          show own_s p e below T514 m 431 #[iv i0, iv i1, iv i2, iv i3, iv (1 : Int32), iv (0 : Int32), iv (1 : Int32), rv b448, iv (4 : Int32), iv (0 : Int32), iv (4 : Int32), iv (0 : Int32), iv (1 : Int32), rv r480, iv (12 : Int32), rv r514] [(.int (24 : Int32)), (.int i0), (.int (((i0.toUInt32 >>> ((24 : Int32) &&& 31).toUInt32).toInt32).toInt8.toInt32))] _
          refine XS.iushr X524.here hx rfl (hb hby at_431) rfl ?_
          refine XS.i2b X524.here hx rfl (hb hby at_432) rfl ?_
          refine XS.icmpYes X524.here hx rfl (pc0 := 433) (pc' := 438) rfl (hb hby at_433) rfl (teq (rfl : (((i0.toUInt32 >>> ((24 : Int32) &&& 31).toUInt32).toInt32).toInt8.toInt32) = (((i0.toUInt32 >>> ((24 : Int32) &&& 31).toUInt32).toInt32).toInt8.toInt32))).1 (by decide) (by decide) ?_
          show own_s p e below T514 m 438 #[iv i0, iv i1, iv i2, iv i3, iv (1 : Int32), iv (0 : Int32), iv (1 : Int32), rv b448, iv (4 : Int32), iv (0 : Int32), iv (4 : Int32), iv (0 : Int32), iv (1 : Int32), rv r480, iv (12 : Int32), rv r514] [] _
          refine XS.iload X524.here hx rfl (hb hby at_438) rfl ?_
          refine XS.ifNo X524.here hx rfl (hb hby at_440) rfl ((if0 _ _).trans (feq (by decide : ¬ ((1 : Int32) = (0 : Int32)))).1) ?_
          refine XS.aload X524.here hx rfl (hb hby at_443) rfl rfl ?_
          show own_s p e below T514 m 445 #[iv i0, iv i1, iv i2, iv i3, iv (1 : Int32), iv (0 : Int32), iv (1 : Int32), rv b448, iv (4 : Int32), iv (0 : Int32), iv (4 : Int32), iv (0 : Int32), iv (1 : Int32), rv r480, iv (12 : Int32), rv r514] [(.ref r514)] _
          refine XS.iload X524.here hx rfl (hb hby at_445) rfl ?_
          refine XS.iconst X524.here hx rfl (hb hby at_447) ?_
          refine XS.iadd X524.here hx rfl (hb hby at_448) rfl ?_
          exact kX
        obtain ⟨cl534, Ar534, S534, M534, H534⟩ := id fA514
        have pre536 : ∀ t, own_s p e below T514 m 458 #[iv i0, iv i1, iv i2, iv i3, iv (1 : Int32), iv (0 : Int32), iv (1 : Int32), rv b448, iv (4 : Int32), iv (0 : Int32), iv (4 : Int32), iv (0 : Int32), iv (1 : Int32), rv r480, iv (12 : Int32), rv r514] [(.int (1 : Int32))] t → Steps p.tables e below S0 t := by
          intro tX kX
          refine pre535 _ ?_
          show own_s p e below T514 m 449 #[iv i0, iv i1, iv i2, iv i3, iv (1 : Int32), iv (0 : Int32), iv (1 : Int32), rv b448, iv (4 : Int32), iv (0 : Int32), iv (4 : Int32), iv (0 : Int32), iv (1 : Int32), rv r480, iv (12 : Int32), rv r514] [(.int (7 : Int32)), (.ref r514)] _
          refine X524.baloadBytes hx (j := (7 : Int32)) (v := (.int (i1.toInt8.toInt32))) (by rw [e514]; exact Ar534.1) (State.isArrayOf_alike hZ.alike Ar534.2.1) Ar534.2.2 (own_inb S534 M534 (by decide)) (own_get H534 S534 (by decide) (show Value.int ((own_put (own_put (own_put (fun _ : Nat => (0 : Int32)) 0 i0) 4 i1) 8 i2) (0 + 7)) = Value.int (i1.toInt8.toInt32) from congrArg Value.int (((own_put_out (by decide)).trans ((own_put_in (by decide) (by decide)).trans (congrArg (own_by i1) (show _ = 3 from by decide)))).trans (show own_by i1 3 = (i1.toInt8.toInt32) from rfl)))) (g := (mkF m 449 #[iv i0, iv i1, iv i2, iv i3, iv (1 : Int32), iv (0 : Int32), iv (1 : Int32), rv b448, iv (4 : Int32), iv (0 : Int32), iv (4 : Int32), iv (0 : Int32), iv (1 : Int32), rv r480, iv (12 : Int32), rv r514] [(.int (7 : Int32)), (.ref r514)])) rfl rfl (hb hby at_449) _ ?_
          refine XS.iloadN X524.here hx rfl (hb hby at_450) rfl ?_
          refine XS.i2b X524.here hx rfl (hb hby at_451) rfl ?_
          show own_s p e below T514 m 452 #[iv i0, iv i1, iv i2, iv i3, iv (1 : Int32), iv (0 : Int32), iv (1 : Int32), rv b448, iv (4 : Int32), iv (0 : Int32), iv (4 : Int32), iv (0 : Int32), iv (1 : Int32), rv r480, iv (12 : Int32), rv r514] [(.int (i1.toInt8.toInt32)), (.int (i1.toInt8.toInt32))] _
          refine XS.icmpYes X524.here hx rfl (pc0 := 452) (pc' := 457) rfl (hb hby at_452) rfl (teq (rfl : (i1.toInt8.toInt32) = (i1.toInt8.toInt32))).1 (by decide) (by decide) ?_
          refine XS.iconst X524.here hx rfl (hb hby at_457) ?_
          exact kX
        subst hS0
        obtain ⟨fs, hr, hrun, hended, hW, hsame⟩ := X524.leave (v := (some (.int (1 : Int32)))) (fun h => by rw [Bd.returns] at h; cases h)
        refine ⟨_, _, pre536 _ (retN X524 hx (t := .boolean) Bd.returns (by simp) (hb hby at_458) hr), hrun, hended, _, _, rfl, ?_, ⟨_, rfl⟩, hW, hsame.mono (by decide) (by decide)⟩
        show Q0 Z i0 i1 i2 i3 h0 n0 (some (.int (1 : Int32))) T514.heap _
        exact ⟨rfl, N524⟩
    · skip
      have pre537 : ∀ t, own_s p e below s₁ m 29 #[iv i0, iv i1, iv i2, iv i3, iv (1 : Int32), iv (1 : Int32), .unset, .unset, .unset, .unset, .unset, .unset, .unset, .unset, .unset, .unset] [(.int (i3 &&& (4 : Int32)))] t → Steps p.tables e below S0 t := by
        intro tX kX
        refine pre359 _ ?_
        show own_s p e below s₁ m 16 #[iv i0, iv i1, iv i2, iv i3, iv (1 : Int32), .unset, .unset, .unset, .unset, .unset, .unset, .unset, .unset, .unset, .unset, .unset] [(.int (i3 &&& (2 : Int32)))] _
        refine XS.ifNo X0.here hx rfl (hb hby at_16) rfl ((if0 _ _).trans (feq hc360).1) ?_
        refine XS.iconst X0.here hx rfl (hb hby at_19) ?_
        refine XS.goto X0.here hx rfl (pc0 := 20) (pc' := 24) rfl (hb hby at_20) (by decide) (by decide) ?_
        show own_s p e below s₁ m 24 #[iv i0, iv i1, iv i2, iv i3, iv (1 : Int32), .unset, .unset, .unset, .unset, .unset, .unset, .unset, .unset, .unset, .unset, .unset] [(.int (1 : Int32))] _
        refine XS.istore X0.here hx rfl (hb hby at_24) rfl (l' := #[iv i0, iv i1, iv i2, iv i3, iv (1 : Int32), iv (1 : Int32), .unset, .unset, .unset, .unset, .unset, .unset, .unset, .unset, .unset, .unset]) rfl ?_
        refine XS.iloadN X0.here hx rfl (hb hby at_26) rfl ?_
        refine XS.iconst X0.here hx rfl (hb hby at_27) ?_
        show own_s p e below s₁ m 28 #[iv i0, iv i1, iv i2, iv i3, iv (1 : Int32), iv (1 : Int32), .unset, .unset, .unset, .unset, .unset, .unset, .unset, .unset, .unset, .unset] [(.int (4 : Int32)), (.int i3)] _
        refine XS.iand X0.here hx rfl (hb hby at_28) rfl ?_
        exact kX
      by_cases hc538 : (i3 &&& (4 : Int32)) = (0 : Int32)
      · skip
        have pre539 : ∀ t, own_s p e below s₁ m 39 #[iv i0, iv i1, iv i2, iv i3, iv (1 : Int32), iv (1 : Int32), iv (0 : Int32), .unset, .unset, .unset, .unset, .unset, .unset, .unset, .unset, .unset] [] t → Steps p.tables e below S0 t := by
          intro tX kX
          refine pre537 _ ?_
          show own_s p e below s₁ m 29 #[iv i0, iv i1, iv i2, iv i3, iv (1 : Int32), iv (1 : Int32), .unset, .unset, .unset, .unset, .unset, .unset, .unset, .unset, .unset, .unset] [(.int (i3 &&& (4 : Int32)))] _
          refine XS.ifYes X0.here hx rfl (pc0 := 29) (pc' := 36) rfl (hb hby at_29) rfl ((if0 _ _).trans (teq hc538).1) (by decide) (by decide) ?_
          refine XS.iconst X0.here hx rfl (hb hby at_36) ?_
          refine XS.istore X0.here hx rfl (hb hby at_37) rfl (l' := #[iv i0, iv i1, iv i2, iv i3, iv (1 : Int32), iv (1 : Int32), iv (0 : Int32), .unset, .unset, .unset, .unset, .unset, .unset, .unset, .unset, .unset]) rfl ?_
          exact kX
        obtain ⟨T540, h540, X540, e540, E540, A540, D540, -, st540⟩ := newO X0 hx hZ hown (hw _ (List.mem_of_getElem? (i := 0) rfl)) (hw _ (List.mem_of_getElem? (i := 1) rfl)) (hw _ (List.mem_of_getElem? (i := 2) rfl)) e0 (g := (mkF m 39 #[iv i0, iv i1, iv i2, iv i3, iv (1 : Int32), iv (1 : Int32), iv (0 : Int32), .unset, .unset, .unset, .unset, .unset, .unset, .unset, .unset, .unset] [])) rfl (hb hby at_39) (by decide) (by decide)
        obtain ⟨b540, g540⟩ : ∃ z, z = h0.size := ⟨_, rfl⟩
        rw [← g540] at A540 D540 st540
        have g_b540 : n0 ≤ b540 := Nat.le_trans Z0 (Nat.le_of_eq g540.symm)
        have pre541 : ∀ t, own_s p e below T540 m 42 #[iv i0, iv i1, iv i2, iv i3, iv (1 : Int32), iv (1 : Int32), iv (0 : Int32), .unset, .unset, .unset, .unset, .unset, .unset, .unset, .unset, .unset] [(.ref b540)] t → Steps p.tables e below S0 t := fun tX kX => pre539 _ (st540 _ kX)
        have Z542 : n0 ≤ h540.size := Nat.le_trans Z0 E540.1
        have f543_E : Exa Z h540 b540 "com/example/farcall/farcall/io/XdrEncoder" := A540
        have f544_F : Fld Z h540 b540 "com/example/farcall/farcall/io/XdrEncoder" "buffer" "[B" .null := D540 (Or.inl (hw _ (List.mem_of_getElem? (i := 11) rfl))) (ty := (.array .byte)) (by decide)
        have f545_F : Fld Z h540 b540 "com/example/farcall/farcall/io/XdrEncoder" "end" "I" (.int (0 : Int32)) := D540 (Or.inl (hw _ (List.mem_of_getElem? (i := 22) rfl))) (ty := .int) (by decide)
        have f546_F : Fld Z h540 b540 "com/example/farcall/farcall/io/XdrEncoder" "start" "I" (.int (0 : Int32)) := D540 (Or.inl (hw _ (List.mem_of_getElem? (i := 29) rfl))) (ty := .int) (by decide)
        have pre547 : ∀ t, own_s p e below T540 m 43 #[iv i0, iv i1, iv i2, iv i3, iv (1 : Int32), iv (1 : Int32), iv (0 : Int32), .unset, .unset, .unset, .unset, .unset, .unset, .unset, .unset, .unset] [(.ref b540), (.ref b540)] t → Steps p.tables e below S0 t := by
          intro tX kX
          refine pre541 _ ?_
          show own_s p e below T540 m 42 #[iv i0, iv i1, iv i2, iv i3, iv (1 : Int32), iv (1 : Int32), iv (0 : Int32), .unset, .unset, .unset, .unset, .unset, .unset, .unset, .unset, .unset] [(.ref b540)] _
          refine XS.dup X540.here hx rfl (hb hby at_42) rfl rfl ?_
          exact kX
        obtain ⟨_, _, ⟨T548, L548, k548, n548⟩, -, X548, ⟨Lc548, hQ548, l548, y548, z548⟩, st548⟩ := X540.specialBack hx (y := (⟨"com/example/farcall/farcall/io/XdrEncoder", "<init>", "()V"⟩ : MethodName)) rfl hown (mvT hZ (hw _ (List.mem_of_getElem? (i := 3) rfl))) (mvT hZ (hw _ (List.mem_of_getElem? (i := 4) rfl))) (mvT hZ (hw _ (List.mem_of_getElem? (i := 5) rfl))) (by decide) (backOf (W := 1) (rm12 l Z a0 hw [] b540  h540 n0 Z542 f543_E f544_F f546_F f545_F g_b540) hZ (hw _ (List.mem_of_getElem? (i := 5) rfl)) (hw _ (List.mem_of_getElem? (i := 2) rfl)) (by decide) (by decide)) (g := (mkF m 43 #[iv i0, iv i1, iv i2, iv i3, iv (1 : Int32), iv (1 : Int32), iv (0 : Int32), .unset, .unset, .unset, .unset, .unset, .unset, .unset, .unset, .unset] [(.ref b540), (.ref b540)])) rfl (by rw [hml]; rfl) (Steps.refl _) (a := b540) (argsL := []) (rest := [(.ref b540)]) (lenOf pd0_0 rfl) rfl (by show 2 * 0 + _ ≤ _; exact Nat.le_of_eq rfl) (hb hby at_43) (fun _ _ => ⟨rfl, e540, (by decide : 1 + 1 ≤ _), (by decide : 4 + 64 ≤ _)⟩)
        dsimp only [Pt.U, Pt.locs, Pt.cells, Pt.slots] at X548 l548 y548 z548 st548 hQ548
        subst l548 y548 z548
        obtain ⟨rfl, Nq548, Kq548, bb548, szq548, E_a548, F_buf548, F_sta548, F_end548, A_b548, ne_ab548, fg548, g_a548, g_b548⟩ := hQ548
        have N548 := Fr.app N0 Nq548
        have e548 : T548.heap = T548.heap := rfl
        have Z548 : n0 ≤ T548.heap.size := Nat.le_trans Z542 Kq548.1
        obtain ⟨LL549, X549, N549⟩ : ∃ LL, Stand p l e room_1 s m #[(.int i0), (.int i1), (.int i2), (.int i3)] below meth c T548 LL 2 68 ∧ Fr n0 LL := ⟨_, X548, N548⟩
        have pre550 : ∀ t, own_s p e below T548 m 46 #[iv i0, iv i1, iv i2, iv i3, iv (1 : Int32), iv (1 : Int32), iv (0 : Int32), .unset, .unset, .unset, .unset, .unset, .unset, .unset, .unset, .unset] [(.ref b540)] t → Steps p.tables e below S0 t := fun tX kX => pre547 _ (st548.trans kX)
        have pre551 : ∀ t, own_s p e below T548 m 56 #[iv i0, iv i1, iv i2, iv i3, iv (1 : Int32), iv (1 : Int32), iv (0 : Int32), rv b540, .unset, .unset, .unset, .unset, .unset, .unset, .unset, .unset] [(.int i0), (.ref b540)] t → Steps p.tables e below S0 t := by
          intro tX kX
          refine pre550 _ ?_
          show own_s p e below T548 m 46 #[iv i0, iv i1, iv i2, iv i3, iv (1 : Int32), iv (1 : Int32), iv (0 : Int32), .unset, .unset, .unset, .unset, .unset, .unset, .unset, .unset, .unset] [(.ref b540)] _
          refine XS.astore X549.here hx rfl (hb hby at_46) rfl rfl (l' := #[iv i0, iv i1, iv i2, iv i3, iv (1 : Int32), iv (1 : Int32), iv (0 : Int32), rv b540, .unset, .unset, .unset, .unset, .unset, .unset, .unset, .unset]) rfl ?_
          refine XS.iload X549.here hx rfl (hb hby at_48) rfl ?_
          refine XS.ifNo X549.here hx rfl (hb hby at_50) rfl ((if0 _ _).trans (feq (by decide : ¬ ((1 : Int32) = (0 : Int32)))).1) ?_
          show own_s p e below T548 m 53 #[iv i0, iv i1, iv i2, iv i3, iv (1 : Int32), iv (1 : Int32), iv (0 : Int32), rv b540, .unset, .unset, .unset, .unset, .unset, .unset, .unset, .unset] [] _
          refine XS.aload X549.here hx rfl (hb hby at_53) rfl rfl ?_
          refine XS.iloadN X549.here hx rfl (hb hby at_55) rfl ?_
          exact kX
        obtain ⟨cq552, kq552, q552a, q552b, q552c⟩ := isOf hZ e548 E_a548
        obtain ⟨_, _, ⟨T552, L552, k552, n552⟩, -, X552, ⟨Lc552, hQ552, l552, y552, z552⟩, st552⟩ := X549.virtualBack hx (y := (⟨"com/example/farcall/farcall/io/XdrEncoder", "writeInt", "(I)Lcom/example/farcall/farcall/io/XdrEncoder;"⟩ : MethodName)) (z := (⟨"com/example/farcall/farcall/io/XdrEncoder", "writeInt", "(I)Lcom/example/farcall/farcall/io/XdrEncoder;"⟩ : MethodName)) hown (mvT hZ (hw _ (List.mem_of_getElem? (i := 12) rfl))) (mvT hZ (hw _ (List.mem_of_getElem? (i := 13) rfl))) (notFace_of_selects (args := #[]) (mvT hZ (hw _ (List.mem_of_getElem? (i := 15) rfl)))) (mvT hZ (hw _ (List.mem_of_getElem? (i := 15) rfl))) (mvT hZ (hw _ (List.mem_of_getElem? (i := 14) rfl))) (by decide) (backOf (W := 0) (rm9 l Z a0 hw [] b540 i0 bb548 ((fun _ : Nat => (0 : Int32))) 0 0 T548.heap n0 Z548 E_a548 F_buf548 F_sta548 F_end548 A_b548 ne_ab548 fg548 g_a548 g_b548 (by decide) (by decide)) hZ (hw _ (List.mem_of_getElem? (i := 16) rfl)) (hw _ (List.mem_of_getElem? (i := 2) rfl)) (by decide) (by decide)) q552a q552c (g := (mkF m 56 #[iv i0, iv i1, iv i2, iv i3, iv (1 : Int32), iv (1 : Int32), iv (0 : Int32), rv b540, .unset, .unset, .unset, .unset, .unset, .unset, .unset, .unset] [(.int i0), (.ref b540)])) rfl (by rw [hml]; rfl) (Steps.refl _) (argsL := [(.int i0)]) (rest := []) (lenOf pd0_2 rfl) rfl (by show 2 * 0 + _ ≤ _; exact Nat.le_of_eq rfl) (hb hby at_56) (fun _ _ => ⟨rfl, e548, (by decide : 2 + 0 ≤ _), (by decide : 68 + 0 ≤ _)⟩)
        dsimp only [Pt.U, Pt.locs, Pt.cells, Pt.slots] at X552 l552 y552 z552 st552 hQ552
        subst l552 y552 z552
        obtain ⟨rfl, Nq552, Kq552, E_a552, F_buf552, F_sta552, F_end552, A_b552, ne_ab552, fg552, g_a552, g_b552⟩ := hQ552
        have N552 := Fr.app N549 Nq552
        have e552 : T552.heap = T552.heap := rfl
        have Z552 : n0 ≤ T552.heap.size := Nat.le_trans Z548 Kq552.1
        obtain ⟨LL553, X553, N553⟩ : ∃ LL, Stand p l e room_1 s m #[(.int i0), (.int i1), (.int i2), (.int i3)] below meth c T552 LL 2 68 ∧ Fr n0 LL := ⟨_, X552, N552⟩
        have pre554 : ∀ t, own_s p e below T552 m 59 #[iv i0, iv i1, iv i2, iv i3, iv (1 : Int32), iv (1 : Int32), iv (0 : Int32), rv b540, .unset, .unset, .unset, .unset, .unset, .unset, .unset, .unset] [(.ref b540)] t → Steps p.tables e below S0 t := fun tX kX => pre551 _ (st552.trans kX)
        have pre555 : ∀ t, own_s p e below T552 m 82 #[iv i0, iv i1, iv i2, iv i3, iv (1 : Int32), iv (1 : Int32), iv (0 : Int32), rv b540, iv (4 : Int32), iv (0 : Int32), .unset, .unset, .unset, .unset, .unset, .unset] [(.ref b540)] t → Steps p.tables e below S0 t := by
          intro tX kX
          refine pre554 _ ?_
          show own_s p e below T552 m 59 #[iv i0, iv i1, iv i2, iv i3, iv (1 : Int32), iv (1 : Int32), iv (0 : Int32), rv b540, .unset, .unset, .unset, .unset, .unset, .unset, .unset, .unset] [(.ref b540)] _
          refine XS.pop X553.here hx rfl (hb hby at_59) rfl rfl ?_
          refine XS.iload X553.here hx rfl (hb hby at_60) rfl ?_
          refine XS.ifNo X553.here hx rfl (hb hby at_62) rfl ((if0 _ _).trans (feq (by decide : ¬ ((1 : Int32) = (0 : Int32)))).1) ?_
          show own_s p e below T552 m 65 #[iv i0, iv i1, iv i2, iv i3, iv (1 : Int32), iv (1 : Int32), iv (0 : Int32), rv b540, .unset, .unset, .unset, .unset, .unset, .unset, .unset, .unset] [] _
          refine XS.iconst X553.here hx rfl (hb hby at_65) ?_
          refine XS.goto X553.here hx rfl (pc0 := 66) (pc' := 70) rfl (hb hby at_66) (by decide) (by decide) ?_
          refine XS.istore X553.here hx rfl (hb hby at_70) rfl (l' := #[iv i0, iv i1, iv i2, iv i3, iv (1 : Int32), iv (1 : Int32), iv (0 : Int32), rv b540, iv (4 : Int32), .unset, .unset, .unset, .unset, .unset, .unset, .unset]) rfl ?_
          show own_s p e below T552 m 72 #[iv i0, iv i1, iv i2, iv i3, iv (1 : Int32), iv (1 : Int32), iv (0 : Int32), rv b540, iv (4 : Int32), .unset, .unset, .unset, .unset, .unset, .unset, .unset] [] _
          refine XS.iconst X553.here hx rfl (hb hby at_72) ?_
          refine XS.istore X553.here hx rfl (hb hby at_73) rfl (l' := #[iv i0, iv i1, iv i2, iv i3, iv (1 : Int32), iv (1 : Int32), iv (0 : Int32), rv b540, iv (4 : Int32), iv (0 : Int32), .unset, .unset, .unset, .unset, .unset, .unset]) rfl ?_
          refine XS.iload X553.here hx rfl (hb hby at_75) rfl ?_
          show own_s p e below T552 m 77 #[iv i0, iv i1, iv i2, iv i3, iv (1 : Int32), iv (1 : Int32), iv (0 : Int32), rv b540, iv (4 : Int32), iv (0 : Int32), .unset, .unset, .unset, .unset, .unset, .unset] [(.int (1 : Int32))] _
          refine XS.ifNo X553.here hx rfl (hb hby at_77) rfl ((if0 _ _).trans (feq (by decide : ¬ ((1 : Int32) = (0 : Int32)))).1) ?_
          refine XS.aload X553.here hx rfl (hb hby at_80) rfl rfl ?_
          exact kX
        obtain ⟨cq556, kq556, q556a, q556b, q556c⟩ := isOf hZ e552 E_a552
        obtain ⟨_, _, ⟨T556, L556, k556, n556⟩, -, X556, ⟨Lc556, hQ556, l556, y556, z556⟩, st556⟩ := X553.virtualBack hx (y := (⟨"com/example/farcall/farcall/io/XdrEncoder", "beginPart", "()I"⟩ : MethodName)) (z := (⟨"com/example/farcall/farcall/io/XdrEncoder", "beginPart", "()I"⟩ : MethodName)) hown (mvT hZ (hw _ (List.mem_of_getElem? (i := 35) rfl))) (mvT hZ (hw _ (List.mem_of_getElem? (i := 36) rfl))) (notFace_of_selects (args := #[]) (mvT hZ (hw _ (List.mem_of_getElem? (i := 38) rfl)))) (mvT hZ (hw _ (List.mem_of_getElem? (i := 38) rfl))) (mvT hZ (hw _ (List.mem_of_getElem? (i := 37) rfl))) (by decide) (backOf (W := 0) (rm10 l Z a0 hw [] b540 bb548 ((own_put (fun _ : Nat => (0 : Int32)) 0 i0)) 0 4 T552.heap n0 Z552 E_a552 F_buf552 F_sta552 F_end552 A_b552 ne_ab552 fg552 g_a552 g_b552) hZ (hw _ (List.mem_of_getElem? (i := 39) rfl)) (hw _ (List.mem_of_getElem? (i := 2) rfl)) (by decide) (by decide)) q556a q556c (g := (mkF m 82 #[iv i0, iv i1, iv i2, iv i3, iv (1 : Int32), iv (1 : Int32), iv (0 : Int32), rv b540, iv (4 : Int32), iv (0 : Int32), .unset, .unset, .unset, .unset, .unset, .unset] [(.ref b540)])) rfl (by rw [hml]; rfl) (Steps.refl _) (argsL := []) (rest := []) (lenOf pd0_1 rfl) rfl (by show 2 * 0 + _ ≤ _; exact Nat.le_of_eq rfl) (hb hby at_82) (fun _ _ => ⟨rfl, e552, (by decide : 2 + 0 ≤ _), (by decide : 68 + 0 ≤ _)⟩)
        dsimp only [Pt.U, Pt.locs, Pt.cells, Pt.slots] at X556 l556 y556 z556 st556 hQ556
        subst l556 y556 z556
        obtain ⟨rfl, Nq556, Kq556, E_a556, F_buf556, F_sta556, F_end556, A_b556, ne_ab556, fg556, g_a556, g_b556⟩ := hQ556
        have N556 := Fr.app N553 Nq556
        have e556 : T556.heap = T556.heap := rfl
        have Z556 : n0 ≤ T556.heap.size := Nat.le_trans Z552 Kq556.1
        obtain ⟨LL557, X557, N557⟩ : ∃ LL, Stand p l e room_1 s m #[(.int i0), (.int i1), (.int i2), (.int i3)] below meth c T556 LL 2 68 ∧ Fr n0 LL := ⟨_, X556, N556⟩
        have pre558 : ∀ t, own_s p e below T556 m 85 #[iv i0, iv i1, iv i2, iv i3, iv (1 : Int32), iv (1 : Int32), iv (0 : Int32), rv b540, iv (4 : Int32), iv (0 : Int32), .unset, .unset, .unset, .unset, .unset, .unset] [(.int (0 : Int32))] t → Steps p.tables e below S0 t := fun tX kX => pre555 _ (st556.trans kX)
        have pre559 : ∀ t, own_s p e below T556 m 113 #[iv i0, iv i1, iv i2, iv i3, iv (1 : Int32), iv (1 : Int32), iv (0 : Int32), rv b540, iv (4 : Int32), iv (0 : Int32), iv (0 : Int32), .unset, .unset, .unset, .unset, .unset] [(.ref b540)] t → Steps p.tables e below S0 t := by
          intro tX kX
          refine pre558 _ ?_
          show own_s p e below T556 m 85 #[iv i0, iv i1, iv i2, iv i3, iv (1 : Int32), iv (1 : Int32), iv (0 : Int32), rv b540, iv (4 : Int32), iv (0 : Int32), .unset, .unset, .unset, .unset, .unset, .unset] [(.int (0 : Int32))] _
          refine XS.istore X557.here hx rfl (hb hby at_85) rfl (l' := #[iv i0, iv i1, iv i2, iv i3, iv (1 : Int32), iv (1 : Int32), iv (0 : Int32), rv b540, iv (4 : Int32), iv (0 : Int32), .unset, .unset, .unset, .unset, .unset, .unset]) rfl ?_
          refine XS.iload X557.here hx rfl (hb hby at_87) rfl ?_
          refine XS.ifYes X557.here hx rfl (pc0 := 89) (pc' := 99) rfl (hb hby at_89) rfl ((if0 _ _).trans (teq (by decide : (0 : Int32) = (0 : Int32))).1) (by decide) (by decide) ?_
          show own_s p e below T556 m 99 #[iv i0, iv i1, iv i2, iv i3, iv (1 : Int32), iv (1 : Int32), iv (0 : Int32), rv b540, iv (4 : Int32), iv (0 : Int32), .unset, .unset, .unset, .unset, .unset, .unset] [] _
          refine XS.iload X557.here hx rfl (hb hby at_99) rfl ?_
          refine XS.ifYes X557.here hx rfl (pc0 := 101) (pc' := 108) rfl (hb hby at_101) rfl ((if0 _ _).trans (teq (by decide : (0 : Int32) = (0 : Int32))).1) (by decide) (by decide) ?_
          refine XS.iconst X557.here hx rfl (hb hby at_108) ?_
          show own_s p e below T556 m 109 #[iv i0, iv i1, iv i2, iv i3, iv (1 : Int32), iv (1 : Int32), iv (0 : Int32), rv b540, iv (4 : Int32), iv (0 : Int32), .unset, .unset, .unset, .unset, .unset, .unset] [(.int (0 : Int32))] _
          refine XS.istore X557.here hx rfl (hb hby at_109) rfl (l' := #[iv i0, iv i1, iv i2, iv i3, iv (1 : Int32), iv (1 : Int32), iv (0 : Int32), rv b540, iv (4 : Int32), iv (0 : Int32), iv (0 : Int32), .unset, .unset, .unset, .unset, .unset]) rfl ?_
          refine XS.aload X557.here hx rfl (hb hby at_111) rfl rfl ?_
          exact kX
        obtain ⟨cq560, kq560, q560a, q560b, q560c⟩ := isOf hZ e556 E_a556
        obtain ⟨_, _, ⟨T560, L560, k560, n560⟩, -, X560, ⟨Lc560, hQ560, l560, y560, z560⟩, st560⟩ := X557.virtualBack hx (y := (⟨"com/example/farcall/farcall/io/XdrEncoder", "beginPart", "()I"⟩ : MethodName)) (z := (⟨"com/example/farcall/farcall/io/XdrEncoder", "beginPart", "()I"⟩ : MethodName)) hown (mvT hZ (hw _ (List.mem_of_getElem? (i := 35) rfl))) (mvT hZ (hw _ (List.mem_of_getElem? (i := 36) rfl))) (notFace_of_selects (args := #[]) (mvT hZ (hw _ (List.mem_of_getElem? (i := 38) rfl)))) (mvT hZ (hw _ (List.mem_of_getElem? (i := 38) rfl))) (mvT hZ (hw _ (List.mem_of_getElem? (i := 37) rfl))) (by decide) (backOf (W := 0) (rm10 l Z a0 hw [] b540 bb548 ((own_put (fun _ : Nat => (0 : Int32)) 0 i0)) 4 4 T556.heap n0 Z556 E_a556 F_buf556 F_sta556 F_end556 A_b556 ne_ab556 fg556 g_a556 g_b556) hZ (hw _ (List.mem_of_getElem? (i := 39) rfl)) (hw _ (List.mem_of_getElem? (i := 2) rfl)) (by decide) (by decide)) q560a q560c (g := (mkF m 113 #[iv i0, iv i1, iv i2, iv i3, iv (1 : Int32), iv (1 : Int32), iv (0 : Int32), rv b540, iv (4 : Int32), iv (0 : Int32), iv (0 : Int32), .unset, .unset, .unset, .unset, .unset] [(.ref b540)])) rfl (by rw [hml]; rfl) (Steps.refl _) (argsL := []) (rest := []) (lenOf pd0_1 rfl) rfl (by show 2 * 0 + _ ≤ _; exact Nat.le_of_eq rfl) (hb hby at_113) (fun _ _ => ⟨rfl, e556, (by decide : 2 + 0 ≤ _), (by decide : 68 + 0 ≤ _)⟩)
        dsimp only [Pt.U, Pt.locs, Pt.cells, Pt.slots] at X560 l560 y560 z560 st560 hQ560
        subst l560 y560 z560
        obtain ⟨rfl, Nq560, Kq560, E_a560, F_buf560, F_sta560, F_end560, A_b560, ne_ab560, fg560, g_a560, g_b560⟩ := hQ560
        have N560 := Fr.app N557 Nq560
        have e560 : T560.heap = T560.heap := rfl
        have Z560 : n0 ≤ T560.heap.size := Nat.le_trans Z556 Kq560.1
        obtain ⟨LL561, X561, N561⟩ : ∃ LL, Stand p l e room_1 s m #[(.int i0), (.int i1), (.int i2), (.int i3)] below meth c T560 LL 2 68 ∧ Fr n0 LL := ⟨_, X560, N560⟩
        have pre562 : ∀ t, own_s p e below T560 m 116 #[iv i0, iv i1, iv i2, iv i3, iv (1 : Int32), iv (1 : Int32), iv (0 : Int32), rv b540, iv (4 : Int32), iv (0 : Int32), iv (0 : Int32), .unset, .unset, .unset, .unset, .unset] [(.int (4 : Int32))] t → Steps p.tables e below S0 t := fun tX kX => pre559 _ (st560.trans kX)
        have pre563 : ∀ t, own_s p e below T560 m 120 #[iv i0, iv i1, iv i2, iv i3, iv (1 : Int32), iv (1 : Int32), iv (0 : Int32), rv b540, iv (4 : Int32), iv (0 : Int32), iv (0 : Int32), iv (4 : Int32), .unset, .unset, .unset, .unset] [(.ref b540)] t → Steps p.tables e below S0 t := by
          intro tX kX
          refine pre562 _ ?_
          show own_s p e below T560 m 116 #[iv i0, iv i1, iv i2, iv i3, iv (1 : Int32), iv (1 : Int32), iv (0 : Int32), rv b540, iv (4 : Int32), iv (0 : Int32), iv (0 : Int32), .unset, .unset, .unset, .unset, .unset] [(.int (4 : Int32))] _
          refine XS.istore X561.here hx rfl (hb hby at_116) rfl (l' := #[iv i0, iv i1, iv i2, iv i3, iv (1 : Int32), iv (1 : Int32), iv (0 : Int32), rv b540, iv (4 : Int32), iv (0 : Int32), iv (0 : Int32), iv (4 : Int32), .unset, .unset, .unset, .unset]) rfl ?_
          refine XS.aload X561.here hx rfl (hb hby at_118) rfl rfl ?_
          exact kX
        obtain ⟨cq564, kq564, q564a, q564b, q564c⟩ := isOf hZ e560 E_a560
        obtain ⟨_, _, ⟨T564, L564, k564, n564⟩, -, X564, ⟨Lc564, hQ564, l564, y564, z564⟩, st564⟩ := X561.virtualBack hx (y := (⟨"com/example/farcall/farcall/io/XdrEncoder", "size", "()I"⟩ : MethodName)) (z := (⟨"com/example/farcall/farcall/io/XdrEncoder", "size", "()I"⟩ : MethodName)) hown (mvT hZ (hw _ (List.mem_of_getElem? (i := 40) rfl))) (mvT hZ (hw _ (List.mem_of_getElem? (i := 24) rfl))) (notFace_of_selects (args := #[]) (mvT hZ (hw _ (List.mem_of_getElem? (i := 26) rfl)))) (mvT hZ (hw _ (List.mem_of_getElem? (i := 26) rfl))) (mvT hZ (hw _ (List.mem_of_getElem? (i := 25) rfl))) (by decide) (backOf (W := 0) (rm6 l Z a0 hw [] b540 bb548 ((own_put (fun _ : Nat => (0 : Int32)) 0 i0)) 4 4 T560.heap n0 Z560 E_a560 F_buf560 F_sta560 F_end560 A_b560 ne_ab560 fg560 g_a560 g_b560 (by decide) (by decide)) hZ (hw _ (List.mem_of_getElem? (i := 27) rfl)) (hw _ (List.mem_of_getElem? (i := 2) rfl)) (by decide) (by decide)) q564a q564c (g := (mkF m 120 #[iv i0, iv i1, iv i2, iv i3, iv (1 : Int32), iv (1 : Int32), iv (0 : Int32), rv b540, iv (4 : Int32), iv (0 : Int32), iv (0 : Int32), iv (4 : Int32), .unset, .unset, .unset, .unset] [(.ref b540)])) rfl (by rw [hml]; rfl) (Steps.refl _) (argsL := []) (rest := []) (lenOf pd0_1 rfl) rfl (by show 2 * 0 + _ ≤ _; exact Nat.le_of_eq rfl) (hb hby at_120) (fun _ _ => ⟨rfl, e560, (by decide : 2 + 0 ≤ _), (by decide : 68 + 0 ≤ _)⟩)
        dsimp only [Pt.U, Pt.locs, Pt.cells, Pt.slots] at X564 l564 y564 z564 st564 hQ564
        subst l564 y564 z564
        obtain ⟨rfl, Nq564, e564⟩ := hQ564
        have N564 := Fr.app N561 Nq564
        obtain ⟨LL565, X565, N565⟩ : ∃ LL, Stand p l e room_1 s m #[(.int i0), (.int i1), (.int i2), (.int i3)] below meth c T564 LL 2 68 ∧ Fr n0 LL := ⟨_, X564, N564⟩
        have pre566 : ∀ t, own_s p e below T564 m 123 #[iv i0, iv i1, iv i2, iv i3, iv (1 : Int32), iv (1 : Int32), iv (0 : Int32), rv b540, iv (4 : Int32), iv (0 : Int32), iv (0 : Int32), iv (4 : Int32), .unset, .unset, .unset, .unset] [(.int (0 : Int32))] t → Steps p.tables e below S0 t := fun tX kX => pre563 _ (st564.trans kX)
        have pre567 : ∀ t, own_s p e below T564 m 136 #[iv i0, iv i1, iv i2, iv i3, iv (1 : Int32), iv (1 : Int32), iv (0 : Int32), rv b540, iv (4 : Int32), iv (0 : Int32), iv (0 : Int32), iv (4 : Int32), iv (1 : Int32), .unset, .unset, .unset] [(.int i2), (.ref b540)] t → Steps p.tables e below S0 t := by
          intro tX kX
          refine pre566 _ ?_
          show own_s p e below T564 m 123 #[iv i0, iv i1, iv i2, iv i3, iv (1 : Int32), iv (1 : Int32), iv (0 : Int32), rv b540, iv (4 : Int32), iv (0 : Int32), iv (0 : Int32), iv (4 : Int32), .unset, .unset, .unset, .unset] [(.int (0 : Int32))] _
          refine XS.ifNo X565.here hx rfl (hb hby at_123) rfl ((if0 _ _).trans (teq (by decide : (0 : Int32) = (0 : Int32))).2) ?_
          refine XS.iconst X565.here hx rfl (hb hby at_126) ?_
          refine XS.goto X565.here hx rfl (pc0 := 127) (pc' := 131) rfl (hb hby at_127) (by decide) (by decide) ?_
          show own_s p e below T564 m 131 #[iv i0, iv i1, iv i2, iv i3, iv (1 : Int32), iv (1 : Int32), iv (0 : Int32), rv b540, iv (4 : Int32), iv (0 : Int32), iv (0 : Int32), iv (4 : Int32), .unset, .unset, .unset, .unset] [(.int (1 : Int32))] _
          refine XS.istore X565.here hx rfl (hb hby at_131) rfl (l' := #[iv i0, iv i1, iv i2, iv i3, iv (1 : Int32), iv (1 : Int32), iv (0 : Int32), rv b540, iv (4 : Int32), iv (0 : Int32), iv (0 : Int32), iv (4 : Int32), iv (1 : Int32), .unset, .unset, .unset]) rfl ?_
          refine XS.aload X565.here hx rfl (hb hby at_133) rfl rfl ?_
          refine XS.iloadN X565.here hx rfl (hb hby at_135) rfl ?_
          exact kX
        obtain ⟨cq568, kq568, q568a, q568b, q568c⟩ := isOf hZ e564 E_a560
        obtain ⟨_, _, ⟨T568, L568, k568, n568⟩, -, X568, ⟨Lc568, hQ568, l568, y568, z568⟩, st568⟩ := X565.virtualBack hx (y := (⟨"com/example/farcall/farcall/io/XdrEncoder", "writeInt", "(I)Lcom/example/farcall/farcall/io/XdrEncoder;"⟩ : MethodName)) (z := (⟨"com/example/farcall/farcall/io/XdrEncoder", "writeInt", "(I)Lcom/example/farcall/farcall/io/XdrEncoder;"⟩ : MethodName)) hown (mvT hZ (hw _ (List.mem_of_getElem? (i := 12) rfl))) (mvT hZ (hw _ (List.mem_of_getElem? (i := 13) rfl))) (notFace_of_selects (args := #[]) (mvT hZ (hw _ (List.mem_of_getElem? (i := 15) rfl)))) (mvT hZ (hw _ (List.mem_of_getElem? (i := 15) rfl))) (mvT hZ (hw _ (List.mem_of_getElem? (i := 14) rfl))) (by decide) (backOf (W := 0) (rm9 l Z a0 hw [] b540 i2 bb548 ((own_put (fun _ : Nat => (0 : Int32)) 0 i0)) 4 4 T560.heap n0 Z560 E_a560 F_buf560 F_sta560 F_end560 A_b560 ne_ab560 fg560 g_a560 g_b560 (by decide) (by decide)) hZ (hw _ (List.mem_of_getElem? (i := 16) rfl)) (hw _ (List.mem_of_getElem? (i := 2) rfl)) (by decide) (by decide)) q568a q568c (g := (mkF m 136 #[iv i0, iv i1, iv i2, iv i3, iv (1 : Int32), iv (1 : Int32), iv (0 : Int32), rv b540, iv (4 : Int32), iv (0 : Int32), iv (0 : Int32), iv (4 : Int32), iv (1 : Int32), .unset, .unset, .unset] [(.int i2), (.ref b540)])) rfl (by rw [hml]; rfl) (Steps.refl _) (argsL := [(.int i2)]) (rest := []) (lenOf pd0_2 rfl) rfl (by show 2 * 0 + _ ≤ _; exact Nat.le_of_eq rfl) (hb hby at_136) (fun _ _ => ⟨rfl, e564, (by decide : 2 + 0 ≤ _), (by decide : 68 + 0 ≤ _)⟩)
        dsimp only [Pt.U, Pt.locs, Pt.cells, Pt.slots] at X568 l568 y568 z568 st568 hQ568
        subst l568 y568 z568
        obtain ⟨rfl, Nq568, Kq568, E_a568, F_buf568, F_sta568, F_end568, A_b568, ne_ab568, fg568, g_a568, g_b568⟩ := hQ568
        have N568 := Fr.app N565 Nq568
        have e568 : T568.heap = T568.heap := rfl
        have Z568 : n0 ≤ T568.heap.size := Nat.le_trans Z560 Kq568.1
        obtain ⟨LL569, X569, N569⟩ : ∃ LL, Stand p l e room_1 s m #[(.int i0), (.int i1), (.int i2), (.int i3)] below meth c T568 LL 2 68 ∧ Fr n0 LL := ⟨_, X568, N568⟩
        have pre570 : ∀ t, own_s p e below T568 m 139 #[iv i0, iv i1, iv i2, iv i3, iv (1 : Int32), iv (1 : Int32), iv (0 : Int32), rv b540, iv (4 : Int32), iv (0 : Int32), iv (0 : Int32), iv (4 : Int32), iv (1 : Int32), .unset, .unset, .unset] [(.ref b540)] t → Steps p.tables e below S0 t := fun tX kX => pre567 _ (st568.trans kX)
        have pre571 : ∀ t, own_s p e below T568 m 142 #[iv i0, iv i1, iv i2, iv i3, iv (1 : Int32), iv (1 : Int32), iv (0 : Int32), rv b540, iv (4 : Int32), iv (0 : Int32), iv (0 : Int32), iv (4 : Int32), iv (1 : Int32), .unset, .unset, .unset] [(.ref b540)] t → Steps p.tables e below S0 t := by
          intro tX kX
          refine pre570 _ ?_
          show own_s p e below T568 m 139 #[iv i0, iv i1, iv i2, iv i3, iv (1 : Int32), iv (1 : Int32), iv (0 : Int32), rv b540, iv (4 : Int32), iv (0 : Int32), iv (0 : Int32), iv (4 : Int32), iv (1 : Int32), .unset, .unset, .unset] [(.ref b540)] _
          refine XS.pop X569.here hx rfl (hb hby at_139) rfl rfl ?_
          refine XS.aload X569.here hx rfl (hb hby at_140) rfl rfl ?_
          exact kX
        obtain ⟨cq572, kq572, q572a, q572b, q572c⟩ := isOf hZ e568 E_a568
        obtain ⟨_, _, ⟨T572, L572, k572, n572⟩, -, X572, ⟨Lc572, hQ572, l572, y572, z572⟩, st572⟩ := X569.virtualBack hx (y := (⟨"com/example/farcall/farcall/io/XdrEncoder", "toByteArray", "()[B"⟩ : MethodName)) (z := (⟨"com/example/farcall/farcall/io/XdrEncoder", "toByteArray", "()[B"⟩ : MethodName)) hown (mvT hZ (hw _ (List.mem_of_getElem? (i := 41) rfl))) (mvT hZ (hw _ (List.mem_of_getElem? (i := 42) rfl))) (notFace_of_selects (args := #[]) (mvT hZ (hw _ (List.mem_of_getElem? (i := 44) rfl)))) (mvT hZ (hw _ (List.mem_of_getElem? (i := 44) rfl))) (mvT hZ (hw _ (List.mem_of_getElem? (i := 43) rfl))) (by decide) (backOf (W := 0) (rm5 l Z a0 hw [] b540 bb548 ((own_put (own_put (fun _ : Nat => (0 : Int32)) 0 i0) 4 i2)) 4 8 T568.heap n0 Z568 E_a568 F_buf568 F_sta568 F_end568 A_b568 ne_ab568 fg568 g_a568 g_b568 (by decide) (by decide) (by decide)) hZ (hw _ (List.mem_of_getElem? (i := 45) rfl)) (hw _ (List.mem_of_getElem? (i := 2) rfl)) (by decide) (by decide)) q572a q572c (g := (mkF m 142 #[iv i0, iv i1, iv i2, iv i3, iv (1 : Int32), iv (1 : Int32), iv (0 : Int32), rv b540, iv (4 : Int32), iv (0 : Int32), iv (0 : Int32), iv (4 : Int32), iv (1 : Int32), .unset, .unset, .unset] [(.ref b540)])) rfl (by rw [hml]; rfl) (Steps.refl _) (argsL := []) (rest := []) (lenOf pd0_3 rfl) rfl (by show 2 * 0 + _ ≤ _; exact Nat.le_of_eq rfl) (hb hby at_142) (fun _ _ => ⟨rfl, e568, (by decide : 2 + 1 ≤ _), (by decide : 68 + 64 ≤ _)⟩)
        dsimp only [Pt.U, Pt.locs, Pt.cells, Pt.slots] at X572 l572 y572 z572 st572 hQ572
        subst l572 y572 z572
        obtain ⟨r572, rfl, Nq572, Kq572, sz_r572, g_r572, fA572⟩ := hQ572
        have N572 := Fr.app N569 Nq572
        have e572 : T572.heap = T572.heap := rfl
        have Z572 : n0 ≤ T572.heap.size := Nat.le_trans Z568 Kq572.1
        have ne573 : b540 ≠ r572 := Nat.ne_of_lt (Nat.lt_of_lt_of_le E_a568.lt sz_r572)
        have ne574 : bb548 ≠ r572 := Nat.ne_of_lt (Nat.lt_of_lt_of_le A_b568.lt sz_r572)
        have f575_E : Exa Z T572.heap b540 "com/example/farcall/farcall/io/XdrEncoder" := E_a568.keep Kq572
        have f576_F : Fld Z T572.heap b540 "com/example/farcall/farcall/io/XdrEncoder" "buffer" "[B" (.ref bb548) := F_buf568.keep Kq572 nin0
        have f577_F : Fld Z T572.heap b540 "com/example/farcall/farcall/io/XdrEncoder" "start" "I" (.int (Int32.ofNat 4)) := F_sta568.keep Kq572 nin0
        have f578_F : Fld Z T572.heap b540 "com/example/farcall/farcall/io/XdrEncoder" "end" "I" (.int (Int32.ofNat 8)) := F_end568.keep Kq572 nin0
        have f579_A : own_Af Z T572.heap bb548 .byte 64 (fun j => .int ((own_put (own_put (fun _ : Nat => (0 : Int32)) 0 i0) 4 i2) j)) := A_b568.keep Kq572 nin0
        obtain ⟨LL580, X580, N580⟩ : ∃ LL, Stand p l e room_1 s m #[(.int i0), (.int i1), (.int i2), (.int i3)] below meth c T572 LL 3 132 ∧ Fr n0 LL := ⟨_, X572, N572⟩
        have pre581 : ∀ t, own_s p e below T572 m 145 #[iv i0, iv i1, iv i2, iv i3, iv (1 : Int32), iv (1 : Int32), iv (0 : Int32), rv b540, iv (4 : Int32), iv (0 : Int32), iv (0 : Int32), iv (4 : Int32), iv (1 : Int32), .unset, .unset, .unset] [(.ref r572)] t → Steps p.tables e below S0 t := fun tX kX => pre571 _ (st572.trans kX)
        have pre582 : ∀ t, own_s p e below T572 m 154 #[iv i0, iv i1, iv i2, iv i3, iv (1 : Int32), iv (1 : Int32), iv (0 : Int32), rv b540, iv (4 : Int32), iv (0 : Int32), iv (0 : Int32), iv (4 : Int32), iv (1 : Int32), rv r572, .unset, .unset] [(.ref b540)] t → Steps p.tables e below S0 t := by
          intro tX kX
          refine pre581 _ ?_
          show own_s p e below T572 m 145 #[iv i0, iv i1, iv i2, iv i3, iv (1 : Int32), iv (1 : Int32), iv (0 : Int32), rv b540, iv (4 : Int32), iv (0 : Int32), iv (0 : Int32), iv (4 : Int32), iv (1 : Int32), .unset, .unset, .unset] [(.ref r572)] _
          refine XS.astore X580.here hx rfl (hb hby at_145) rfl rfl (l' := #[iv i0, iv i1, iv i2, iv i3, iv (1 : Int32), iv (1 : Int32), iv (0 : Int32), rv b540, iv (4 : Int32), iv (0 : Int32), iv (0 : Int32), iv (4 : Int32), iv (1 : Int32), rv r572, .unset, .unset]) rfl ?_
          refine XS.iload X580.here hx rfl (hb hby at_147) rfl ?_
          refine XS.ifNo X580.here hx rfl (hb hby at_149) rfl ((if0 _ _).trans (feq (by decide : ¬ ((1 : Int32) = (0 : Int32)))).1) ?_
          show own_s p e below T572 m 152 #[iv i0, iv i1, iv i2, iv i3, iv (1 : Int32), iv (1 : Int32), iv (0 : Int32), rv b540, iv (4 : Int32), iv (0 : Int32), iv (0 : Int32), iv (4 : Int32), iv (1 : Int32), rv r572, .unset, .unset] [] _
          refine XS.aload X580.here hx rfl (hb hby at_152) rfl rfl ?_
          exact kX
        obtain ⟨cq583, kq583, q583a, q583b, q583c⟩ := isOf hZ e572 f575_E
        obtain ⟨_, _, ⟨T583, L583, k583, n583⟩, -, X583, ⟨Lc583, hQ583, l583, y583, z583⟩, st583⟩ := X580.virtualBack hx (y := (⟨"com/example/farcall/farcall/io/XdrEncoder", "size", "()I"⟩ : MethodName)) (z := (⟨"com/example/farcall/farcall/io/XdrEncoder", "size", "()I"⟩ : MethodName)) hown (mvT hZ (hw _ (List.mem_of_getElem? (i := 40) rfl))) (mvT hZ (hw _ (List.mem_of_getElem? (i := 24) rfl))) (notFace_of_selects (args := #[]) (mvT hZ (hw _ (List.mem_of_getElem? (i := 26) rfl)))) (mvT hZ (hw _ (List.mem_of_getElem? (i := 26) rfl))) (mvT hZ (hw _ (List.mem_of_getElem? (i := 25) rfl))) (by decide) (backOf (W := 0) (rm6 l Z a0 hw [] b540 bb548 ((own_put (own_put (fun _ : Nat => (0 : Int32)) 0 i0) 4 i2)) 4 8 T572.heap n0 Z572 f575_E f576_F f577_F f578_F f579_A ne_ab568 fg568 g_a568 g_b568 (by decide) (by decide)) hZ (hw _ (List.mem_of_getElem? (i := 27) rfl)) (hw _ (List.mem_of_getElem? (i := 2) rfl)) (by decide) (by decide)) q583a q583c (g := (mkF m 154 #[iv i0, iv i1, iv i2, iv i3, iv (1 : Int32), iv (1 : Int32), iv (0 : Int32), rv b540, iv (4 : Int32), iv (0 : Int32), iv (0 : Int32), iv (4 : Int32), iv (1 : Int32), rv r572, .unset, .unset] [(.ref b540)])) rfl (by rw [hml]; rfl) (Steps.refl _) (argsL := []) (rest := []) (lenOf pd0_1 rfl) rfl (by show 2 * 0 + _ ≤ _; exact Nat.le_of_eq rfl) (hb hby at_154) (fun _ _ => ⟨rfl, e572, (by decide : 3 + 0 ≤ _), (by decide : 132 + 0 ≤ _)⟩)
        dsimp only [Pt.U, Pt.locs, Pt.cells, Pt.slots] at X583 l583 y583 z583 st583 hQ583
        subst l583 y583 z583
        obtain ⟨rfl, Nq583, e583⟩ := hQ583
        have N583 := Fr.app N580 Nq583
        obtain ⟨LL584, X584, N584⟩ : ∃ LL, Stand p l e room_1 s m #[(.int i0), (.int i1), (.int i2), (.int i3)] below meth c T583 LL 3 132 ∧ Fr n0 LL := ⟨_, X583, N583⟩
        have pre585 : ∀ t, own_s p e below T583 m 157 #[iv i0, iv i1, iv i2, iv i3, iv (1 : Int32), iv (1 : Int32), iv (0 : Int32), rv b540, iv (4 : Int32), iv (0 : Int32), iv (0 : Int32), iv (4 : Int32), iv (1 : Int32), rv r572, .unset, .unset] [(.int (4 : Int32))] t → Steps p.tables e below S0 t := fun tX kX => pre582 _ (st583.trans kX)
        have pre587 : ∀ t, own_s p e below T583 m 163 #[iv i0, iv i1, iv i2, iv i3, iv (1 : Int32), iv (1 : Int32), iv (0 : Int32), rv b540, iv (4 : Int32), iv (0 : Int32), iv (0 : Int32), iv (4 : Int32), iv (1 : Int32), rv r572, .unset, .unset] [(.ref r572)] t → Steps p.tables e below S0 t := by
          intro tX kX
          refine pre585 _ ?_
          show own_s p e below T583 m 157 #[iv i0, iv i1, iv i2, iv i3, iv (1 : Int32), iv (1 : Int32), iv (0 : Int32), rv b540, iv (4 : Int32), iv (0 : Int32), iv (0 : Int32), iv (4 : Int32), iv (1 : Int32), rv r572, .unset, .unset] [(.int (4 : Int32))] _
          refine XS.iconst X584.here hx rfl (hb hby at_157) ?_
          refine XS.icmpNo X584.here hx rfl (hb hby at_158) rfl (teq (by decide : (4 : Int32) = (4 : Int32))).2 ?_
          refine XS.aload X584.here hx rfl (hb hby at_161) rfl rfl ?_
          exact kX
        obtain ⟨cl586, Ar586, S586, M586, H586⟩ := id fA572
        have pre589 : ∀ t, own_s p e below T583 m 171 #[iv i0, iv i1, iv i2, iv i3, iv (1 : Int32), iv (1 : Int32), iv (0 : Int32), rv b540, iv (4 : Int32), iv (0 : Int32), iv (0 : Int32), iv (4 : Int32), iv (1 : Int32), rv r572, .unset, .unset] [(.int (0 : Int32)), (.ref r572)] t → Steps p.tables e below S0 t := by
          intro tX kX
          refine pre587 _ ?_
          show own_s p e below T583 m 163 #[iv i0, iv i1, iv i2, iv i3, iv (1 : Int32), iv (1 : Int32), iv (0 : Int32), rv b540, iv (4 : Int32), iv (0 : Int32), iv (0 : Int32), iv (4 : Int32), iv (1 : Int32), rv r572, .unset, .unset] [(.ref r572)] _
          refine X584.arraylength hx (by rw [e583]; exact Ar586.1) (State.isArrayOf_alike hZ.alike Ar586.2.1) (g := (mkF m 163 #[iv i0, iv i1, iv i2, iv i3, iv (1 : Int32), iv (1 : Int32), iv (0 : Int32), rv b540, iv (4 : Int32), iv (0 : Int32), iv (0 : Int32), iv (4 : Int32), iv (1 : Int32), rv r572, .unset, .unset] [(.ref r572)])) rfl rfl (hb hby at_163) _ ?_
          rw [show cl586.slots.size.toInt32 = (4 : Int32) from by rw [S586]; exact rfl]
          refine XS.iconst X584.here hx rfl (hb hby at_164) ?_
          refine XS.icmpNo X584.here hx rfl (hb hby at_165) rfl (teq (by decide : (4 : Int32) = (4 : Int32))).2 ?_
          show own_s p e below T583 m 168 #[iv i0, iv i1, iv i2, iv i3, iv (1 : Int32), iv (1 : Int32), iv (0 : Int32), rv b540, iv (4 : Int32), iv (0 : Int32), iv (0 : Int32), iv (4 : Int32), iv (1 : Int32), rv r572, .unset, .unset] [] _
          refine XS.aload X584.here hx rfl (hb hby at_168) rfl rfl ?_
          refine XS.iconst X584.here hx rfl (hb hby at_170) ?_
          exact kX
        obtain ⟨cl588, Ar588, S588, M588, H588⟩ := id fA572
        have pre591 : ∀ t, own_s p e below T583 m 183 #[iv i0, iv i1, iv i2, iv i3, iv (1 : Int32), iv (1 : Int32), iv (0 : Int32), rv b540, iv (4 : Int32), iv (0 : Int32), iv (0 : Int32), iv (4 : Int32), iv (1 : Int32), rv r572, .unset, .unset] [(.int (1 : Int32)), (.ref r572)] t → Steps p.tables e below S0 t := by
          intro tX kX
          refine pre589 _ ?_
          show own_s p e below T583 m 171 #[iv i0, iv i1, iv i2, iv i3, iv (1 : Int32), iv (1 : Int32), iv (0 : Int32), rv b540, iv (4 : Int32), iv (0 : Int32), iv (0 : Int32), iv (4 : Int32), iv (1 : Int32), rv r572, .unset, .unset] [(.int (0 : Int32)), (.ref r572)] _
          refine X584.baloadBytes hx (j := (0 : Int32)) (v := (.int (((i2.toUInt32 >>> ((24 : Int32) &&& 31).toUInt32).toInt32).toInt8.toInt32))) (by rw [e583]; exact Ar588.1) (State.isArrayOf_alike hZ.alike Ar588.2.1) Ar588.2.2 (own_inb S588 M588 (by decide)) (own_get H588 S588 (by decide) (show Value.int ((own_put (own_put (fun _ : Nat => (0 : Int32)) 0 i0) 4 i2) (4 + 0)) = Value.int (((i2.toUInt32 >>> ((24 : Int32) &&& 31).toUInt32).toInt32).toInt8.toInt32) from congrArg Value.int (((own_put_in (by decide) (by decide)).trans (congrArg (own_by i2) (show _ = 0 from by decide))).trans (show own_by i2 0 = (((i2.toUInt32 >>> ((24 : Int32) &&& 31).toUInt32).toInt32).toInt8.toInt32) from rfl)))) (g := (mkF m 171 #[iv i0, iv i1, iv i2, iv i3, iv (1 : Int32), iv (1 : Int32), iv (0 : Int32), rv b540, iv (4 : Int32), iv (0 : Int32), iv (0 : Int32), iv (4 : Int32), iv (1 : Int32), rv r572, .unset, .unset] [(.int (0 : Int32)), (.ref r572)])) rfl rfl (hb hby at_171) _ ?_
          refine XS.iloadN X584.here hx rfl (hb hby at_172) rfl ?_
          refine XS.bipush X584.here hx rfl (hb hby at_173) ?_
          show own_s p e below T583 m 175 #[iv i0, iv i1, iv i2, iv i3, iv (1 : Int32), iv (1 : Int32), iv (0 : Int32), rv b540, iv (4 : Int32), iv (0 : Int32), iv (0 : Int32), iv (4 : Int32), iv (1 : Int32), rv r572, .unset, .unset] [(.int (24 : Int32)), (.int i2), (.int (((i2.toUInt32 >>> ((24 : Int32) &&& 31).toUInt32).toInt32).toInt8.toInt32))] _
          refine XS.iushr X584.here hx rfl (hb hby at_175) rfl ?_
          refine XS.i2b X584.here hx rfl (hb hby at_176) rfl ?_
          refine XS.icmpNo X584.here hx rfl (hb hby at_177) rfl (teq (rfl : (((i2.toUInt32 >>> ((24 : Int32) &&& 31).toUInt32).toInt32).toInt8.toInt32) = (((i2.toUInt32 >>> ((24 : Int32) &&& 31).toUInt32).toInt32).toInt8.toInt32))).2 ?_
          show own_s p e below T583 m 180 #[iv i0, iv i1, iv i2, iv i3, iv (1 : Int32), iv (1 : Int32), iv (0 : Int32), rv b540, iv (4 : Int32), iv (0 : Int32), iv (0 : Int32), iv (4 : Int32), iv (1 : Int32), rv r572, .unset, .unset] [] _
          refine XS.aload X584.here hx rfl (hb hby at_180) rfl rfl ?_
          refine XS.iconst X584.here hx rfl (hb hby at_182) ?_
          exact kX
        obtain ⟨cl590, Ar590, S590, M590, H590⟩ := id fA572
        have pre593 : ∀ t, own_s p e below T583 m 195 #[iv i0, iv i1, iv i2, iv i3, iv (1 : Int32), iv (1 : Int32), iv (0 : Int32), rv b540, iv (4 : Int32), iv (0 : Int32), iv (0 : Int32), iv (4 : Int32), iv (1 : Int32), rv r572, .unset, .unset] [(.int (2 : Int32)), (.ref r572)] t → Steps p.tables e below S0 t := by
          intro tX kX
          refine pre591 _ ?_
          show own_s p e below T583 m 183 #[iv i0, iv i1, iv i2, iv i3, iv (1 : Int32), iv (1 : Int32), iv (0 : Int32), rv b540, iv (4 : Int32), iv (0 : Int32), iv (0 : Int32), iv (4 : Int32), iv (1 : Int32), rv r572, .unset, .unset] [(.int (1 : Int32)), (.ref r572)] _
          refine X584.baloadBytes hx (j := (1 : Int32)) (v := (.int (((i2.toUInt32 >>> ((16 : Int32) &&& 31).toUInt32).toInt32).toInt8.toInt32))) (by rw [e583]; exact Ar590.1) (State.isArrayOf_alike hZ.alike Ar590.2.1) Ar590.2.2 (own_inb S590 M590 (by decide)) (own_get H590 S590 (by decide) (show Value.int ((own_put (own_put (fun _ : Nat => (0 : Int32)) 0 i0) 4 i2) (4 + 1)) = Value.int (((i2.toUInt32 >>> ((16 : Int32) &&& 31).toUInt32).toInt32).toInt8.toInt32) from congrArg Value.int (((own_put_in (by decide) (by decide)).trans (congrArg (own_by i2) (show _ = 1 from by decide))).trans (show own_by i2 1 = (((i2.toUInt32 >>> ((16 : Int32) &&& 31).toUInt32).toInt32).toInt8.toInt32) from rfl)))) (g := (mkF m 183 #[iv i0, iv i1, iv i2, iv i3, iv (1 : Int32), iv (1 : Int32), iv (0 : Int32), rv b540, iv (4 : Int32), iv (0 : Int32), iv (0 : Int32), iv (4 : Int32), iv (1 : Int32), rv r572, .unset, .unset] [(.int (1 : Int32)), (.ref r572)])) rfl rfl (hb hby at_183) _ ?_
          refine XS.iloadN X584.here hx rfl (hb hby at_184) rfl ?_
          refine XS.bipush X584.here hx rfl (hb hby at_185) ?_
          show own_s p e below T583 m 187 #[iv i0, iv i1, iv i2, iv i3, iv (1 : Int32), iv (1 : Int32), iv (0 : Int32), rv b540, iv (4 : Int32), iv (0 : Int32), iv (0 : Int32), iv (4 : Int32), iv (1 : Int32), rv r572, .unset, .unset] [(.int (16 : Int32)), (.int i2), (.int (((i2.toUInt32 >>> ((16 : Int32) &&& 31).toUInt32).toInt32).toInt8.toInt32))] _
          refine XS.iushr X584.here hx rfl (hb hby at_187) rfl ?_
          refine XS.i2b X584.here hx rfl (hb hby at_188) rfl ?_
          refine XS.icmpNo X584.here hx rfl (hb hby at_189) rfl (teq (rfl : (((i2.toUInt32 >>> ((16 : Int32) &&& 31).toUInt32).toInt32).toInt8.toInt32) = (((i2.toUInt32 >>> ((16 : Int32) &&& 31).toUInt32).toInt32).toInt8.toInt32))).2 ?_
          show own_s p e below T583 m 192 #[iv i0, iv i1, iv i2, iv i3, iv (1 : Int32), iv (1 : Int32), iv (0 : Int32), rv b540, iv (4 : Int32), iv (0 : Int32), iv (0 : Int32), iv (4 : Int32), iv (1 : Int32), rv r572, .unset, .unset] [] _
          refine XS.aload X584.here hx rfl (hb hby at_192) rfl rfl ?_
          refine XS.iconst X584.here hx rfl (hb hby at_194) ?_
          exact kX
        obtain ⟨cl592, Ar592, S592, M592, H592⟩ := id fA572
        have pre595 : ∀ t, own_s p e below T583 m 207 #[iv i0, iv i1, iv i2, iv i3, iv (1 : Int32), iv (1 : Int32), iv (0 : Int32), rv b540, iv (4 : Int32), iv (0 : Int32), iv (0 : Int32), iv (4 : Int32), iv (1 : Int32), rv r572, .unset, .unset] [(.int (3 : Int32)), (.ref r572)] t → Steps p.tables e below S0 t := by
          intro tX kX
          refine pre593 _ ?_
          show own_s p e below T583 m 195 #[iv i0, iv i1, iv i2, iv i3, iv (1 : Int32), iv (1 : Int32), iv (0 : Int32), rv b540, iv (4 : Int32), iv (0 : Int32), iv (0 : Int32), iv (4 : Int32), iv (1 : Int32), rv r572, .unset, .unset] [(.int (2 : Int32)), (.ref r572)] _
          refine X584.baloadBytes hx (j := (2 : Int32)) (v := (.int (((i2.toUInt32 >>> ((8 : Int32) &&& 31).toUInt32).toInt32).toInt8.toInt32))) (by rw [e583]; exact Ar592.1) (State.isArrayOf_alike hZ.alike Ar592.2.1) Ar592.2.2 (own_inb S592 M592 (by decide)) (own_get H592 S592 (by decide) (show Value.int ((own_put (own_put (fun _ : Nat => (0 : Int32)) 0 i0) 4 i2) (4 + 2)) = Value.int (((i2.toUInt32 >>> ((8 : Int32) &&& 31).toUInt32).toInt32).toInt8.toInt32) from congrArg Value.int (((own_put_in (by decide) (by decide)).trans (congrArg (own_by i2) (show _ = 2 from by decide))).trans (show own_by i2 2 = (((i2.toUInt32 >>> ((8 : Int32) &&& 31).toUInt32).toInt32).toInt8.toInt32) from rfl)))) (g := (mkF m 195 #[iv i0, iv i1, iv i2, iv i3, iv (1 : Int32), iv (1 : Int32), iv (0 : Int32), rv b540, iv (4 : Int32), iv (0 : Int32), iv (0 : Int32), iv (4 : Int32), iv (1 : Int32), rv r572, .unset, .unset] [(.int (2 : Int32)), (.ref r572)])) rfl rfl (hb hby at_195) _ ?_
          refine XS.iloadN X584.here hx rfl (hb hby at_196) rfl ?_
          refine XS.bipush X584.here hx rfl (hb hby at_197) ?_
          show own_s p e below T583 m 199 #[iv i0, iv i1, iv i2, iv i3, iv (1 : Int32), iv (1 : Int32), iv (0 : Int32), rv b540, iv (4 : Int32), iv (0 : Int32), iv (0 : Int32), iv (4 : Int32), iv (1 : Int32), rv r572, .unset, .unset] [(.int (8 : Int32)), (.int i2), (.int (((i2.toUInt32 >>> ((8 : Int32) &&& 31).toUInt32).toInt32).toInt8.toInt32))] _
          refine XS.iushr X584.here hx rfl (hb hby at_199) rfl ?_
          refine XS.i2b X584.here hx rfl (hb hby at_200) rfl ?_
          refine XS.icmpNo X584.here hx rfl (hb hby at_201) rfl (teq (rfl : (((i2.toUInt32 >>> ((8 : Int32) &&& 31).toUInt32).toInt32).toInt8.toInt32) = (((i2.toUInt32 >>> ((8 : Int32) &&& 31).toUInt32).toInt32).toInt8.toInt32))).2 ?_
          show own_s p e below T583 m 204 #[iv i0, iv i1, iv i2, iv i3, iv (1 : Int32), iv (1 : Int32), iv (0 : Int32), rv b540, iv (4 : Int32), iv (0 : Int32), iv (0 : Int32), iv (4 : Int32), iv (1 : Int32), rv r572, .unset, .unset] [] _
          refine XS.aload X584.here hx rfl (hb hby at_204) rfl rfl ?_
          refine XS.iconst X584.here hx rfl (hb hby at_206) ?_
          exact kX
        obtain ⟨cl594, Ar594, S594, M594, H594⟩ := id fA572
        have pre596 : ∀ t, own_s p e below T583 m 231 #[iv i0, iv i1, iv i2, iv i3, iv (1 : Int32), iv (1 : Int32), iv (0 : Int32), rv b540, iv (4 : Int32), iv (0 : Int32), iv (0 : Int32), iv (4 : Int32), iv (1 : Int32), rv r572, .unset, .unset] [(.int (4 : Int32)), (.ref b540)] t → Steps p.tables e below S0 t := by
          intro tX kX
          refine pre595 _ ?_
          show own_s p e below T583 m 207 #[iv i0, iv i1, iv i2, iv i3, iv (1 : Int32), iv (1 : Int32), iv (0 : Int32), rv b540, iv (4 : Int32), iv (0 : Int32), iv (0 : Int32), iv (4 : Int32), iv (1 : Int32), rv r572, .unset, .unset] [(.int (3 : Int32)), (.ref r572)] _
          refine X584.baloadBytes hx (j := (3 : Int32)) (v := (.int (i2.toInt8.toInt32))) (by rw [e583]; exact Ar594.1) (State.isArrayOf_alike hZ.alike Ar594.2.1) Ar594.2.2 (own_inb S594 M594 (by decide)) (own_get H594 S594 (by decide) (show Value.int ((own_put (own_put (fun _ : Nat => (0 : Int32)) 0 i0) 4 i2) (4 + 3)) = Value.int (i2.toInt8.toInt32) from congrArg Value.int (((own_put_in (by decide) (by decide)).trans (congrArg (own_by i2) (show _ = 3 from by decide))).trans (show own_by i2 3 = (i2.toInt8.toInt32) from rfl)))) (g := (mkF m 207 #[iv i0, iv i1, iv i2, iv i3, iv (1 : Int32), iv (1 : Int32), iv (0 : Int32), rv b540, iv (4 : Int32), iv (0 : Int32), iv (0 : Int32), iv (4 : Int32), iv (1 : Int32), rv r572, .unset, .unset] [(.int (3 : Int32)), (.ref r572)])) rfl rfl (hb hby at_207) _ ?_
          refine XS.iloadN X584.here hx rfl (hb hby at_208) rfl ?_
          refine XS.i2b X584.here hx rfl (hb hby at_209) rfl ?_
          show own_s p e below T583 m 210 #[iv i0, iv i1, iv i2, iv i3, iv (1 : Int32), iv (1 : Int32), iv (0 : Int32), rv b540, iv (4 : Int32), iv (0 : Int32), iv (0 : Int32), iv (4 : Int32), iv (1 : Int32), rv r572, .unset, .unset] [(.int (i2.toInt8.toInt32)), (.int (i2.toInt8.toInt32))] _
          refine XS.icmpNo X584.here hx rfl (hb hby at_210) rfl (teq (rfl : (i2.toInt8.toInt32) = (i2.toInt8.toInt32))).2 ?_
          refine XS.iconst X584.here hx rfl (hb hby at_213) ?_
          refine XS.goto X584.here hx rfl (pc0 := 214) (pc' := 218) rfl (hb hby at_214) (by decide) (by decide) ?_
          show own_s p e below T583 m 218 #[iv i0, iv i1, iv i2, iv i3, iv (1 : Int32), iv (1 : Int32), iv (0 : Int32), rv b540, iv (4 : Int32), iv (0 : Int32), iv (0 : Int32), iv (4 : Int32), iv (1 : Int32), rv r572, .unset, .unset] [(.int (1 : Int32))] _
          refine XS.istore X584.here hx rfl (hb hby at_218) rfl (l' := #[iv i0, iv i1, iv i2, iv i3, iv (1 : Int32), iv (1 : Int32), iv (0 : Int32), rv b540, iv (4 : Int32), iv (0 : Int32), iv (0 : Int32), iv (4 : Int32), iv (1 : Int32), rv r572, .unset, .unset]) rfl ?_
          refine XS.iload X584.here hx rfl (hb hby at_220) rfl ?_
          refine XS.ifYes X584.here hx rfl (pc0 := 222) (pc' := 227) rfl (hb hby at_222) rfl ((if0 _ _).trans (feq (by decide : ¬ ((1 : Int32) = (0 : Int32)))).2) (by decide) (by decide) ?_
          show own_s p e below T583 m 227 #[iv i0, iv i1, iv i2, iv i3, iv (1 : Int32), iv (1 : Int32), iv (0 : Int32), rv b540, iv (4 : Int32), iv (0 : Int32), iv (0 : Int32), iv (4 : Int32), iv (1 : Int32), rv r572, .unset, .unset] [] _
          refine XS.aload X584.here hx rfl (hb hby at_227) rfl rfl ?_
          refine XS.iload X584.here hx rfl (hb hby at_229) rfl ?_
          exact kX
        obtain ⟨cq597, kq597, q597a, q597b, q597c⟩ := isOf hZ e583 f575_E
        obtain ⟨_, _, ⟨T597, L597, k597, n597⟩, -, X597, ⟨Lc597, hQ597, l597, y597, z597⟩, st597⟩ := X584.virtualBack hx (y := (⟨"com/example/farcall/farcall/io/XdrEncoder", "endPart", "(I)V"⟩ : MethodName)) (z := (⟨"com/example/farcall/farcall/io/XdrEncoder", "endPart", "(I)V"⟩ : MethodName)) hown (mvT hZ (hw _ (List.mem_of_getElem? (i := 64) rfl))) (mvT hZ (hw _ (List.mem_of_getElem? (i := 65) rfl))) (notFace_of_selects (args := #[]) (mvT hZ (hw _ (List.mem_of_getElem? (i := 67) rfl)))) (mvT hZ (hw _ (List.mem_of_getElem? (i := 67) rfl))) (mvT hZ (hw _ (List.mem_of_getElem? (i := 66) rfl))) (by decide) (backOf (W := 0) (rm11 l Z a0 hw [] b540 (4 : Int32) bb548 ((own_put (own_put (fun _ : Nat => (0 : Int32)) 0 i0) 4 i2)) 4 8 4 T572.heap n0 Z572 f575_E f576_F f577_F f578_F f579_A ne_ab568 fg568 g_a568 g_b568 rfl (by decide) (by decide)) hZ (hw _ (List.mem_of_getElem? (i := 68) rfl)) (hw _ (List.mem_of_getElem? (i := 2) rfl)) (by decide) (by decide)) q597a q597c (g := (mkF m 231 #[iv i0, iv i1, iv i2, iv i3, iv (1 : Int32), iv (1 : Int32), iv (0 : Int32), rv b540, iv (4 : Int32), iv (0 : Int32), iv (0 : Int32), iv (4 : Int32), iv (1 : Int32), rv r572, .unset, .unset] [(.int (4 : Int32)), (.ref b540)])) rfl (by rw [hml]; rfl) (Steps.refl _) (argsL := [(.int (4 : Int32))]) (rest := []) (lenOf pd0_4 rfl) rfl (by show 2 * 0 + _ ≤ _; exact Nat.le_of_eq rfl) (hb hby at_231) (fun _ _ => ⟨rfl, e583, (by decide : 3 + 0 ≤ _), (by decide : 132 + 0 ≤ _)⟩)
        dsimp only [Pt.U, Pt.locs, Pt.cells, Pt.slots] at X597 l597 y597 z597 st597 hQ597
        subst l597 y597 z597
        obtain ⟨rfl, Nq597, Kq597, E_a597, F_buf597, F_sta597, F_end597, A_b597, ne_ab597, fg597, g_a597, g_b597⟩ := hQ597
        have N597 := Fr.app N584 Nq597
        have e597 : T597.heap = T597.heap := rfl
        have Z597 : n0 ≤ T597.heap.size := Nat.le_trans Z572 Kq597.1
        have f598_A : own_Af Z T597.heap r572 .byte 4 (fun j => .int ((own_put (own_put (fun _ : Nat => (0 : Int32)) 0 i0) 4 i2) (4 + j))) := fA572.keep Kq597 (ninS (Ne.symm ne573) (nin0))
        obtain ⟨LL599, X599, N599⟩ : ∃ LL, Stand p l e room_1 s m #[(.int i0), (.int i1), (.int i2), (.int i3)] below meth c T597 LL 3 132 ∧ Fr n0 LL := ⟨_, X597, N597⟩
        have pre600 : ∀ t, own_s p e below T597 m 234 #[iv i0, iv i1, iv i2, iv i3, iv (1 : Int32), iv (1 : Int32), iv (0 : Int32), rv b540, iv (4 : Int32), iv (0 : Int32), iv (0 : Int32), iv (4 : Int32), iv (1 : Int32), rv r572, .unset, .unset] [] t → Steps p.tables e below S0 t := fun tX kX => pre596 _ (st597.trans kX)
        have pre601 : ∀ t, own_s p e below T597 m 257 #[iv i0, iv i1, iv i2, iv i3, iv (1 : Int32), iv (1 : Int32), iv (0 : Int32), rv b540, iv (4 : Int32), iv (0 : Int32), iv (0 : Int32), iv (4 : Int32), iv (1 : Int32), rv r572, iv (4 : Int32), .unset] [(.ref b540)] t → Steps p.tables e below S0 t := by
          intro tX kX
          refine pre600 _ ?_
          show own_s p e below T597 m 234 #[iv i0, iv i1, iv i2, iv i3, iv (1 : Int32), iv (1 : Int32), iv (0 : Int32), rv b540, iv (4 : Int32), iv (0 : Int32), iv (0 : Int32), iv (4 : Int32), iv (1 : Int32), rv r572, .unset, .unset] [] _
          refine XS.iload X599.here hx rfl (hb hby at_234) rfl ?_
          refine XS.ifNo X599.here hx rfl (hb hby at_236) rfl ((if0 _ _).trans (feq (by decide : ¬ ((1 : Int32) = (0 : Int32)))).1) ?_
          refine XS.iload X599.here hx rfl (hb hby at_239) rfl ?_
          show own_s p e below T597 m 241 #[iv i0, iv i1, iv i2, iv i3, iv (1 : Int32), iv (1 : Int32), iv (0 : Int32), rv b540, iv (4 : Int32), iv (0 : Int32), iv (0 : Int32), iv (4 : Int32), iv (1 : Int32), rv r572, .unset, .unset] [(.int (0 : Int32))] _
          refine XS.iconst X599.here hx rfl (hb hby at_241) ?_
          refine XS.iadd X599.here hx rfl (hb hby at_242) rfl ?_
          refine XS.goto X599.here hx rfl (pc0 := 243) (pc' := 253) rfl (hb hby at_243) (by decide) (by decide) ?_
          show own_s p e below T597 m 253 #[iv i0, iv i1, iv i2, iv i3, iv (1 : Int32), iv (1 : Int32), iv (0 : Int32), rv b540, iv (4 : Int32), iv (0 : Int32), iv (0 : Int32), iv (4 : Int32), iv (1 : Int32), rv r572, .unset, .unset] [(.int (4 : Int32))] _
          refine XS.istore X599.here hx rfl (hb hby at_253) rfl (l' := #[iv i0, iv i1, iv i2, iv i3, iv (1 : Int32), iv (1 : Int32), iv (0 : Int32), rv b540, iv (4 : Int32), iv (0 : Int32), iv (0 : Int32), iv (4 : Int32), iv (1 : Int32), rv r572, iv (4 : Int32), .unset]) rfl ?_
          refine XS.aload X599.here hx rfl (hb hby at_255) rfl rfl ?_
          exact kX
        obtain ⟨cq602, kq602, q602a, q602b, q602c⟩ := isOf hZ e597 E_a597
        obtain ⟨_, _, ⟨T602, L602, k602, n602⟩, -, X602, ⟨Lc602, hQ602, l602, y602, z602⟩, st602⟩ := X599.virtualBack hx (y := (⟨"com/example/farcall/farcall/io/XdrEncoder", "size", "()I"⟩ : MethodName)) (z := (⟨"com/example/farcall/farcall/io/XdrEncoder", "size", "()I"⟩ : MethodName)) hown (mvT hZ (hw _ (List.mem_of_getElem? (i := 40) rfl))) (mvT hZ (hw _ (List.mem_of_getElem? (i := 24) rfl))) (notFace_of_selects (args := #[]) (mvT hZ (hw _ (List.mem_of_getElem? (i := 26) rfl)))) (mvT hZ (hw _ (List.mem_of_getElem? (i := 26) rfl))) (mvT hZ (hw _ (List.mem_of_getElem? (i := 25) rfl))) (by decide) (backOf (W := 0) (rm6 l Z a0 hw [] b540 bb548 ((own_put (own_put (fun _ : Nat => (0 : Int32)) 0 i0) 4 i2)) 4 8 T597.heap n0 Z597 E_a597 F_buf597 F_sta597 F_end597 A_b597 ne_ab597 fg597 g_a597 g_b597 (by decide) (by decide)) hZ (hw _ (List.mem_of_getElem? (i := 27) rfl)) (hw _ (List.mem_of_getElem? (i := 2) rfl)) (by decide) (by decide)) q602a q602c (g := (mkF m 257 #[iv i0, iv i1, iv i2, iv i3, iv (1 : Int32), iv (1 : Int32), iv (0 : Int32), rv b540, iv (4 : Int32), iv (0 : Int32), iv (0 : Int32), iv (4 : Int32), iv (1 : Int32), rv r572, iv (4 : Int32), .unset] [(.ref b540)])) rfl (by rw [hml]; rfl) (Steps.refl _) (argsL := []) (rest := []) (lenOf pd0_1 rfl) rfl (by show 2 * 0 + _ ≤ _; exact Nat.le_of_eq rfl) (hb hby at_257) (fun _ _ => ⟨rfl, e597, (by decide : 3 + 0 ≤ _), (by decide : 132 + 0 ≤ _)⟩)
        dsimp only [Pt.U, Pt.locs, Pt.cells, Pt.slots] at X602 l602 y602 z602 st602 hQ602
        subst l602 y602 z602
        obtain ⟨rfl, Nq602, e602⟩ := hQ602
        have N602 := Fr.app N599 Nq602
        obtain ⟨LL603, X603, N603⟩ : ∃ LL, Stand p l e room_1 s m #[(.int i0), (.int i1), (.int i2), (.int i3)] below meth c T602 LL 3 132 ∧ Fr n0 LL := ⟨_, X602, N602⟩
        have pre604 : ∀ t, own_s p e below T602 m 260 #[iv i0, iv i1, iv i2, iv i3, iv (1 : Int32), iv (1 : Int32), iv (0 : Int32), rv b540, iv (4 : Int32), iv (0 : Int32), iv (0 : Int32), iv (4 : Int32), iv (1 : Int32), rv r572, iv (4 : Int32), .unset] [(.int (4 : Int32))] t → Steps p.tables e below S0 t := fun tX kX => pre601 _ (st602.trans kX)
        have pre605 : ∀ t, own_s p e below T602 m 312 #[iv i0, iv i1, iv i2, iv i3, iv (1 : Int32), iv (1 : Int32), iv (0 : Int32), rv b540, iv (4 : Int32), iv (0 : Int32), iv (0 : Int32), iv (4 : Int32), iv (1 : Int32), rv r572, iv (4 : Int32), .unset] [(.int (0 : Int32)), (.ref b540)] t → Steps p.tables e below S0 t := by
          intro tX kX
          refine pre604 _ ?_
          show own_s p e below T602 m 260 #[iv i0, iv i1, iv i2, iv i3, iv (1 : Int32), iv (1 : Int32), iv (0 : Int32), rv b540, iv (4 : Int32), iv (0 : Int32), iv (0 : Int32), iv (4 : Int32), iv (1 : Int32), rv r572, iv (4 : Int32), .unset] [(.int (4 : Int32))] _
          refine XS.iload X603.here hx rfl (hb hby at_260) rfl ?_
          refine XS.icmpNo X603.here hx rfl (hb hby at_262) rfl (teq (by decide : (4 : Int32) = (4 : Int32))).2 ?_
          refine XS.iconst X603.here hx rfl (hb hby at_265) ?_
          show own_s p e below T602 m 266 #[iv i0, iv i1, iv i2, iv i3, iv (1 : Int32), iv (1 : Int32), iv (0 : Int32), rv b540, iv (4 : Int32), iv (0 : Int32), iv (0 : Int32), iv (4 : Int32), iv (1 : Int32), rv r572, iv (4 : Int32), .unset] [(.int (1 : Int32))] _
          refine XS.goto X603.here hx rfl (pc0 := 266) (pc' := 270) rfl (hb hby at_266) (by decide) (by decide) ?_
          refine XS.istore X603.here hx rfl (hb hby at_270) rfl (l' := #[iv i0, iv i1, iv i2, iv i3, iv (1 : Int32), iv (1 : Int32), iv (0 : Int32), rv b540, iv (4 : Int32), iv (0 : Int32), iv (0 : Int32), iv (4 : Int32), iv (1 : Int32), rv r572, iv (4 : Int32), .unset]) rfl ?_
          refine XS.iload X603.here hx rfl (hb hby at_272) rfl ?_
          show own_s p e below T602 m 274 #[iv i0, iv i1, iv i2, iv i3, iv (1 : Int32), iv (1 : Int32), iv (0 : Int32), rv b540, iv (4 : Int32), iv (0 : Int32), iv (0 : Int32), iv (4 : Int32), iv (1 : Int32), rv r572, iv (4 : Int32), .unset] [(.int (1 : Int32))] _
          refine XS.ifNo X603.here hx rfl (hb hby at_274) rfl ((if0 _ _).trans (feq (by decide : ¬ ((1 : Int32) = (0 : Int32)))).1) ?_
          refine XS.iload X603.here hx rfl (hb hby at_277) rfl ?_
          refine XS.ifNo X603.here hx rfl (hb hby at_279) rfl ((if0 _ _).trans (feq (by decide : ¬ ((1 : Int32) = (0 : Int32)))).1) ?_
          show own_s p e below T602 m 282 #[iv i0, iv i1, iv i2, iv i3, iv (1 : Int32), iv (1 : Int32), iv (0 : Int32), rv b540, iv (4 : Int32), iv (0 : Int32), iv (0 : Int32), iv (4 : Int32), iv (1 : Int32), rv r572, iv (4 : Int32), .unset] [] _
          refine XS.iload X603.here hx rfl (hb hby at_282) rfl ?_
          refine XS.ifNo X603.here hx rfl (hb hby at_284) rfl ((if0 _ _).trans (teq (by decide : (0 : Int32) = (0 : Int32))).2) ?_
          refine XS.iload X603.here hx rfl (hb hby at_287) rfl ?_
          show own_s p e below T602 m 289 #[iv i0, iv i1, iv i2, iv i3, iv (1 : Int32), iv (1 : Int32), iv (0 : Int32), rv b540, iv (4 : Int32), iv (0 : Int32), iv (0 : Int32), iv (4 : Int32), iv (1 : Int32), rv r572, iv (4 : Int32), .unset] [(.int (4 : Int32))] _
          refine XS.iload X603.here hx rfl (hb hby at_289) rfl ?_
          refine XS.icmpNo X603.here hx rfl (hb hby at_291) rfl (teq (by decide : (4 : Int32) = (4 : Int32))).2 ?_
          refine XS.iconst X603.here hx rfl (hb hby at_294) ?_
          show own_s p e below T602 m 295 #[iv i0, iv i1, iv i2, iv i3, iv (1 : Int32), iv (1 : Int32), iv (0 : Int32), rv b540, iv (4 : Int32), iv (0 : Int32), iv (0 : Int32), iv (4 : Int32), iv (1 : Int32), rv r572, iv (4 : Int32), .unset] [(.int (1 : Int32))] _
          refine XS.goto X603.here hx rfl (pc0 := 295) (pc' := 299) rfl (hb hby at_295) (by decide) (by decide) ?_
          refine XS.istore X603.here hx rfl (hb hby at_299) rfl (l' := #[iv i0, iv i1, iv i2, iv i3, iv (1 : Int32), iv (1 : Int32), iv (0 : Int32), rv b540, iv (4 : Int32), iv (0 : Int32), iv (0 : Int32), iv (4 : Int32), iv (1 : Int32), rv r572, iv (4 : Int32), .unset]) rfl ?_
          refine XS.iload X603.here hx rfl (hb hby at_301) rfl ?_
          show own_s p e below T602 m 303 #[iv i0, iv i1, iv i2, iv i3, iv (1 : Int32), iv (1 : Int32), iv (0 : Int32), rv b540, iv (4 : Int32), iv (0 : Int32), iv (0 : Int32), iv (4 : Int32), iv (1 : Int32), rv r572, iv (4 : Int32), .unset] [(.int (1 : Int32))] _
          refine XS.ifYes X603.here hx rfl (pc0 := 303) (pc' := 308) rfl (hb hby at_303) rfl ((if0 _ _).trans (feq (by decide : ¬ ((1 : Int32) = (0 : Int32)))).2) (by decide) (by decide) ?_
          refine XS.aload X603.here hx rfl (hb hby at_308) rfl rfl ?_
          refine XS.iload X603.here hx rfl (hb hby at_310) rfl ?_
          exact kX
        obtain ⟨cq606, kq606, q606a, q606b, q606c⟩ := isOf hZ e602 E_a597
        obtain ⟨_, _, ⟨T606, L606, k606, n606⟩, -, X606, ⟨Lc606, hQ606, l606, y606, z606⟩, st606⟩ := X603.virtualBack hx (y := (⟨"com/example/farcall/farcall/io/XdrEncoder", "endPart", "(I)V"⟩ : MethodName)) (z := (⟨"com/example/farcall/farcall/io/XdrEncoder", "endPart", "(I)V"⟩ : MethodName)) hown (mvT hZ (hw _ (List.mem_of_getElem? (i := 64) rfl))) (mvT hZ (hw _ (List.mem_of_getElem? (i := 65) rfl))) (notFace_of_selects (args := #[]) (mvT hZ (hw _ (List.mem_of_getElem? (i := 67) rfl)))) (mvT hZ (hw _ (List.mem_of_getElem? (i := 67) rfl))) (mvT hZ (hw _ (List.mem_of_getElem? (i := 66) rfl))) (by decide) (backOf (W := 0) (rm11 l Z a0 hw [] b540 (0 : Int32) bb548 ((own_put (own_put (fun _ : Nat => (0 : Int32)) 0 i0) 4 i2)) 4 8 0 T597.heap n0 Z597 E_a597 F_buf597 F_sta597 F_end597 A_b597 ne_ab597 fg597 g_a597 g_b597 rfl (by decide) (by decide)) hZ (hw _ (List.mem_of_getElem? (i := 68) rfl)) (hw _ (List.mem_of_getElem? (i := 2) rfl)) (by decide) (by decide)) q606a q606c (g := (mkF m 312 #[iv i0, iv i1, iv i2, iv i3, iv (1 : Int32), iv (1 : Int32), iv (0 : Int32), rv b540, iv (4 : Int32), iv (0 : Int32), iv (0 : Int32), iv (4 : Int32), iv (1 : Int32), rv r572, iv (4 : Int32), .unset] [(.int (0 : Int32)), (.ref b540)])) rfl (by rw [hml]; rfl) (Steps.refl _) (argsL := [(.int (0 : Int32))]) (rest := []) (lenOf pd0_4 rfl) rfl (by show 2 * 0 + _ ≤ _; exact Nat.le_of_eq rfl) (hb hby at_312) (fun _ _ => ⟨rfl, e602, (by decide : 3 + 0 ≤ _), (by decide : 132 + 0 ≤ _)⟩)
        dsimp only [Pt.U, Pt.locs, Pt.cells, Pt.slots] at X606 l606 y606 z606 st606 hQ606
        subst l606 y606 z606
        obtain ⟨rfl, Nq606, Kq606, E_a606, F_buf606, F_sta606, F_end606, A_b606, ne_ab606, fg606, g_a606, g_b606⟩ := hQ606
        have N606 := Fr.app N603 Nq606
        have e606 : T606.heap = T606.heap := rfl
        have Z606 : n0 ≤ T606.heap.size := Nat.le_trans Z597 Kq606.1
        have f607_A : own_Af Z T606.heap r572 .byte 4 (fun j => .int ((own_put (own_put (fun _ : Nat => (0 : Int32)) 0 i0) 4 i2) (4 + j))) := f598_A.keep Kq606 (ninS (Ne.symm ne573) (nin0))
        obtain ⟨LL608, X608, N608⟩ : ∃ LL, Stand p l e room_1 s m #[(.int i0), (.int i1), (.int i2), (.int i3)] below meth c T606 LL 3 132 ∧ Fr n0 LL := ⟨_, X606, N606⟩
        have pre609 : ∀ t, own_s p e below T606 m 315 #[iv i0, iv i1, iv i2, iv i3, iv (1 : Int32), iv (1 : Int32), iv (0 : Int32), rv b540, iv (4 : Int32), iv (0 : Int32), iv (0 : Int32), iv (4 : Int32), iv (1 : Int32), rv r572, iv (4 : Int32), .unset] [] t → Steps p.tables e below S0 t := fun tX kX => pre605 _ (st606.trans kX)
        have pre610 : ∀ t, own_s p e below T606 m 317 #[iv i0, iv i1, iv i2, iv i3, iv (1 : Int32), iv (1 : Int32), iv (0 : Int32), rv b540, iv (4 : Int32), iv (0 : Int32), iv (0 : Int32), iv (4 : Int32), iv (1 : Int32), rv r572, iv (4 : Int32), .unset] [(.ref b540)] t → Steps p.tables e below S0 t := by
          intro tX kX
          refine pre609 _ ?_
          show own_s p e below T606 m 315 #[iv i0, iv i1, iv i2, iv i3, iv (1 : Int32), iv (1 : Int32), iv (0 : Int32), rv b540, iv (4 : Int32), iv (0 : Int32), iv (0 : Int32), iv (4 : Int32), iv (1 : Int32), rv r572, iv (4 : Int32), .unset] [] _
          refine XS.aload X608.here hx rfl (hb hby at_315) rfl rfl ?_
          exact kX
        obtain ⟨cq611, kq611, q611a, q611b, q611c⟩ := isOf hZ e606 E_a606
        obtain ⟨_, _, ⟨T611, L611, k611, n611⟩, -, X611, ⟨Lc611, hQ611, l611, y611, z611⟩, st611⟩ := X608.virtualBack hx (y := (⟨"com/example/farcall/farcall/io/XdrEncoder", "size", "()I"⟩ : MethodName)) (z := (⟨"com/example/farcall/farcall/io/XdrEncoder", "size", "()I"⟩ : MethodName)) hown (mvT hZ (hw _ (List.mem_of_getElem? (i := 40) rfl))) (mvT hZ (hw _ (List.mem_of_getElem? (i := 24) rfl))) (notFace_of_selects (args := #[]) (mvT hZ (hw _ (List.mem_of_getElem? (i := 26) rfl)))) (mvT hZ (hw _ (List.mem_of_getElem? (i := 26) rfl))) (mvT hZ (hw _ (List.mem_of_getElem? (i := 25) rfl))) (by decide) (backOf (W := 0) (rm6 l Z a0 hw [] b540 bb548 ((own_put (own_put (fun _ : Nat => (0 : Int32)) 0 i0) 4 i2)) 0 8 T606.heap n0 Z606 E_a606 F_buf606 F_sta606 F_end606 A_b606 ne_ab606 fg606 g_a606 g_b606 (by decide) (by decide)) hZ (hw _ (List.mem_of_getElem? (i := 27) rfl)) (hw _ (List.mem_of_getElem? (i := 2) rfl)) (by decide) (by decide)) q611a q611c (g := (mkF m 317 #[iv i0, iv i1, iv i2, iv i3, iv (1 : Int32), iv (1 : Int32), iv (0 : Int32), rv b540, iv (4 : Int32), iv (0 : Int32), iv (0 : Int32), iv (4 : Int32), iv (1 : Int32), rv r572, iv (4 : Int32), .unset] [(.ref b540)])) rfl (by rw [hml]; rfl) (Steps.refl _) (argsL := []) (rest := []) (lenOf pd0_1 rfl) rfl (by show 2 * 0 + _ ≤ _; exact Nat.le_of_eq rfl) (hb hby at_317) (fun _ _ => ⟨rfl, e606, (by decide : 3 + 0 ≤ _), (by decide : 132 + 0 ≤ _)⟩)
        dsimp only [Pt.U, Pt.locs, Pt.cells, Pt.slots] at X611 l611 y611 z611 st611 hQ611
        subst l611 y611 z611
        obtain ⟨rfl, Nq611, e611⟩ := hQ611
        have N611 := Fr.app N608 Nq611
        obtain ⟨LL612, X612, N612⟩ : ∃ LL, Stand p l e room_1 s m #[(.int i0), (.int i1), (.int i2), (.int i3)] below meth c T611 LL 3 132 ∧ Fr n0 LL := ⟨_, X611, N611⟩
        have pre613 : ∀ t, own_s p e below T611 m 320 #[iv i0, iv i1, iv i2, iv i3, iv (1 : Int32), iv (1 : Int32), iv (0 : Int32), rv b540, iv (4 : Int32), iv (0 : Int32), iv (0 : Int32), iv (4 : Int32), iv (1 : Int32), rv r572, iv (4 : Int32), .unset] [(.int (8 : Int32))] t → Steps p.tables e below S0 t := fun tX kX => pre610 _ (st611.trans kX)
        have pre614 : ∀ t, own_s p e below T611 m 366 #[iv i0, iv i1, iv i2, iv i3, iv (1 : Int32), iv (1 : Int32), iv (0 : Int32), rv b540, iv (4 : Int32), iv (0 : Int32), iv (0 : Int32), iv (4 : Int32), iv (1 : Int32), rv r572, iv (4 : Int32), .unset] [(.ref b540)] t → Steps p.tables e below S0 t := by
          intro tX kX
          refine pre613 _ ?_
          show own_s p e below T611 m 320 #[iv i0, iv i1, iv i2, iv i3, iv (1 : Int32), iv (1 : Int32), iv (0 : Int32), rv b540, iv (4 : Int32), iv (0 : Int32), iv (0 : Int32), iv (4 : Int32), iv (1 : Int32), rv r572, iv (4 : Int32), .unset] [(.int (8 : Int32))] _
          refine XS.iload X612.here hx rfl (hb hby at_320) rfl ?_
          refine XS.iload X612.here hx rfl (hb hby at_322) rfl ?_
          refine XS.iadd X612.here hx rfl (hb hby at_324) rfl ?_
          show own_s p e below T611 m 325 #[iv i0, iv i1, iv i2, iv i3, iv (1 : Int32), iv (1 : Int32), iv (0 : Int32), rv b540, iv (4 : Int32), iv (0 : Int32), iv (0 : Int32), iv (4 : Int32), iv (1 : Int32), rv r572, iv (4 : Int32), .unset] [(.int (4 : Int32)), (.int (8 : Int32))] _
          refine XS.iconst X612.here hx rfl (hb hby at_325) ?_
          refine XS.iadd X612.here hx rfl (hb hby at_326) rfl ?_
          refine XS.icmpNo X612.here hx rfl (hb hby at_327) rfl (teq (by decide : (8 : Int32) = (8 : Int32))).2 ?_
          show own_s p e below T611 m 330 #[iv i0, iv i1, iv i2, iv i3, iv (1 : Int32), iv (1 : Int32), iv (0 : Int32), rv b540, iv (4 : Int32), iv (0 : Int32), iv (0 : Int32), iv (4 : Int32), iv (1 : Int32), rv r572, iv (4 : Int32), .unset] [] _
          refine XS.iconst X612.here hx rfl (hb hby at_330) ?_
          refine XS.goto X612.here hx rfl (pc0 := 331) (pc' := 335) rfl (hb hby at_331) (by decide) (by decide) ?_
          refine XS.istore X612.here hx rfl (hb hby at_335) rfl (l' := #[iv i0, iv i1, iv i2, iv i3, iv (1 : Int32), iv (1 : Int32), iv (0 : Int32), rv b540, iv (4 : Int32), iv (0 : Int32), iv (0 : Int32), iv (4 : Int32), iv (1 : Int32), rv r572, iv (4 : Int32), .unset]) rfl ?_
          show own_s p e below T611 m 337 #[iv i0, iv i1, iv i2, iv i3, iv (1 : Int32), iv (1 : Int32), iv (0 : Int32), rv b540, iv (4 : Int32), iv (0 : Int32), iv (0 : Int32), iv (4 : Int32), iv (1 : Int32), rv r572, iv (4 : Int32), .unset] [] _
          refine XS.goto X612.here hx rfl (pc0 := 337) (pc' := 357) rfl (hb hby at_337) (by decide) (by decide) ?_
          refine XS.iload X612.here hx rfl (hb hby at_357) rfl ?_
          refine XS.ifYes X612.here hx rfl (pc0 := 359) (pc' := 364) rfl (hb hby at_359) rfl ((if0 _ _).trans (feq (by decide : ¬ ((1 : Int32) = (0 : Int32)))).2) (by decide) (by decide) ?_
          show own_s p e below T611 m 364 #[iv i0, iv i1, iv i2, iv i3, iv (1 : Int32), iv (1 : Int32), iv (0 : Int32), rv b540, iv (4 : Int32), iv (0 : Int32), iv (0 : Int32), iv (4 : Int32), iv (1 : Int32), rv r572, iv (4 : Int32), .unset] [] _
          refine XS.aload X612.here hx rfl (hb hby at_364) rfl rfl ?_
          exact kX
        obtain ⟨cq615, kq615, q615a, q615b, q615c⟩ := isOf hZ e611 E_a606
        obtain ⟨_, _, ⟨T615, L615, k615, n615⟩, -, X615, ⟨Lc615, hQ615, l615, y615, z615⟩, st615⟩ := X612.virtualBack hx (y := (⟨"com/example/farcall/farcall/io/XdrEncoder", "toByteArray", "()[B"⟩ : MethodName)) (z := (⟨"com/example/farcall/farcall/io/XdrEncoder", "toByteArray", "()[B"⟩ : MethodName)) hown (mvT hZ (hw _ (List.mem_of_getElem? (i := 41) rfl))) (mvT hZ (hw _ (List.mem_of_getElem? (i := 42) rfl))) (notFace_of_selects (args := #[]) (mvT hZ (hw _ (List.mem_of_getElem? (i := 44) rfl)))) (mvT hZ (hw _ (List.mem_of_getElem? (i := 44) rfl))) (mvT hZ (hw _ (List.mem_of_getElem? (i := 43) rfl))) (by decide) (backOf (W := 0) (rm5 l Z a0 hw [] b540 bb548 ((own_put (own_put (fun _ : Nat => (0 : Int32)) 0 i0) 4 i2)) 0 8 T606.heap n0 Z606 E_a606 F_buf606 F_sta606 F_end606 A_b606 ne_ab606 fg606 g_a606 g_b606 (by decide) (by decide) (by decide)) hZ (hw _ (List.mem_of_getElem? (i := 45) rfl)) (hw _ (List.mem_of_getElem? (i := 2) rfl)) (by decide) (by decide)) q615a q615c (g := (mkF m 366 #[iv i0, iv i1, iv i2, iv i3, iv (1 : Int32), iv (1 : Int32), iv (0 : Int32), rv b540, iv (4 : Int32), iv (0 : Int32), iv (0 : Int32), iv (4 : Int32), iv (1 : Int32), rv r572, iv (4 : Int32), .unset] [(.ref b540)])) rfl (by rw [hml]; rfl) (Steps.refl _) (argsL := []) (rest := []) (lenOf pd0_3 rfl) rfl (by show 2 * 0 + _ ≤ _; exact Nat.le_of_eq rfl) (hb hby at_366) (fun _ _ => ⟨rfl, e611, (by decide : 3 + 1 ≤ _), (by decide : 132 + 64 ≤ _)⟩)
        dsimp only [Pt.U, Pt.locs, Pt.cells, Pt.slots] at X615 l615 y615 z615 st615 hQ615
        subst l615 y615 z615
        obtain ⟨r615, rfl, Nq615, Kq615, sz_r615, g_r615, fA615⟩ := hQ615
        have N615 := Fr.app N612 Nq615
        have e615 : T615.heap = T615.heap := rfl
        have Z615 : n0 ≤ T615.heap.size := Nat.le_trans Z606 Kq615.1
        have ne616 : b540 ≠ r615 := Nat.ne_of_lt (Nat.lt_of_lt_of_le E_a606.lt sz_r615)
        have ne617 : bb548 ≠ r615 := Nat.ne_of_lt (Nat.lt_of_lt_of_le A_b606.lt sz_r615)
        have ne618 : r572 ≠ r615 := Nat.ne_of_lt (Nat.lt_of_lt_of_le f607_A.lt sz_r615)
        have f619_E : Exa Z T615.heap b540 "com/example/farcall/farcall/io/XdrEncoder" := E_a606.keep Kq615
        have f620_F : Fld Z T615.heap b540 "com/example/farcall/farcall/io/XdrEncoder" "buffer" "[B" (.ref bb548) := F_buf606.keep Kq615 nin0
        have f621_F : Fld Z T615.heap b540 "com/example/farcall/farcall/io/XdrEncoder" "start" "I" (.int (Int32.ofNat 0)) := F_sta606.keep Kq615 nin0
        have f622_F : Fld Z T615.heap b540 "com/example/farcall/farcall/io/XdrEncoder" "end" "I" (.int (Int32.ofNat 8)) := F_end606.keep Kq615 nin0
        have f623_A : own_Af Z T615.heap bb548 .byte 64 (fun j => .int ((own_put (own_put (fun _ : Nat => (0 : Int32)) 0 i0) 4 i2) j)) := A_b606.keep Kq615 nin0
        have f624_A : own_Af Z T615.heap r572 .byte 4 (fun j => .int ((own_put (own_put (fun _ : Nat => (0 : Int32)) 0 i0) 4 i2) (4 + j))) := f607_A.keep Kq615 nin0
        obtain ⟨LL625, X625, N625⟩ : ∃ LL, Stand p l e room_1 s m #[(.int i0), (.int i1), (.int i2), (.int i3)] below meth c T615 LL 4 196 ∧ Fr n0 LL := ⟨_, X615, N615⟩
        have pre626 : ∀ t, own_s p e below T615 m 369 #[iv i0, iv i1, iv i2, iv i3, iv (1 : Int32), iv (1 : Int32), iv (0 : Int32), rv b540, iv (4 : Int32), iv (0 : Int32), iv (0 : Int32), iv (4 : Int32), iv (1 : Int32), rv r572, iv (4 : Int32), .unset] [(.ref r615)] t → Steps p.tables e below S0 t := fun tX kX => pre614 _ (st615.trans kX)
        have pre628 : ∀ t, own_s p e below T615 m 373 #[iv i0, iv i1, iv i2, iv i3, iv (1 : Int32), iv (1 : Int32), iv (0 : Int32), rv b540, iv (4 : Int32), iv (0 : Int32), iv (0 : Int32), iv (4 : Int32), iv (1 : Int32), rv r572, iv (4 : Int32), rv r615] [(.ref r615)] t → Steps p.tables e below S0 t := by
          intro tX kX
          refine pre626 _ ?_
          show own_s p e below T615 m 369 #[iv i0, iv i1, iv i2, iv i3, iv (1 : Int32), iv (1 : Int32), iv (0 : Int32), rv b540, iv (4 : Int32), iv (0 : Int32), iv (0 : Int32), iv (4 : Int32), iv (1 : Int32), rv r572, iv (4 : Int32), .unset] [(.ref r615)] _
          refine XS.astore X625.here hx rfl (hb hby at_369) rfl rfl (l' := #[iv i0, iv i1, iv i2, iv i3, iv (1 : Int32), iv (1 : Int32), iv (0 : Int32), rv b540, iv (4 : Int32), iv (0 : Int32), iv (0 : Int32), iv (4 : Int32), iv (1 : Int32), rv r572, iv (4 : Int32), rv r615]) rfl ?_
          refine XS.aload X625.here hx rfl (hb hby at_371) rfl rfl ?_
          exact kX
        obtain ⟨cl627, Ar627, S627, M627, H627⟩ := id fA615
        have pre630 : ∀ t, own_s p e below T615 m 395 #[iv i0, iv i1, iv i2, iv i3, iv (1 : Int32), iv (1 : Int32), iv (0 : Int32), rv b540, iv (4 : Int32), iv (0 : Int32), iv (0 : Int32), iv (4 : Int32), iv (1 : Int32), rv r572, iv (4 : Int32), rv r615] [(.int (7 : Int32)), (.ref r615)] t → Steps p.tables e below S0 t := by
          intro tX kX
          refine pre628 _ ?_
          show own_s p e below T615 m 373 #[iv i0, iv i1, iv i2, iv i3, iv (1 : Int32), iv (1 : Int32), iv (0 : Int32), rv b540, iv (4 : Int32), iv (0 : Int32), iv (0 : Int32), iv (4 : Int32), iv (1 : Int32), rv r572, iv (4 : Int32), rv r615] [(.ref r615)] _
          refine X625.arraylength hx (by rw [e615]; exact Ar627.1) (State.isArrayOf_alike hZ.alike Ar627.2.1) (g := (mkF m 373 #[iv i0, iv i1, iv i2, iv i3, iv (1 : Int32), iv (1 : Int32), iv (0 : Int32), rv b540, iv (4 : Int32), iv (0 : Int32), iv (0 : Int32), iv (4 : Int32), iv (1 : Int32), rv r572, iv (4 : Int32), rv r615] [(.ref r615)])) rfl rfl (hb hby at_373) _ ?_
          rw [show cl627.slots.size.toInt32 = (8 : Int32) from by rw [S627]; exact rfl]
          refine XS.iload X625.here hx rfl (hb hby at_374) rfl ?_
          refine XS.iload X625.here hx rfl (hb hby at_376) rfl ?_
          show own_s p e below T615 m 378 #[iv i0, iv i1, iv i2, iv i3, iv (1 : Int32), iv (1 : Int32), iv (0 : Int32), rv b540, iv (4 : Int32), iv (0 : Int32), iv (0 : Int32), iv (4 : Int32), iv (1 : Int32), rv r572, iv (4 : Int32), rv r615] [(.int (0 : Int32)), (.int (4 : Int32)), (.int (8 : Int32))] _
          refine XS.iadd X625.here hx rfl (hb hby at_378) rfl ?_
          refine XS.iconst X625.here hx rfl (hb hby at_379) ?_
          refine XS.iadd X625.here hx rfl (hb hby at_380) rfl ?_
          show own_s p e below T615 m 381 #[iv i0, iv i1, iv i2, iv i3, iv (1 : Int32), iv (1 : Int32), iv (0 : Int32), rv b540, iv (4 : Int32), iv (0 : Int32), iv (0 : Int32), iv (4 : Int32), iv (1 : Int32), rv r572, iv (4 : Int32), rv r615] [(.int (8 : Int32)), (.int (8 : Int32))] _
          refine XS.icmpYes X625.here hx rfl (pc0 := 381) (pc' := 386) rfl (hb hby at_381) rfl (teq (by decide : (8 : Int32) = (8 : Int32))).1 (by decide) (by decide) ?_
          refine XS.aload X625.here hx rfl (hb hby at_386) rfl rfl ?_
          refine XS.iload X625.here hx rfl (hb hby at_388) rfl ?_
          show own_s p e below T615 m 390 #[iv i0, iv i1, iv i2, iv i3, iv (1 : Int32), iv (1 : Int32), iv (0 : Int32), rv b540, iv (4 : Int32), iv (0 : Int32), iv (0 : Int32), iv (4 : Int32), iv (1 : Int32), rv r572, iv (4 : Int32), rv r615] [(.int (4 : Int32)), (.ref r615)] _
          refine XS.iload X625.here hx rfl (hb hby at_390) rfl ?_
          refine XS.iadd X625.here hx rfl (hb hby at_392) rfl ?_
          refine XS.iconst X625.here hx rfl (hb hby at_393) ?_
          show own_s p e below T615 m 394 #[iv i0, iv i1, iv i2, iv i3, iv (1 : Int32), iv (1 : Int32), iv (0 : Int32), rv b540, iv (4 : Int32), iv (0 : Int32), iv (0 : Int32), iv (4 : Int32), iv (1 : Int32), rv r572, iv (4 : Int32), rv r615] [(.int (3 : Int32)), (.int (4 : Int32)), (.ref r615)] _
          refine XS.iadd X625.here hx rfl (hb hby at_394) rfl ?_
          exact kX
        obtain ⟨cl629, Ar629, S629, M629, H629⟩ := id fA615
        have pre632 : ∀ t, own_s p e below T615 m 408 #[iv i0, iv i1, iv i2, iv i3, iv (1 : Int32), iv (1 : Int32), iv (0 : Int32), rv b540, iv (4 : Int32), iv (0 : Int32), iv (0 : Int32), iv (4 : Int32), iv (1 : Int32), rv r572, iv (4 : Int32), rv r615] [(.int (4 : Int32)), (.ref r615)] t → Steps p.tables e below S0 t := by
          intro tX kX
          refine pre630 _ ?_
          show own_s p e below T615 m 395 #[iv i0, iv i1, iv i2, iv i3, iv (1 : Int32), iv (1 : Int32), iv (0 : Int32), rv b540, iv (4 : Int32), iv (0 : Int32), iv (0 : Int32), iv (4 : Int32), iv (1 : Int32), rv r572, iv (4 : Int32), rv r615] [(.int (7 : Int32)), (.ref r615)] _
          refine X625.baloadBytes hx (j := (7 : Int32)) (v := (.int (i2.toInt8.toInt32))) (by rw [e615]; exact Ar629.1) (State.isArrayOf_alike hZ.alike Ar629.2.1) Ar629.2.2 (own_inb S629 M629 (by decide)) (own_get H629 S629 (by decide) (show Value.int ((own_put (own_put (fun _ : Nat => (0 : Int32)) 0 i0) 4 i2) (0 + 7)) = Value.int (i2.toInt8.toInt32) from congrArg Value.int (((own_put_in (by decide) (by decide)).trans (congrArg (own_by i2) (show _ = 3 from by decide))).trans (show own_by i2 3 = (i2.toInt8.toInt32) from rfl)))) (g := (mkF m 395 #[iv i0, iv i1, iv i2, iv i3, iv (1 : Int32), iv (1 : Int32), iv (0 : Int32), rv b540, iv (4 : Int32), iv (0 : Int32), iv (0 : Int32), iv (4 : Int32), iv (1 : Int32), rv r572, iv (4 : Int32), rv r615] [(.int (7 : Int32)), (.ref r615)])) rfl rfl (hb hby at_395) _ ?_
          refine XS.iloadN X625.here hx rfl (hb hby at_396) rfl ?_
          refine XS.i2b X625.here hx rfl (hb hby at_397) rfl ?_
          show own_s p e below T615 m 398 #[iv i0, iv i1, iv i2, iv i3, iv (1 : Int32), iv (1 : Int32), iv (0 : Int32), rv b540, iv (4 : Int32), iv (0 : Int32), iv (0 : Int32), iv (4 : Int32), iv (1 : Int32), rv r572, iv (4 : Int32), rv r615] [(.int (i2.toInt8.toInt32)), (.int (i2.toInt8.toInt32))] _
          refine XS.icmpNo X625.here hx rfl (hb hby at_398) rfl (teq (rfl : (i2.toInt8.toInt32) = (i2.toInt8.toInt32))).2 ?_
          refine XS.aload X625.here hx rfl (hb hby at_401) rfl rfl ?_
          refine XS.iload X625.here hx rfl (hb hby at_403) rfl ?_
          show own_s p e below T615 m 405 #[iv i0, iv i1, iv i2, iv i3, iv (1 : Int32), iv (1 : Int32), iv (0 : Int32), rv b540, iv (4 : Int32), iv (0 : Int32), iv (0 : Int32), iv (4 : Int32), iv (1 : Int32), rv r572, iv (4 : Int32), rv r615] [(.int (4 : Int32)), (.ref r615)] _
          refine XS.iload X625.here hx rfl (hb hby at_405) rfl ?_
          refine XS.iadd X625.here hx rfl (hb hby at_407) rfl ?_
          exact kX
        obtain ⟨cl631, Ar631, S631, M631, H631⟩ := id fA615
        have pre634 : ∀ t, own_s p e below T615 m 427 #[iv i0, iv i1, iv i2, iv i3, iv (1 : Int32), iv (1 : Int32), iv (0 : Int32), rv b540, iv (4 : Int32), iv (0 : Int32), iv (0 : Int32), iv (4 : Int32), iv (1 : Int32), rv r572, iv (4 : Int32), rv r615] [(.int (0 : Int32)), (.ref r615)] t → Steps p.tables e below S0 t := by
          intro tX kX
          refine pre632 _ ?_
          show own_s p e below T615 m 408 #[iv i0, iv i1, iv i2, iv i3, iv (1 : Int32), iv (1 : Int32), iv (0 : Int32), rv b540, iv (4 : Int32), iv (0 : Int32), iv (0 : Int32), iv (4 : Int32), iv (1 : Int32), rv r572, iv (4 : Int32), rv r615] [(.int (4 : Int32)), (.ref r615)] _
          refine X625.baloadBytes hx (j := (4 : Int32)) (v := (.int (((i2.toUInt32 >>> ((24 : Int32) &&& 31).toUInt32).toInt32).toInt8.toInt32))) (by rw [e615]; exact Ar631.1) (State.isArrayOf_alike hZ.alike Ar631.2.1) Ar631.2.2 (own_inb S631 M631 (by decide)) (own_get H631 S631 (by decide) (show Value.int ((own_put (own_put (fun _ : Nat => (0 : Int32)) 0 i0) 4 i2) (0 + 4)) = Value.int (((i2.toUInt32 >>> ((24 : Int32) &&& 31).toUInt32).toInt32).toInt8.toInt32) from congrArg Value.int (((own_put_in (by decide) (by decide)).trans (congrArg (own_by i2) (show _ = 0 from by decide))).trans (show own_by i2 0 = (((i2.toUInt32 >>> ((24 : Int32) &&& 31).toUInt32).toInt32).toInt8.toInt32) from rfl)))) (g := (mkF m 408 #[iv i0, iv i1, iv i2, iv i3, iv (1 : Int32), iv (1 : Int32), iv (0 : Int32), rv b540, iv (4 : Int32), iv (0 : Int32), iv (0 : Int32), iv (4 : Int32), iv (1 : Int32), rv r572, iv (4 : Int32), rv r615] [(.int (4 : Int32)), (.ref r615)])) rfl rfl (hb hby at_408) _ ?_
          refine XS.iloadN X625.here hx rfl (hb hby at_409) rfl ?_
          refine XS.bipush X625.here hx rfl (hb hby at_410) ?_
          show own_s p e below T615 m 412 #[iv i0, iv i1, iv i2, iv i3, iv (1 : Int32), iv (1 : Int32), iv (0 : Int32), rv b540, iv (4 : Int32), iv (0 : Int32), iv (0 : Int32), iv (4 : Int32), iv (1 : Int32), rv r572, iv (4 : Int32), rv r615] [(.int (24 : Int32)), (.int i2), (.int (((i2.toUInt32 >>> ((24 : Int32) &&& 31).toUInt32).toInt32).toInt8.toInt32))] _
          refine XS.iushr X625.here hx rfl (hb hby at_412) rfl ?_
          refine XS.i2b X625.here hx rfl (hb hby at_413) rfl ?_
          refine XS.icmpYes X625.here hx rfl (pc0 := 414) (pc' := 419) rfl (hb hby at_414) rfl (teq (rfl : (((i2.toUInt32 >>> ((24 : Int32) &&& 31).toUInt32).toInt32).toInt8.toInt32) = (((i2.toUInt32 >>> ((24 : Int32) &&& 31).toUInt32).toInt32).toInt8.toInt32))).1 (by decide) (by decide) ?_
          show own_s p e below T615 m 419 #[iv i0, iv i1, iv i2, iv i3, iv (1 : Int32), iv (1 : Int32), iv (0 : Int32), rv b540, iv (4 : Int32), iv (0 : Int32), iv (0 : Int32), iv (4 : Int32), iv (1 : Int32), rv r572, iv (4 : Int32), rv r615] [] _
          refine XS.iload X625.here hx rfl (hb hby at_419) rfl ?_
          refine XS.ifNo X625.here hx rfl (hb hby at_421) rfl ((if0 _ _).trans (feq (by decide : ¬ ((1 : Int32) = (0 : Int32)))).1) ?_
          refine XS.aload X625.here hx rfl (hb hby at_424) rfl rfl ?_
          show own_s p e below T615 m 426 #[iv i0, iv i1, iv i2, iv i3, iv (1 : Int32), iv (1 : Int32), iv (0 : Int32), rv b540, iv (4 : Int32), iv (0 : Int32), iv (0 : Int32), iv (4 : Int32), iv (1 : Int32), rv r572, iv (4 : Int32), rv r615] [(.ref r615)] _
          refine XS.iconst X625.here hx rfl (hb hby at_426) ?_
          exact kX
        obtain ⟨cl633, Ar633, S633, M633, H633⟩ := id fA615
        have pre635 : ∀ t, own_s p e below T615 m 458 #[iv i0, iv i1, iv i2, iv i3, iv (1 : Int32), iv (1 : Int32), iv (0 : Int32), rv b540, iv (4 : Int32), iv (0 : Int32), iv (0 : Int32), iv (4 : Int32), iv (1 : Int32), rv r572, iv (4 : Int32), rv r615] [(.int (1 : Int32))] t → Steps p.tables e below S0 t := by
          intro tX kX
          refine pre634 _ ?_
          show own_s p e below T615 m 427 #[iv i0, iv i1, iv i2, iv i3, iv (1 : Int32), iv (1 : Int32), iv (0 : Int32), rv b540, iv (4 : Int32), iv (0 : Int32), iv (0 : Int32), iv (4 : Int32), iv (1 : Int32), rv r572, iv (4 : Int32), rv r615] [(.int (0 : Int32)), (.ref r615)] _
          refine X625.baloadBytes hx (j := (0 : Int32)) (v := (.int (((i0.toUInt32 >>> ((24 : Int32) &&& 31).toUInt32).toInt32).toInt8.toInt32))) (by rw [e615]; exact Ar633.1) (State.isArrayOf_alike hZ.alike Ar633.2.1) Ar633.2.2 (own_inb S633 M633 (by decide)) (own_get H633 S633 (by decide) (show Value.int ((own_put (own_put (fun _ : Nat => (0 : Int32)) 0 i0) 4 i2) (0 + 0)) = Value.int (((i0.toUInt32 >>> ((24 : Int32) &&& 31).toUInt32).toInt32).toInt8.toInt32) from congrArg Value.int (((own_put_out (by decide)).trans ((own_put_in (by decide) (by decide)).trans (congrArg (own_by i0) (show _ = 0 from by decide)))).trans (show own_by i0 0 = (((i0.toUInt32 >>> ((24 : Int32) &&& 31).toUInt32).toInt32).toInt8.toInt32) from rfl)))) (g := (mkF m 427 #[iv i0, iv i1, iv i2, iv i3, iv (1 : Int32), iv (1 : Int32), iv (0 : Int32), rv b540, iv (4 : Int32), iv (0 : Int32), iv (0 : Int32), iv (4 : Int32), iv (1 : Int32), rv r572, iv (4 : Int32), rv r615] [(.int (0 : Int32)), (.ref r615)])) rfl rfl (hb hby at_427) _ ?_
          refine XS.iloadN X625.here hx rfl (hb hby at_428) rfl ?_
          refine XS.bipush X625.here hx rfl (hb hby at_429) ?_
          show own_s p e below T615 m 431 #[iv i0, iv i1, iv i2, iv i3, iv (1 : Int32), iv (1 : Int32), iv (0 : Int32), rv b540, iv (4 : Int32), iv (0 : Int32), iv (0 : Int32), iv (4 : Int32), iv (1 : Int32), rv r572, iv (4 : Int32), rv r615] [(.int (24 : Int32)), (.int i0), (.int (((i0.toUInt32 >>> ((24 : Int32) &&& 31).toUInt32).toInt32).toInt8.toInt32))] _
          refine XS.iushr X625.here hx rfl (hb hby at_431) rfl ?_
          refine XS.i2b X625.here hx rfl (hb hby at_432) rfl ?_
          refine XS.icmpYes X625.here hx rfl (pc0 := 433) (pc' := 438) rfl (hb hby at_433) rfl (teq (rfl : (((i0.toUInt32 >>> ((24 : Int32) &&& 31).toUInt32).toInt32).toInt8.toInt32) = (((i0.toUInt32 >>> ((24 : Int32) &&& 31).toUInt32).toInt32).toInt8.toInt32))).1 (by decide) (by decide) ?_
          show own_s p e below T615 m 438 #[iv i0, iv i1, iv i2, iv i3, iv (1 : Int32), iv (1 : Int32), iv (0 : Int32), rv b540, iv (4 : Int32), iv (0 : Int32), iv (0 : Int32), iv (4 : Int32), iv (1 : Int32), rv r572, iv (4 : Int32), rv r615] [] _
          refine XS.iload X625.here hx rfl (hb hby at_438) rfl ?_
          refine XS.ifYes X625.here hx rfl (pc0 := 440) (pc' := 457) rfl (hb hby at_440) rfl ((if0 _ _).trans (teq (by decide : (0 : Int32) = (0 : Int32))).1) (by decide) (by decide) ?_
          refine XS.iconst X625.here hx rfl (hb hby at_457) ?_
          exact kX
        subst hS0
        obtain ⟨fs, hr, hrun, hended, hW, hsame⟩ := X625.leave (v := (some (.int (1 : Int32)))) (fun h => by rw [Bd.returns] at h; cases h)
        refine ⟨_, _, pre635 _ (retN X625 hx (t := .boolean) Bd.returns (by simp) (hb hby at_458) hr), hrun, hended, _, _, rfl, ?_, ⟨_, rfl⟩, hW, hsame.mono (by decide) (by decide)⟩
        show Q0 Z i0 i1 i2 i3 h0 n0 (some (.int (1 : Int32))) T615.heap _
        exact ⟨rfl, N625⟩
      · skip
        have pre636 : ∀ t, own_s p e below s₁ m 39 #[iv i0, iv i1, iv i2, iv i3, iv (1 : Int32), iv (1 : Int32), iv (1 : Int32), .unset, .unset, .unset, .unset, .unset, .unset, .unset, .unset, .unset] [] t → Steps p.tables e below S0 t := by
          intro tX kX
          refine pre537 _ ?_
          show own_s p e below s₁ m 29 #[iv i0, iv i1, iv i2, iv i3, iv (1 : Int32), iv (1 : Int32), .unset, .unset, .unset, .unset, .unset, .unset, .unset, .unset, .unset, .unset] [(.int (i3 &&& (4 : Int32)))] _
          refine XS.ifNo X0.here hx rfl (hb hby at_29) rfl ((if0 _ _).trans (feq hc538).1) ?_
          refine XS.iconst X0.here hx rfl (hb hby at_32) ?_
          refine XS.goto X0.here hx rfl (pc0 := 33) (pc' := 37) rfl (hb hby at_33) (by decide) (by decide) ?_
          show own_s p e below s₁ m 37 #[iv i0, iv i1, iv i2, iv i3, iv (1 : Int32), iv (1 : Int32), .unset, .unset, .unset, .unset, .unset, .unset, .unset, .unset, .unset, .unset] [(.int (1 : Int32))] _
          refine XS.istore X0.here hx rfl (hb hby at_37) rfl (l' := #[iv i0, iv i1, iv i2, iv i3, iv (1 : Int32), iv (1 : Int32), iv (1 : Int32), .unset, .unset, .unset, .unset, .unset, .unset, .unset, .unset, .unset]) rfl ?_
          exact kX
        obtain ⟨T637, h637, X637, e637, E637, A637, D637, -, st637⟩ := newO X0 hx hZ hown (hw _ (List.mem_of_getElem? (i := 0) rfl)) (hw _ (List.mem_of_getElem? (i := 1) rfl)) (hw _ (List.mem_of_getElem? (i := 2) rfl)) e0 (g := (mkF m 39 #[iv i0, iv i1, iv i2, iv i3, iv (1 : Int32), iv (1 : Int32), iv (1 : Int32), .unset, .unset, .unset, .unset, .unset, .unset, .unset, .unset, .unset] [])) rfl (hb hby at_39) (by decide) (by decide)
        obtain ⟨b637, g637⟩ : ∃ z, z = h0.size := ⟨_, rfl⟩
        rw [← g637] at A637 D637 st637
        have g_b637 : n0 ≤ b637 := Nat.le_trans Z0 (Nat.le_of_eq g637.symm)
        have pre638 : ∀ t, own_s p e below T637 m 42 #[iv i0, iv i1, iv i2, iv i3, iv (1 : Int32), iv (1 : Int32), iv (1 : Int32), .unset, .unset, .unset, .unset, .unset, .unset, .unset, .unset, .unset] [(.ref b637)] t → Steps p.tables e below S0 t := fun tX kX => pre636 _ (st637 _ kX)
        have Z639 : n0 ≤ h637.size := Nat.le_trans Z0 E637.1
        have f640_E : Exa Z h637 b637 "com/example/farcall/farcall/io/XdrEncoder" := A637
        have f641_F : Fld Z h637 b637 "com/example/farcall/farcall/io/XdrEncoder" "buffer" "[B" .null := D637 (Or.inl (hw _ (List.mem_of_getElem? (i := 11) rfl))) (ty := (.array .byte)) (by decide)
        have f642_F : Fld Z h637 b637 "com/example/farcall/farcall/io/XdrEncoder" "end" "I" (.int (0 : Int32)) := D637 (Or.inl (hw _ (List.mem_of_getElem? (i := 22) rfl))) (ty := .int) (by decide)
        have f643_F : Fld Z h637 b637 "com/example/farcall/farcall/io/XdrEncoder" "start" "I" (.int (0 : Int32)) := D637 (Or.inl (hw _ (List.mem_of_getElem? (i := 29) rfl))) (ty := .int) (by decide)
        have pre644 : ∀ t, own_s p e below T637 m 43 #[iv i0, iv i1, iv i2, iv i3, iv (1 : Int32), iv (1 : Int32), iv (1 : Int32), .unset, .unset, .unset, .unset, .unset, .unset, .unset, .unset, .unset] [(.ref b637), (.ref b637)] t → Steps p.tables e below S0 t := by
          intro tX kX
          refine pre638 _ ?_
          show own_s p e below T637 m 42 #[iv i0, iv i1, iv i2, iv i3, iv (1 : Int32), iv (1 : Int32), iv (1 : Int32), .unset, .unset, .unset, .unset, .unset, .unset, .unset, .unset, .unset] [(.ref b637)] _
          refine XS.dup X637.here hx rfl (hb hby at_42) rfl rfl ?_
          exact kX
        obtain ⟨_, _, ⟨T645, L645, k645, n645⟩, -, X645, ⟨Lc645, hQ645, l645, y645, z645⟩, st645⟩ := X637.specialBack hx (y := (⟨"com/example/farcall/farcall/io/XdrEncoder", "<init>", "()V"⟩ : MethodName)) rfl hown (mvT hZ (hw _ (List.mem_of_getElem? (i := 3) rfl))) (mvT hZ (hw _ (List.mem_of_getElem? (i := 4) rfl))) (mvT hZ (hw _ (List.mem_of_getElem? (i := 5) rfl))) (by decide) (backOf (W := 1) (rm12 l Z a0 hw [] b637  h637 n0 Z639 f640_E f641_F f643_F f642_F g_b637) hZ (hw _ (List.mem_of_getElem? (i := 5) rfl)) (hw _ (List.mem_of_getElem? (i := 2) rfl)) (by decide) (by decide)) (g := (mkF m 43 #[iv i0, iv i1, iv i2, iv i3, iv (1 : Int32), iv (1 : Int32), iv (1 : Int32), .unset, .unset, .unset, .unset, .unset, .unset, .unset, .unset, .unset] [(.ref b637), (.ref b637)])) rfl (by rw [hml]; rfl) (Steps.refl _) (a := b637) (argsL := []) (rest := [(.ref b637)]) (lenOf pd0_0 rfl) rfl (by show 2 * 0 + _ ≤ _; exact Nat.le_of_eq rfl) (hb hby at_43) (fun _ _ => ⟨rfl, e637, (by decide : 1 + 1 ≤ _), (by decide : 4 + 64 ≤ _)⟩)
        dsimp only [Pt.U, Pt.locs, Pt.cells, Pt.slots] at X645 l645 y645 z645 st645 hQ645
        subst l645 y645 z645
        obtain ⟨rfl, Nq645, Kq645, bb645, szq645, E_a645, F_buf645, F_sta645, F_end645, A_b645, ne_ab645, fg645, g_a645, g_b645⟩ := hQ645
        have N645 := Fr.app N0 Nq645
        have e645 : T645.heap = T645.heap := rfl
        have Z645 : n0 ≤ T645.heap.size := Nat.le_trans Z639 Kq645.1
        obtain ⟨LL646, X646, N646⟩ : ∃ LL, Stand p l e room_1 s m #[(.int i0), (.int i1), (.int i2), (.int i3)] below meth c T645 LL 2 68 ∧ Fr n0 LL := ⟨_, X645, N645⟩
        have pre647 : ∀ t, own_s p e below T645 m 46 #[iv i0, iv i1, iv i2, iv i3, iv (1 : Int32), iv (1 : Int32), iv (1 : Int32), .unset, .unset, .unset, .unset, .unset, .unset, .unset, .unset, .unset] [(.ref b637)] t → Steps p.tables e below S0 t := fun tX kX => pre644 _ (st645.trans kX)
        have pre648 : ∀ t, own_s p e below T645 m 56 #[iv i0, iv i1, iv i2, iv i3, iv (1 : Int32), iv (1 : Int32), iv (1 : Int32), rv b637, .unset, .unset, .unset, .unset, .unset, .unset, .unset, .unset] [(.int i0), (.ref b637)] t → Steps p.tables e below S0 t := by
          intro tX kX
          refine pre647 _ ?_
          show own_s p e below T645 m 46 #[iv i0, iv i1, iv i2, iv i3, iv (1 : Int32), iv (1 : Int32), iv (1 : Int32), .unset, .unset, .unset, .unset, .unset, .unset, .unset, .unset, .unset] [(.ref b637)] _
          refine XS.astore X646.here hx rfl (hb hby at_46) rfl rfl (l' := #[iv i0, iv i1, iv i2, iv i3, iv (1 : Int32), iv (1 : Int32), iv (1 : Int32), rv b637, .unset, .unset, .unset, .unset, .unset, .unset, .unset, .unset]) rfl ?_
          refine XS.iload X646.here hx rfl (hb hby at_48) rfl ?_
          refine XS.ifNo X646.here hx rfl (hb hby at_50) rfl ((if0 _ _).trans (feq (by decide : ¬ ((1 : Int32) = (0 : Int32)))).1) ?_
          show own_s p e below T645 m 53 #[iv i0, iv i1, iv i2, iv i3, iv (1 : Int32), iv (1 : Int32), iv (1 : Int32), rv b637, .unset, .unset, .unset, .unset, .unset, .unset, .unset, .unset] [] _
          refine XS.aload X646.here hx rfl (hb hby at_53) rfl rfl ?_
          refine XS.iloadN X646.here hx rfl (hb hby at_55) rfl ?_
          exact kX
        obtain ⟨cq649, kq649, q649a, q649b, q649c⟩ := isOf hZ e645 E_a645
        obtain ⟨_, _, ⟨T649, L649, k649, n649⟩, -, X649, ⟨Lc649, hQ649, l649, y649, z649⟩, st649⟩ := X646.virtualBack hx (y := (⟨"com/example/farcall/farcall/io/XdrEncoder", "writeInt", "(I)Lcom/example/farcall/farcall/io/XdrEncoder;"⟩ : MethodName)) (z := (⟨"com/example/farcall/farcall/io/XdrEncoder", "writeInt", "(I)Lcom/example/farcall/farcall/io/XdrEncoder;"⟩ : MethodName)) hown (mvT hZ (hw _ (List.mem_of_getElem? (i := 12) rfl))) (mvT hZ (hw _ (List.mem_of_getElem? (i := 13) rfl))) (notFace_of_selects (args := #[]) (mvT hZ (hw _ (List.mem_of_getElem? (i := 15) rfl)))) (mvT hZ (hw _ (List.mem_of_getElem? (i := 15) rfl))) (mvT hZ (hw _ (List.mem_of_getElem? (i := 14) rfl))) (by decide) (backOf (W := 0) (rm9 l Z a0 hw [] b637 i0 bb645 ((fun _ : Nat => (0 : Int32))) 0 0 T645.heap n0 Z645 E_a645 F_buf645 F_sta645 F_end645 A_b645 ne_ab645 fg645 g_a645 g_b645 (by decide) (by decide)) hZ (hw _ (List.mem_of_getElem? (i := 16) rfl)) (hw _ (List.mem_of_getElem? (i := 2) rfl)) (by decide) (by decide)) q649a q649c (g := (mkF m 56 #[iv i0, iv i1, iv i2, iv i3, iv (1 : Int32), iv (1 : Int32), iv (1 : Int32), rv b637, .unset, .unset, .unset, .unset, .unset, .unset, .unset, .unset] [(.int i0), (.ref b637)])) rfl (by rw [hml]; rfl) (Steps.refl _) (argsL := [(.int i0)]) (rest := []) (lenOf pd0_2 rfl) rfl (by show 2 * 0 + _ ≤ _; exact Nat.le_of_eq rfl) (hb hby at_56) (fun _ _ => ⟨rfl, e645, (by decide : 2 + 0 ≤ _), (by decide : 68 + 0 ≤ _)⟩)
        dsimp only [Pt.U, Pt.locs, Pt.cells, Pt.slots] at X649 l649 y649 z649 st649 hQ649
        subst l649 y649 z649
        obtain ⟨rfl, Nq649, Kq649, E_a649, F_buf649, F_sta649, F_end649, A_b649, ne_ab649, fg649, g_a649, g_b649⟩ := hQ649
        have N649 := Fr.app N646 Nq649
        have e649 : T649.heap = T649.heap := rfl
        have Z649 : n0 ≤ T649.heap.size := Nat.le_trans Z645 Kq649.1
        obtain ⟨LL650, X650, N650⟩ : ∃ LL, Stand p l e room_1 s m #[(.int i0), (.int i1), (.int i2), (.int i3)] below meth c T649 LL 2 68 ∧ Fr n0 LL := ⟨_, X649, N649⟩
        have pre651 : ∀ t, own_s p e below T649 m 59 #[iv i0, iv i1, iv i2, iv i3, iv (1 : Int32), iv (1 : Int32), iv (1 : Int32), rv b637, .unset, .unset, .unset, .unset, .unset, .unset, .unset, .unset] [(.ref b637)] t → Steps p.tables e below S0 t := fun tX kX => pre648 _ (st649.trans kX)
        have pre652 : ∀ t, own_s p e below T649 m 82 #[iv i0, iv i1, iv i2, iv i3, iv (1 : Int32), iv (1 : Int32), iv (1 : Int32), rv b637, iv (4 : Int32), iv (0 : Int32), .unset, .unset, .unset, .unset, .unset, .unset] [(.ref b637)] t → Steps p.tables e below S0 t := by
          intro tX kX
          refine pre651 _ ?_
          show own_s p e below T649 m 59 #[iv i0, iv i1, iv i2, iv i3, iv (1 : Int32), iv (1 : Int32), iv (1 : Int32), rv b637, .unset, .unset, .unset, .unset, .unset, .unset, .unset, .unset] [(.ref b637)] _
          refine XS.pop X650.here hx rfl (hb hby at_59) rfl rfl ?_
          refine XS.iload X650.here hx rfl (hb hby at_60) rfl ?_
          refine XS.ifNo X650.here hx rfl (hb hby at_62) rfl ((if0 _ _).trans (feq (by decide : ¬ ((1 : Int32) = (0 : Int32)))).1) ?_
          show own_s p e below T649 m 65 #[iv i0, iv i1, iv i2, iv i3, iv (1 : Int32), iv (1 : Int32), iv (1 : Int32), rv b637, .unset, .unset, .unset, .unset, .unset, .unset, .unset, .unset] [] _
          refine XS.iconst X650.here hx rfl (hb hby at_65) ?_
          refine XS.goto X650.here hx rfl (pc0 := 66) (pc' := 70) rfl (hb hby at_66) (by decide) (by decide) ?_
          refine XS.istore X650.here hx rfl (hb hby at_70) rfl (l' := #[iv i0, iv i1, iv i2, iv i3, iv (1 : Int32), iv (1 : Int32), iv (1 : Int32), rv b637, iv (4 : Int32), .unset, .unset, .unset, .unset, .unset, .unset, .unset]) rfl ?_
          show own_s p e below T649 m 72 #[iv i0, iv i1, iv i2, iv i3, iv (1 : Int32), iv (1 : Int32), iv (1 : Int32), rv b637, iv (4 : Int32), .unset, .unset, .unset, .unset, .unset, .unset, .unset] [] _
          refine XS.iconst X650.here hx rfl (hb hby at_72) ?_
          refine XS.istore X650.here hx rfl (hb hby at_73) rfl (l' := #[iv i0, iv i1, iv i2, iv i3, iv (1 : Int32), iv (1 : Int32), iv (1 : Int32), rv b637, iv (4 : Int32), iv (0 : Int32), .unset, .unset, .unset, .unset, .unset, .unset]) rfl ?_
          refine XS.iload X650.here hx rfl (hb hby at_75) rfl ?_
          show own_s p e below T649 m 77 #[iv i0, iv i1, iv i2, iv i3, iv (1 : Int32), iv (1 : Int32), iv (1 : Int32), rv b637, iv (4 : Int32), iv (0 : Int32), .unset, .unset, .unset, .unset, .unset, .unset] [(.int (1 : Int32))] _
          refine XS.ifNo X650.here hx rfl (hb hby at_77) rfl ((if0 _ _).trans (feq (by decide : ¬ ((1 : Int32) = (0 : Int32)))).1) ?_
          refine XS.aload X650.here hx rfl (hb hby at_80) rfl rfl ?_
          exact kX
        obtain ⟨cq653, kq653, q653a, q653b, q653c⟩ := isOf hZ e649 E_a649
        obtain ⟨_, _, ⟨T653, L653, k653, n653⟩, -, X653, ⟨Lc653, hQ653, l653, y653, z653⟩, st653⟩ := X650.virtualBack hx (y := (⟨"com/example/farcall/farcall/io/XdrEncoder", "beginPart", "()I"⟩ : MethodName)) (z := (⟨"com/example/farcall/farcall/io/XdrEncoder", "beginPart", "()I"⟩ : MethodName)) hown (mvT hZ (hw _ (List.mem_of_getElem? (i := 35) rfl))) (mvT hZ (hw _ (List.mem_of_getElem? (i := 36) rfl))) (notFace_of_selects (args := #[]) (mvT hZ (hw _ (List.mem_of_getElem? (i := 38) rfl)))) (mvT hZ (hw _ (List.mem_of_getElem? (i := 38) rfl))) (mvT hZ (hw _ (List.mem_of_getElem? (i := 37) rfl))) (by decide) (backOf (W := 0) (rm10 l Z a0 hw [] b637 bb645 ((own_put (fun _ : Nat => (0 : Int32)) 0 i0)) 0 4 T649.heap n0 Z649 E_a649 F_buf649 F_sta649 F_end649 A_b649 ne_ab649 fg649 g_a649 g_b649) hZ (hw _ (List.mem_of_getElem? (i := 39) rfl)) (hw _ (List.mem_of_getElem? (i := 2) rfl)) (by decide) (by decide)) q653a q653c (g := (mkF m 82 #[iv i0, iv i1, iv i2, iv i3, iv (1 : Int32), iv (1 : Int32), iv (1 : Int32), rv b637, iv (4 : Int32), iv (0 : Int32), .unset, .unset, .unset, .unset, .unset, .unset] [(.ref b637)])) rfl (by rw [hml]; rfl) (Steps.refl _) (argsL := []) (rest := []) (lenOf pd0_1 rfl) rfl (by show 2 * 0 + _ ≤ _; exact Nat.le_of_eq rfl) (hb hby at_82) (fun _ _ => ⟨rfl, e649, (by decide : 2 + 0 ≤ _), (by decide : 68 + 0 ≤ _)⟩)
        dsimp only [Pt.U, Pt.locs, Pt.cells, Pt.slots] at X653 l653 y653 z653 st653 hQ653
        subst l653 y653 z653
        obtain ⟨rfl, Nq653, Kq653, E_a653, F_buf653, F_sta653, F_end653, A_b653, ne_ab653, fg653, g_a653, g_b653⟩ := hQ653
        have N653 := Fr.app N650 Nq653
        have e653 : T653.heap = T653.heap := rfl
        have Z653 : n0 ≤ T653.heap.size := Nat.le_trans Z649 Kq653.1
        obtain ⟨LL654, X654, N654⟩ : ∃ LL, Stand p l e room_1 s m #[(.int i0), (.int i1), (.int i2), (.int i3)] below meth c T653 LL 2 68 ∧ Fr n0 LL := ⟨_, X653, N653⟩
        have pre655 : ∀ t, own_s p e below T653 m 85 #[iv i0, iv i1, iv i2, iv i3, iv (1 : Int32), iv (1 : Int32), iv (1 : Int32), rv b637, iv (4 : Int32), iv (0 : Int32), .unset, .unset, .unset, .unset, .unset, .unset] [(.int (0 : Int32))] t → Steps p.tables e below S0 t := fun tX kX => pre652 _ (st653.trans kX)
        have pre656 : ∀ t, own_s p e below T653 m 95 #[iv i0, iv i1, iv i2, iv i3, iv (1 : Int32), iv (1 : Int32), iv (1 : Int32), rv b637, iv (4 : Int32), iv (0 : Int32), .unset, .unset, .unset, .unset, .unset, .unset] [(.int i1), (.ref b637)] t → Steps p.tables e below S0 t := by
          intro tX kX
          refine pre655 _ ?_
          show own_s p e below T653 m 85 #[iv i0, iv i1, iv i2, iv i3, iv (1 : Int32), iv (1 : Int32), iv (1 : Int32), rv b637, iv (4 : Int32), iv (0 : Int32), .unset, .unset, .unset, .unset, .unset, .unset] [(.int (0 : Int32))] _
          refine XS.istore X654.here hx rfl (hb hby at_85) rfl (l' := #[iv i0, iv i1, iv i2, iv i3, iv (1 : Int32), iv (1 : Int32), iv (1 : Int32), rv b637, iv (4 : Int32), iv (0 : Int32), .unset, .unset, .unset, .unset, .unset, .unset]) rfl ?_
          refine XS.iload X654.here hx rfl (hb hby at_87) rfl ?_
          refine XS.ifNo X654.here hx rfl (hb hby at_89) rfl ((if0 _ _).trans (feq (by decide : ¬ ((1 : Int32) = (0 : Int32)))).1) ?_
          show own_s p e below T653 m 92 #[iv i0, iv i1, iv i2, iv i3, iv (1 : Int32), iv (1 : Int32), iv (1 : Int32), rv b637, iv (4 : Int32), iv (0 : Int32), .unset, .unset, .unset, .unset, .unset, .unset] [] _
          refine XS.aload X654.here hx rfl (hb hby at_92) rfl rfl ?_
          refine XS.iloadN X654.here hx rfl (hb hby at_94) rfl ?_
          exact kX
        obtain ⟨cq657, kq657, q657a, q657b, q657c⟩ := isOf hZ e653 E_a653
        obtain ⟨_, _, ⟨T657, L657, k657, n657⟩, -, X657, ⟨Lc657, hQ657, l657, y657, z657⟩, st657⟩ := X654.virtualBack hx (y := (⟨"com/example/farcall/farcall/io/XdrEncoder", "writeInt", "(I)Lcom/example/farcall/farcall/io/XdrEncoder;"⟩ : MethodName)) (z := (⟨"com/example/farcall/farcall/io/XdrEncoder", "writeInt", "(I)Lcom/example/farcall/farcall/io/XdrEncoder;"⟩ : MethodName)) hown (mvT hZ (hw _ (List.mem_of_getElem? (i := 12) rfl))) (mvT hZ (hw _ (List.mem_of_getElem? (i := 13) rfl))) (notFace_of_selects (args := #[]) (mvT hZ (hw _ (List.mem_of_getElem? (i := 15) rfl)))) (mvT hZ (hw _ (List.mem_of_getElem? (i := 15) rfl))) (mvT hZ (hw _ (List.mem_of_getElem? (i := 14) rfl))) (by decide) (backOf (W := 0) (rm9 l Z a0 hw [] b637 i1 bb645 ((own_put (fun _ : Nat => (0 : Int32)) 0 i0)) 4 4 T653.heap n0 Z653 E_a653 F_buf653 F_sta653 F_end653 A_b653 ne_ab653 fg653 g_a653 g_b653 (by decide) (by decide)) hZ (hw _ (List.mem_of_getElem? (i := 16) rfl)) (hw _ (List.mem_of_getElem? (i := 2) rfl)) (by decide) (by decide)) q657a q657c (g := (mkF m 95 #[iv i0, iv i1, iv i2, iv i3, iv (1 : Int32), iv (1 : Int32), iv (1 : Int32), rv b637, iv (4 : Int32), iv (0 : Int32), .unset, .unset, .unset, .unset, .unset, .unset] [(.int i1), (.ref b637)])) rfl (by rw [hml]; rfl) (Steps.refl _) (argsL := [(.int i1)]) (rest := []) (lenOf pd0_2 rfl) rfl (by show 2 * 0 + _ ≤ _; exact Nat.le_of_eq rfl) (hb hby at_95) (fun _ _ => ⟨rfl, e653, (by decide : 2 + 0 ≤ _), (by decide : 68 + 0 ≤ _)⟩)
        dsimp only [Pt.U, Pt.locs, Pt.cells, Pt.slots] at X657 l657 y657 z657 st657 hQ657
        subst l657 y657 z657
        obtain ⟨rfl, Nq657, Kq657, E_a657, F_buf657, F_sta657, F_end657, A_b657, ne_ab657, fg657, g_a657, g_b657⟩ := hQ657
        have N657 := Fr.app N654 Nq657
        have e657 : T657.heap = T657.heap := rfl
        have Z657 : n0 ≤ T657.heap.size := Nat.le_trans Z653 Kq657.1
        obtain ⟨LL658, X658, N658⟩ : ∃ LL, Stand p l e room_1 s m #[(.int i0), (.int i1), (.int i2), (.int i3)] below meth c T657 LL 2 68 ∧ Fr n0 LL := ⟨_, X657, N657⟩
        have pre659 : ∀ t, own_s p e below T657 m 98 #[iv i0, iv i1, iv i2, iv i3, iv (1 : Int32), iv (1 : Int32), iv (1 : Int32), rv b637, iv (4 : Int32), iv (0 : Int32), .unset, .unset, .unset, .unset, .unset, .unset] [(.ref b637)] t → Steps p.tables e below S0 t := fun tX kX => pre656 _ (st657.trans kX)
        have pre660 : ∀ t, own_s p e below T657 m 113 #[iv i0, iv i1, iv i2, iv i3, iv (1 : Int32), iv (1 : Int32), iv (1 : Int32), rv b637, iv (4 : Int32), iv (0 : Int32), iv (4 : Int32), .unset, .unset, .unset, .unset, .unset] [(.ref b637)] t → Steps p.tables e below S0 t := by
          intro tX kX
          refine pre659 _ ?_
          show own_s p e below T657 m 98 #[iv i0, iv i1, iv i2, iv i3, iv (1 : Int32), iv (1 : Int32), iv (1 : Int32), rv b637, iv (4 : Int32), iv (0 : Int32), .unset, .unset, .unset, .unset, .unset, .unset] [(.ref b637)] _
          refine XS.pop X658.here hx rfl (hb hby at_98) rfl rfl ?_
          refine XS.iload X658.here hx rfl (hb hby at_99) rfl ?_
          refine XS.ifNo X658.here hx rfl (hb hby at_101) rfl ((if0 _ _).trans (feq (by decide : ¬ ((1 : Int32) = (0 : Int32)))).1) ?_
          show own_s p e below T657 m 104 #[iv i0, iv i1, iv i2, iv i3, iv (1 : Int32), iv (1 : Int32), iv (1 : Int32), rv b637, iv (4 : Int32), iv (0 : Int32), .unset, .unset, .unset, .unset, .unset, .unset] [] _
          refine XS.iconst X658.here hx rfl (hb hby at_104) ?_
          refine XS.goto X658.here hx rfl (pc0 := 105) (pc' := 109) rfl (hb hby at_105) (by decide) (by decide) ?_
          refine XS.istore X658.here hx rfl (hb hby at_109) rfl (l' := #[iv i0, iv i1, iv i2, iv i3, iv (1 : Int32), iv (1 : Int32), iv (1 : Int32), rv b637, iv (4 : Int32), iv (0 : Int32), iv (4 : Int32), .unset, .unset, .unset, .unset, .unset]) rfl ?_
          show own_s p e below T657 m 111 #[iv i0, iv i1, iv i2, iv i3, iv (1 : Int32), iv (1 : Int32), iv (1 : Int32), rv b637, iv (4 : Int32), iv (0 : Int32), iv (4 : Int32), .unset, .unset, .unset, .unset, .unset] [] _
          refine XS.aload X658.here hx rfl (hb hby at_111) rfl rfl ?_
          exact kX
        obtain ⟨cq661, kq661, q661a, q661b, q661c⟩ := isOf hZ e657 E_a657
        obtain ⟨_, _, ⟨T661, L661, k661, n661⟩, -, X661, ⟨Lc661, hQ661, l661, y661, z661⟩, st661⟩ := X658.virtualBack hx (y := (⟨"com/example/farcall/farcall/io/XdrEncoder", "beginPart", "()I"⟩ : MethodName)) (z := (⟨"com/example/farcall/farcall/io/XdrEncoder", "beginPart", "()I"⟩ : MethodName)) hown (mvT hZ (hw _ (List.mem_of_getElem? (i := 35) rfl))) (mvT hZ (hw _ (List.mem_of_getElem? (i := 36) rfl))) (notFace_of_selects (args := #[]) (mvT hZ (hw _ (List.mem_of_getElem? (i := 38) rfl)))) (mvT hZ (hw _ (List.mem_of_getElem? (i := 38) rfl))) (mvT hZ (hw _ (List.mem_of_getElem? (i := 37) rfl))) (by decide) (backOf (W := 0) (rm10 l Z a0 hw [] b637 bb645 ((own_put (own_put (fun _ : Nat => (0 : Int32)) 0 i0) 4 i1)) 4 8 T657.heap n0 Z657 E_a657 F_buf657 F_sta657 F_end657 A_b657 ne_ab657 fg657 g_a657 g_b657) hZ (hw _ (List.mem_of_getElem? (i := 39) rfl)) (hw _ (List.mem_of_getElem? (i := 2) rfl)) (by decide) (by decide)) q661a q661c (g := (mkF m 113 #[iv i0, iv i1, iv i2, iv i3, iv (1 : Int32), iv (1 : Int32), iv (1 : Int32), rv b637, iv (4 : Int32), iv (0 : Int32), iv (4 : Int32), .unset, .unset, .unset, .unset, .unset] [(.ref b637)])) rfl (by rw [hml]; rfl) (Steps.refl _) (argsL := []) (rest := []) (lenOf pd0_1 rfl) rfl (by show 2 * 0 + _ ≤ _; exact Nat.le_of_eq rfl) (hb hby at_113) (fun _ _ => ⟨rfl, e657, (by decide : 2 + 0 ≤ _), (by decide : 68 + 0 ≤ _)⟩)
        dsimp only [Pt.U, Pt.locs, Pt.cells, Pt.slots] at X661 l661 y661 z661 st661 hQ661
        subst l661 y661 z661
        obtain ⟨rfl, Nq661, Kq661, E_a661, F_buf661, F_sta661, F_end661, A_b661, ne_ab661, fg661, g_a661, g_b661⟩ := hQ661
        have N661 := Fr.app N658 Nq661
        have e661 : T661.heap = T661.heap := rfl
        have Z661 : n0 ≤ T661.heap.size := Nat.le_trans Z657 Kq661.1
        obtain ⟨LL662, X662, N662⟩ : ∃ LL, Stand p l e room_1 s m #[(.int i0), (.int i1), (.int i2), (.int i3)] below meth c T661 LL 2 68 ∧ Fr n0 LL := ⟨_, X661, N661⟩
        have pre663 : ∀ t, own_s p e below T661 m 116 #[iv i0, iv i1, iv i2, iv i3, iv (1 : Int32), iv (1 : Int32), iv (1 : Int32), rv b637, iv (4 : Int32), iv (0 : Int32), iv (4 : Int32), .unset, .unset, .unset, .unset, .unset] [(.int (4 : Int32))] t → Steps p.tables e below S0 t := fun tX kX => pre660 _ (st661.trans kX)
        have pre664 : ∀ t, own_s p e below T661 m 120 #[iv i0, iv i1, iv i2, iv i3, iv (1 : Int32), iv (1 : Int32), iv (1 : Int32), rv b637, iv (4 : Int32), iv (0 : Int32), iv (4 : Int32), iv (4 : Int32), .unset, .unset, .unset, .unset] [(.ref b637)] t → Steps p.tables e below S0 t := by
          intro tX kX
          refine pre663 _ ?_
          show own_s p e below T661 m 116 #[iv i0, iv i1, iv i2, iv i3, iv (1 : Int32), iv (1 : Int32), iv (1 : Int32), rv b637, iv (4 : Int32), iv (0 : Int32), iv (4 : Int32), .unset, .unset, .unset, .unset, .unset] [(.int (4 : Int32))] _
          refine XS.istore X662.here hx rfl (hb hby at_116) rfl (l' := #[iv i0, iv i1, iv i2, iv i3, iv (1 : Int32), iv (1 : Int32), iv (1 : Int32), rv b637, iv (4 : Int32), iv (0 : Int32), iv (4 : Int32), iv (4 : Int32), .unset, .unset, .unset, .unset]) rfl ?_
          refine XS.aload X662.here hx rfl (hb hby at_118) rfl rfl ?_
          exact kX
        obtain ⟨cq665, kq665, q665a, q665b, q665c⟩ := isOf hZ e661 E_a661
        obtain ⟨_, _, ⟨T665, L665, k665, n665⟩, -, X665, ⟨Lc665, hQ665, l665, y665, z665⟩, st665⟩ := X662.virtualBack hx (y := (⟨"com/example/farcall/farcall/io/XdrEncoder", "size", "()I"⟩ : MethodName)) (z := (⟨"com/example/farcall/farcall/io/XdrEncoder", "size", "()I"⟩ : MethodName)) hown (mvT hZ (hw _ (List.mem_of_getElem? (i := 40) rfl))) (mvT hZ (hw _ (List.mem_of_getElem? (i := 24) rfl))) (notFace_of_selects (args := #[]) (mvT hZ (hw _ (List.mem_of_getElem? (i := 26) rfl)))) (mvT hZ (hw _ (List.mem_of_getElem? (i := 26) rfl))) (mvT hZ (hw _ (List.mem_of_getElem? (i := 25) rfl))) (by decide) (backOf (W := 0) (rm6 l Z a0 hw [] b637 bb645 ((own_put (own_put (fun _ : Nat => (0 : Int32)) 0 i0) 4 i1)) 8 8 T661.heap n0 Z661 E_a661 F_buf661 F_sta661 F_end661 A_b661 ne_ab661 fg661 g_a661 g_b661 (by decide) (by decide)) hZ (hw _ (List.mem_of_getElem? (i := 27) rfl)) (hw _ (List.mem_of_getElem? (i := 2) rfl)) (by decide) (by decide)) q665a q665c (g := (mkF m 120 #[iv i0, iv i1, iv i2, iv i3, iv (1 : Int32), iv (1 : Int32), iv (1 : Int32), rv b637, iv (4 : Int32), iv (0 : Int32), iv (4 : Int32), iv (4 : Int32), .unset, .unset, .unset, .unset] [(.ref b637)])) rfl (by rw [hml]; rfl) (Steps.refl _) (argsL := []) (rest := []) (lenOf pd0_1 rfl) rfl (by show 2 * 0 + _ ≤ _; exact Nat.le_of_eq rfl) (hb hby at_120) (fun _ _ => ⟨rfl, e661, (by decide : 2 + 0 ≤ _), (by decide : 68 + 0 ≤ _)⟩)
        dsimp only [Pt.U, Pt.locs, Pt.cells, Pt.slots] at X665 l665 y665 z665 st665 hQ665
        subst l665 y665 z665
        obtain ⟨rfl, Nq665, e665⟩ := hQ665
        have N665 := Fr.app N662 Nq665
        obtain ⟨LL666, X666, N666⟩ : ∃ LL, Stand p l e room_1 s m #[(.int i0), (.int i1), (.int i2), (.int i3)] below meth c T665 LL 2 68 ∧ Fr n0 LL := ⟨_, X665, N665⟩
        have pre667 : ∀ t, own_s p e below T665 m 123 #[iv i0, iv i1, iv i2, iv i3, iv (1 : Int32), iv (1 : Int32), iv (1 : Int32), rv b637, iv (4 : Int32), iv (0 : Int32), iv (4 : Int32), iv (4 : Int32), .unset, .unset, .unset, .unset] [(.int (0 : Int32))] t → Steps p.tables e below S0 t := fun tX kX => pre664 _ (st665.trans kX)
        have pre668 : ∀ t, own_s p e below T665 m 136 #[iv i0, iv i1, iv i2, iv i3, iv (1 : Int32), iv (1 : Int32), iv (1 : Int32), rv b637, iv (4 : Int32), iv (0 : Int32), iv (4 : Int32), iv (4 : Int32), iv (1 : Int32), .unset, .unset, .unset] [(.int i2), (.ref b637)] t → Steps p.tables e below S0 t := by
          intro tX kX
          refine pre667 _ ?_
          show own_s p e below T665 m 123 #[iv i0, iv i1, iv i2, iv i3, iv (1 : Int32), iv (1 : Int32), iv (1 : Int32), rv b637, iv (4 : Int32), iv (0 : Int32), iv (4 : Int32), iv (4 : Int32), .unset, .unset, .unset, .unset] [(.int (0 : Int32))] _
          refine XS.ifNo X666.here hx rfl (hb hby at_123) rfl ((if0 _ _).trans (teq (by decide : (0 : Int32) = (0 : Int32))).2) ?_
          refine XS.iconst X666.here hx rfl (hb hby at_126) ?_
          refine XS.goto X666.here hx rfl (pc0 := 127) (pc' := 131) rfl (hb hby at_127) (by decide) (by decide) ?_
          show own_s p e below T665 m 131 #[iv i0, iv i1, iv i2, iv i3, iv (1 : Int32), iv (1 : Int32), iv (1 : Int32), rv b637, iv (4 : Int32), iv (0 : Int32), iv (4 : Int32), iv (4 : Int32), .unset, .unset, .unset, .unset] [(.int (1 : Int32))] _
          refine XS.istore X666.here hx rfl (hb hby at_131) rfl (l' := #[iv i0, iv i1, iv i2, iv i3, iv (1 : Int32), iv (1 : Int32), iv (1 : Int32), rv b637, iv (4 : Int32), iv (0 : Int32), iv (4 : Int32), iv (4 : Int32), iv (1 : Int32), .unset, .unset, .unset]) rfl ?_
          refine XS.aload X666.here hx rfl (hb hby at_133) rfl rfl ?_
          refine XS.iloadN X666.here hx rfl (hb hby at_135) rfl ?_
          exact kX
        obtain ⟨cq669, kq669, q669a, q669b, q669c⟩ := isOf hZ e665 E_a661
        obtain ⟨_, _, ⟨T669, L669, k669, n669⟩, -, X669, ⟨Lc669, hQ669, l669, y669, z669⟩, st669⟩ := X666.virtualBack hx (y := (⟨"com/example/farcall/farcall/io/XdrEncoder", "writeInt", "(I)Lcom/example/farcall/farcall/io/XdrEncoder;"⟩ : MethodName)) (z := (⟨"com/example/farcall/farcall/io/XdrEncoder", "writeInt", "(I)Lcom/example/farcall/farcall/io/XdrEncoder;"⟩ : MethodName)) hown (mvT hZ (hw _ (List.mem_of_getElem? (i := 12) rfl))) (mvT hZ (hw _ (List.mem_of_getElem? (i := 13) rfl))) (notFace_of_selects (args := #[]) (mvT hZ (hw _ (List.mem_of_getElem? (i := 15) rfl)))) (mvT hZ (hw _ (List.mem_of_getElem? (i := 15) rfl))) (mvT hZ (hw _ (List.mem_of_getElem? (i := 14) rfl))) (by decide) (backOf (W := 0) (rm9 l Z a0 hw [] b637 i2 bb645 ((own_put (own_put (fun _ : Nat => (0 : Int32)) 0 i0) 4 i1)) 8 8 T661.heap n0 Z661 E_a661 F_buf661 F_sta661 F_end661 A_b661 ne_ab661 fg661 g_a661 g_b661 (by decide) (by decide)) hZ (hw _ (List.mem_of_getElem? (i := 16) rfl)) (hw _ (List.mem_of_getElem? (i := 2) rfl)) (by decide) (by decide)) q669a q669c (g := (mkF m 136 #[iv i0, iv i1, iv i2, iv i3, iv (1 : Int32), iv (1 : Int32), iv (1 : Int32), rv b637, iv (4 : Int32), iv (0 : Int32), iv (4 : Int32), iv (4 : Int32), iv (1 : Int32), .unset, .unset, .unset] [(.int i2), (.ref b637)])) rfl (by rw [hml]; rfl) (Steps.refl _) (argsL := [(.int i2)]) (rest := []) (lenOf pd0_2 rfl) rfl (by show 2 * 0 + _ ≤ _; exact Nat.le_of_eq rfl) (hb hby at_136) (fun _ _ => ⟨rfl, e665, (by decide : 2 + 0 ≤ _), (by decide : 68 + 0 ≤ _)⟩)
        dsimp only [Pt.U, Pt.locs, Pt.cells, Pt.slots] at X669 l669 y669 z669 st669 hQ669
        subst l669 y669 z669
        obtain ⟨rfl, Nq669, Kq669, E_a669, F_buf669, F_sta669, F_end669, A_b669, ne_ab669, fg669, g_a669, g_b669⟩ := hQ669
        have N669 := Fr.app N666 Nq669
        have e669 : T669.heap = T669.heap := rfl
        have Z669 : n0 ≤ T669.heap.size := Nat.le_trans Z661 Kq669.1
        obtain ⟨LL670, X670, N670⟩ : ∃ LL, Stand p l e room_1 s m #[(.int i0), (.int i1), (.int i2), (.int i3)] below meth c T669 LL 2 68 ∧ Fr n0 LL := ⟨_, X669, N669⟩
        have pre671 : ∀ t, own_s p e below T669 m 139 #[iv i0, iv i1, iv i2, iv i3, iv (1 : Int32), iv (1 : Int32), iv (1 : Int32), rv b637, iv (4 : Int32), iv (0 : Int32), iv (4 : Int32), iv (4 : Int32), iv (1 : Int32), .unset, .unset, .unset] [(.ref b637)] t → Steps p.tables e below S0 t := fun tX kX => pre668 _ (st669.trans kX)
        have pre672 : ∀ t, own_s p e below T669 m 142 #[iv i0, iv i1, iv i2, iv i3, iv (1 : Int32), iv (1 : Int32), iv (1 : Int32), rv b637, iv (4 : Int32), iv (0 : Int32), iv (4 : Int32), iv (4 : Int32), iv (1 : Int32), .unset, .unset, .unset] [(.ref b637)] t → Steps p.tables e below S0 t := by
          intro tX kX
          refine pre671 _ ?_
          show own_s p e below T669 m 139 #[iv i0, iv i1, iv i2, iv i3, iv (1 : Int32), iv (1 : Int32), iv (1 : Int32), rv b637, iv (4 : Int32), iv (0 : Int32), iv (4 : Int32), iv (4 : Int32), iv (1 : Int32), .unset, .unset, .unset] [(.ref b637)] _
          refine XS.pop X670.here hx rfl (hb hby at_139) rfl rfl ?_
          refine XS.aload X670.here hx rfl (hb hby at_140) rfl rfl ?_
          exact kX
        obtain ⟨cq673, kq673, q673a, q673b, q673c⟩ := isOf hZ e669 E_a669
        obtain ⟨_, _, ⟨T673, L673, k673, n673⟩, -, X673, ⟨Lc673, hQ673, l673, y673, z673⟩, st673⟩ := X670.virtualBack hx (y := (⟨"com/example/farcall/farcall/io/XdrEncoder", "toByteArray", "()[B"⟩ : MethodName)) (z := (⟨"com/example/farcall/farcall/io/XdrEncoder", "toByteArray", "()[B"⟩ : MethodName)) hown (mvT hZ (hw _ (List.mem_of_getElem? (i := 41) rfl))) (mvT hZ (hw _ (List.mem_of_getElem? (i := 42) rfl))) (notFace_of_selects (args := #[]) (mvT hZ (hw _ (List.mem_of_getElem? (i := 44) rfl)))) (mvT hZ (hw _ (List.mem_of_getElem? (i := 44) rfl))) (mvT hZ (hw _ (List.mem_of_getElem? (i := 43) rfl))) (by decide) (backOf (W := 0) (rm5 l Z a0 hw [] b637 bb645 ((own_put (own_put (own_put (fun _ : Nat => (0 : Int32)) 0 i0) 4 i1) 8 i2)) 8 12 T669.heap n0 Z669 E_a669 F_buf669 F_sta669 F_end669 A_b669 ne_ab669 fg669 g_a669 g_b669 (by decide) (by decide) (by decide)) hZ (hw _ (List.mem_of_getElem? (i := 45) rfl)) (hw _ (List.mem_of_getElem? (i := 2) rfl)) (by decide) (by decide)) q673a q673c (g := (mkF m 142 #[iv i0, iv i1, iv i2, iv i3, iv (1 : Int32), iv (1 : Int32), iv (1 : Int32), rv b637, iv (4 : Int32), iv (0 : Int32), iv (4 : Int32), iv (4 : Int32), iv (1 : Int32), .unset, .unset, .unset] [(.ref b637)])) rfl (by rw [hml]; rfl) (Steps.refl _) (argsL := []) (rest := []) (lenOf pd0_3 rfl) rfl (by show 2 * 0 + _ ≤ _; exact Nat.le_of_eq rfl) (hb hby at_142) (fun _ _ => ⟨rfl, e669, (by decide : 2 + 1 ≤ _), (by decide : 68 + 64 ≤ _)⟩)
        dsimp only [Pt.U, Pt.locs, Pt.cells, Pt.slots] at X673 l673 y673 z673 st673 hQ673
        subst l673 y673 z673
        obtain ⟨r673, rfl, Nq673, Kq673, sz_r673, g_r673, fA673⟩ := hQ673
        have N673 := Fr.app N670 Nq673
        have e673 : T673.heap = T673.heap := rfl
        have Z673 : n0 ≤ T673.heap.size := Nat.le_trans Z669 Kq673.1
        have ne674 : b637 ≠ r673 := Nat.ne_of_lt (Nat.lt_of_lt_of_le E_a669.lt sz_r673)
        have ne675 : bb645 ≠ r673 := Nat.ne_of_lt (Nat.lt_of_lt_of_le A_b669.lt sz_r673)
        have f676_E : Exa Z T673.heap b637 "com/example/farcall/farcall/io/XdrEncoder" := E_a669.keep Kq673
        have f677_F : Fld Z T673.heap b637 "com/example/farcall/farcall/io/XdrEncoder" "buffer" "[B" (.ref bb645) := F_buf669.keep Kq673 nin0
        have f678_F : Fld Z T673.heap b637 "com/example/farcall/farcall/io/XdrEncoder" "start" "I" (.int (Int32.ofNat 8)) := F_sta669.keep Kq673 nin0
        have f679_F : Fld Z T673.heap b637 "com/example/farcall/farcall/io/XdrEncoder" "end" "I" (.int (Int32.ofNat 12)) := F_end669.keep Kq673 nin0
        have f680_A : own_Af Z T673.heap bb645 .byte 64 (fun j => .int ((own_put (own_put (own_put (fun _ : Nat => (0 : Int32)) 0 i0) 4 i1) 8 i2) j)) := A_b669.keep Kq673 nin0
        obtain ⟨LL681, X681, N681⟩ : ∃ LL, Stand p l e room_1 s m #[(.int i0), (.int i1), (.int i2), (.int i3)] below meth c T673 LL 3 132 ∧ Fr n0 LL := ⟨_, X673, N673⟩
        have pre682 : ∀ t, own_s p e below T673 m 145 #[iv i0, iv i1, iv i2, iv i3, iv (1 : Int32), iv (1 : Int32), iv (1 : Int32), rv b637, iv (4 : Int32), iv (0 : Int32), iv (4 : Int32), iv (4 : Int32), iv (1 : Int32), .unset, .unset, .unset] [(.ref r673)] t → Steps p.tables e below S0 t := fun tX kX => pre672 _ (st673.trans kX)
        have pre683 : ∀ t, own_s p e below T673 m 154 #[iv i0, iv i1, iv i2, iv i3, iv (1 : Int32), iv (1 : Int32), iv (1 : Int32), rv b637, iv (4 : Int32), iv (0 : Int32), iv (4 : Int32), iv (4 : Int32), iv (1 : Int32), rv r673, .unset, .unset] [(.ref b637)] t → Steps p.tables e below S0 t := by
          intro tX kX
          refine pre682 _ ?_
          show own_s p e below T673 m 145 #[iv i0, iv i1, iv i2, iv i3, iv (1 : Int32), iv (1 : Int32), iv (1 : Int32), rv b637, iv (4 : Int32), iv (0 : Int32), iv (4 : Int32), iv (4 : Int32), iv (1 : Int32), .unset, .unset, .unset] [(.ref r673)] _
          refine XS.astore X681.here hx rfl (hb hby at_145) rfl rfl (l' := #[iv i0, iv i1, iv i2, iv i3, iv (1 : Int32), iv (1 : Int32), iv (1 : Int32), rv b637, iv (4 : Int32), iv (0 : Int32), iv (4 : Int32), iv (4 : Int32), iv (1 : Int32), rv r673, .unset, .unset]) rfl ?_
          refine XS.iload X681.here hx rfl (hb hby at_147) rfl ?_
          refine XS.ifNo X681.here hx rfl (hb hby at_149) rfl ((if0 _ _).trans (feq (by decide : ¬ ((1 : Int32) = (0 : Int32)))).1) ?_
          show own_s p e below T673 m 152 #[iv i0, iv i1, iv i2, iv i3, iv (1 : Int32), iv (1 : Int32), iv (1 : Int32), rv b637, iv (4 : Int32), iv (0 : Int32), iv (4 : Int32), iv (4 : Int32), iv (1 : Int32), rv r673, .unset, .unset] [] _
          refine XS.aload X681.here hx rfl (hb hby at_152) rfl rfl ?_
          exact kX
        obtain ⟨cq684, kq684, q684a, q684b, q684c⟩ := isOf hZ e673 f676_E
        obtain ⟨_, _, ⟨T684, L684, k684, n684⟩, -, X684, ⟨Lc684, hQ684, l684, y684, z684⟩, st684⟩ := X681.virtualBack hx (y := (⟨"com/example/farcall/farcall/io/XdrEncoder", "size", "()I"⟩ : MethodName)) (z := (⟨"com/example/farcall/farcall/io/XdrEncoder", "size", "()I"⟩ : MethodName)) hown (mvT hZ (hw _ (List.mem_of_getElem? (i := 40) rfl))) (mvT hZ (hw _ (List.mem_of_getElem? (i := 24) rfl))) (notFace_of_selects (args := #[]) (mvT hZ (hw _ (List.mem_of_getElem? (i := 26) rfl)))) (mvT hZ (hw _ (List.mem_of_getElem? (i := 26) rfl))) (mvT hZ (hw _ (List.mem_of_getElem? (i := 25) rfl))) (by decide) (backOf (W := 0) (rm6 l Z a0 hw [] b637 bb645 ((own_put (own_put (own_put (fun _ : Nat => (0 : Int32)) 0 i0) 4 i1) 8 i2)) 8 12 T673.heap n0 Z673 f676_E f677_F f678_F f679_F f680_A ne_ab669 fg669 g_a669 g_b669 (by decide) (by decide)) hZ (hw _ (List.mem_of_getElem? (i := 27) rfl)) (hw _ (List.mem_of_getElem? (i := 2) rfl)) (by decide) (by decide)) q684a q684c (g := (mkF m 154 #[iv i0, iv i1, iv i2, iv i3, iv (1 : Int32), iv (1 : Int32), iv (1 : Int32), rv b637, iv (4 : Int32), iv (0 : Int32), iv (4 : Int32), iv (4 : Int32), iv (1 : Int32), rv r673, .unset, .unset] [(.ref b637)])) rfl (by rw [hml]; rfl) (Steps.refl _) (argsL := []) (rest := []) (lenOf pd0_1 rfl) rfl (by show 2 * 0 + _ ≤ _; exact Nat.le_of_eq rfl) (hb hby at_154) (fun _ _ => ⟨rfl, e673, (by decide : 3 + 0 ≤ _), (by decide : 132 + 0 ≤ _)⟩)
        dsimp only [Pt.U, Pt.locs, Pt.cells, Pt.slots] at X684 l684 y684 z684 st684 hQ684
        subst l684 y684 z684
        obtain ⟨rfl, Nq684, e684⟩ := hQ684
        have N684 := Fr.app N681 Nq684
        obtain ⟨LL685, X685, N685⟩ : ∃ LL, Stand p l e room_1 s m #[(.int i0), (.int i1), (.int i2), (.int i3)] below meth c T684 LL 3 132 ∧ Fr n0 LL := ⟨_, X684, N684⟩
        have pre686 : ∀ t, own_s p e below T684 m 157 #[iv i0, iv i1, iv i2, iv i3, iv (1 : Int32), iv (1 : Int32), iv (1 : Int32), rv b637, iv (4 : Int32), iv (0 : Int32), iv (4 : Int32), iv (4 : Int32), iv (1 : Int32), rv r673, .unset, .unset] [(.int (4 : Int32))] t → Steps p.tables e below S0 t := fun tX kX => pre683 _ (st684.trans kX)
        have pre688 : ∀ t, own_s p e below T684 m 163 #[iv i0, iv i1, iv i2, iv i3, iv (1 : Int32), iv (1 : Int32), iv (1 : Int32), rv b637, iv (4 : Int32), iv (0 : Int32), iv (4 : Int32), iv (4 : Int32), iv (1 : Int32), rv r673, .unset, .unset] [(.ref r673)] t → Steps p.tables e below S0 t := by
          intro tX kX
          refine pre686 _ ?_
          show own_s p e below T684 m 157 #[iv i0, iv i1, iv i2, iv i3, iv (1 : Int32), iv (1 : Int32), iv (1 : Int32), rv b637, iv (4 : Int32), iv (0 : Int32), iv (4 : Int32), iv (4 : Int32), iv (1 : Int32), rv r673, .unset, .unset] [(.int (4 : Int32))] _
          refine XS.iconst X685.here hx rfl (hb hby at_157) ?_
          refine XS.icmpNo X685.here hx rfl (hb hby at_158) rfl (teq (by decide : (4 : Int32) = (4 : Int32))).2 ?_
          refine XS.aload X685.here hx rfl (hb hby at_161) rfl rfl ?_
          exact kX
        obtain ⟨cl687, Ar687, S687, M687, H687⟩ := id fA673
        have pre690 : ∀ t, own_s p e below T684 m 171 #[iv i0, iv i1, iv i2, iv i3, iv (1 : Int32), iv (1 : Int32), iv (1 : Int32), rv b637, iv (4 : Int32), iv (0 : Int32), iv (4 : Int32), iv (4 : Int32), iv (1 : Int32), rv r673, .unset, .unset] [(.int (0 : Int32)), (.ref r673)] t → Steps p.tables e below S0 t := by
          intro tX kX
          refine pre688 _ ?_
          show own_s p e below T684 m 163 #[iv i0, iv i1, iv i2, iv i3, iv (1 : Int32), iv (1 : Int32), iv (1 : Int32), rv b637, iv (4 : Int32), iv (0 : Int32), iv (4 : Int32), iv (4 : Int32), iv (1 : Int32), rv r673, .unset, .unset] [(.ref r673)] _
          refine X685.arraylength hx (by rw [e684]; exact Ar687.1) (State.isArrayOf_alike hZ.alike Ar687.2.1) (g := (mkF m 163 #[iv i0, iv i1, iv i2, iv i3, iv (1 : Int32), iv (1 : Int32), iv (1 : Int32), rv b637, iv (4 : Int32), iv (0 : Int32), iv (4 : Int32), iv (4 : Int32), iv (1 : Int32), rv r673, .unset, .unset] [(.ref r673)])) rfl rfl (hb hby at_163) _ ?_
          rw [show cl687.slots.size.toInt32 = (4 : Int32) from by rw [S687]; exact rfl]
          refine XS.iconst X685.here hx rfl (hb hby at_164) ?_
          refine XS.icmpNo X685.here hx rfl (hb hby at_165) rfl (teq (by decide : (4 : Int32) = (4 : Int32))).2 ?_
          show own_s p e below T684 m 168 #[iv i0, iv i1, iv i2, iv i3, iv (1 : Int32), iv (1 : Int32), iv (1 : Int32), rv b637, iv (4 : Int32), iv (0 : Int32), iv (4 : Int32), iv (4 : Int32), iv (1 : Int32), rv r673, .unset, .unset] [] _
          refine XS.aload X685.here hx rfl (hb hby at_168) rfl rfl ?_
          refine XS.iconst X685.here hx rfl (hb hby at_170) ?_
          exact kX
        obtain ⟨cl689, Ar689, S689, M689, H689⟩ := id fA673
        have pre692 : ∀ t, own_s p e below T684 m 183 #[iv i0, iv i1, iv i2, iv i3, iv (1 : Int32), iv (1 : Int32), iv (1 : Int32), rv b637, iv (4 : Int32), iv (0 : Int32), iv (4 : Int32), iv (4 : Int32), iv (1 : Int32), rv r673, .unset, .unset] [(.int (1 : Int32)), (.ref r673)] t → Steps p.tables e below S0 t := by
          intro tX kX
          refine pre690 _ ?_
          show own_s p e below T684 m 171 #[iv i0, iv i1, iv i2, iv i3, iv (1 : Int32), iv (1 : Int32), iv (1 : Int32), rv b637, iv (4 : Int32), iv (0 : Int32), iv (4 : Int32), iv (4 : Int32), iv (1 : Int32), rv r673, .unset, .unset] [(.int (0 : Int32)), (.ref r673)] _
          refine X685.baloadBytes hx (j := (0 : Int32)) (v := (.int (((i2.toUInt32 >>> ((24 : Int32) &&& 31).toUInt32).toInt32).toInt8.toInt32))) (by rw [e684]; exact Ar689.1) (State.isArrayOf_alike hZ.alike Ar689.2.1) Ar689.2.2 (own_inb S689 M689 (by decide)) (own_get H689 S689 (by decide) (show Value.int ((own_put (own_put (own_put (fun _ : Nat => (0 : Int32)) 0 i0) 4 i1) 8 i2) (8 + 0)) = Value.int (((i2.toUInt32 >>> ((24 : Int32) &&& 31).toUInt32).toInt32).toInt8.toInt32) from congrArg Value.int (((own_put_in (by decide) (by decide)).trans (congrArg (own_by i2) (show _ = 0 from by decide))).trans (show own_by i2 0 = (((i2.toUInt32 >>> ((24 : Int32) &&& 31).toUInt32).toInt32).toInt8.toInt32) from rfl)))) (g := (mkF m 171 #[iv i0, iv i1, iv i2, iv i3, iv (1 : Int32), iv (1 : Int32), iv (1 : Int32), rv b637, iv (4 : Int32), iv (0 : Int32), iv (4 : Int32), iv (4 : Int32), iv (1 : Int32), rv r673, .unset, .unset] [(.int (0 : Int32)), (.ref r673)])) rfl rfl (hb hby at_171) _ ?_
          refine XS.iloadN X685.here hx rfl (hb hby at_172) rfl ?_
          refine XS.bipush X685.here hx rfl (hb hby at_173) ?_
          show own_s p e below T684 m 175 #[iv i0, iv i1, iv i2, iv i3, iv (1 : Int32), iv (1 : Int32), iv (1 : Int32), rv b637, iv (4 : Int32), iv (0 : Int32), iv (4 : Int32), iv (4 : Int32), iv (1 : Int32), rv r673, .unset, .unset] [(.int (24 : Int32)), (.int i2), (.int (((i2.toUInt32 >>> ((24 : Int32) &&& 31).toUInt32).toInt32).toInt8.toInt32))] _
          refine XS.iushr X685.here hx rfl (hb hby at_175) rfl ?_
          refine XS.i2b X685.here hx rfl (hb hby at_176) rfl ?_
          refine XS.icmpNo X685.here hx rfl (hb hby at_177) rfl (teq (rfl : (((i2.toUInt32 >>> ((24 : Int32) &&& 31).toUInt32).toInt32).toInt8.toInt32) = (((i2.toUInt32 >>> ((24 : Int32) &&& 31).toUInt32).toInt32).toInt8.toInt32))).2 ?_
          show own_s p e below T684 m 180 #[iv i0, iv i1, iv i2, iv i3, iv (1 : Int32), iv (1 : Int32), iv (1 : Int32), rv b637, iv (4 : Int32), iv (0 : Int32), iv (4 : Int32), iv (4 : Int32), iv (1 : Int32), rv r673, .unset, .unset] [] _
          refine XS.aload X685.here hx rfl (hb hby at_180) rfl rfl ?_
          refine XS.iconst X685.here hx rfl (hb hby at_182) ?_
          exact kX
        obtain ⟨cl691, Ar691, S691, M691, H691⟩ := id fA673
        have pre694 : ∀ t, own_s p e below T684 m 195 #[iv i0, iv i1, iv i2, iv i3, iv (1 : Int32), iv (1 : Int32), iv (1 : Int32), rv b637, iv (4 : Int32), iv (0 : Int32), iv (4 : Int32), iv (4 : Int32), iv (1 : Int32), rv r673, .unset, .unset] [(.int (2 : Int32)), (.ref r673)] t → Steps p.tables e below S0 t := by
          intro tX kX
          refine pre692 _ ?_
          show own_s p e below T684 m 183 #[iv i0, iv i1, iv i2, iv i3, iv (1 : Int32), iv (1 : Int32), iv (1 : Int32), rv b637, iv (4 : Int32), iv (0 : Int32), iv (4 : Int32), iv (4 : Int32), iv (1 : Int32), rv r673, .unset, .unset] [(.int (1 : Int32)), (.ref r673)] _
          refine X685.baloadBytes hx (j := (1 : Int32)) (v := (.int (((i2.toUInt32 >>> ((16 : Int32) &&& 31).toUInt32).toInt32).toInt8.toInt32))) (by rw [e684]; exact Ar691.1) (State.isArrayOf_alike hZ.alike Ar691.2.1) Ar691.2.2 (own_inb S691 M691 (by decide)) (own_get H691 S691 (by decide) (show Value.int ((own_put (own_put (own_put (fun _ : Nat => (0 : Int32)) 0 i0) 4 i1) 8 i2) (8 + 1)) = Value.int (((i2.toUInt32 >>> ((16 : Int32) &&& 31).toUInt32).toInt32).toInt8.toInt32) from congrArg Value.int (((own_put_in (by decide) (by decide)).trans (congrArg (own_by i2) (show _ = 1 from by decide))).trans (show own_by i2 1 = (((i2.toUInt32 >>> ((16 : Int32) &&& 31).toUInt32).toInt32).toInt8.toInt32) from rfl)))) (g := (mkF m 183 #[iv i0, iv i1, iv i2, iv i3, iv (1 : Int32), iv (1 : Int32), iv (1 : Int32), rv b637, iv (4 : Int32), iv (0 : Int32), iv (4 : Int32), iv (4 : Int32), iv (1 : Int32), rv r673, .unset, .unset] [(.int (1 : Int32)), (.ref r673)])) rfl rfl (hb hby at_183) _ ?_
          refine XS.iloadN X685.here hx rfl (hb hby at_184) rfl ?_
          refine XS.bipush X685.here hx rfl (hb hby at_185) ?_
          show own_s p e below T684 m 187 #[iv i0, iv i1, iv i2, iv i3, iv (1 : Int32), iv (1 : Int32), iv (1 : Int32), rv b637, iv (4 : Int32), iv (0 : Int32), iv (4 : Int32), iv (4 : Int32), iv (1 : Int32), rv r673, .unset, .unset] [(.int (16 : Int32)), (.int i2), (.int (((i2.toUInt32 >>> ((16 : Int32) &&& 31).toUInt32).toInt32).toInt8.toInt32))] _
          refine XS.iushr X685.here hx rfl (hb hby at_187) rfl ?_
          refine XS.i2b X685.here hx rfl (hb hby at_188) rfl ?_
          refine XS.icmpNo X685.here hx rfl (hb hby at_189) rfl (teq (rfl : (((i2.toUInt32 >>> ((16 : Int32) &&& 31).toUInt32).toInt32).toInt8.toInt32) = (((i2.toUInt32 >>> ((16 : Int32) &&& 31).toUInt32).toInt32).toInt8.toInt32))).2 ?_
          show own_s p e below T684 m 192 #[iv i0, iv i1, iv i2, iv i3, iv (1 : Int32), iv (1 : Int32), iv (1 : Int32), rv b637, iv (4 : Int32), iv (0 : Int32), iv (4 : Int32), iv (4 : Int32), iv (1 : Int32), rv r673, .unset, .unset] [] _
          refine XS.aload X685.here hx rfl (hb hby at_192) rfl rfl ?_
          refine XS.iconst X685.here hx rfl (hb hby at_194) ?_
          exact kX
        obtain ⟨cl693, Ar693, S693, M693, H693⟩ := id fA673
        have pre696 : ∀ t, own_s p e below T684 m 207 #[iv i0, iv i1, iv i2, iv i3, iv (1 : Int32), iv (1 : Int32), iv (1 : Int32), rv b637, iv (4 : Int32), iv (0 : Int32), iv (4 : Int32), iv (4 : Int32), iv (1 : Int32), rv r673, .unset, .unset] [(.int (3 : Int32)), (.ref r673)] t → Steps p.tables e below S0 t := by
          intro tX kX
          refine pre694 _ ?_
          show own_s p e below T684 m 195 #[iv i0, iv i1, iv i2, iv i3, iv (1 : Int32), iv (1 : Int32), iv (1 : Int32), rv b637, iv (4 : Int32), iv (0 : Int32), iv (4 : Int32), iv (4 : Int32), iv (1 : Int32), rv r673, .unset, .unset] [(.int (2 : Int32)), (.ref r673)] _
          refine X685.baloadBytes hx (j := (2 : Int32)) (v := (.int (((i2.toUInt32 >>> ((8 : Int32) &&& 31).toUInt32).toInt32).toInt8.toInt32))) (by rw [e684]; exact Ar693.1) (State.isArrayOf_alike hZ.alike Ar693.2.1) Ar693.2.2 (own_inb S693 M693 (by decide)) (own_get H693 S693 (by decide) (show Value.int ((own_put (own_put (own_put (fun _ : Nat => (0 : Int32)) 0 i0) 4 i1) 8 i2) (8 + 2)) = Value.int (((i2.toUInt32 >>> ((8 : Int32) &&& 31).toUInt32).toInt32).toInt8.toInt32) from congrArg Value.int (((own_put_in (by decide) (by decide)).trans (congrArg (own_by i2) (show _ = 2 from by decide))).trans (show own_by i2 2 = (((i2.toUInt32 >>> ((8 : Int32) &&& 31).toUInt32).toInt32).toInt8.toInt32) from rfl)))) (g := (mkF m 195 #[iv i0, iv i1, iv i2, iv i3, iv (1 : Int32), iv (1 : Int32), iv (1 : Int32), rv b637, iv (4 : Int32), iv (0 : Int32), iv (4 : Int32), iv (4 : Int32), iv (1 : Int32), rv r673, .unset, .unset] [(.int (2 : Int32)), (.ref r673)])) rfl rfl (hb hby at_195) _ ?_
          refine XS.iloadN X685.here hx rfl (hb hby at_196) rfl ?_
          refine XS.bipush X685.here hx rfl (hb hby at_197) ?_
          show own_s p e below T684 m 199 #[iv i0, iv i1, iv i2, iv i3, iv (1 : Int32), iv (1 : Int32), iv (1 : Int32), rv b637, iv (4 : Int32), iv (0 : Int32), iv (4 : Int32), iv (4 : Int32), iv (1 : Int32), rv r673, .unset, .unset] [(.int (8 : Int32)), (.int i2), (.int (((i2.toUInt32 >>> ((8 : Int32) &&& 31).toUInt32).toInt32).toInt8.toInt32))] _
          refine XS.iushr X685.here hx rfl (hb hby at_199) rfl ?_
          refine XS.i2b X685.here hx rfl (hb hby at_200) rfl ?_
          refine XS.icmpNo X685.here hx rfl (hb hby at_201) rfl (teq (rfl : (((i2.toUInt32 >>> ((8 : Int32) &&& 31).toUInt32).toInt32).toInt8.toInt32) = (((i2.toUInt32 >>> ((8 : Int32) &&& 31).toUInt32).toInt32).toInt8.toInt32))).2 ?_
          show own_s p e below T684 m 204 #[iv i0, iv i1, iv i2, iv i3, iv (1 : Int32), iv (1 : Int32), iv (1 : Int32), rv b637, iv (4 : Int32), iv (0 : Int32), iv (4 : Int32), iv (4 : Int32), iv (1 : Int32), rv r673, .unset, .unset] [] _
          refine XS.aload X685.here hx rfl (hb hby at_204) rfl rfl ?_
          refine XS.iconst X685.here hx rfl (hb hby at_206) ?_
          exact kX
        obtain ⟨cl695, Ar695, S695, M695, H695⟩ := id fA673
        have pre697 : ∀ t, own_s p e below T684 m 231 #[iv i0, iv i1, iv i2, iv i3, iv (1 : Int32), iv (1 : Int32), iv (1 : Int32), rv b637, iv (4 : Int32), iv (0 : Int32), iv (4 : Int32), iv (4 : Int32), iv (1 : Int32), rv r673, .unset, .unset] [(.int (4 : Int32)), (.ref b637)] t → Steps p.tables e below S0 t := by
          intro tX kX
          refine pre696 _ ?_
          show own_s p e below T684 m 207 #[iv i0, iv i1, iv i2, iv i3, iv (1 : Int32), iv (1 : Int32), iv (1 : Int32), rv b637, iv (4 : Int32), iv (0 : Int32), iv (4 : Int32), iv (4 : Int32), iv (1 : Int32), rv r673, .unset, .unset] [(.int (3 : Int32)), (.ref r673)] _
          refine X685.baloadBytes hx (j := (3 : Int32)) (v := (.int (i2.toInt8.toInt32))) (by rw [e684]; exact Ar695.1) (State.isArrayOf_alike hZ.alike Ar695.2.1) Ar695.2.2 (own_inb S695 M695 (by decide)) (own_get H695 S695 (by decide) (show Value.int ((own_put (own_put (own_put (fun _ : Nat => (0 : Int32)) 0 i0) 4 i1) 8 i2) (8 + 3)) = Value.int (i2.toInt8.toInt32) from congrArg Value.int (((own_put_in (by decide) (by decide)).trans (congrArg (own_by i2) (show _ = 3 from by decide))).trans (show own_by i2 3 = (i2.toInt8.toInt32) from rfl)))) (g := (mkF m 207 #[iv i0, iv i1, iv i2, iv i3, iv (1 : Int32), iv (1 : Int32), iv (1 : Int32), rv b637, iv (4 : Int32), iv (0 : Int32), iv (4 : Int32), iv (4 : Int32), iv (1 : Int32), rv r673, .unset, .unset] [(.int (3 : Int32)), (.ref r673)])) rfl rfl (hb hby at_207) _ ?_
          refine XS.iloadN X685.here hx rfl (hb hby at_208) rfl ?_
          refine XS.i2b X685.here hx rfl (hb hby at_209) rfl ?_
          show own_s p e below T684 m 210 #[iv i0, iv i1, iv i2, iv i3, iv (1 : Int32), iv (1 : Int32), iv (1 : Int32), rv b637, iv (4 : Int32), iv (0 : Int32), iv (4 : Int32), iv (4 : Int32), iv (1 : Int32), rv r673, .unset, .unset] [(.int (i2.toInt8.toInt32)), (.int (i2.toInt8.toInt32))] _
          refine XS.icmpNo X685.here hx rfl (hb hby at_210) rfl (teq (rfl : (i2.toInt8.toInt32) = (i2.toInt8.toInt32))).2 ?_
          refine XS.iconst X685.here hx rfl (hb hby at_213) ?_
          refine XS.goto X685.here hx rfl (pc0 := 214) (pc' := 218) rfl (hb hby at_214) (by decide) (by decide) ?_
          show own_s p e below T684 m 218 #[iv i0, iv i1, iv i2, iv i3, iv (1 : Int32), iv (1 : Int32), iv (1 : Int32), rv b637, iv (4 : Int32), iv (0 : Int32), iv (4 : Int32), iv (4 : Int32), iv (1 : Int32), rv r673, .unset, .unset] [(.int (1 : Int32))] _
          refine XS.istore X685.here hx rfl (hb hby at_218) rfl (l' := #[iv i0, iv i1, iv i2, iv i3, iv (1 : Int32), iv (1 : Int32), iv (1 : Int32), rv b637, iv (4 : Int32), iv (0 : Int32), iv (4 : Int32), iv (4 : Int32), iv (1 : Int32), rv r673, .unset, .unset]) rfl ?_
          refine XS.iload X685.here hx rfl (hb hby at_220) rfl ?_
          refine XS.ifYes X685.here hx rfl (pc0 := 222) (pc' := 227) rfl (hb hby at_222) rfl ((if0 _ _).trans (feq (by decide : ¬ ((1 : Int32) = (0 : Int32)))).2) (by decide) (by decide) ?_
          show own_s p e below T684 m 227 #[iv i0, iv i1, iv i2, iv i3, iv (1 : Int32), iv (1 : Int32), iv (1 : Int32), rv b637, iv (4 : Int32), iv (0 : Int32), iv (4 : Int32), iv (4 : Int32), iv (1 : Int32), rv r673, .unset, .unset] [] _
          refine XS.aload X685.here hx rfl (hb hby at_227) rfl rfl ?_
          refine XS.iload X685.here hx rfl (hb hby at_229) rfl ?_
          exact kX
        obtain ⟨cq698, kq698, q698a, q698b, q698c⟩ := isOf hZ e684 f676_E
        obtain ⟨_, _, ⟨T698, L698, k698, n698⟩, -, X698, ⟨Lc698, hQ698, l698, y698, z698⟩, st698⟩ := X685.virtualBack hx (y := (⟨"com/example/farcall/farcall/io/XdrEncoder", "endPart", "(I)V"⟩ : MethodName)) (z := (⟨"com/example/farcall/farcall/io/XdrEncoder", "endPart", "(I)V"⟩ : MethodName)) hown (mvT hZ (hw _ (List.mem_of_getElem? (i := 64) rfl))) (mvT hZ (hw _ (List.mem_of_getElem? (i := 65) rfl))) (notFace_of_selects (args := #[]) (mvT hZ (hw _ (List.mem_of_getElem? (i := 67) rfl)))) (mvT hZ (hw _ (List.mem_of_getElem? (i := 67) rfl))) (mvT hZ (hw _ (List.mem_of_getElem? (i := 66) rfl))) (by decide) (backOf (W := 0) (rm11 l Z a0 hw [] b637 (4 : Int32) bb645 ((own_put (own_put (own_put (fun _ : Nat => (0 : Int32)) 0 i0) 4 i1) 8 i2)) 8 12 4 T673.heap n0 Z673 f676_E f677_F f678_F f679_F f680_A ne_ab669 fg669 g_a669 g_b669 rfl (by decide) (by decide)) hZ (hw _ (List.mem_of_getElem? (i := 68) rfl)) (hw _ (List.mem_of_getElem? (i := 2) rfl)) (by decide) (by decide)) q698a q698c (g := (mkF m 231 #[iv i0, iv i1, iv i2, iv i3, iv (1 : Int32), iv (1 : Int32), iv (1 : Int32), rv b637, iv (4 : Int32), iv (0 : Int32), iv (4 : Int32), iv (4 : Int32), iv (1 : Int32), rv r673, .unset, .unset] [(.int (4 : Int32)), (.ref b637)])) rfl (by rw [hml]; rfl) (Steps.refl _) (argsL := [(.int (4 : Int32))]) (rest := []) (lenOf pd0_4 rfl) rfl (by show 2 * 0 + _ ≤ _; exact Nat.le_of_eq rfl) (hb hby at_231) (fun _ _ => ⟨rfl, e684, (by decide : 3 + 0 ≤ _), (by decide : 132 + 0 ≤ _)⟩)
        dsimp only [Pt.U, Pt.locs, Pt.cells, Pt.slots] at X698 l698 y698 z698 st698 hQ698
        subst l698 y698 z698
        obtain ⟨rfl, Nq698, Kq698, E_a698, F_buf698, F_sta698, F_end698, A_b698, ne_ab698, fg698, g_a698, g_b698⟩ := hQ698
        have N698 := Fr.app N685 Nq698
        have e698 : T698.heap = T698.heap := rfl
        have Z698 : n0 ≤ T698.heap.size := Nat.le_trans Z673 Kq698.1
        have f699_A : own_Af Z T698.heap r673 .byte 4 (fun j => .int ((own_put (own_put (own_put (fun _ : Nat => (0 : Int32)) 0 i0) 4 i1) 8 i2) (8 + j))) := fA673.keep Kq698 (ninS (Ne.symm ne674) (nin0))
        obtain ⟨LL700, X700, N700⟩ : ∃ LL, Stand p l e room_1 s m #[(.int i0), (.int i1), (.int i2), (.int i3)] below meth c T698 LL 3 132 ∧ Fr n0 LL := ⟨_, X698, N698⟩
        have pre701 : ∀ t, own_s p e below T698 m 234 #[iv i0, iv i1, iv i2, iv i3, iv (1 : Int32), iv (1 : Int32), iv (1 : Int32), rv b637, iv (4 : Int32), iv (0 : Int32), iv (4 : Int32), iv (4 : Int32), iv (1 : Int32), rv r673, .unset, .unset] [] t → Steps p.tables e below S0 t := fun tX kX => pre697 _ (st698.trans kX)
        have pre702 : ∀ t, own_s p e below T698 m 257 #[iv i0, iv i1, iv i2, iv i3, iv (1 : Int32), iv (1 : Int32), iv (1 : Int32), rv b637, iv (4 : Int32), iv (0 : Int32), iv (4 : Int32), iv (4 : Int32), iv (1 : Int32), rv r673, iv (8 : Int32), .unset] [(.ref b637)] t → Steps p.tables e below S0 t := by
          intro tX kX
          refine pre701 _ ?_
          show own_s p e below T698 m 234 #[iv i0, iv i1, iv i2, iv i3, iv (1 : Int32), iv (1 : Int32), iv (1 : Int32), rv b637, iv (4 : Int32), iv (0 : Int32), iv (4 : Int32), iv (4 : Int32), iv (1 : Int32), rv r673, .unset, .unset] [] _
          refine XS.iload X700.here hx rfl (hb hby at_234) rfl ?_
          refine XS.ifNo X700.here hx rfl (hb hby at_236) rfl ((if0 _ _).trans (feq (by decide : ¬ ((1 : Int32) = (0 : Int32)))).1) ?_
          refine XS.iload X700.here hx rfl (hb hby at_239) rfl ?_
          show own_s p e below T698 m 241 #[iv i0, iv i1, iv i2, iv i3, iv (1 : Int32), iv (1 : Int32), iv (1 : Int32), rv b637, iv (4 : Int32), iv (0 : Int32), iv (4 : Int32), iv (4 : Int32), iv (1 : Int32), rv r673, .unset, .unset] [(.int (4 : Int32))] _
          refine XS.iconst X700.here hx rfl (hb hby at_241) ?_
          refine XS.iadd X700.here hx rfl (hb hby at_242) rfl ?_
          refine XS.goto X700.here hx rfl (pc0 := 243) (pc' := 253) rfl (hb hby at_243) (by decide) (by decide) ?_
          show own_s p e below T698 m 253 #[iv i0, iv i1, iv i2, iv i3, iv (1 : Int32), iv (1 : Int32), iv (1 : Int32), rv b637, iv (4 : Int32), iv (0 : Int32), iv (4 : Int32), iv (4 : Int32), iv (1 : Int32), rv r673, .unset, .unset] [(.int (8 : Int32))] _
          refine XS.istore X700.here hx rfl (hb hby at_253) rfl (l' := #[iv i0, iv i1, iv i2, iv i3, iv (1 : Int32), iv (1 : Int32), iv (1 : Int32), rv b637, iv (4 : Int32), iv (0 : Int32), iv (4 : Int32), iv (4 : Int32), iv (1 : Int32), rv r673, iv (8 : Int32), .unset]) rfl ?_
          refine XS.aload X700.here hx rfl (hb hby at_255) rfl rfl ?_
          exact kX
        obtain ⟨cq703, kq703, q703a, q703b, q703c⟩ := isOf hZ e698 E_a698
        obtain ⟨_, _, ⟨T703, L703, k703, n703⟩, -, X703, ⟨Lc703, hQ703, l703, y703, z703⟩, st703⟩ := X700.virtualBack hx (y := (⟨"com/example/farcall/farcall/io/XdrEncoder", "size", "()I"⟩ : MethodName)) (z := (⟨"com/example/farcall/farcall/io/XdrEncoder", "size", "()I"⟩ : MethodName)) hown (mvT hZ (hw _ (List.mem_of_getElem? (i := 40) rfl))) (mvT hZ (hw _ (List.mem_of_getElem? (i := 24) rfl))) (notFace_of_selects (args := #[]) (mvT hZ (hw _ (List.mem_of_getElem? (i := 26) rfl)))) (mvT hZ (hw _ (List.mem_of_getElem? (i := 26) rfl))) (mvT hZ (hw _ (List.mem_of_getElem? (i := 25) rfl))) (by decide) (backOf (W := 0) (rm6 l Z a0 hw [] b637 bb645 ((own_put (own_put (own_put (fun _ : Nat => (0 : Int32)) 0 i0) 4 i1) 8 i2)) 4 12 T698.heap n0 Z698 E_a698 F_buf698 F_sta698 F_end698 A_b698 ne_ab698 fg698 g_a698 g_b698 (by decide) (by decide)) hZ (hw _ (List.mem_of_getElem? (i := 27) rfl)) (hw _ (List.mem_of_getElem? (i := 2) rfl)) (by decide) (by decide)) q703a q703c (g := (mkF m 257 #[iv i0, iv i1, iv i2, iv i3, iv (1 : Int32), iv (1 : Int32), iv (1 : Int32), rv b637, iv (4 : Int32), iv (0 : Int32), iv (4 : Int32), iv (4 : Int32), iv (1 : Int32), rv r673, iv (8 : Int32), .unset] [(.ref b637)])) rfl (by rw [hml]; rfl) (Steps.refl _) (argsL := []) (rest := []) (lenOf pd0_1 rfl) rfl (by show 2 * 0 + _ ≤ _; exact Nat.le_of_eq rfl) (hb hby at_257) (fun _ _ => ⟨rfl, e698, (by decide : 3 + 0 ≤ _), (by decide : 132 + 0 ≤ _)⟩)
        dsimp only [Pt.U, Pt.locs, Pt.cells, Pt.slots] at X703 l703 y703 z703 st703 hQ703
        subst l703 y703 z703
        obtain ⟨rfl, Nq703, e703⟩ := hQ703
        have N703 := Fr.app N700 Nq703
        obtain ⟨LL704, X704, N704⟩ : ∃ LL, Stand p l e room_1 s m #[(.int i0), (.int i1), (.int i2), (.int i3)] below meth c T703 LL 3 132 ∧ Fr n0 LL := ⟨_, X703, N703⟩
        have pre705 : ∀ t, own_s p e below T703 m 260 #[iv i0, iv i1, iv i2, iv i3, iv (1 : Int32), iv (1 : Int32), iv (1 : Int32), rv b637, iv (4 : Int32), iv (0 : Int32), iv (4 : Int32), iv (4 : Int32), iv (1 : Int32), rv r673, iv (8 : Int32), .unset] [(.int (8 : Int32))] t → Steps p.tables e below S0 t := fun tX kX => pre702 _ (st703.trans kX)
        have pre706 : ∀ t, own_s p e below T703 m 312 #[iv i0, iv i1, iv i2, iv i3, iv (1 : Int32), iv (1 : Int32), iv (1 : Int32), rv b637, iv (4 : Int32), iv (0 : Int32), iv (4 : Int32), iv (4 : Int32), iv (1 : Int32), rv r673, iv (8 : Int32), .unset] [(.int (0 : Int32)), (.ref b637)] t → Steps p.tables e below S0 t := by
          intro tX kX
          refine pre705 _ ?_
          show own_s p e below T703 m 260 #[iv i0, iv i1, iv i2, iv i3, iv (1 : Int32), iv (1 : Int32), iv (1 : Int32), rv b637, iv (4 : Int32), iv (0 : Int32), iv (4 : Int32), iv (4 : Int32), iv (1 : Int32), rv r673, iv (8 : Int32), .unset] [(.int (8 : Int32))] _
          refine XS.iload X704.here hx rfl (hb hby at_260) rfl ?_
          refine XS.icmpNo X704.here hx rfl (hb hby at_262) rfl (teq (by decide : (8 : Int32) = (8 : Int32))).2 ?_
          refine XS.iconst X704.here hx rfl (hb hby at_265) ?_
          show own_s p e below T703 m 266 #[iv i0, iv i1, iv i2, iv i3, iv (1 : Int32), iv (1 : Int32), iv (1 : Int32), rv b637, iv (4 : Int32), iv (0 : Int32), iv (4 : Int32), iv (4 : Int32), iv (1 : Int32), rv r673, iv (8 : Int32), .unset] [(.int (1 : Int32))] _
          refine XS.goto X704.here hx rfl (pc0 := 266) (pc' := 270) rfl (hb hby at_266) (by decide) (by decide) ?_
          refine XS.istore X704.here hx rfl (hb hby at_270) rfl (l' := #[iv i0, iv i1, iv i2, iv i3, iv (1 : Int32), iv (1 : Int32), iv (1 : Int32), rv b637, iv (4 : Int32), iv (0 : Int32), iv (4 : Int32), iv (4 : Int32), iv (1 : Int32), rv r673, iv (8 : Int32), .unset]) rfl ?_
          refine XS.iload X704.here hx rfl (hb hby at_272) rfl ?_
          show own_s p e below T703 m 274 #[iv i0, iv i1, iv i2, iv i3, iv (1 : Int32), iv (1 : Int32), iv (1 : Int32), rv b637, iv (4 : Int32), iv (0 : Int32), iv (4 : Int32), iv (4 : Int32), iv (1 : Int32), rv r673, iv (8 : Int32), .unset] [(.int (1 : Int32))] _
          refine XS.ifNo X704.here hx rfl (hb hby at_274) rfl ((if0 _ _).trans (feq (by decide : ¬ ((1 : Int32) = (0 : Int32)))).1) ?_
          refine XS.iload X704.here hx rfl (hb hby at_277) rfl ?_
          refine XS.ifNo X704.here hx rfl (hb hby at_279) rfl ((if0 _ _).trans (feq (by decide : ¬ ((1 : Int32) = (0 : Int32)))).1) ?_
          show own_s p e below T703 m 282 #[iv i0, iv i1, iv i2, iv i3, iv (1 : Int32), iv (1 : Int32), iv (1 : Int32), rv b637, iv (4 : Int32), iv (0 : Int32), iv (4 : Int32), iv (4 : Int32), iv (1 : Int32), rv r673, iv (8 : Int32), .unset] [] _
          refine XS.iload X704.here hx rfl (hb hby at_282) rfl ?_
          refine XS.ifNo X704.here hx rfl (hb hby at_284) rfl ((if0 _ _).trans (teq (by decide : (0 : Int32) = (0 : Int32))).2) ?_
          refine XS.iload X704.here hx rfl (hb hby at_287) rfl ?_
          show own_s p e below T703 m 289 #[iv i0, iv i1, iv i2, iv i3, iv (1 : Int32), iv (1 : Int32), iv (1 : Int32), rv b637, iv (4 : Int32), iv (0 : Int32), iv (4 : Int32), iv (4 : Int32), iv (1 : Int32), rv r673, iv (8 : Int32), .unset] [(.int (4 : Int32))] _
          refine XS.iload X704.here hx rfl (hb hby at_289) rfl ?_
          refine XS.icmpNo X704.here hx rfl (hb hby at_291) rfl (teq (by decide : (4 : Int32) = (4 : Int32))).2 ?_
          refine XS.iconst X704.here hx rfl (hb hby at_294) ?_
          show own_s p e below T703 m 295 #[iv i0, iv i1, iv i2, iv i3, iv (1 : Int32), iv (1 : Int32), iv (1 : Int32), rv b637, iv (4 : Int32), iv (0 : Int32), iv (4 : Int32), iv (4 : Int32), iv (1 : Int32), rv r673, iv (8 : Int32), .unset] [(.int (1 : Int32))] _
          refine XS.goto X704.here hx rfl (pc0 := 295) (pc' := 299) rfl (hb hby at_295) (by decide) (by decide) ?_
          refine XS.istore X704.here hx rfl (hb hby at_299) rfl (l' := #[iv i0, iv i1, iv i2, iv i3, iv (1 : Int32), iv (1 : Int32), iv (1 : Int32), rv b637, iv (4 : Int32), iv (0 : Int32), iv (4 : Int32), iv (4 : Int32), iv (1 : Int32), rv r673, iv (8 : Int32), .unset]) rfl ?_
          refine XS.iload X704.here hx rfl (hb hby at_301) rfl ?_
          show own_s p e below T703 m 303 #[iv i0, iv i1, iv i2, iv i3, iv (1 : Int32), iv (1 : Int32), iv (1 : Int32), rv b637, iv (4 : Int32), iv (0 : Int32), iv (4 : Int32), iv (4 : Int32), iv (1 : Int32), rv r673, iv (8 : Int32), .unset] [(.int (1 : Int32))] _
          refine XS.ifYes X704.here hx rfl (pc0 := 303) (pc' := 308) rfl (hb hby at_303) rfl ((if0 _ _).trans (feq (by decide : ¬ ((1 : Int32) = (0 : Int32)))).2) (by decide) (by decide) ?_
          refine XS.aload X704.here hx rfl (hb hby at_308) rfl rfl ?_
          refine XS.iload X704.here hx rfl (hb hby at_310) rfl ?_
          exact kX
        obtain ⟨cq707, kq707, q707a, q707b, q707c⟩ := isOf hZ e703 E_a698
        obtain ⟨_, _, ⟨T707, L707, k707, n707⟩, -, X707, ⟨Lc707, hQ707, l707, y707, z707⟩, st707⟩ := X704.virtualBack hx (y := (⟨"com/example/farcall/farcall/io/XdrEncoder", "endPart", "(I)V"⟩ : MethodName)) (z := (⟨"com/example/farcall/farcall/io/XdrEncoder", "endPart", "(I)V"⟩ : MethodName)) hown (mvT hZ (hw _ (List.mem_of_getElem? (i := 64) rfl))) (mvT hZ (hw _ (List.mem_of_getElem? (i := 65) rfl))) (notFace_of_selects (args := #[]) (mvT hZ (hw _ (List.mem_of_getElem? (i := 67) rfl)))) (mvT hZ (hw _ (List.mem_of_getElem? (i := 67) rfl))) (mvT hZ (hw _ (List.mem_of_getElem? (i := 66) rfl))) (by decide) (backOf (W := 0) (rm11 l Z a0 hw [] b637 (0 : Int32) bb645 ((own_put (own_put (own_put (fun _ : Nat => (0 : Int32)) 0 i0) 4 i1) 8 i2)) 4 12 0 T698.heap n0 Z698 E_a698 F_buf698 F_sta698 F_end698 A_b698 ne_ab698 fg698 g_a698 g_b698 rfl (by decide) (by decide)) hZ (hw _ (List.mem_of_getElem? (i := 68) rfl)) (hw _ (List.mem_of_getElem? (i := 2) rfl)) (by decide) (by decide)) q707a q707c (g := (mkF m 312 #[iv i0, iv i1, iv i2, iv i3, iv (1 : Int32), iv (1 : Int32), iv (1 : Int32), rv b637, iv (4 : Int32), iv (0 : Int32), iv (4 : Int32), iv (4 : Int32), iv (1 : Int32), rv r673, iv (8 : Int32), .unset] [(.int (0 : Int32)), (.ref b637)])) rfl (by rw [hml]; rfl) (Steps.refl _) (argsL := [(.int (0 : Int32))]) (rest := []) (lenOf pd0_4 rfl) rfl (by show 2 * 0 + _ ≤ _; exact Nat.le_of_eq rfl) (hb hby at_312) (fun _ _ => ⟨rfl, e703, (by decide : 3 + 0 ≤ _), (by decide : 132 + 0 ≤ _)⟩)
        dsimp only [Pt.U, Pt.locs, Pt.cells, Pt.slots] at X707 l707 y707 z707 st707 hQ707
        subst l707 y707 z707
        obtain ⟨rfl, Nq707, Kq707, E_a707, F_buf707, F_sta707, F_end707, A_b707, ne_ab707, fg707, g_a707, g_b707⟩ := hQ707
        have N707 := Fr.app N704 Nq707
        have e707 : T707.heap = T707.heap := rfl
        have Z707 : n0 ≤ T707.heap.size := Nat.le_trans Z698 Kq707.1
        have f708_A : own_Af Z T707.heap r673 .byte 4 (fun j => .int ((own_put (own_put (own_put (fun _ : Nat => (0 : Int32)) 0 i0) 4 i1) 8 i2) (8 + j))) := f699_A.keep Kq707 (ninS (Ne.symm ne674) (nin0))
        obtain ⟨LL709, X709, N709⟩ : ∃ LL, Stand p l e room_1 s m #[(.int i0), (.int i1), (.int i2), (.int i3)] below meth c T707 LL 3 132 ∧ Fr n0 LL := ⟨_, X707, N707⟩
        have pre710 : ∀ t, own_s p e below T707 m 315 #[iv i0, iv i1, iv i2, iv i3, iv (1 : Int32), iv (1 : Int32), iv (1 : Int32), rv b637, iv (4 : Int32), iv (0 : Int32), iv (4 : Int32), iv (4 : Int32), iv (1 : Int32), rv r673, iv (8 : Int32), .unset] [] t → Steps p.tables e below S0 t := fun tX kX => pre706 _ (st707.trans kX)
        have pre711 : ∀ t, own_s p e below T707 m 317 #[iv i0, iv i1, iv i2, iv i3, iv (1 : Int32), iv (1 : Int32), iv (1 : Int32), rv b637, iv (4 : Int32), iv (0 : Int32), iv (4 : Int32), iv (4 : Int32), iv (1 : Int32), rv r673, iv (8 : Int32), .unset] [(.ref b637)] t → Steps p.tables e below S0 t := by
          intro tX kX
          refine pre710 _ ?_
          show own_s p e below T707 m 315 #[iv i0, iv i1, iv i2, iv i3, iv (1 : Int32), iv (1 : Int32), iv (1 : Int32), rv b637, iv (4 : Int32), iv (0 : Int32), iv (4 : Int32), iv (4 : Int32), iv (1 : Int32), rv r673, iv (8 : Int32), .unset] [] _
          refine XS.aload X709.here hx rfl (hb hby at_315) rfl rfl ?_
          exact kX
        obtain ⟨cq712, kq712, q712a, q712b, q712c⟩ := isOf hZ e707 E_a707
        obtain ⟨_, _, ⟨T712, L712, k712, n712⟩, -, X712, ⟨Lc712, hQ712, l712, y712, z712⟩, st712⟩ := X709.virtualBack hx (y := (⟨"com/example/farcall/farcall/io/XdrEncoder", "size", "()I"⟩ : MethodName)) (z := (⟨"com/example/farcall/farcall/io/XdrEncoder", "size", "()I"⟩ : MethodName)) hown (mvT hZ (hw _ (List.mem_of_getElem? (i := 40) rfl))) (mvT hZ (hw _ (List.mem_of_getElem? (i := 24) rfl))) (notFace_of_selects (args := #[]) (mvT hZ (hw _ (List.mem_of_getElem? (i := 26) rfl)))) (mvT hZ (hw _ (List.mem_of_getElem? (i := 26) rfl))) (mvT hZ (hw _ (List.mem_of_getElem? (i := 25) rfl))) (by decide) (backOf (W := 0) (rm6 l Z a0 hw [] b637 bb645 ((own_put (own_put (own_put (fun _ : Nat => (0 : Int32)) 0 i0) 4 i1) 8 i2)) 0 12 T707.heap n0 Z707 E_a707 F_buf707 F_sta707 F_end707 A_b707 ne_ab707 fg707 g_a707 g_b707 (by decide) (by decide)) hZ (hw _ (List.mem_of_getElem? (i := 27) rfl)) (hw _ (List.mem_of_getElem? (i := 2) rfl)) (by decide) (by decide)) q712a q712c (g := (mkF m 317 #[iv i0, iv i1, iv i2, iv i3, iv (1 : Int32), iv (1 : Int32), iv (1 : Int32), rv b637, iv (4 : Int32), iv (0 : Int32), iv (4 : Int32), iv (4 : Int32), iv (1 : Int32), rv r673, iv (8 : Int32), .unset] [(.ref b637)])) rfl (by rw [hml]; rfl) (Steps.refl _) (argsL := []) (rest := []) (lenOf pd0_1 rfl) rfl (by show 2 * 0 + _ ≤ _; exact Nat.le_of_eq rfl) (hb hby at_317) (fun _ _ => ⟨rfl, e707, (by decide : 3 + 0 ≤ _), (by decide : 132 + 0 ≤ _)⟩)
        dsimp only [Pt.U, Pt.locs, Pt.cells, Pt.slots] at X712 l712 y712 z712 st712 hQ712
        subst l712 y712 z712
        obtain ⟨rfl, Nq712, e712⟩ := hQ712
        have N712 := Fr.app N709 Nq712
        obtain ⟨LL713, X713, N713⟩ : ∃ LL, Stand p l e room_1 s m #[(.int i0), (.int i1), (.int i2), (.int i3)] below meth c T712 LL 3 132 ∧ Fr n0 LL := ⟨_, X712, N712⟩
        have pre714 : ∀ t, own_s p e below T712 m 320 #[iv i0, iv i1, iv i2, iv i3, iv (1 : Int32), iv (1 : Int32), iv (1 : Int32), rv b637, iv (4 : Int32), iv (0 : Int32), iv (4 : Int32), iv (4 : Int32), iv (1 : Int32), rv r673, iv (8 : Int32), .unset] [(.int (12 : Int32))] t → Steps p.tables e below S0 t := fun tX kX => pre711 _ (st712.trans kX)
        have pre715 : ∀ t, own_s p e below T712 m 366 #[iv i0, iv i1, iv i2, iv i3, iv (1 : Int32), iv (1 : Int32), iv (1 : Int32), rv b637, iv (4 : Int32), iv (0 : Int32), iv (4 : Int32), iv (4 : Int32), iv (1 : Int32), rv r673, iv (8 : Int32), .unset] [(.ref b637)] t → Steps p.tables e below S0 t := by
          intro tX kX
          refine pre714 _ ?_
          show own_s p e below T712 m 320 #[iv i0, iv i1, iv i2, iv i3, iv (1 : Int32), iv (1 : Int32), iv (1 : Int32), rv b637, iv (4 : Int32), iv (0 : Int32), iv (4 : Int32), iv (4 : Int32), iv (1 : Int32), rv r673, iv (8 : Int32), .unset] [(.int (12 : Int32))] _
          refine XS.iload X713.here hx rfl (hb hby at_320) rfl ?_
          refine XS.iload X713.here hx rfl (hb hby at_322) rfl ?_
          refine XS.iadd X713.here hx rfl (hb hby at_324) rfl ?_
          show own_s p e below T712 m 325 #[iv i0, iv i1, iv i2, iv i3, iv (1 : Int32), iv (1 : Int32), iv (1 : Int32), rv b637, iv (4 : Int32), iv (0 : Int32), iv (4 : Int32), iv (4 : Int32), iv (1 : Int32), rv r673, iv (8 : Int32), .unset] [(.int (8 : Int32)), (.int (12 : Int32))] _
          refine XS.iconst X713.here hx rfl (hb hby at_325) ?_
          refine XS.iadd X713.here hx rfl (hb hby at_326) rfl ?_
          refine XS.icmpNo X713.here hx rfl (hb hby at_327) rfl (teq (by decide : (12 : Int32) = (12 : Int32))).2 ?_
          show own_s p e below T712 m 330 #[iv i0, iv i1, iv i2, iv i3, iv (1 : Int32), iv (1 : Int32), iv (1 : Int32), rv b637, iv (4 : Int32), iv (0 : Int32), iv (4 : Int32), iv (4 : Int32), iv (1 : Int32), rv r673, iv (8 : Int32), .unset] [] _
          refine XS.iconst X713.here hx rfl (hb hby at_330) ?_
          refine XS.goto X713.here hx rfl (pc0 := 331) (pc' := 335) rfl (hb hby at_331) (by decide) (by decide) ?_
          refine XS.istore X713.here hx rfl (hb hby at_335) rfl (l' := #[iv i0, iv i1, iv i2, iv i3, iv (1 : Int32), iv (1 : Int32), iv (1 : Int32), rv b637, iv (4 : Int32), iv (0 : Int32), iv (4 : Int32), iv (4 : Int32), iv (1 : Int32), rv r673, iv (8 : Int32), .unset]) rfl ?_
          show own_s p e below T712 m 337 #[iv i0, iv i1, iv i2, iv i3, iv (1 : Int32), iv (1 : Int32), iv (1 : Int32), rv b637, iv (4 : Int32), iv (0 : Int32), iv (4 : Int32), iv (4 : Int32), iv (1 : Int32), rv r673, iv (8 : Int32), .unset] [] _
          refine XS.goto X713.here hx rfl (pc0 := 337) (pc' := 357) rfl (hb hby at_337) (by decide) (by decide) ?_
          refine XS.iload X713.here hx rfl (hb hby at_357) rfl ?_
          refine XS.ifYes X713.here hx rfl (pc0 := 359) (pc' := 364) rfl (hb hby at_359) rfl ((if0 _ _).trans (feq (by decide : ¬ ((1 : Int32) = (0 : Int32)))).2) (by decide) (by decide) ?_
          show own_s p e below T712 m 364 #[iv i0, iv i1, iv i2, iv i3, iv (1 : Int32), iv (1 : Int32), iv (1 : Int32), rv b637, iv (4 : Int32), iv (0 : Int32), iv (4 : Int32), iv (4 : Int32), iv (1 : Int32), rv r673, iv (8 : Int32), .unset] [] _
          refine XS.aload X713.here hx rfl (hb hby at_364) rfl rfl ?_
          exact kX
        obtain ⟨cq716, kq716, q716a, q716b, q716c⟩ := isOf hZ e712 E_a707
        obtain ⟨_, _, ⟨T716, L716, k716, n716⟩, -, X716, ⟨Lc716, hQ716, l716, y716, z716⟩, st716⟩ := X713.virtualBack hx (y := (⟨"com/example/farcall/farcall/io/XdrEncoder", "toByteArray", "()[B"⟩ : MethodName)) (z := (⟨"com/example/farcall/farcall/io/XdrEncoder", "toByteArray", "()[B"⟩ : MethodName)) hown (mvT hZ (hw _ (List.mem_of_getElem? (i := 41) rfl))) (mvT hZ (hw _ (List.mem_of_getElem? (i := 42) rfl))) (notFace_of_selects (args := #[]) (mvT hZ (hw _ (List.mem_of_getElem? (i := 44) rfl)))) (mvT hZ (hw _ (List.mem_of_getElem? (i := 44) rfl))) (mvT hZ (hw _ (List.mem_of_getElem? (i := 43) rfl))) (by decide) (backOf (W := 0) (rm5 l Z a0 hw [] b637 bb645 ((own_put (own_put (own_put (fun _ : Nat => (0 : Int32)) 0 i0) 4 i1) 8 i2)) 0 12 T707.heap n0 Z707 E_a707 F_buf707 F_sta707 F_end707 A_b707 ne_ab707 fg707 g_a707 g_b707 (by decide) (by decide) (by decide)) hZ (hw _ (List.mem_of_getElem? (i := 45) rfl)) (hw _ (List.mem_of_getElem? (i := 2) rfl)) (by decide) (by decide)) q716a q716c (g := (mkF m 366 #[iv i0, iv i1, iv i2, iv i3, iv (1 : Int32), iv (1 : Int32), iv (1 : Int32), rv b637, iv (4 : Int32), iv (0 : Int32), iv (4 : Int32), iv (4 : Int32), iv (1 : Int32), rv r673, iv (8 : Int32), .unset] [(.ref b637)])) rfl (by rw [hml]; rfl) (Steps.refl _) (argsL := []) (rest := []) (lenOf pd0_3 rfl) rfl (by show 2 * 0 + _ ≤ _; exact Nat.le_of_eq rfl) (hb hby at_366) (fun _ _ => ⟨rfl, e712, (by decide : 3 + 1 ≤ _), (by decide : 132 + 64 ≤ _)⟩)
        dsimp only [Pt.U, Pt.locs, Pt.cells, Pt.slots] at X716 l716 y716 z716 st716 hQ716
        subst l716 y716 z716
        obtain ⟨r716, rfl, Nq716, Kq716, sz_r716, g_r716, fA716⟩ := hQ716
        have N716 := Fr.app N713 Nq716
        have e716 : T716.heap = T716.heap := rfl
        have Z716 : n0 ≤ T716.heap.size := Nat.le_trans Z707 Kq716.1
        have ne717 : b637 ≠ r716 := Nat.ne_of_lt (Nat.lt_of_lt_of_le E_a707.lt sz_r716)
        have ne718 : bb645 ≠ r716 := Nat.ne_of_lt (Nat.lt_of_lt_of_le A_b707.lt sz_r716)
        have ne719 : r673 ≠ r716 := Nat.ne_of_lt (Nat.lt_of_lt_of_le f708_A.lt sz_r716)
        have f720_E : Exa Z T716.heap b637 "com/example/farcall/farcall/io/XdrEncoder" := E_a707.keep Kq716
        have f721_F : Fld Z T716.heap b637 "com/example/farcall/farcall/io/XdrEncoder" "buffer" "[B" (.ref bb645) := F_buf707.keep Kq716 nin0
        have f722_F : Fld Z T716.heap b637 "com/example/farcall/farcall/io/XdrEncoder" "start" "I" (.int (Int32.ofNat 0)) := F_sta707.keep Kq716 nin0
        have f723_F : Fld Z T716.heap b637 "com/example/farcall/farcall/io/XdrEncoder" "end" "I" (.int (Int32.ofNat 12)) := F_end707.keep Kq716 nin0
        have f724_A : own_Af Z T716.heap bb645 .byte 64 (fun j => .int ((own_put (own_put (own_put (fun _ : Nat => (0 : Int32)) 0 i0) 4 i1) 8 i2) j)) := A_b707.keep Kq716 nin0
        have f725_A : own_Af Z T716.heap r673 .byte 4 (fun j => .int ((own_put (own_put (own_put (fun _ : Nat => (0 : Int32)) 0 i0) 4 i1) 8 i2) (8 + j))) := f708_A.keep Kq716 nin0
        obtain ⟨LL726, X726, N726⟩ : ∃ LL, Stand p l e room_1 s m #[(.int i0), (.int i1), (.int i2), (.int i3)] below meth c T716 LL 4 196 ∧ Fr n0 LL := ⟨_, X716, N716⟩
        have pre727 : ∀ t, own_s p e below T716 m 369 #[iv i0, iv i1, iv i2, iv i3, iv (1 : Int32), iv (1 : Int32), iv (1 : Int32), rv b637, iv (4 : Int32), iv (0 : Int32), iv (4 : Int32), iv (4 : Int32), iv (1 : Int32), rv r673, iv (8 : Int32), .unset] [(.ref r716)] t → Steps p.tables e below S0 t := fun tX kX => pre715 _ (st716.trans kX)
        have pre729 : ∀ t, own_s p e below T716 m 373 #[iv i0, iv i1, iv i2, iv i3, iv (1 : Int32), iv (1 : Int32), iv (1 : Int32), rv b637, iv (4 : Int32), iv (0 : Int32), iv (4 : Int32), iv (4 : Int32), iv (1 : Int32), rv r673, iv (8 : Int32), rv r716] [(.ref r716)] t → Steps p.tables e below S0 t := by
          intro tX kX
          refine pre727 _ ?_
          show own_s p e below T716 m 369 #[iv i0, iv i1, iv i2, iv i3, iv (1 : Int32), iv (1 : Int32), iv (1 : Int32), rv b637, iv (4 : Int32), iv (0 : Int32), iv (4 : Int32), iv (4 : Int32), iv (1 : Int32), rv r673, iv (8 : Int32), .unset] [(.ref r716)] _
          refine XS.astore X726.here hx rfl (hb hby at_369) rfl rfl (l' := #[iv i0, iv i1, iv i2, iv i3, iv (1 : Int32), iv (1 : Int32), iv (1 : Int32), rv b637, iv (4 : Int32), iv (0 : Int32), iv (4 : Int32), iv (4 : Int32), iv (1 : Int32), rv r673, iv (8 : Int32), rv r716]) rfl ?_
          refine XS.aload X726.here hx rfl (hb hby at_371) rfl rfl ?_
          exact kX
        obtain ⟨cl728, Ar728, S728, M728, H728⟩ := id fA716
        have pre731 : ∀ t, own_s p e below T716 m 395 #[iv i0, iv i1, iv i2, iv i3, iv (1 : Int32), iv (1 : Int32), iv (1 : Int32), rv b637, iv (4 : Int32), iv (0 : Int32), iv (4 : Int32), iv (4 : Int32), iv (1 : Int32), rv r673, iv (8 : Int32), rv r716] [(.int (11 : Int32)), (.ref r716)] t → Steps p.tables e below S0 t := by
          intro tX kX
          refine pre729 _ ?_
          show own_s p e below T716 m 373 #[iv i0, iv i1, iv i2, iv i3, iv (1 : Int32), iv (1 : Int32), iv (1 : Int32), rv b637, iv (4 : Int32), iv (0 : Int32), iv (4 : Int32), iv (4 : Int32), iv (1 : Int32), rv r673, iv (8 : Int32), rv r716] [(.ref r716)] _
          refine X726.arraylength hx (by rw [e716]; exact Ar728.1) (State.isArrayOf_alike hZ.alike Ar728.2.1) (g := (mkF m 373 #[iv i0, iv i1, iv i2, iv i3, iv (1 : Int32), iv (1 : Int32), iv (1 : Int32), rv b637, iv (4 : Int32), iv (0 : Int32), iv (4 : Int32), iv (4 : Int32), iv (1 : Int32), rv r673, iv (8 : Int32), rv r716] [(.ref r716)])) rfl rfl (hb hby at_373) _ ?_
          rw [show cl728.slots.size.toInt32 = (12 : Int32) from by rw [S728]; exact rfl]
          refine XS.iload X726.here hx rfl (hb hby at_374) rfl ?_
          refine XS.iload X726.here hx rfl (hb hby at_376) rfl ?_
          show own_s p e below T716 m 378 #[iv i0, iv i1, iv i2, iv i3, iv (1 : Int32), iv (1 : Int32), iv (1 : Int32), rv b637, iv (4 : Int32), iv (0 : Int32), iv (4 : Int32), iv (4 : Int32), iv (1 : Int32), rv r673, iv (8 : Int32), rv r716] [(.int (4 : Int32)), (.int (4 : Int32)), (.int (12 : Int32))] _
          refine XS.iadd X726.here hx rfl (hb hby at_378) rfl ?_
          refine XS.iconst X726.here hx rfl (hb hby at_379) ?_
          refine XS.iadd X726.here hx rfl (hb hby at_380) rfl ?_
          show own_s p e below T716 m 381 #[iv i0, iv i1, iv i2, iv i3, iv (1 : Int32), iv (1 : Int32), iv (1 : Int32), rv b637, iv (4 : Int32), iv (0 : Int32), iv (4 : Int32), iv (4 : Int32), iv (1 : Int32), rv r673, iv (8 : Int32), rv r716] [(.int (12 : Int32)), (.int (12 : Int32))] _
          refine XS.icmpYes X726.here hx rfl (pc0 := 381) (pc' := 386) rfl (hb hby at_381) rfl (teq (by decide : (12 : Int32) = (12 : Int32))).1 (by decide) (by decide) ?_
          refine XS.aload X726.here hx rfl (hb hby at_386) rfl rfl ?_
          refine XS.iload X726.here hx rfl (hb hby at_388) rfl ?_
          show own_s p e below T716 m 390 #[iv i0, iv i1, iv i2, iv i3, iv (1 : Int32), iv (1 : Int32), iv (1 : Int32), rv b637, iv (4 : Int32), iv (0 : Int32), iv (4 : Int32), iv (4 : Int32), iv (1 : Int32), rv r673, iv (8 : Int32), rv r716] [(.int (4 : Int32)), (.ref r716)] _
          refine XS.iload X726.here hx rfl (hb hby at_390) rfl ?_
          refine XS.iadd X726.here hx rfl (hb hby at_392) rfl ?_
          refine XS.iconst X726.here hx rfl (hb hby at_393) ?_
          show own_s p e below T716 m 394 #[iv i0, iv i1, iv i2, iv i3, iv (1 : Int32), iv (1 : Int32), iv (1 : Int32), rv b637, iv (4 : Int32), iv (0 : Int32), iv (4 : Int32), iv (4 : Int32), iv (1 : Int32), rv r673, iv (8 : Int32), rv r716] [(.int (3 : Int32)), (.int (8 : Int32)), (.ref r716)] _
          refine XS.iadd X726.here hx rfl (hb hby at_394) rfl ?_
          exact kX
        obtain ⟨cl730, Ar730, S730, M730, H730⟩ := id fA716
        have pre733 : ∀ t, own_s p e below T716 m 408 #[iv i0, iv i1, iv i2, iv i3, iv (1 : Int32), iv (1 : Int32), iv (1 : Int32), rv b637, iv (4 : Int32), iv (0 : Int32), iv (4 : Int32), iv (4 : Int32), iv (1 : Int32), rv r673, iv (8 : Int32), rv r716] [(.int (8 : Int32)), (.ref r716)] t → Steps p.tables e below S0 t := by
          intro tX kX
          refine pre731 _ ?_
          show own_s p e below T716 m 395 #[iv i0, iv i1, iv i2, iv i3, iv (1 : Int32), iv (1 : Int32), iv (1 : Int32), rv b637, iv (4 : Int32), iv (0 : Int32), iv (4 : Int32), iv (4 : Int32), iv (1 : Int32), rv r673, iv (8 : Int32), rv r716] [(.int (11 : Int32)), (.ref r716)] _
          refine X726.baloadBytes hx (j := (11 : Int32)) (v := (.int (i2.toInt8.toInt32))) (by rw [e716]; exact Ar730.1) (State.isArrayOf_alike hZ.alike Ar730.2.1) Ar730.2.2 (own_inb S730 M730 (by decide)) (own_get H730 S730 (by decide) (show Value.int ((own_put (own_put (own_put (fun _ : Nat => (0 : Int32)) 0 i0) 4 i1) 8 i2) (0 + 11)) = Value.int (i2.toInt8.toInt32) from congrArg Value.int (((own_put_in (by decide) (by decide)).trans (congrArg (own_by i2) (show _ = 3 from by decide))).trans (show own_by i2 3 = (i2.toInt8.toInt32) from rfl)))) (g := (mkF m 395 #[iv i0, iv i1, iv i2, iv i3, iv (1 : Int32), iv (1 : Int32), iv (1 : Int32), rv b637, iv (4 : Int32), iv (0 : Int32), iv (4 : Int32), iv (4 : Int32), iv (1 : Int32), rv r673, iv (8 : Int32), rv r716] [(.int (11 : Int32)), (.ref r716)])) rfl rfl (hb hby at_395) _ ?_
          refine XS.iloadN X726.here hx rfl (hb hby at_396) rfl ?_
          refine XS.i2b X726.here hx rfl (hb hby at_397) rfl ?_
          show own_s p e below T716 m 398 #[iv i0, iv i1, iv i2, iv i3, iv (1 : Int32), iv (1 : Int32), iv (1 : Int32), rv b637, iv (4 : Int32), iv (0 : Int32), iv (4 : Int32), iv (4 : Int32), iv (1 : Int32), rv r673, iv (8 : Int32), rv r716] [(.int (i2.toInt8.toInt32)), (.int (i2.toInt8.toInt32))] _
          refine XS.icmpNo X726.here hx rfl (hb hby at_398) rfl (teq (rfl : (i2.toInt8.toInt32) = (i2.toInt8.toInt32))).2 ?_
          refine XS.aload X726.here hx rfl (hb hby at_401) rfl rfl ?_
          refine XS.iload X726.here hx rfl (hb hby at_403) rfl ?_
          show own_s p e below T716 m 405 #[iv i0, iv i1, iv i2, iv i3, iv (1 : Int32), iv (1 : Int32), iv (1 : Int32), rv b637, iv (4 : Int32), iv (0 : Int32), iv (4 : Int32), iv (4 : Int32), iv (1 : Int32), rv r673, iv (8 : Int32), rv r716] [(.int (4 : Int32)), (.ref r716)] _
          refine XS.iload X726.here hx rfl (hb hby at_405) rfl ?_
          refine XS.iadd X726.here hx rfl (hb hby at_407) rfl ?_
          exact kX
        obtain ⟨cl732, Ar732, S732, M732, H732⟩ := id fA716
        have pre735 : ∀ t, own_s p e below T716 m 427 #[iv i0, iv i1, iv i2, iv i3, iv (1 : Int32), iv (1 : Int32), iv (1 : Int32), rv b637, iv (4 : Int32), iv (0 : Int32), iv (4 : Int32), iv (4 : Int32), iv (1 : Int32), rv r673, iv (8 : Int32), rv r716] [(.int (0 : Int32)), (.ref r716)] t → Steps p.tables e below S0 t := by
          intro tX kX
          refine pre733 _ ?_
          show own_s p e below T716 m 408 #[iv i0, iv i1, iv i2, iv i3, iv (1 : Int32), iv (1 : Int32), iv (1 : Int32), rv b637, iv (4 : Int32), iv (0 : Int32), iv (4 : Int32), iv (4 : Int32), iv (1 : Int32), rv r673, iv (8 : Int32), rv r716] [(.int (8 : Int32)), (.ref r716)] _
          refine X726.baloadBytes hx (j := (8 : Int32)) (v := (.int (((i2.toUInt32 >>> ((24 : Int32) &&& 31).toUInt32).toInt32).toInt8.toInt32))) (by rw [e716]; exact Ar732.1) (State.isArrayOf_alike hZ.alike Ar732.2.1) Ar732.2.2 (own_inb S732 M732 (by decide)) (own_get H732 S732 (by decide) (show Value.int ((own_put (own_put (own_put (fun _ : Nat => (0 : Int32)) 0 i0) 4 i1) 8 i2) (0 + 8)) = Value.int (((i2.toUInt32 >>> ((24 : Int32) &&& 31).toUInt32).toInt32).toInt8.toInt32) from congrArg Value.int (((own_put_in (by decide) (by decide)).trans (congrArg (own_by i2) (show _ = 0 from by decide))).trans (show own_by i2 0 = (((i2.toUInt32 >>> ((24 : Int32) &&& 31).toUInt32).toInt32).toInt8.toInt32) from rfl)))) (g := (mkF m 408 #[iv i0, iv i1, iv i2, iv i3, iv (1 : Int32), iv (1 : Int32), iv (1 : Int32), rv b637, iv (4 : Int32), iv (0 : Int32), iv (4 : Int32), iv (4 : Int32), iv (1 : Int32), rv r673, iv (8 : Int32), rv r716] [(.int (8 : Int32)), (.ref r716)])) rfl rfl (hb hby at_408) _ ?_
          refine XS.iloadN X726.here hx rfl (hb hby at_409) rfl ?_
          refine XS.bipush X726.here hx rfl (hb hby at_410) ?_
          show own_s p e below T716 m 412 #[iv i0, iv i1, iv i2, iv i3, iv (1 : Int32), iv (1 : Int32), iv (1 : Int32), rv b637, iv (4 : Int32), iv (0 : Int32), iv (4 : Int32), iv (4 : Int32), iv (1 : Int32), rv r673, iv (8 : Int32), rv r716] [(.int (24 : Int32)), (.int i2), (.int (((i2.toUInt32 >>> ((24 : Int32) &&& 31).toUInt32).toInt32).toInt8.toInt32))] _
          refine XS.iushr X726.here hx rfl (hb hby at_412) rfl ?_
          refine XS.i2b X726.here hx rfl (hb hby at_413) rfl ?_
          refine XS.icmpYes X726.here hx rfl (pc0 := 414) (pc' := 419) rfl (hb hby at_414) rfl (teq (rfl : (((i2.toUInt32 >>> ((24 : Int32) &&& 31).toUInt32).toInt32).toInt8.toInt32) = (((i2.toUInt32 >>> ((24 : Int32) &&& 31).toUInt32).toInt32).toInt8.toInt32))).1 (by decide) (by decide) ?_
          show own_s p e below T716 m 419 #[iv i0, iv i1, iv i2, iv i3, iv (1 : Int32), iv (1 : Int32), iv (1 : Int32), rv b637, iv (4 : Int32), iv (0 : Int32), iv (4 : Int32), iv (4 : Int32), iv (1 : Int32), rv r673, iv (8 : Int32), rv r716] [] _
          refine XS.iload X726.here hx rfl (hb hby at_419) rfl ?_
          refine XS.ifNo X726.here hx rfl (hb hby at_421) rfl ((if0 _ _).trans (feq (by decide : ¬ ((1 : Int32) = (0 : Int32)))).1) ?_
          refine XS.aload X726.here hx rfl (hb hby at_424) rfl rfl ?_
          show own_s p e below T716 m 426 #[iv i0, iv i1, iv i2, iv i3, iv (1 : Int32), iv (1 : Int32), iv (1 : Int32), rv b637, iv (4 : Int32), iv (0 : Int32), iv (4 : Int32), iv (4 : Int32), iv (1 : Int32), rv r673, iv (8 : Int32), rv r716] [(.ref r716)] _
          refine XS.iconst X726.here hx rfl (hb hby at_426) ?_
          exact kX
        obtain ⟨cl734, Ar734, S734, M734, H734⟩ := id fA716
        have pre737 : ∀ t, own_s p e below T716 m 449 #[iv i0, iv i1, iv i2, iv i3, iv (1 : Int32), iv (1 : Int32), iv (1 : Int32), rv b637, iv (4 : Int32), iv (0 : Int32), iv (4 : Int32), iv (4 : Int32), iv (1 : Int32), rv r673, iv (8 : Int32), rv r716] [(.int (7 : Int32)), (.ref r716)] t → Steps p.tables e below S0 t := by
          intro tX kX
          refine pre735 _ ?_
          show own_s p e below T716 m 427 #[iv i0, iv i1, iv i2, iv i3, iv (1 : Int32), iv (1 : Int32), iv (1 : Int32), rv b637, iv (4 : Int32), iv (0 : Int32), iv (4 : Int32), iv (4 : Int32), iv (1 : Int32), rv r673, iv (8 : Int32), rv r716] [(.int (0 : Int32)), (.ref r716)] _
          refine X726.baloadBytes hx (j := (0 : Int32)) (v := (.int (((i0.toUInt32 >>> ((24 : Int32) &&& 31).toUInt32).toInt32).toInt8.toInt32))) (by rw [e716]; exact Ar734.1) (State.isArrayOf_alike hZ.alike Ar734.2.1) Ar734.2.2 (own_inb S734 M734 (by decide)) (own_get H734 S734 (by decide) (show Value.int ((own_put (own_put (own_put (fun _ : Nat => (0 : Int32)) 0 i0) 4 i1) 8 i2) (0 + 0)) = Value.int (((i0.toUInt32 >>> ((24 : Int32) &&& 31).toUInt32).toInt32).toInt8.toInt32) from congrArg Value.int (((own_put_out (by decide)).trans ((own_put_out (by decide)).trans ((own_put_in (by decide) (by decide)).trans (congrArg (own_by i0) (show _ = 0 from by decide))))).trans (show own_by i0 0 = (((i0.toUInt32 >>> ((24 : Int32) &&& 31).toUInt32).toInt32).toInt8.toInt32) from rfl)))) (g := (mkF m 427 #[iv i0, iv i1, iv i2, iv i3, iv (1 : Int32), iv (1 : Int32), iv (1 : Int32), rv b637, iv (4 : Int32), iv (0 : Int32), iv (4 : Int32), iv (4 : Int32), iv (1 : Int32), rv r673, iv (8 : Int32), rv r716] [(.int (0 : Int32)), (.ref r716)])) rfl rfl (hb hby at_427) _ ?_
          refine XS.iloadN X726.here hx rfl (hb hby at_428) rfl ?_
          refine XS.bipush X726.here hx rfl (hb hby at_429) ?_
          show own_s p e below T716 m 431 #[iv i0, iv i1, iv i2, iv i3, iv (1 : Int32), iv (1 : Int32), iv (1 : Int32), rv b637, iv (4 : Int32), iv (0 : Int32), iv (4 : Int32), iv (4 : Int32), iv (1 : Int32), rv r673, iv (8 : Int32), rv r716] [(.int (24 : Int32)), (.int i0), (.int (((i0.toUInt32 >>> ((24 : Int32) &&& 31).toUInt32).toInt32).toInt8.toInt32))] _
          refine XS.iushr X726.here hx rfl (hb hby at_431) rfl ?_
          refine XS.i2b X726.here hx rfl (hb hby at_432) rfl ?_
          refine XS.icmpYes X726.here hx rfl (pc0 := 433) (pc' := 438) rfl (hb hby at_433) rfl (teq (rfl : (((i0.toUInt32 >>> ((24 : Int32) &&& 31).toUInt32).toInt32).toInt8.toInt32) = (((i0.toUInt32 >>> ((24 : Int32) &&& 31).toUInt32).toInt32).toInt8.toInt32))).1 (by decide) (by decide) ?_
          show own_s p e below T716 m 438 #[iv i0, iv i1, iv i2, iv i3, iv (1 : Int32), iv (1 : Int32), iv (1 : Int32), rv b637, iv (4 : Int32), iv (0 : Int32), iv (4 : Int32), iv (4 : Int32), iv (1 : Int32), rv r673, iv (8 : Int32), rv r716] [] _
          refine XS.iload X726.here hx rfl (hb hby at_438) rfl ?_
          refine XS.ifNo X726.here hx rfl (hb hby at_440) rfl ((if0 _ _).trans (feq (by decide : ¬ ((1 : Int32) = (0 : Int32)))).1) ?_
          refine XS.aload X726.here hx rfl (hb hby at_443) rfl rfl ?_
          show own_s p e below T716 m 445 #[iv i0, iv i1, iv i2, iv i3, iv (1 : Int32), iv (1 : Int32), iv (1 : Int32), rv b637, iv (4 : Int32), iv (0 : Int32), iv (4 : Int32), iv (4 : Int32), iv (1 : Int32), rv r673, iv (8 : Int32), rv r716] [(.ref r716)] _
          refine XS.iload X726.here hx rfl (hb hby at_445) rfl ?_
          refine XS.iconst X726.here hx rfl (hb hby at_447) ?_
          refine XS.iadd X726.here hx rfl (hb hby at_448) rfl ?_
          exact kX
        obtain ⟨cl736, Ar736, S736, M736, H736⟩ := id fA716
        have pre738 : ∀ t, own_s p e below T716 m 458 #[iv i0, iv i1, iv i2, iv i3, iv (1 : Int32), iv (1 : Int32), iv (1 : Int32), rv b637, iv (4 : Int32), iv (0 : Int32), iv (4 : Int32), iv (4 : Int32), iv (1 : Int32), rv r673, iv (8 : Int32), rv r716] [(.int (1 : Int32))] t → Steps p.tables e below S0 t := by
          intro tX kX
          refine pre737 _ ?_
          show own_s p e below T716 m 449 #[iv i0, iv i1, iv i2, iv i3, iv (1 : Int32), iv (1 : Int32), iv (1 : Int32), rv b637, iv (4 : Int32), iv (0 : Int32), iv (4 : Int32), iv (4 : Int32), iv (1 : Int32), rv r673, iv (8 : Int32), rv r716] [(.int (7 : Int32)), (.ref r716)] _
          refine X726.baloadBytes hx (j := (7 : Int32)) (v := (.int (i1.toInt8.toInt32))) (by rw [e716]; exact Ar736.1) (State.isArrayOf_alike hZ.alike Ar736.2.1) Ar736.2.2 (own_inb S736 M736 (by decide)) (own_get H736 S736 (by decide) (show Value.int ((own_put (own_put (own_put (fun _ : Nat => (0 : Int32)) 0 i0) 4 i1) 8 i2) (0 + 7)) = Value.int (i1.toInt8.toInt32) from congrArg Value.int (((own_put_out (by decide)).trans ((own_put_in (by decide) (by decide)).trans (congrArg (own_by i1) (show _ = 3 from by decide)))).trans (show own_by i1 3 = (i1.toInt8.toInt32) from rfl)))) (g := (mkF m 449 #[iv i0, iv i1, iv i2, iv i3, iv (1 : Int32), iv (1 : Int32), iv (1 : Int32), rv b637, iv (4 : Int32), iv (0 : Int32), iv (4 : Int32), iv (4 : Int32), iv (1 : Int32), rv r673, iv (8 : Int32), rv r716] [(.int (7 : Int32)), (.ref r716)])) rfl rfl (hb hby at_449) _ ?_
          refine XS.iloadN X726.here hx rfl (hb hby at_450) rfl ?_
          refine XS.i2b X726.here hx rfl (hb hby at_451) rfl ?_
          show own_s p e below T716 m 452 #[iv i0, iv i1, iv i2, iv i3, iv (1 : Int32), iv (1 : Int32), iv (1 : Int32), rv b637, iv (4 : Int32), iv (0 : Int32), iv (4 : Int32), iv (4 : Int32), iv (1 : Int32), rv r673, iv (8 : Int32), rv r716] [(.int (i1.toInt8.toInt32)), (.int (i1.toInt8.toInt32))] _
          refine XS.icmpYes X726.here hx rfl (pc0 := 452) (pc' := 457) rfl (hb hby at_452) rfl (teq (rfl : (i1.toInt8.toInt32) = (i1.toInt8.toInt32))).1 (by decide) (by decide) ?_
          refine XS.iconst X726.here hx rfl (hb hby at_457) ?_
          exact kX
        subst hS0
        obtain ⟨fs, hr, hrun, hended, hW, hsame⟩ := X726.leave (v := (some (.int (1 : Int32)))) (fun h => by rw [Bd.returns] at h; cases h)
        refine ⟨_, _, pre738 _ (retN X726 hx (t := .boolean) Bd.returns (by simp) (hb hby at_458) hr), hrun, hended, _, _, rfl, ?_, ⟨_, rfl⟩, hW, hsame.mono (by decide) (by decide)⟩
        show Q0 Z i0 i1 i2 i3 h0 n0 (some (.int (1 : Int32))) T716.heap _
        exact ⟨rfl, N726⟩
set_option maxRecDepth 65536 in
set_option maxHeartbeats 40000000 in
theorem comes_1 {Post : Tables → Env → Array Value → State → Outcome → State → Prop} (hpost : ∀ tb e args s v u, (limb_1_1.after args s (.returned v) u = true ∧ limb_1_2.after args s (.returned v) u = true ∧ True) → FrameEnd s (.returned v) u (Jvm.fieldLocs frame_1_writes args s ++ Jvm.arrayLocs frame_1_arrays args s ++ Jvm.staticLocs frame_1_statics s) 16 256 → Post tb e args s (.returned v) u) :
    ArmFor flags0 classFile x code maxLocals ret World_1 tables_1 room_1 Calls_1 rest_1 Pre_1 Post := by
  intro l hfl _ _ p e ha hc hk s m args below hf hA hF happ hP
  obtain ⟨hcalls, hrest, hpre⟩ := hP
  obtain ⟨-, -, -, hnamed, -, -, -, hat⟩ := (Spec.applies_iff hf).mp happ
  obtain ⟨hg, hn⟩ := and_e (Cond.before_iff.mp (show (Jvm.Cond.and given_1 narrow_1).before args s = true from hpre))
  obtain ⟨hcnt, q0⟩ := and_e hg
  obtain ⟨ha0, q1⟩ := and_e q0
  obtain ⟨ha1, q2⟩ := and_e q1
  obtain ⟨ha2, q3⟩ := and_e q2
  have ha3 := q3
  obtain ⟨w0, w1, w2, w3, rfl⟩ : ∃ w0 w1 w2 w3 : Value, args = #[w0, w1, w2, w3] := by
    have hs : args.size = 4 := by simpa [Cond.value, given_1] using hcnt
    obtain ⟨L⟩ := args
    match L, hs with
    | [w0, w1, w2, w3], _ => exact ⟨w0, w1, w2, w3, rfl⟩
  have hw := fun d (hd : d ∈ tables_1) => atoms_spec (ws := Jvm.Cond.code x code maxLocals ret :: tables_1) hat d (List.mem_cons_of_mem _ hd)
  have hfit : Fit s := fun {y c} hc i hi => by
    obtain ⟨ha, rfl⟩ := Array.getElem?_eq_some_iff.mp hc
    have q := List.all_eq_true.mp ((Array.all_eq_true_iff_forall_mem.mp hF) _ (Array.getElem_mem ha)) i (List.mem_range.mpr hi)
    simpa [Array.getElem?_eq_getElem hi] using q
  obtain ⟨i0, ei0⟩ := is_v ha0
  obtain rfl : w0 = (.int i0) := Option.some.inj ei0
  obtain ⟨i1, ei1⟩ := is_v ha1
  obtain rfl : w1 = (.int i1) := Option.some.inj ei1
  obtain ⟨i2, ei2⟩ := is_v ha2
  obtain rfl : w2 = (.int i2) := Option.some.inj ei2
  obtain ⟨i3, ei3⟩ := is_v ha3
  obtain rfl : w3 = (.int i3) := Option.some.inj ei3
  obtain ⟨n, o, h1, h2, h3, _, L, rfl, ⟨rfl, N⟩, hq⟩ := rm0 l s _ hw tables_1 i0 i1 i2 i3  s.heap s.heap.size (Nat.le_refl _)  p e ha hc hk s m _ below hf ((Spec.applies_iff_loose hf).mp happ).1 ⟨rfl, State.Warmed39.refl s, rfl⟩ trivial
  refine ⟨n, _, h1, h2, h3, hpost _ _ _ _ _ _ ⟨Cond.after_iff.mpr rfl, Cond.after_iff.mpr (eq_i res_at (Term.int_eval (1)) rfl), trivial⟩ ⟨hq.1, hq.2.1, (hq.2.2.sift fun y hy => Or.inr (N y hy)).mono (by decide) (by decide)⟩⟩
theorem main_1_1 : Claimed_1_1 := comes_1 fun _ _ _ _ _ _ h hF => ⟨h.1, hF⟩
theorem main_1_2 : Claimed_1_2 := comes_1 fun _ _ _ _ _ _ h hF => ⟨h.2.1, hF⟩
end Jvm.Pilot.@@N@@
namespace Jvm.Pilot.@@N@@
open Jvm Jvm.ClassFile Sem Op Lib Jvm.Free Jvm.Stand Jvm.Pilot.@@N@@.Jvm.D
/-! MADE BY PROGRAM (witnessworld.py) out of the Statement's table words and the real class files: 12 classes; the members and pool entries that the words name. The judged class is class 1, her method 1. -/
namespace start1
open Jvm.ClassFile
def u (s : String) : CpInfo := .utf8 (stringToUtf16 s)
/-- a pool by its gaps: so many unusable entries, then the entry; so many at the end -/
def gap : Nat → List CpInfo → List CpInfo
  | 0, r => r
  | n + 1, r => .unusable :: gap n r
def poolList (es : List (Nat × CpInfo)) (last : Nat) : List CpInfo := es.foldr (fun e r => gap e.1 (e.2 :: r)) (gap last [])
def pool (es : List (Nat × CpInfo)) (last : Nat) : Array CpInfo := ⟨poolList es last⟩
def fileOf (pool : Array CpInfo) (this : Nat) (attrs : Array Attribute := #[]) (ms : Array MethodInfo := #[]) (fl : Nat := 33) (sup : Nat := 0) (ifs : Array Nat := #[]) (fds : Array FieldInfo := #[]) : ClassFile where
  minorVersion := 0
  majorVersion := 65
  constantPool := pool
  accessFlags := fl
  thisClass := this
  superClass := sup
  interfaces := ifs
  fields := fds
  methods := ms
  attributes := attrs
def plain (name : String) (sup : Option ClassId) : Class where
  name := name
  kind := .ordinary
  loader := none
  accessFlags := 33
  super := sup
  interfaces := #[]
  cf := none
  fields := #[]
  methods := #[]
  instanceTypes := #[]
  staticTypes := #[]
  resolved := #[]
  callSites := []
  init := .initialized
  statics := none
  mirror := none

def pool0 : Array CpInfo := pool [(5, u "<init>"), (0, u "()V"), (1, .class_ 10), (1, u "java/lang/Object")] 113

def k0c0 : Code := { maxStack := 0, maxLocals := 1, code := object_method_1_code, exceptionTable := #[], attributes := #[] }
def k0m0 : Method := { name := "<init>", desc := "()V", sig := { parameters := [], returnType := none }, accessFlags := 1, code := some k0c0 }
/-- java/lang/Object -/
def k0 : Class := { plain "java/lang/Object" none with
  accessFlags := 33
  interfaces := #[]
  cf := some (fileOf pool0 8 #[] #[{ accessFlags := 1, nameIndex := 5, descriptorIndex := 6, attributes := #[] }] 33 0 #[] #[])
  fields := #[]
  methods := #[k0m0]
  instanceTypes := #[]
  staticTypes := #[]
  resolved := Array.replicate 124 none
  statics := none }

def pool1 : Array CpInfo := pool [(2, .class_ 4), (0, .nameAndType 5 6), (0, u "java/lang/Object"), (0, u "<init>"), (0, u "()V"), (0, .class_ 8), (0, u "com/example/farcall/farcall/io/XdrEncoder"), (0, .methodref 7 3), (0, .methodref 7 11), (0, .nameAndType 12 13), (0, u "writeInt"), (0, u "(I)Lcom/example/farcall/farcall/io/XdrEncoder;"), (0, .methodref 7 15), (0, .nameAndType 16 17), (0, u "beginPart"), (0, u "()I"), (0, .methodref 7 19), (0, .nameAndType 20 17), (0, u "size"), (0, .methodref 7 22), (0, .nameAndType 23 24), (0, u "toByteArray"), (0, u "()[B"), (0, .methodref 7 26), (0, .nameAndType 27 28), (0, u "endPart"), (0, u "(I)V"), (0, .class_ 30), (0, u "com/example/farcall/farcall/io/XdrEncoderBeginPartPinLaw"), (2, u "law"), (0, u "(IIII)Z")] 5

def k1m0 : Method := { name := "<init>", desc := "()V", sig := { parameters := [], returnType := none }, accessFlags := 2, code := none }
def k1c1 : Code := { maxStack := 3, maxLocals := 16, code := code, exceptionTable := #[], attributes := #[] }
def k1m1 : Method := { name := "law", desc := "(IIII)Z", sig := { parameters := [.int, .int, .int, .int], returnType := some .boolean }, accessFlags := 9, code := some k1c1 }
/-- com/example/farcall/farcall/io/XdrEncoderBeginPartPinLaw -/
def k1 : Class := { plain "com/example/farcall/farcall/io/XdrEncoderBeginPartPinLaw" (some 0) with
  accessFlags := 49
  interfaces := #[]
  cf := some (fileOf pool1 29 #[] #[{ accessFlags := 2, nameIndex := 5, descriptorIndex := 6, attributes := #[] }, { accessFlags := 9, nameIndex := 33, descriptorIndex := 34, attributes := #[] }] 49 2 #[] #[])
  fields := #[]
  methods := #[k1m0, k1m1]
  instanceTypes := #[]
  staticTypes := #[]
  resolved := Array.replicate 40 none
  statics := none }

def pool2 : Array CpInfo := pool [(1, .methodref 2 3), (0, .class_ 4), (0, .nameAndType 5 6), (0, u "java/lang/Object"), (0, u "<init>"), (0, u "()V"), (0, .class_ 8), (0, u "com/example/farcall/farcall/io/XdrEncoder"), (0, .fieldref 7 10), (0, .nameAndType 11 12), (0, u "buffer"), (0, u "[B"), (2, .methodref 7 16), (0, .nameAndType 17 18), (0, u "ensureRoom"), (0, u "(I)V"), (0, .fieldref 7 20), (0, .nameAndType 21 22), (0, u "end"), (0, u "I"), (0, .methodref 7 24), (0, .nameAndType 25 26), (0, u "size"), (0, u "()I"), (0, .methodref 7 28), (0, .nameAndType 29 30), (0, u "setInt"), (0, u "(II)V"), (2, u "writeInt"), (0, u "(I)Lcom/example/farcall/farcall/io/XdrEncoder;"), (93, .fieldref 7 129), (0, .nameAndType 130 22), (0, u "start"), (4, .methodref 136 137), (0, .class_ 138), (0, .nameAndType 139 140), (0, u "java/util/Arrays"), (0, u "copyOfRange"), (0, u "([BII)[B"), (3, u "view"), (0, u "Ljava/nio/ByteBuffer;"), (5, u "()[B"), (34, u "INITIAL_CAPACITY"), (33, u "toByteArray"), (0, u "beginPart"), (0, u "endPart")] 26

def k2c0 : Code := { maxStack := 2, maxLocals := 1, code := prog_43_method_1_code, exceptionTable := #[], attributes := #[] }
def k2m0 : Method := { name := "<init>", desc := "()V", sig := { parameters := [], returnType := none }, accessFlags := 1, code := some k2c0 }
def k2c1 : Code := { maxStack := 3, maxLocals := 2, code := prog_43_method_2_code, exceptionTable := #[], attributes := #[] }
def k2m1 : Method := { name := "writeInt", desc := "(I)Lcom/example/farcall/farcall/io/XdrEncoder;", sig := { parameters := [.int], returnType := some (.object "com/example/farcall/farcall/io/XdrEncoder") }, accessFlags := 1, code := some k2c1 }
def k2c2 : Code := { maxStack := 2, maxLocals := 1, code := prog_43_method_19_code, exceptionTable := #[], attributes := #[] }
def k2m2 : Method := { name := "size", desc := "()I", sig := { parameters := [], returnType := some .int }, accessFlags := 1, code := some k2c2 }
def k2c3 : Code := { maxStack := 3, maxLocals := 1, code := prog_43_method_21_code, exceptionTable := #[], attributes := #[] }
def k2m3 : Method := { name := "toByteArray", desc := "()[B", sig := { parameters := [], returnType := some (.array .byte) }, accessFlags := 1, code := some k2c3 }
def k2c4 : Code := { maxStack := 2, maxLocals := 2, code := prog_43_method_22_code, exceptionTable := #[], attributes := #[] }
def k2m4 : Method := { name := "beginPart", desc := "()I", sig := { parameters := [], returnType := some .int }, accessFlags := 1, code := some k2c4 }
def k2c5 : Code := { maxStack := 4, maxLocals := 2, code := prog_43_method_23_code, exceptionTable := #[], attributes := #[] }
def k2m5 : Method := { name := "endPart", desc := "(I)V", sig := { parameters := [.int], returnType := none }, accessFlags := 1, code := some k2c5 }
def k2c6 : Code := { maxStack := 4, maxLocals := 4, code := prog_43_method_24_code, exceptionTable := #[], attributes := #[] }
def k2m6 : Method := { name := "setInt", desc := "(II)V", sig := { parameters := [.int, .int], returnType := none }, accessFlags := 0, code := some k2c6 }
def k2c7 : Code := { maxStack := 5, maxLocals := 2, code := prog_43_method_28_code, exceptionTable := #[], attributes := #[] }
def k2m7 : Method := { name := "ensureRoom", desc := "(I)V", sig := { parameters := [.int], returnType := none }, accessFlags := 2, code := some k2c7 }
/-- com/example/farcall/farcall/io/XdrEncoder -/
def k2 : Class := { plain "com/example/farcall/farcall/io/XdrEncoder" (some 0) with
  accessFlags := 49
  interfaces := #[]
  cf := some (fileOf pool2 7 #[] #[{ accessFlags := 1, nameIndex := 5, descriptorIndex := 6, attributes := #[] }, { accessFlags := 1, nameIndex := 33, descriptorIndex := 34, attributes := #[] }, { accessFlags := 1, nameIndex := 25, descriptorIndex := 26, attributes := #[] }, { accessFlags := 1, nameIndex := 220, descriptorIndex := 151, attributes := #[] }, { accessFlags := 1, nameIndex := 221, descriptorIndex := 26, attributes := #[] }, { accessFlags := 1, nameIndex := 222, descriptorIndex := 18, attributes := #[] }, { accessFlags := 0, nameIndex := 29, descriptorIndex := 30, attributes := #[] }, { accessFlags := 2, nameIndex := 17, descriptorIndex := 18, attributes := #[] }] 49 2 #[] #[{ accessFlags := 26, nameIndex := 186, descriptorIndex := 22, attributes := #[] }, { accessFlags := 2, nameIndex := 11, descriptorIndex := 12, attributes := #[] }, { accessFlags := 2, nameIndex := 144, descriptorIndex := 145, attributes := #[] }, { accessFlags := 2, nameIndex := 130, descriptorIndex := 22, attributes := #[] }, { accessFlags := 2, nameIndex := 21, descriptorIndex := 22, attributes := #[] }])
  fields := #[{ name := "INITIAL_CAPACITY", type := .int, accessFlags := 26, slot := 0, constantValue := 0 }, { name := "buffer", type := (.array .byte), accessFlags := 2, slot := 0, constantValue := 0 }, { name := "view", type := (.object "java/nio/ByteBuffer"), accessFlags := 2, slot := 1, constantValue := 0 }, { name := "start", type := .int, accessFlags := 2, slot := 2, constantValue := 0 }, { name := "end", type := .int, accessFlags := 2, slot := 3, constantValue := 0 }]
  methods := #[k2m0, k2m1, k2m2, k2m3, k2m4, k2m5, k2m6, k2m7]
  instanceTypes := #[(.array .byte), (.object "java/nio/ByteBuffer"), .int, .int]
  staticTypes := #[.int]
  resolved := Array.replicate 249 none
  statics := none }

def pool3 : Array CpInfo := pool [(2, .class_ 4), (1, u "java/lang/Object"), (0, u "<init>"), (0, u "()V"), (7, .class_ 16), (1, u "java/util/Arrays"), (57, .class_ 76), (1, u "java/util/Arrays$NaturalOrder"), (36, .class_ 115), (1, u "java/util/Arrays$LegacyMergeSort"), (1, u "Z"), (21, u "copyOfRange"), (10, .methodref 151 152), (0, .class_ 153), (0, .nameAndType 154 155), (0, u "java/lang/System"), (0, u "arraycopy"), (0, u "(Ljava/lang/Object;ILjava/lang/Object;II)V"), (148, .methodref 305 306), (0, .class_ 307), (0, .nameAndType 308 309), (0, u "java/lang/Math"), (0, u "min"), (0, u "(II)I"), (29, .methodref 14 340), (0, .nameAndType 341 342), (0, u "copyOfRangeByte"), (0, u "([BII)[B"), (0, .methodref 14 344), (0, .nameAndType 345 346), (0, u "checkLength"), (0, u "(II)V"), (28, .class_ 376), (0, u "java/util/Arrays$ArrayList"), (68, u "$assertionsDisabled"), (269, u "MIN_ARRAY_SORT_GRAN"), (0, u "I"), (2, u "INSERTIONSORT_THRESHOLD"), (255, .class_ 976), (0, u "java/util/Arrays$ArrayItr")] 52

def k3m0 : Method := { name := "<init>", desc := "()V", sig := { parameters := [], returnType := none }, accessFlags := 2, code := none }
def k3c1 : Code := { maxStack := 4, maxLocals := 2, code := jdk_65_method_131_code, exceptionTable := #[], attributes := #[] }
def k3m1 : Method := { name := "checkLength", desc := "(II)V", sig := { parameters := [.int, .int], returnType := none }, accessFlags := 10, code := some k3c1 }
def k3c2 : Code := { maxStack := 3, maxLocals := 3, code := jdk_65_method_132_code, exceptionTable := #[], attributes := #[] }
def k3m2 : Method := { name := "copyOfRange", desc := "([BII)[B", sig := { parameters := [(.array .byte), .int, .int], returnType := some (.array .byte) }, accessFlags := 9, code := some k3c2 }
def k3c3 : Code := { maxStack := 6, maxLocals := 5, code := jdk_65_method_133_code, exceptionTable := #[], attributes := #[] }
def k3m3 : Method := { name := "copyOfRangeByte", desc := "([BII)[B", sig := { parameters := [(.array .byte), .int, .int], returnType := some (.array .byte) }, accessFlags := 10, code := some k3c3 }
/-- java/util/Arrays -/
def k3 : Class := { plain "java/util/Arrays" (some 0) with
  accessFlags := 49
  interfaces := #[]
  cf := some (fileOf pool3 14 #[.nestMembers #[975, 375, 113, 74]] #[{ accessFlags := 2, nameIndex := 5, descriptorIndex := 6, attributes := #[] }, { accessFlags := 10, nameIndex := 345, descriptorIndex := 346, attributes := #[] }, { accessFlags := 9, nameIndex := 139, descriptorIndex := 342, attributes := #[] }, { accessFlags := 10, nameIndex := 341, descriptorIndex := 342, attributes := #[] }] 49 2 #[] #[{ accessFlags := 26, nameIndex := 715, descriptorIndex := 716, attributes := #[] }, { accessFlags := 26, nameIndex := 719, descriptorIndex := 716, attributes := #[] }, { accessFlags := 4120, nameIndex := 445, descriptorIndex := 117, attributes := #[] }])
  fields := #[{ name := "MIN_ARRAY_SORT_GRAN", type := .int, accessFlags := 26, slot := 0, constantValue := 0 }, { name := "INSERTIONSORT_THRESHOLD", type := .int, accessFlags := 26, slot := 1, constantValue := 0 }, { name := "$assertionsDisabled", type := .boolean, accessFlags := 4120, slot := 2, constantValue := 0 }]
  methods := #[k3m0, k3m1, k3m2, k3m3]
  instanceTypes := #[]
  staticTypes := #[.int, .int, .boolean]
  resolved := Array.replicate 1029 none
  statics := none }

def pool4 : Array CpInfo := pool [(1, .class_ 2), (0, u "java/lang/Math"), (1, .class_ 6), (1, u "java/lang/Object"), (0, u "<init>"), (0, u "()V"), (89, .class_ 100), (1, u "java/lang/Math$RandomNumberGeneratorHolder"), (71, u "negativeZeroFloatBits"), (0, u "J"), (2, u "negativeZeroDoubleBits"), (24, u "min"), (43, u "$assertionsDisabled"), (0, u "Z"), (88, u "(II)I"), (2, u "twoToTheDoubleScaleDown"), (0, u "D"), (4, u "twoToTheDoubleScaleUp"), (9, u "E"), (3, u "PI"), (2, u "TAU"), (2, u "DEGREES_TO_RADIANS"), (0, u "RADIANS_TO_DEGREES")] 94

def k4m0 : Method := { name := "<init>", desc := "()V", sig := { parameters := [], returnType := none }, accessFlags := 2, code := none }
def k4c1 : Code := { maxStack := 2, maxLocals := 2, code := jdk_29_method_69_code, exceptionTable := #[], attributes := #[] }
def k4m1 : Method := { name := "min", desc := "(II)I", sig := { parameters := [.int, .int], returnType := some .int }, accessFlags := 9, code := some k4c1 }
/-- java/lang/Math -/
def k4 : Class := { plain "java/lang/Math" (some 0) with
  accessFlags := 49
  interfaces := #[]
  cf := some (fileOf pool4 1 #[.nestMembers #[98]] #[{ accessFlags := 2, nameIndex := 7, descriptorIndex := 8, attributes := #[] }, { accessFlags := 9, nameIndex := 201, descriptorIndex := 335, attributes := #[] }] 49 4 #[] #[{ accessFlags := 25, nameIndex := 354, descriptorIndex := 339, attributes := #[] }, { accessFlags := 25, nameIndex := 358, descriptorIndex := 339, attributes := #[] }, { accessFlags := 25, nameIndex := 361, descriptorIndex := 339, attributes := #[] }, { accessFlags := 26, nameIndex := 364, descriptorIndex := 339, attributes := #[] }, { accessFlags := 26, nameIndex := 365, descriptorIndex := 339, attributes := #[] }, { accessFlags := 26, nameIndex := 172, descriptorIndex := 173, attributes := #[] }, { accessFlags := 26, nameIndex := 176, descriptorIndex := 173, attributes := #[] }, { accessFlags := 8, nameIndex := 344, descriptorIndex := 339, attributes := #[] }, { accessFlags := 8, nameIndex := 338, descriptorIndex := 339, attributes := #[] }, { accessFlags := 4120, nameIndex := 245, descriptorIndex := 246, attributes := #[] }])
  fields := #[{ name := "E", type := .double, accessFlags := 25, slot := 0, constantValue := 0 }, { name := "PI", type := .double, accessFlags := 25, slot := 1, constantValue := 0 }, { name := "TAU", type := .double, accessFlags := 25, slot := 2, constantValue := 0 }, { name := "DEGREES_TO_RADIANS", type := .double, accessFlags := 26, slot := 3, constantValue := 0 }, { name := "RADIANS_TO_DEGREES", type := .double, accessFlags := 26, slot := 4, constantValue := 0 }, { name := "negativeZeroFloatBits", type := .long, accessFlags := 26, slot := 5, constantValue := 0 }, { name := "negativeZeroDoubleBits", type := .long, accessFlags := 26, slot := 6, constantValue := 0 }, { name := "twoToTheDoubleScaleUp", type := .double, accessFlags := 8, slot := 7, constantValue := 0 }, { name := "twoToTheDoubleScaleDown", type := .double, accessFlags := 8, slot := 8, constantValue := 0 }, { name := "$assertionsDisabled", type := .boolean, accessFlags := 4120, slot := 9, constantValue := 0 }]
  methods := #[k4m0, k4m1]
  instanceTypes := #[]
  staticTypes := #[.double, .double, .double, .double, .double, .long, .long, .double, .double, .boolean]
  resolved := Array.replicate 460 none
  statics := none }

def pool5 : Array CpInfo := pool [(2, .class_ 4), (1, u "java/lang/Object"), (0, u "<init>"), (0, u "()V"), (1, .class_ 10), (1, u "java/lang/System"), (0, u "allowSecurityManager"), (0, u "I"), (16, u "cons"), (0, u "Ljava/io/Console;"), (77, .class_ 110), (1, u "java/lang/System$CallersHolder"), (43, u "initialErrStream"), (0, u "Ljava/io/PrintStream;"), (19, u "security"), (0, u "Ljava/lang/SecurityManager;"), (31, .class_ 209), (0, u "java/lang/System$1"), (7, u "props"), (0, u "Ljava/util/Properties;"), (2, u "lineSeparator"), (0, u "Ljava/lang/String;"), (96, .class_ 321), (1, u "java/lang/System$LoggerFinder"), (5, .class_ 328), (0, u "java/lang/System$Logger"), (67, u "err"), (2, u "out"), (91, u "notSupportedJnuEncoding"), (15, u "in"), (17, u "initialIn"), (0, u "Ljava/io/InputStream;"), (35, u "bootLayer"), (0, u "Ljava/lang/ModuleLayer;"), (99, .class_ 664), (0, u "java/lang/System$2"), (9, u "NEVER"), (2, u "MAYBE"), (49, u "arraycopy"), (0, u "(Ljava/lang/Object;ILjava/lang/Object;II)V"), (72, .class_ 802), (0, u "java/lang/System$Logger$Level")] 31

def k5m0 : Method := { name := "<init>", desc := "()V", sig := { parameters := [], returnType := none }, accessFlags := 2, code := none }
def k5m1 : Method := { name := "arraycopy", desc := "(Ljava/lang/Object;ILjava/lang/Object;II)V", sig := { parameters := [(.object "java/lang/Object"), .int, (.object "java/lang/Object"), .int, .int], returnType := none }, accessFlags := 265, code := none }
/-- java/lang/System -/
def k5 : Class := { plain "java/lang/System" (some 0) with
  accessFlags := 49
  interfaces := #[]
  cf := some (fileOf pool5 8 #[.nestMembers #[319, 327, 801, 108, 663, 208]] #[{ accessFlags := 2, nameIndex := 5, descriptorIndex := 6, attributes := #[] }, { accessFlags := 265, nameIndex := 727, descriptorIndex := 728, attributes := #[] }] 49 2 #[] #[{ accessFlags := 25, nameIndex := 507, descriptorIndex := 526, attributes := #[] }, { accessFlags := 25, nameIndex := 399, descriptorIndex := 155, attributes := #[] }, { accessFlags := 25, nameIndex := 396, descriptorIndex := 155, attributes := #[] }, { accessFlags := 10, nameIndex := 525, descriptorIndex := 526, attributes := #[] }, { accessFlags := 26, nameIndex := 674, descriptorIndex := 12, attributes := #[] }, { accessFlags := 26, nameIndex := 677, descriptorIndex := 12, attributes := #[] }, { accessFlags := 10, nameIndex := 11, descriptorIndex := 12, attributes := #[] }, { accessFlags := 74, nameIndex := 175, descriptorIndex := 176, attributes := #[] }, { accessFlags := 10, nameIndex := 491, descriptorIndex := 222, attributes := #[] }, { accessFlags := 74, nameIndex := 29, descriptorIndex := 30, attributes := #[] }, { accessFlags := 74, nameIndex := 154, descriptorIndex := 155, attributes := #[] }, { accessFlags := 10, nameIndex := 217, descriptorIndex := 218, attributes := #[] }, { accessFlags := 10, nameIndex := 221, descriptorIndex := 222, attributes := #[] }, { accessFlags := 8, nameIndex := 562, descriptorIndex := 563, attributes := #[] }])
  fields := #[{ name := "in", type := (.object "java/io/InputStream"), accessFlags := 25, slot := 0, constantValue := 0 }, { name := "out", type := (.object "java/io/PrintStream"), accessFlags := 25, slot := 1, constantValue := 0 }, { name := "err", type := (.object "java/io/PrintStream"), accessFlags := 25, slot := 2, constantValue := 0 }, { name := "initialIn", type := (.object "java/io/InputStream"), accessFlags := 10, slot := 3, constantValue := 0 }, { name := "NEVER", type := .int, accessFlags := 26, slot := 4, constantValue := 0 }, { name := "MAYBE", type := .int, accessFlags := 26, slot := 5, constantValue := 0 }, { name := "allowSecurityManager", type := .int, accessFlags := 10, slot := 6, constantValue := 0 }, { name := "security", type := (.object "java/lang/SecurityManager"), accessFlags := 74, slot := 7, constantValue := 0 }, { name := "notSupportedJnuEncoding", type := (.object "java/lang/String"), accessFlags := 10, slot := 8, constantValue := 0 }, { name := "cons", type := (.object "java/io/Console"), accessFlags := 74, slot := 9, constantValue := 0 }, { name := "initialErrStream", type := (.object "java/io/PrintStream"), accessFlags := 74, slot := 10, constantValue := 0 }, { name := "props", type := (.object "java/util/Properties"), accessFlags := 10, slot := 11, constantValue := 0 }, { name := "lineSeparator", type := (.object "java/lang/String"), accessFlags := 10, slot := 12, constantValue := 0 }, { name := "bootLayer", type := (.object "java/lang/ModuleLayer"), accessFlags := 8, slot := 13, constantValue := 0 }]
  methods := #[k5m0, k5m1]
  instanceTypes := #[]
  staticTypes := #[(.object "java/io/InputStream"), (.object "java/io/PrintStream"), (.object "java/io/PrintStream"), (.object "java/io/InputStream"), .int, .int, .int, (.object "java/lang/SecurityManager"), (.object "java/lang/String"), (.object "java/io/Console"), (.object "java/io/PrintStream"), (.object "java/util/Properties"), (.object "java/lang/String"), (.object "java/lang/ModuleLayer")]
  resolved := Array.replicate 834 none
  statics := none }

def pool6 : Array CpInfo := pool [(1, u "java/lang/Cloneable"), (0, .class_ 1), (0, u "java/lang/Object"), (0, .class_ 3)] 3

/-- java/lang/Cloneable -/
def k6 : Class := { plain "java/lang/Cloneable" (some 0) with
  accessFlags := 1537
  interfaces := #[]
  cf := some (fileOf pool6 2 #[] #[] 1537 4 #[] #[])
  fields := #[]
  methods := #[]
  instanceTypes := #[]
  staticTypes := #[]
  resolved := Array.replicate 8 none
  statics := none }

def pool7 : Array CpInfo := pool [(1, u "java/io/Serializable"), (0, .class_ 1), (0, u "java/lang/Object"), (0, .class_ 3)] 3

/-- java/io/Serializable -/
def k7 : Class := { plain "java/io/Serializable" (some 0) with
  accessFlags := 1537
  interfaces := #[]
  cf := some (fileOf pool7 2 #[] #[] 1537 4 #[] #[])
  fields := #[]
  methods := #[]
  instanceTypes := #[]
  staticTypes := #[]
  resolved := Array.replicate 8 none
  statics := none }

/-- the primitive byte -/
def k8 : Class := { plain "byte" none with kind := .primitive 'B', accessFlags := 0x411 }
/-- [B -/
def k9 : Class := { plain "[B" (some 0) with kind := .array 8 .byte, interfaces := #[6, 7], accessFlags := 1041 }

/-- the primitive int -/
def k10 : Class := { plain "int" none with kind := .primitive 'I', accessFlags := 0x411 }
/-- [I -/
def k11 : Class := { plain "[I" (some 0) with kind := .array 10 .int, interfaces := #[6, 7], accessFlags := 1041 }

def heap : Heap := #[]
def classes : Array Class := #[k0, k1, k2, k3, k4, k5, k6, k7, k8, k9, k10, k11]
def interned : List (Array UInt16 × Addr) := []
def slotsUsed : Nat := 0
def theMethod : MethodId := ⟨1, 1⟩
def args0 : Array Value := #[.int 5, .int 6, .int 7, .int 7]
def aboutOver (below : List Frame) : State where
  vm := { classes := classes, interned := interned.toArray }
  heap := heap
  slotsUsed := slotsUsed
  threads := #[{ frames := .invoking theMethod args0 :: below }]
def below0 : List Frame := [.native { method := ⟨0, 0⟩, args := #[] }]
def about1 : State := aboutOver below0
def p0 : Program := .bare "" "" ""
def e0 : Env := launch0.env 0 0 0
theorem w_frames : about1.frames = Frame.invoking theMethod args0 :: below0 := rfl
set_option maxRecDepth 65536 in
theorem w_args : argsFit about1.vm theMethod args0 = true := by decide +kernel
set_option maxRecDepth 65536 in
theorem w_heap : heapFits about1 = true := by decide +kernel
set_option maxRecDepth 65536 in
theorem w_runnable : about1.curStatus? = some .runnable := by decide +kernel
set_option maxRecDepth 65536 in
theorem w_alone : about1.alone = true := by decide +kernel
set_option maxRecDepth 65536 in
theorem w_named : about1.methodNamed? x = some theMethod := by decide +kernel
set_option maxRecDepth 65536 in
theorem w_hears : about1.hears theMethod below0 = true := by decide +kernel
set_option maxRecDepth 65536 in
theorem w_ripe : about1.ripe theMethod args0 below0 = true := by decide +kernel
theorem w_running : about1.status = .running := rfl
set_option maxRecDepth 65536 in
theorem w_room : about1.hasRoom e0.platform room_1 = true :=
  launch0.hasRoom_least _ room_1 (by decide +kernel) (by decide +kernel) (by decide +kernel) (by decide +kernel) (by decide +kernel) (by decide +kernel)
theorem allAtoms_all (ts : List Jvm.Cond) (a : Array Jvm.Value) (st : Jvm.State) : (allAtoms ts).before a st = ts.all (fun c => c.before a st) := by
  induction ts with
  | nil => rfl
  | cons c t ih =>
    show (Jvm.Cond.and c (allAtoms t)).before a st = _
    rw [Jvm.Cond.before_and, ih, List.all_cons]
def words1 : List Jvm.Cond := Jvm.Cond.code x code maxLocals ret :: tables_1
/-- a 'code' word, met by the world's own term for the bytes: nothing is compared byte by byte -/
theorem code_word {y : MethodName} {bytes : ByteArray} {mx : Nat} {rt : Option FieldType} {a : Array Value} {s : State} {m : MethodId} {meth : Method} {c : Code} (h1 : s.methodNamed? y = some m) (h2 : s.vm.method? m = some meth) (h3 : meth.code = some c) (h4 : c.code = bytes)
    (h5 : (c.maxLocals == mx && c.exceptionTable.isEmpty && decide (c.maxStack ≤ mostOperands) && decide (meth.sig.returnType = rt) && !meth.locks && decide (parseMethodDescriptor y.desc = some meth.sig)) = true) : (Jvm.Cond.code y bytes mx rt).before a s = true := by
  simp only [Bool.and_eq_true, beq_iff_eq, Bool.not_eq_true', decide_eq_true_eq] at h5
  obtain ⟨⟨⟨⟨⟨g1, g2⟩, g3⟩, g4⟩, g5⟩, g6⟩ := h5
  simp [Cond.before, Cond.holds, Cond.value, h1, h2, h3, h4, g1, g2, g3, g4, g5, g6]
def isCode : Jvm.Cond → Bool
  | .code _ _ _ _ => true
  | _ => false
theorem all_split {L : List Jvm.Cond} {P : Jvm.Cond → Bool} (h1 : L.all (fun c => isCode c || P c) = true) (h2 : ∀ c ∈ L.filter isCode, P c = true) : L.all P = true := by
  refine List.all_eq_true.mpr fun c hc => ?_
  have h := List.all_eq_true.mp h1 c hc
  rcases Bool.eq_false_or_eq_true (isCode c) with hi | hi
  · exact h2 c (List.mem_filter.mpr ⟨hc, hi⟩)
  · simpa [hi] using h
set_option maxRecDepth 65536 in
theorem w_c0 : (Jvm.Cond.code x code maxLocals ret).before args0 about1 = true := code_word (m := ⟨1, 1⟩) (meth := k1m1) (c := k1c1) (by decide +kernel) rfl rfl rfl (by decide +kernel)
set_option maxRecDepth 65536 in
theorem w_c1 : (Jvm.Cond.code ({ cls := "com/example/farcall/farcall/io/XdrEncoder", name := "<init>", desc := "()V" } : Jvm.MethodName) prog_43_method_1_code (1 : Nat) (Option.none : Option Jvm.ClassFile.FieldType)).before args0 about1 = true := code_word (m := ⟨2, 0⟩) (meth := k2m0) (c := k2c0) (by decide +kernel) rfl rfl rfl (by decide +kernel)
set_option maxRecDepth 65536 in
theorem w_c2 : (Jvm.Cond.code ({ cls := "java/lang/Object", name := "<init>", desc := "()V" } : Jvm.MethodName) object_method_1_code (1 : Nat) (Option.none : Option Jvm.ClassFile.FieldType)).before args0 about1 = true := code_word (m := ⟨0, 0⟩) (meth := k0m0) (c := k0c0) (by decide +kernel) rfl rfl rfl (by decide +kernel)
set_option maxRecDepth 65536 in
theorem w_c3 : (Jvm.Cond.code ({ cls := "com/example/farcall/farcall/io/XdrEncoder", name := "writeInt", desc := "(I)Lcom/example/farcall/farcall/io/XdrEncoder;" } : Jvm.MethodName) prog_43_method_2_code (2 : Nat) (Option.some (Jvm.ClassFile.FieldType.object "com/example/farcall/farcall/io/XdrEncoder"))).before args0 about1 = true := code_word (m := ⟨2, 1⟩) (meth := k2m1) (c := k2c1) (by decide +kernel) rfl rfl rfl (by decide +kernel)
set_option maxRecDepth 65536 in
theorem w_c4 : (Jvm.Cond.code ({ cls := "com/example/farcall/farcall/io/XdrEncoder", name := "ensureRoom", desc := "(I)V" } : Jvm.MethodName) prog_43_method_28_code (2 : Nat) (Option.none : Option Jvm.ClassFile.FieldType)).before args0 about1 = true := code_word (m := ⟨2, 7⟩) (meth := k2m7) (c := k2c7) (by decide +kernel) rfl rfl rfl (by decide +kernel)
set_option maxRecDepth 65536 in
theorem w_c5 : (Jvm.Cond.code ({ cls := "com/example/farcall/farcall/io/XdrEncoder", name := "size", desc := "()I" } : Jvm.MethodName) prog_43_method_19_code (1 : Nat) (Option.some Jvm.ClassFile.FieldType.int)).before args0 about1 = true := code_word (m := ⟨2, 2⟩) (meth := k2m2) (c := k2c2) (by decide +kernel) rfl rfl rfl (by decide +kernel)
set_option maxRecDepth 65536 in
theorem w_c6 : (Jvm.Cond.code ({ cls := "com/example/farcall/farcall/io/XdrEncoder", name := "setInt", desc := "(II)V" } : Jvm.MethodName) prog_43_method_24_code (4 : Nat) (Option.none : Option Jvm.ClassFile.FieldType)).before args0 about1 = true := code_word (m := ⟨2, 6⟩) (meth := k2m6) (c := k2c6) (by decide +kernel) rfl rfl rfl (by decide +kernel)
set_option maxRecDepth 65536 in
theorem w_c7 : (Jvm.Cond.code ({ cls := "com/example/farcall/farcall/io/XdrEncoder", name := "beginPart", desc := "()I" } : Jvm.MethodName) prog_43_method_22_code (2 : Nat) (Option.some Jvm.ClassFile.FieldType.int)).before args0 about1 = true := code_word (m := ⟨2, 4⟩) (meth := k2m4) (c := k2c4) (by decide +kernel) rfl rfl rfl (by decide +kernel)
set_option maxRecDepth 65536 in
theorem w_c8 : (Jvm.Cond.code ({ cls := "com/example/farcall/farcall/io/XdrEncoder", name := "toByteArray", desc := "()[B" } : Jvm.MethodName) prog_43_method_21_code (1 : Nat) (Option.some (Jvm.ClassFile.FieldType.array Jvm.ClassFile.FieldType.byte))).before args0 about1 = true := code_word (m := ⟨2, 3⟩) (meth := k2m3) (c := k2c3) (by decide +kernel) rfl rfl rfl (by decide +kernel)
set_option maxRecDepth 65536 in
theorem w_c9 : (Jvm.Cond.code ({ cls := "java/util/Arrays", name := "copyOfRange", desc := "([BII)[B" } : Jvm.MethodName) jdk_65_method_132_code (3 : Nat) (Option.some (Jvm.ClassFile.FieldType.array Jvm.ClassFile.FieldType.byte))).before args0 about1 = true := code_word (m := ⟨3, 2⟩) (meth := k3m2) (c := k3c2) (by decide +kernel) rfl rfl rfl (by decide +kernel)
set_option maxRecDepth 65536 in
theorem w_c10 : (Jvm.Cond.code ({ cls := "java/util/Arrays", name := "copyOfRangeByte", desc := "([BII)[B" } : Jvm.MethodName) jdk_65_method_133_code (5 : Nat) (Option.some (Jvm.ClassFile.FieldType.array Jvm.ClassFile.FieldType.byte))).before args0 about1 = true := code_word (m := ⟨3, 3⟩) (meth := k3m3) (c := k3c3) (by decide +kernel) rfl rfl rfl (by decide +kernel)
set_option maxRecDepth 65536 in
theorem w_c11 : (Jvm.Cond.code ({ cls := "java/util/Arrays", name := "checkLength", desc := "(II)V" } : Jvm.MethodName) jdk_65_method_131_code (2 : Nat) (Option.none : Option Jvm.ClassFile.FieldType)).before args0 about1 = true := code_word (m := ⟨3, 1⟩) (meth := k3m1) (c := k3c1) (by decide +kernel) rfl rfl rfl (by decide +kernel)
set_option maxRecDepth 65536 in
theorem w_c12 : (Jvm.Cond.code ({ cls := "java/lang/Math", name := "min", desc := "(II)I" } : Jvm.MethodName) jdk_29_method_69_code (2 : Nat) (Option.some Jvm.ClassFile.FieldType.int)).before args0 about1 = true := code_word (m := ⟨4, 1⟩) (meth := k4m1) (c := k4c1) (by decide +kernel) rfl rfl rfl (by decide +kernel)
set_option maxRecDepth 65536 in
theorem w_c13 : (Jvm.Cond.code ({ cls := "com/example/farcall/farcall/io/XdrEncoder", name := "endPart", desc := "(I)V" } : Jvm.MethodName) prog_43_method_23_code (2 : Nat) (Option.none : Option Jvm.ClassFile.FieldType)).before args0 about1 = true := code_word (m := ⟨2, 5⟩) (meth := k2m5) (c := k2c5) (by decide +kernel) rfl rfl rfl (by decide +kernel)
def codes1 : List Jvm.Cond := [Jvm.Cond.code x code maxLocals ret, Jvm.Cond.code ({ cls := "com/example/farcall/farcall/io/XdrEncoder", name := "<init>", desc := "()V" } : Jvm.MethodName) prog_43_method_1_code (1 : Nat) (Option.none : Option Jvm.ClassFile.FieldType), Jvm.Cond.code ({ cls := "java/lang/Object", name := "<init>", desc := "()V" } : Jvm.MethodName) object_method_1_code (1 : Nat) (Option.none : Option Jvm.ClassFile.FieldType), Jvm.Cond.code ({ cls := "com/example/farcall/farcall/io/XdrEncoder", name := "writeInt", desc := "(I)Lcom/example/farcall/farcall/io/XdrEncoder;" } : Jvm.MethodName) prog_43_method_2_code (2 : Nat) (Option.some (Jvm.ClassFile.FieldType.object "com/example/farcall/farcall/io/XdrEncoder")), Jvm.Cond.code ({ cls := "com/example/farcall/farcall/io/XdrEncoder", name := "ensureRoom", desc := "(I)V" } : Jvm.MethodName) prog_43_method_28_code (2 : Nat) (Option.none : Option Jvm.ClassFile.FieldType), Jvm.Cond.code ({ cls := "com/example/farcall/farcall/io/XdrEncoder", name := "size", desc := "()I" } : Jvm.MethodName) prog_43_method_19_code (1 : Nat) (Option.some Jvm.ClassFile.FieldType.int), Jvm.Cond.code ({ cls := "com/example/farcall/farcall/io/XdrEncoder", name := "setInt", desc := "(II)V" } : Jvm.MethodName) prog_43_method_24_code (4 : Nat) (Option.none : Option Jvm.ClassFile.FieldType), Jvm.Cond.code ({ cls := "com/example/farcall/farcall/io/XdrEncoder", name := "beginPart", desc := "()I" } : Jvm.MethodName) prog_43_method_22_code (2 : Nat) (Option.some Jvm.ClassFile.FieldType.int), Jvm.Cond.code ({ cls := "com/example/farcall/farcall/io/XdrEncoder", name := "toByteArray", desc := "()[B" } : Jvm.MethodName) prog_43_method_21_code (1 : Nat) (Option.some (Jvm.ClassFile.FieldType.array Jvm.ClassFile.FieldType.byte)), Jvm.Cond.code ({ cls := "java/util/Arrays", name := "copyOfRange", desc := "([BII)[B" } : Jvm.MethodName) jdk_65_method_132_code (3 : Nat) (Option.some (Jvm.ClassFile.FieldType.array Jvm.ClassFile.FieldType.byte)), Jvm.Cond.code ({ cls := "java/util/Arrays", name := "copyOfRangeByte", desc := "([BII)[B" } : Jvm.MethodName) jdk_65_method_133_code (5 : Nat) (Option.some (Jvm.ClassFile.FieldType.array Jvm.ClassFile.FieldType.byte)), Jvm.Cond.code ({ cls := "java/util/Arrays", name := "checkLength", desc := "(II)V" } : Jvm.MethodName) jdk_65_method_131_code (2 : Nat) (Option.none : Option Jvm.ClassFile.FieldType), Jvm.Cond.code ({ cls := "java/lang/Math", name := "min", desc := "(II)I" } : Jvm.MethodName) jdk_29_method_69_code (2 : Nat) (Option.some Jvm.ClassFile.FieldType.int), Jvm.Cond.code ({ cls := "com/example/farcall/farcall/io/XdrEncoder", name := "endPart", desc := "(I)V" } : Jvm.MethodName) prog_43_method_23_code (2 : Nat) (Option.none : Option Jvm.ClassFile.FieldType)]
set_option maxRecDepth 65536 in
theorem codes_eq : words1.filter isCode = codes1 := rfl
theorem w_codes : ∀ c ∈ words1.filter isCode, c.before args0 about1 = true := by
  rw [codes_eq]
  intro c hc
  simp only [codes1, List.mem_cons, List.not_mem_nil, or_false] at hc
  rcases hc with rfl | rfl | rfl | rfl | rfl | rfl | rfl | rfl | rfl | rfl | rfl | rfl | rfl | rfl
  · exact w_c0
  · exact w_c1
  · exact w_c2
  · exact w_c3
  · exact w_c4
  · exact w_c5
  · exact w_c6
  · exact w_c7
  · exact w_c8
  · exact w_c9
  · exact w_c10
  · exact w_c11
  · exact w_c12
  · exact w_c13
set_option maxRecDepth 65536 in
theorem w_t1 : (words1.take 24).all (fun c => isCode c || c.before args0 about1) = true := by decide +kernel
set_option maxRecDepth 65536 in
theorem w_t2 : ((words1.drop 24).take 24).all (fun c => isCode c || c.before args0 about1) = true := by decide +kernel
set_option maxRecDepth 65536 in
theorem w_t3 : ((words1.drop 24).drop 24).all (fun c => isCode c || c.before args0 about1) = true := by decide +kernel
theorem w_tables : (allAtoms (Jvm.Cond.code x code maxLocals ret :: tables_1)).before args0 about1 = true := by
  rw [allAtoms_all]
  show words1.all (fun c => c.before args0 about1) = true
  refine all_split ?_ w_codes
  rw [← List.take_append_drop 24 words1, List.all_append, w_t1, ← List.take_append_drop 24 (words1.drop 24), List.all_append, w_t2, w_t3]
  rfl
set_option maxRecDepth 65536 in
theorem w_case : (Jvm.Cond.and given_1 narrow_1).before args0 about1 = true := by decide +kernel
theorem w_applies : (headSpec (Jvm.Cond.code x code maxLocals ret :: tables_1) room_1).applies x e0.platform about1 = true :=
  (Spec.applies_iff w_frames).mpr ⟨w_running, w_runnable, w_alone, w_named, w_hears, w_ripe, w_room, w_tables⟩
theorem atStart : AtStart classFile x code maxLocals ret World_1 tables_1 room_1 Calls_1 rest_1 Pre_1 launch0 p0 e0 about1 theMethod args0 below0 :=
  ⟨lists_1, trivial, launch0.admits_env _ _ _, launch0.least_env, fairChoices_fair.cas, fairChoices_fair.clock, w_frames, w_args, w_heap, w_applies, trivial, trivial, w_case⟩
end start1
theorem witness_1 : WitnessClaimed_1 := ⟨start1.p0, start1.e0, start1.about1, start1.theMethod, start1.args0, start1.below0, start1.atStart⟩
end Jvm.Pilot.@@N@@
