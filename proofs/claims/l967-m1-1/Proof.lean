import JvmDerived
import JvmDerived.Pilot.@@N@@Statement
import JvmDerived.Pilot.@@N@@Code
set_option linter.unusedVariables false
set_option linter.unusedSimpArgs false
namespace Jvm.RoadKit
open Sem ClassFile Op Lib Jvm.Stand Jvm.Free Jvm.LawKit
section New
variable {p : Program} {l : Launch} {e : Env} {R : Room} {s : State} {m : MethodId} {args : Array Value} {below : List Frame} {meth : Method} {c : Code} {T : State} {locs : List Loc} {cells slots : Nat}
theorem retI (X : Stand p l e R s m args below meth c T locs cells slots) (hx : p.tables.exec = Jvm.exec) {pc : Nat} {Ls : Array Slot} {z : Int32} {rest : List Value} (hret : meth.sig.returnType = some .int) (hd : decode c.code pc = .ok (.ireturn, 1)) {fs : List Frame}
    (hl : ∀ (f : JFrame) (acts : List Action), f.method = m → f.locked = none → f.entered = [] → (doReturn e (T.setTop f) acts (some (.int z))).1 = T.setFrames fs) : Steps p.tables e below (T.setTop (mkF m pc Ls (.int z :: rest))) (T.setFrames fs) := by
  have hm' : T.vm.method? m = some meth := X.method'
  have hn : narrow .int (.int z) = .int z := rfl
  show Steps p.tables e below (T.setTop { method := m, pc := pc, locals := Ls, stack := _ :: rest, locked := none }) _
  jvm_step X.here [X.here.top, hx, hd, hm', hret, hn]
  first | (intro acts; rw [hl _ acts rfl rfl rfl]) | rw [hl _ _ rfl rfl rfl]
  exact Steps.refl _
end New
end Jvm.RoadKit
namespace Jvm.Pilot.@@N@@
open Jvm Jvm.ClassFile Sem Op Lib Jvm.Free Jvm.Stand Jvm.LawKit Jvm.RoadKit Bundle Jvm.Pilot.@@N@@.Jvm.D
abbrev own_s (p : Program) (e : Env) (below : List Frame) (T : State) (m : MethodId) (pc : Nat) (L : Array Slot) (S : List Value) (t : State) : Prop := Steps p.tables e below (T.setTop (mkF m pc L S)) t
theorem own_fit {C : String} {v : Value} (h : v.isRef = true) : fits (.object C) v = true := by rcases ref_cases h with rfl | ⟨_, rfl⟩ <;> rfl
theorem own_cat1 {v : Value} (h : v.isRef = true) : v.category = 1 := by rcases ref_cases h with rfl | ⟨_, rfl⟩ <;> rfl
theorem own_narR {t : FieldType} {v : Value} (h : v.isRef = true) : narrow t v = v := by cases v <;> first | (cases t <;> rfl) | (cases h)
theorem own_selP {s : State} {args : Array Value} {y : MethodName} {n : Nat} (hins : (Jvm.Cond.instantiable y.cls n).before args s = true) (hpriv : s.PrivateAt y) (hinst : (Jvm.Cond.instanceMethod y).before args s = true) (hy : y.cls ≠ "java/lang/invoke/MethodHandle" ∧ y.cls ≠ "java/lang/invoke/VarHandle") : (Jvm.Cond.selects y.cls y y).before args s = true := by
  obtain ⟨c, k, hc, hk, -, hniab, -, -⟩ := Cond.instantiable_spec hins
  exact selects_self_of_private hc hk (Bool.or_eq_false_iff.mp hniab).1 hpriv hinst hy
def own_up (f : Nat → Value) (i : Nat) (v : Value) : Nat → Value := fun j => if j = i then v else f j
def own_Af (Z : State) (h : Heap) (a : Addr) (ty : FieldType) (n : Nat) (f : Nat → Value) : Prop := ∃ c : Cell, Arr Z h a c ty ∧ c.slots.size = n ∧ n < 2 ^ 31 ∧ ∀ j, j < n → c.slots[j]? = some (f j)
theorem own_Af.lt {Z : State} {h : Heap} {a : Addr} {ty : FieldType} {n : Nat} {f : Nat → Value} (F : own_Af Z h a ty n f) : a < h.size := by obtain ⟨c, A, -⟩ := F; exact A.lt
theorem own_Af.ext {Z : State} {h h' : Heap} {a : Addr} {ty : FieldType} {n : Nat} {f : Nat → Value} (F : own_Af Z h a ty n f) (E : Ext h h') : own_Af Z h' a ty n f := by obtain ⟨c, A, r⟩ := F; exact ⟨c, A.ext E, r⟩
theorem own_Af.other {Z : State} {h h' : Heap} {a b : Addr} {ty : FieldType} {n : Nat} {f : Nat → Value} {sl : Nat} {v : Value} (F : own_Af Z h b ty n f) (W : Wr h h' a sl v) (q : b ≠ a) : own_Af Z h' b ty n f := by obtain ⟨c, A, r⟩ := F; exact ⟨c, A.other W q, r⟩
theorem own_Af.keep {Z : State} {h h' : Heap} {a : Addr} {ty : FieldType} {n : Nat} {f : Nat → Value} {ws : List Addr} (F : own_Af Z h a ty n f) (K : Keep h h' ws) (q : a ∉ ws) : own_Af Z h' a ty n f := by obtain ⟨c, A, r⟩ := F; exact ⟨c, ⟨K.2.1 a c A.1 q, A.2⟩, r⟩
theorem own_Af.new {Z : State} {h : Heap} {a : Addr} {ty : FieldType} {k : ClassId} {z : Int32} {n : Nat} {d : Value} (A : Arr Z h a (newA k ty z) ty) (q : ¬ z < 0) (hn : z.toNatClampNeg = n) (hd : defaultValue ty = d := by rfl) : own_Af Z h a ty n (fun _ => d) := by
  subst hn hd
  refine ⟨_, A, sz_new _ _ _, (back32 q).2, fun j hj => ?_⟩
  simp [newA, hj]
theorem own_Af.set {Z : State} {h h' : Heap} {a : Addr} {ty : FieldType} {n i : Nat} {f : Nat → Value} {v : Value} {c : Cell} (A : Arr Z h a c ty) (S : c.slots.size = n) (M : n < 2 ^ 31) (H : ∀ j, j < n → c.slots[j]? = some (f j)) (W : Wr h h' a i v) : own_Af Z h' a ty n (own_up f i v) := by
  refine ⟨_, A.same W, by rw [sz_set]; exact S, M, fun j hj => ?_⟩
  have := H j hj
  simp only [own_up, Cell.setSlot]
  by_cases e : j = i
  · subst e; simp [Array.getElem?_setIfInBounds, S, hj]
  · rw [if_neg e, Array.getElem?_setIfInBounds, if_neg (fun q => e q.symm)]; exact this
theorem own_inb {c : Cell} {n : Nat} {j : Int32} (S : c.slots.size = n) (M : n < 2 ^ 31) (q : ¬ j < 0 ∧ j.toNatClampNeg < n) : ¬ (j < 0 ∨ c.slots.size ≤ j.toNatClampNeg) := by
  rw [S]; exact fun z => z.elim q.1 (fun w => absurd q.2 (Nat.not_lt.mpr w))
theorem own_get {c : Cell} {n : Nat} {f : Nat → Value} {j : Int32} {v : Value} (H : ∀ j, j < n → c.slots[j]? = some (f j)) (S : c.slots.size = n) (q : ¬ j < 0 ∧ j.toNatClampNeg < n) (e : f j.toNatClampNeg = v) : c.slots[j.toNatClampNeg]? = some v := by
  rw [H _ q.2, e]
theorem own_nat {j : Int32} {n : Nat} (h : j.toInt = n) : j.toNatClampNeg = n := by simp only [Int32.toNatClampNeg]; omega
theorem own_ofn {n : Nat} (h : n < 2 ^ 31) : (Int32.ofNat n).toInt = n := Int32.toInt_ofNat_of_lt h
theorem own_of {j : Int32} {n : Nat} (hn : n < 2 ^ 31) (h : j.toInt = n) : j = Int32.ofNat n := Int32.toInt_inj.mp (h.trans (own_ofn hn).symm)
theorem own_idx {j : Int32} {n : Nat} (h0 : 0 ≤ j.toInt) (h1 : j.toInt < n) : ¬ j < 0 ∧ j.toNatClampNeg < n := by
  have q : ¬ j < 0 := fun w => by have := Int32.lt_iff_toInt_lt.mp w; have e : (0 : Int32).toInt = 0 := rfl; omega
  exact ⟨q, by have := nat_of q; omega⟩
def own_min (x y : Int32) : Int32 := if y < x then y else x
def own_upi (g : Nat → Int32) (i : Nat) (z : Int32) : Nat → Int32 := fun j => if j = i then z else g j
theorem own_upI {g : Nat → Int32} {i : Nat} {z : Int32} : own_up (fun j => .int (g j)) i (.int z) = fun j => .int (own_upi g i z j) := by
  funext j; unfold own_up own_upi; by_cases e : j = i
  · rw [if_pos e, if_pos e]
  · rw [if_neg e, if_neg e]
def own_by (v : Int32) (k : Nat) : Int32 := if k = 0 then ((v.toUInt32 >>> ((24 : Int32) &&& 31).toUInt32).toInt32).toInt8.toInt32 else if k = 1 then ((v.toUInt32 >>> ((16 : Int32) &&& 31).toUInt32).toInt32).toInt8.toInt32 else if k = 2 then ((v.toUInt32 >>> ((8 : Int32) &&& 31).toUInt32).toInt32).toInt8.toInt32 else v.toInt8.toInt32
theorem own_nn (x : Int32) : nar .byte (x.toInt8.toInt32) = x.toInt8.toInt32 := by show x.toInt8.toInt32.toInt8.toInt32 = _; rw [Int8.toInt8_toInt32]
theorem own_fby (v : Int32) (k : Nat) : fits .byte (.int (own_by v k)) = true := by
  unfold own_by; split
  · exact fits_nar_byte _
  · split
    · exact fits_nar_byte _
    · split <;> exact fits_nar_byte _
def own_put (g : Nat → Int32) (i : Nat) (v : Int32) : Nat → Int32 := own_upi (own_upi (own_upi (own_upi g i (own_by v 0)) (i + 1) (own_by v 1)) (i + 2) (own_by v 2)) (i + 3) (own_by v 3)
theorem own_fup {g : Nat → Int32} (h : ∀ j, fits .byte (.int (g j)) = true) (i : Nat) {z : Int32} (hz : fits .byte (.int z) = true) : ∀ j, fits .byte (.int (own_upi g i z j)) = true := fun j => by
  unfold own_upi; by_cases e : j = i
  · rw [if_pos e]; exact hz
  · rw [if_neg e]; exact h j
theorem own_fput {g : Nat → Int32} (h : ∀ j, fits .byte (.int (g j)) = true) (i : Nat) (v : Int32) : ∀ j, fits .byte (.int (own_put g i v j)) = true := own_fup (own_fup (own_fup (own_fup h _ (own_fby _ _)) _ (own_fby _ _)) _ (own_fby _ _)) _ (own_fby _ _)
theorem own_put_out {g : Nat → Int32} {i : Nat} {v : Int32} {j : Nat} (h : j < i ∨ i + 4 ≤ j) : own_put g i v j = g j := by
  unfold own_put own_upi; rw [if_neg (by omega), if_neg (by omega), if_neg (by omega), if_neg (by omega)]
theorem own_put_in {g : Nat → Int32} {i : Nat} {v : Int32} {j : Nat} (h0 : i ≤ j) (h : j < i + 4) : own_put g i v j = own_by v (j - i) := by
  obtain ⟨k, rfl⟩ : ∃ k, j = i + k := ⟨j - i, by omega⟩
  rw [show i + k - i = k from by omega]
  rcases (by omega : k = 0 ∨ k = 1 ∨ k = 2 ∨ k = 3) with rfl | rfl | rfl | rfl
  · unfold own_put own_upi; rw [if_neg (by omega), if_neg (by omega), if_neg (by omega), if_pos (by omega)]
  · unfold own_put own_upi; rw [if_neg (by omega), if_neg (by omega), if_pos (by omega)]
  · unfold own_put own_upi; rw [if_neg (by omega), if_pos (by omega)]
  · unfold own_put own_upi; rw [if_pos (by omega)]
theorem own_arv {Z : State} {h : Heap} {a : Addr} {n : Nat} {g : Nat → Int32} (F : own_Af Z h a .byte n (fun j => .int (g j))) (hg : ∀ j, fits .byte (.int (g j)) = true) : ∃ k, Arv Z h a k .byte (Int32.ofNat n) ((List.range n).map fun j => .int (g j)) (.int (0 : Int32)) := by
  obtain ⟨c, A, S, M, H⟩ := F
  have hv : ∀ i, i < n → ((List.range n).map fun j => Value.int (g j)).getD i (.int (0 : Int32)) = .int (g i) := fun i hi => by simp [List.getD, hi]
  have e := own_ofn M
  refine ⟨c.cls, c, A, rfl, ?_, ?_, ?_, ?_⟩
  · rw [S, own_nat e]
  · exact fun w => by have := Int32.lt_iff_toInt_lt.mp w; have z : (0 : Int32).toInt = 0 := rfl; omega
  · intro i hi; rw [S] at hi; rw [H i hi, hv i hi]
  · intro i hi; rw [S] at hi; rw [hv i hi]; exact hg i
theorem own_ofarv {Z : State} {h : Heap} {a : Addr} {k : ClassId} {ty : FieldType} {z : Int32} {vs : List Value} {d : Value} (F : Arv Z h a k ty z vs d) {n : Nat} (hz : z.toNatClampNeg = n) {f : Nat → Value} (hf : ∀ j, j < n → vs.getD j d = f j) : own_Af Z h a ty n f := by
  obtain ⟨c, A, -, S, N, H, -⟩ := F
  refine ⟨c, A, S.trans hz, hz ▸ (back32 N).2, fun j hj => ?_⟩
  rw [H j (by rw [S, hz]; exact hj), hf j hj]
theorem own_cp {g : Nat → Int32} {S n N : Nat} {sp nn dp : Int32} {vd : List Value} (hs : sp.toNatClampNeg = S) (hn : nn.toNatClampNeg = n) (hd : dp.toNatClampNeg = 0) (hN : S + n ≤ N) : ∀ j, j < n → (vd.take dp.toNatClampNeg ++ ((List.range nn.toNatClampNeg).map fun i => ((List.range N).map fun j => Value.int (g j)).getD (sp.toNatClampNeg + i) (.int (0 : Int32))) ++ vd.drop (dp.toNatClampNeg + nn.toNatClampNeg)).getD j (.int (0 : Int32)) = .int (g (S + j)) := by
  intro j hj
  rw [hs, hn, hd, List.take_zero, List.nil_append, List.getD_eq_getElem?_getD, List.getElem?_append_left (by simpa using hj), List.getElem?_map, List.getElem?_range hj]
  have h2 : S + j < N := by omega
  simp [List.getD, h2]
theorem own_bb {y u : Int32} (h : (y.toInt - u.toInt) % 256 = 0) : y.toInt8.toInt32 = u.toInt8.toInt32 := Int32.toInt_inj.mp (by have := c_i2b y; have := c_i2b u; omega)
def own_xp0 (I : Nat) (a b c : Int32) : Int32 := own_by (if I / 4 = 0 then a else if I / 4 = 1 then b else c) (I % 4)
def own_xp (I O : Nat) (v a b c : Int32) : Int32 := if O ≤ I ∧ I < O + 4 then own_by v (I - O) else own_xp0 I a b c
theorem own_nby (v : Int32) (k : Nat) : nar .byte (own_by v k) = own_by v k := by
  unfold own_by; split
  · exact own_nn _
  · split
    · exact own_nn _
    · split <;> exact own_nn _
theorem own_rd {W : Nat → Int32} {B I O : Nat} {v a b c : Int32} (hW : ¬ (O ≤ I ∧ I < O + 4) → W (B + I) = own_xp0 I a b c) : own_put W (B + O) v (B + I) = own_xp I O v a b c := by
  unfold own_xp; by_cases q : O ≤ I ∧ I < O + 4
  · rw [if_pos q, own_put_in (by omega) (by omega), show B + I - (B + O) = I - O from by omega]
  · rw [if_neg q, own_put_out (by omega)]; exact hW q
theorem own_ib (x k : Int32) {K : Nat} (hk : k = Int32.ofNat K) (hK : K ≤ 3) : ((x >>> (((8 : Int32) * ((3 : Int32) - k)) &&& 31)) &&& (255 : Int32)).toInt8.toInt32 = own_by x K := by
  subst hk
  rcases (by omega : K = 0 ∨ K = 1 ∨ K = 2 ∨ K = 3) with rfl | rfl | rfl | rfl
  · refine own_bb ?_
    have d1 := c_mask (x >>> (((8 : Int32) * ((3 : Int32) - Int32.ofNat 0)) &&& 31)) 255 8 (by decide) (by decide)
    have d2 := c_ishr x ((8 : Int32) * ((3 : Int32) - Int32.ofNat 0)) 24 (by decide)
    have d3 := c_iushr x 24 24 (by decide) (by decide)
    omega
  · refine own_bb ?_
    have d1 := c_mask (x >>> (((8 : Int32) * ((3 : Int32) - Int32.ofNat 1)) &&& 31)) 255 8 (by decide) (by decide)
    have d2 := c_ishr x ((8 : Int32) * ((3 : Int32) - Int32.ofNat 1)) 16 (by decide)
    have d3 := c_iushr x 16 16 (by decide) (by decide)
    omega
  · refine own_bb ?_
    have d1 := c_mask (x >>> (((8 : Int32) * ((3 : Int32) - Int32.ofNat 2)) &&& 31)) 255 8 (by decide) (by decide)
    have d2 := c_ishr x ((8 : Int32) * ((3 : Int32) - Int32.ofNat 2)) 8 (by decide)
    have d3 := c_iushr x 8 8 (by decide) (by decide)
    omega
  · refine own_bb ?_
    have d1 := c_mask (x >>> (((8 : Int32) * ((3 : Int32) - Int32.ofNat 3)) &&& 31)) 255 8 (by decide) (by decide)
    have d2 := c_ishr x ((8 : Int32) * ((3 : Int32) - Int32.ofNat 3)) 0 (by decide)
    omega
theorem d1_0 : decode jdk_29_method_69_code 0 = .ok (.iload_n 0, 1) := by decide +kernel
theorem d1_1 : decode jdk_29_method_69_code 1 = .ok (.iload_n 1, 1) := by decide +kernel
theorem d1_2 : decode jdk_29_method_69_code 2 = .ok (.if_icmp .gt 7, 3) := by decide +kernel
theorem d1_5 : decode jdk_29_method_69_code 5 = .ok (.iload_n 0, 1) := by decide +kernel
theorem d1_6 : decode jdk_29_method_69_code 6 = .ok (.goto 4, 3) := by decide +kernel
theorem d1_9 : decode jdk_29_method_69_code 9 = .ok (.iload_n 1, 1) := by decide +kernel
theorem d1_10 : decode jdk_29_method_69_code 10 = .ok (.ireturn, 1) := by decide +kernel
theorem ef_1 (m : MethodId) (p0 : Int32) (p1 : Int32) : entryFrame m #[(.int p0), (.int p1)] 2 = mkF m 0 #[iv p0, iv p1] [] := by first | (simp [entryFrame, mkF, argsToLocals, Value.category]; done) | rfl
def Q1 (Z : State) (p0 : Int32) (p1 : Int32) (h0 : Heap) (n0 : Nat) (v : Option Value) (h : Heap) (L : List Loc) : Prop := v = some (.int (own_min p0 p1)) ∧ Fr n0 L ∧ h = h0
set_option maxRecDepth 65536 in
set_option maxHeartbeats 40000000 in
theorem rm1 (l : Launch) (Z : State) (a0 : Array Value) (hw : ∀ d ∈ tables_1, d.before a0 Z = true) (ws : List Jvm.Cond) (p0 : Int32) (p1 : Int32) (h0 : Heap) (n0 : Nat) (Z0 : n0 ≤ h0.size)  :
    MetFree l (⟨"java/lang/Math", "min", "(II)I"⟩ : MethodName) (head1 (Jvm.Cond.code (⟨"java/lang/Math", "min", "(II)I"⟩ : MethodName) jdk_29_method_69_code 2 (some .int) :: ws) ({ frames := 0, cells := 0, slots := 0, locals := 0 } : Room)) (fun aX UX => aX = #[(.int p0), (.int p1)] ∧ Z.Warmed39 UX.vm ∧ UX.heap = h0) (fun _ _ _ _ _ => True) (fun _ UX oX UY => ∃ vX LX, oX = .returned vX ∧ Q1 Z p0 p1 h0 n0 vX UY.heap LX ∧ FrameEnd UX oX UY LX ({ frames := 0, cells := 0, slots := 0, locals := 0 } : Room).cells ({ frames := 0, cells := 0, slots := 0, locals := 0 } : Room).slots) := by
  refine MetFree.of_bodySF (Jvm.Free.JP.mathPlain rfl (by decide +kernel)) hisR ?_
  intro p e s m args below meth c s₁ Bd hml0 hPX hKX
  obtain ⟨rfl, hZ, hh⟩ := hPX
  have hx := Bd.exec
  have hby := Bd.bytes
  have hml : c.maxLocals = 2 := hml0
  have hown : s.vm.findClass "java/lang/Math" = some m.cls := findClass_of_methodNamed Bd.named
  have hnm := (name_of_methodNamed Bd.named Bd.method).1
  have X0 : Stand p l e ({ frames := 0, cells := 0, slots := 0, locals := 0 } : Room) s m #[(.int p0), (.int p1)] below meth c s₁ [] 0 0 := Stand.of_body Bd
  have e0 : s₁.heap = h0 := by rw [← hh, Bd.state]; rfl
  have N0 := Fr.nil n0
  have pre0 : ∀ t, Steps p.tables e below (s₁.setTop (mkF m 0 #[iv p0, iv p1] [])) t → Steps p.tables e below (s₁.setTop (entryFrame m #[(.int p0), (.int p1)] 2)) t := fun t k => castTop (ef_1 m p0 p1) k
  obtain ⟨S0, hS0⟩ : ∃ z, z = (s₁.setTop (entryFrame m #[(.int p0), (.int p1)] 2)) := ⟨_, rfl⟩
  rw [← hS0] at pre0
  have pre1 : ∀ t, own_s p e below s₁ m 2 #[iv p0, iv p1] [(.int p1), (.int p0)] t → Steps p.tables e below S0 t := by
    intro tX kX
    refine pre0 _ ?_
    show own_s p e below s₁ m 0 #[iv p0, iv p1] [] _
    refine XS.iloadN X0.here hx rfl (hb hby d1_0) rfl ?_
    show own_s p e below s₁ m 1 #[iv p0, iv p1] [(.int p0)] _
    refine XS.iloadN X0.here hx rfl (hb hby d1_1) rfl ?_
    exact kX
  by_cases hc2 : p1 < p0
  · skip
    have pre3 : ∀ t, own_s p e below s₁ m 10 #[iv p0, iv p1] [(.int p1)] t → Steps p.tables e below S0 t := by
      intro tX kX
      refine pre1 _ ?_
      show own_s p e below s₁ m 2 #[iv p0, iv p1] [(.int p1), (.int p0)] _
      refine XS.icmpYes X0.here hx rfl (pc0 := 2) (pc' := 9) rfl (hb hby d1_2) rfl (tlt hc2).2.2.1 (by decide) (by decide) ?_
      show own_s p e below s₁ m 9 #[iv p0, iv p1] [] _
      refine XS.iloadN X0.here hx rfl (hb hby d1_9) rfl ?_
      exact kX
    subst hS0
    obtain ⟨fs, hr, hrun, hended, hW, hsame⟩ := X0.leave (v := (some (.int p1))) (fun h => by rw [Bd.returns] at h; cases h)
    refine ⟨_, _, pre3 _ (retI X0 hx Bd.returns (hb hby d1_10) hr), hrun, hended, _, _, rfl, ?_, ⟨_, rfl⟩, hW, hsame.mono (by decide) (by decide)⟩
    show Q1 Z p0 p1 h0 n0 (some (.int p1)) s₁.heap _
    exact ⟨congrArg (fun z => some (Value.int z)) (show p1 = own_min p0 p1 from (if_pos hc2).symm), N0, e0⟩
  · skip
    have pre4 : ∀ t, own_s p e below s₁ m 10 #[iv p0, iv p1] [(.int p0)] t → Steps p.tables e below S0 t := by
      intro tX kX
      refine pre1 _ ?_
      show own_s p e below s₁ m 2 #[iv p0, iv p1] [(.int p1), (.int p0)] _
      refine XS.icmpNo X0.here hx rfl (hb hby d1_2) rfl (flt hc2).2.2.1 ?_
      show own_s p e below s₁ m 5 #[iv p0, iv p1] [] _
      refine XS.iloadN X0.here hx rfl (hb hby d1_5) rfl ?_
      show own_s p e below s₁ m 6 #[iv p0, iv p1] [(.int p0)] _
      refine XS.goto X0.here hx rfl (pc0 := 6) (pc' := 10) rfl (hb hby d1_6) (by decide) (by decide) ?_
      exact kX
    subst hS0
    obtain ⟨fs, hr, hrun, hended, hW, hsame⟩ := X0.leave (v := (some (.int p0))) (fun h => by rw [Bd.returns] at h; cases h)
    refine ⟨_, _, pre4 _ (retI X0 hx Bd.returns (hb hby d1_10) hr), hrun, hended, _, _, rfl, ?_, ⟨_, rfl⟩, hW, hsame.mono (by decide) (by decide)⟩
    show Q1 Z p0 p1 h0 n0 (some (.int p0)) s₁.heap _
    exact ⟨congrArg (fun z => some (Value.int z)) (show p0 = own_min p0 p1 from (if_neg hc2).symm), N0, e0⟩
theorem d2_0 : decode jdk_65_method_131_code 0 = .ok (.iload_n 1, 1) := by decide +kernel
theorem d2_1 : decode jdk_65_method_131_code 1 = .ok (.iload_n 0, 1) := by decide +kernel
theorem d2_2 : decode jdk_65_method_131_code 2 = .ok (.if_icmp .ge 35, 3) := by decide +kernel
theorem d2_37 : decode jdk_65_method_131_code 37 = .ok (.return_, 1) := by decide +kernel
theorem pn_2 : plainName "java/util/Arrays" = true := by first | (simp [plainName, overriddenIn]; done) | decide +kernel
theorem ef_2 (m : MethodId) (p0 : Int32) (p1 : Int32) : entryFrame m #[(.int p0), (.int p1)] 2 = mkF m 0 #[iv p0, iv p1] [] := by first | (simp [entryFrame, mkF, argsToLocals, Value.category]; done) | rfl
def Q2 (Z : State) (p0 : Int32) (p1 : Int32) (h0 : Heap) (n0 : Nat) (v : Option Value) (h : Heap) (L : List Loc) : Prop := v = none ∧ Fr n0 L ∧ h = h0
set_option maxRecDepth 65536 in
set_option maxHeartbeats 40000000 in
theorem rm2 (l : Launch) (Z : State) (a0 : Array Value) (hw : ∀ d ∈ tables_1, d.before a0 Z = true) (ws : List Jvm.Cond) (p0 : Int32) (p1 : Int32) (h0 : Heap) (n0 : Nat) (Z0 : n0 ≤ h0.size) (hle : ¬ (p1 < p0)) :
    MetFree l (⟨"java/util/Arrays", "checkLength", "(II)V"⟩ : MethodName) (head1 (Jvm.Cond.code (⟨"java/util/Arrays", "checkLength", "(II)V"⟩ : MethodName) jdk_65_method_131_code 2 none :: ws) ({ frames := 0, cells := 0, slots := 0, locals := 0 } : Room)) (fun aX UX => aX = #[(.int p0), (.int p1)] ∧ Z.Warmed39 UX.vm ∧ UX.heap = h0) (fun _ _ _ _ _ => True) (fun _ UX oX UY => ∃ vX LX, oX = .returned vX ∧ Q2 Z p0 p1 h0 n0 vX UY.heap LX ∧ FrameEnd UX oX UY LX ({ frames := 0, cells := 0, slots := 0, locals := 0 } : Room).cells ({ frames := 0, cells := 0, slots := 0, locals := 0 } : Room).slots) := by
  refine MetFree.of_bodySF (plainFor_of_name pn_2) hisR ?_
  intro p e s m args below meth c s₁ Bd hml0 hPX hKX
  obtain ⟨rfl, hZ, hh⟩ := hPX
  have hx := Bd.exec
  have hby := Bd.bytes
  have hml : c.maxLocals = 2 := hml0
  have hown : s.vm.findClass "java/util/Arrays" = some m.cls := findClass_of_methodNamed Bd.named
  have hnm := (name_of_methodNamed Bd.named Bd.method).1
  have X0 : Stand p l e ({ frames := 0, cells := 0, slots := 0, locals := 0 } : Room) s m #[(.int p0), (.int p1)] below meth c s₁ [] 0 0 := Stand.of_body Bd
  have e0 : s₁.heap = h0 := by rw [← hh, Bd.state]; rfl
  have N0 := Fr.nil n0
  have pre0 : ∀ t, Steps p.tables e below (s₁.setTop (mkF m 0 #[iv p0, iv p1] [])) t → Steps p.tables e below (s₁.setTop (entryFrame m #[(.int p0), (.int p1)] 2)) t := fun t k => castTop (ef_2 m p0 p1) k
  obtain ⟨S0, hS0⟩ : ∃ z, z = (s₁.setTop (entryFrame m #[(.int p0), (.int p1)] 2)) := ⟨_, rfl⟩
  rw [← hS0] at pre0
  have pre1 : ∀ t, own_s p e below s₁ m 37 #[iv p0, iv p1] [] t → Steps p.tables e below S0 t := by
    intro tX kX
    refine pre0 _ ?_
    show own_s p e below s₁ m 0 #[iv p0, iv p1] [] _
    refine XS.iloadN X0.here hx rfl (hb hby d2_0) rfl ?_
    show own_s p e below s₁ m 1 #[iv p0, iv p1] [(.int p1)] _
    refine XS.iloadN X0.here hx rfl (hb hby d2_1) rfl ?_
    show own_s p e below s₁ m 2 #[iv p0, iv p1] [(.int p0), (.int p1)] _
    refine XS.icmpYes X0.here hx rfl (pc0 := 2) (pc' := 37) rfl (hb hby d2_2) rfl (flt hle).2.1 (by decide) (by decide) ?_
    exact kX
  subst hS0
  obtain ⟨fs, hr, hrun, hended, hW, hsame⟩ := X0.leave (v := none) (fun _ => rfl)
  refine ⟨_, _, pre1 _ (X0.returnOut hx Bd.returns (hb hby d2_37) hr), hrun, hended, _, _, rfl, ?_, ⟨_, rfl⟩, hW, hsame.mono (by decide) (by decide)⟩
  show Q2 Z p0 p1 h0 n0 none s₁.heap _
  exact ⟨rfl, N0, e0⟩
theorem d3_0 : decode jdk_65_method_133_code 0 = .ok (.iload_n 1, 1) := by decide +kernel
theorem d3_1 : decode jdk_65_method_133_code 1 = .ok (.iload_n 2, 1) := by decide +kernel
theorem d3_2 : decode jdk_65_method_133_code 2 = .ok (.invokestatic 343, 3) := by decide +kernel
theorem d3_5 : decode jdk_65_method_133_code 5 = .ok (.iload_n 2, 1) := by decide +kernel
theorem d3_6 : decode jdk_65_method_133_code 6 = .ok (.iload_n 1, 1) := by decide +kernel
theorem d3_7 : decode jdk_65_method_133_code 7 = .ok (.isub, 1) := by decide +kernel
theorem d3_8 : decode jdk_65_method_133_code 8 = .ok (.istore_n 3, 1) := by decide +kernel
theorem d3_9 : decode jdk_65_method_133_code 9 = .ok (.iload_n 3, 1) := by decide +kernel
theorem d3_10 : decode jdk_65_method_133_code 10 = .ok (.newarray .byte, 2) := by decide +kernel
theorem d3_12 : decode jdk_65_method_133_code 12 = .ok (.astore 4, 2) := by decide +kernel
theorem d3_14 : decode jdk_65_method_133_code 14 = .ok (.aload_n 0, 1) := by decide +kernel
theorem d3_15 : decode jdk_65_method_133_code 15 = .ok (.iload_n 1, 1) := by decide +kernel
theorem d3_16 : decode jdk_65_method_133_code 16 = .ok (.aload 4, 2) := by decide +kernel
theorem d3_18 : decode jdk_65_method_133_code 18 = .ok (.iconst 0, 1) := by decide +kernel
theorem d3_19 : decode jdk_65_method_133_code 19 = .ok (.aload_n 0, 1) := by decide +kernel
theorem d3_20 : decode jdk_65_method_133_code 20 = .ok (.arraylength, 1) := by decide +kernel
theorem d3_21 : decode jdk_65_method_133_code 21 = .ok (.iload_n 1, 1) := by decide +kernel
theorem d3_22 : decode jdk_65_method_133_code 22 = .ok (.isub, 1) := by decide +kernel
theorem d3_23 : decode jdk_65_method_133_code 23 = .ok (.iload_n 3, 1) := by decide +kernel
theorem d3_24 : decode jdk_65_method_133_code 24 = .ok (.invokestatic 304, 3) := by decide +kernel
theorem d3_27 : decode jdk_65_method_133_code 27 = .ok (.invokestatic 150, 3) := by decide +kernel
theorem d3_30 : decode jdk_65_method_133_code 30 = .ok (.aload 4, 2) := by decide +kernel
theorem d3_32 : decode jdk_65_method_133_code 32 = .ok (.areturn, 1) := by decide +kernel
theorem pn_3 : plainName "java/util/Arrays" = true := by first | (simp [plainName, overriddenIn]; done) | decide +kernel
theorem pd3_0 : parseMethodDescriptor "(II)V" = some ⟨[.int, .int], none⟩ := by decide +kernel
theorem pd3_1 : parseMethodDescriptor "(II)I" = some ⟨[.int, .int], some .int⟩ := by decide +kernel
theorem ef_3 (m : MethodId) (b : Addr) (p1 : Int32) (p2 : Int32) : entryFrame m #[(.ref b), (.int p1), (.int p2)] 5 = mkF m 0 #[rv b, iv p1, iv p2, .unset, .unset] [] := by first | (simp [entryFrame, mkF, argsToLocals, Value.category]; done) | rfl
def Q3 (Z : State) (b : Addr) (p1 : Int32) (p2 : Int32) (g : Nat → Int32) (S : Nat) (E : Nat) (h0 : Heap) (n0 : Nat) (v : Option Value) (h : Heap) (L : List Loc) : Prop := ∃ r : Addr, v = some (.ref r) ∧ Fr n0 L ∧ Keep h0 h [] ∧ h0.size ≤ r ∧ n0 ≤ r ∧ own_Af Z h r .byte (E - S) (fun j => .int (g (S + j)))
set_option maxRecDepth 65536 in
set_option maxHeartbeats 40000000 in
theorem rm3 (l : Launch) (Z : State) (a0 : Array Value) (hw : ∀ d ∈ tables_1, d.before a0 Z = true) (ws : List Jvm.Cond) (b : Addr) (p1 : Int32) (p2 : Int32) (g : Nat → Int32) (S : Nat) (E : Nat) (h0 : Heap) (n0 : Nat) (Z0 : n0 ≤ h0.size) (A_b : own_Af Z h0 b .byte 64 (fun j => .int (g j))) (fg : ∀ j, fits .byte (.int (g j)) = true) (hp1 : p1 = Int32.ofNat S) (hp2 : p2 = Int32.ofNat E) (hS : S ≤ E) (hE : E ≤ 64) :
    MetFree l (⟨"java/util/Arrays", "copyOfRangeByte", "([BII)[B"⟩ : MethodName) (head1 (Jvm.Cond.code (⟨"java/util/Arrays", "copyOfRangeByte", "([BII)[B"⟩ : MethodName) jdk_65_method_133_code 5 (some (.array .byte)) :: ws) ({ frames := 1, cells := 1, slots := 64, locals := 50 } : Room)) (fun aX UX => aX = #[(.ref b), (.int p1), (.int p2)] ∧ Z.Warmed39 UX.vm ∧ UX.heap = h0) (fun _ _ _ _ _ => True) (fun _ UX oX UY => ∃ vX LX, oX = .returned vX ∧ Q3 Z b p1 p2 g S E h0 n0 vX UY.heap LX ∧ FrameEnd UX oX UY LX ({ frames := 1, cells := 1, slots := 64, locals := 50 } : Room).cells ({ frames := 1, cells := 1, slots := 64, locals := 50 } : Room).slots) := by
  refine MetFree.of_bodySF (plainFor_of_name pn_3) hisR ?_
  intro p e s m args below meth c s₁ Bd hml0 hPX hKX
  obtain ⟨rfl, hZ, hh⟩ := hPX
  have hx := Bd.exec
  have hby := Bd.bytes
  have hml : c.maxLocals = 5 := hml0
  have hown : s.vm.findClass "java/util/Arrays" = some m.cls := findClass_of_methodNamed Bd.named
  have hnm := (name_of_methodNamed Bd.named Bd.method).1
  have X0 : Stand p l e ({ frames := 1, cells := 1, slots := 64, locals := 50 } : Room) s m #[(.ref b), (.int p1), (.int p2)] below meth c s₁ [] 0 0 := Stand.of_body Bd
  have e0 : s₁.heap = h0 := by rw [← hh, Bd.state]; rfl
  have N0 := Fr.nil n0
  have pre0 : ∀ t, Steps p.tables e below (s₁.setTop (mkF m 0 #[rv b, iv p1, iv p2, .unset, .unset] [])) t → Steps p.tables e below (s₁.setTop (entryFrame m #[(.ref b), (.int p1), (.int p2)] 5)) t := fun t k => castTop (ef_3 m b p1 p2) k
  obtain ⟨S0, hS0⟩ : ∃ z, z = (s₁.setTop (entryFrame m #[(.ref b), (.int p1), (.int p2)] 5)) := ⟨_, rfl⟩
  rw [← hS0] at pre0
  have K0 : Keep h0 h0 [] := Keep.refl h0 _
  have iS : p1.toInt = S := by rw [hp1]; exact own_ofn (by omega)
  have iE : p2.toInt = E := by rw [hp2]; exact own_ofn (by omega)
  have pre1 : ∀ t, own_s p e below s₁ m 2 #[rv b, iv p1, iv p2, .unset, .unset] [(.int p2), (.int p1)] t → Steps p.tables e below S0 t := by
    intro tX kX
    refine pre0 _ ?_
    show own_s p e below s₁ m 0 #[rv b, iv p1, iv p2, .unset, .unset] [] _
    refine XS.iloadN X0.here hx rfl (hb hby d3_0) rfl ?_
    show own_s p e below s₁ m 1 #[rv b, iv p1, iv p2, .unset, .unset] [(.int p1)] _
    refine XS.iloadN X0.here hx rfl (hb hby d3_1) rfl ?_
    exact kX
  obtain ⟨_, _, ⟨T2, L2, k2, n2⟩, -, X2, ⟨Lc2, hQ2, l2, y2, z2⟩, st2⟩ := Jvm.LawKit.callS X0 hx (y := (⟨"java/util/Arrays", "checkLength", "(II)V"⟩ : MethodName)) hown (mvT hZ (hw _ (List.mem_of_getElem? (i := 51) rfl))) (mvT hZ (hw _ (List.mem_of_getElem? (i := 52) rfl))) (mvT hZ (hw _ (List.mem_of_getElem? (i := 46) rfl))) (mvT hZ (hw _ (List.mem_of_getElem? (i := 53) rfl))) (by decide) (backOf (W := 0) (rm2 l Z a0 hw [] p1 p2  h0 n0 Z0 (fun q => absurd (Int32.lt_iff_toInt_lt.mp q) (by omega))) hZ (hw _ (List.mem_of_getElem? (i := 53) rfl)) (hw _ (List.mem_of_getElem? (i := 46) rfl)) (by decide) (by decide)) (g := (mkF m 2 #[rv b, iv p1, iv p2, .unset, .unset] [(.int p2), (.int p1)])) rfl (by rw [hml]; rfl) (argsL := [(.int p1), (.int p2)]) (rest := []) (lenOf pd3_0 rfl) rfl (by show 2 * 0 + _ ≤ _; exact Nat.le_of_eq rfl) (hb hby d3_2) (fun _ _ => ⟨rfl, e0, (by decide : 0 + 0 ≤ _), (by decide : 0 + 0 ≤ _)⟩)
  dsimp only [Pt.U, Pt.locs, Pt.cells, Pt.slots] at X2 l2 y2 z2 st2 hQ2
  subst l2 y2 z2
  obtain ⟨rfl, Nq2, e2⟩ := hQ2
  have N2 := Fr.app N0 Nq2
  obtain ⟨LL3, X3, N3⟩ : ∃ LL, Stand p l e ({ frames := 1, cells := 1, slots := 64, locals := 50 } : Room) s m #[(.ref b), (.int p1), (.int p2)] below meth c T2 LL 0 0 ∧ Fr n0 LL := ⟨_, X2, N2⟩
  have pre4 : ∀ t, own_s p e below T2 m 5 #[rv b, iv p1, iv p2, .unset, .unset] [] t → Steps p.tables e below S0 t := fun tX kX => pre1 _ (st2 _ kX)
  have pre5 : ∀ t, own_s p e below T2 m 8 #[rv b, iv p1, iv p2, .unset, .unset] [(.int (p2 - p1))] t → Steps p.tables e below S0 t := by
    intro tX kX
    refine pre4 _ ?_
    show own_s p e below T2 m 5 #[rv b, iv p1, iv p2, .unset, .unset] [] _
    refine XS.iloadN X3.here hx rfl (hb hby d3_5) rfl ?_
    show own_s p e below T2 m 6 #[rv b, iv p1, iv p2, .unset, .unset] [(.int p2)] _
    refine XS.iloadN X3.here hx rfl (hb hby d3_6) rfl ?_
    show own_s p e below T2 m 7 #[rv b, iv p1, iv p2, .unset, .unset] [(.int p1), (.int p2)] _
    refine XS.isub X3.here hx rfl (hb hby d3_7) rfl ?_
    exact kX
  obtain ⟨ln, hln⟩ : ∃ z : Int32, z = (p2 - p1) := ⟨_, rfl⟩
  rw [← hln] at pre5
  have lnI : ln.toInt = ((E - S : Nat) : Int) := by rw [hln]; have := c_isub p2 p1; have := rng32 (p2 - p1); omega
  have pre6 : ∀ t, own_s p e below T2 m 10 #[rv b, iv p1, iv p2, iv ln, .unset] [(.int ln)] t → Steps p.tables e below S0 t := by
    intro tX kX
    refine pre5 _ ?_
    show own_s p e below T2 m 8 #[rv b, iv p1, iv p2, .unset, .unset] [(.int ln)] _
    refine XS.istoreN X3.here hx rfl (hb hby d3_8) rfl (l' := #[rv b, iv p1, iv p2, iv ln, .unset]) rfl ?_
    show own_s p e below T2 m 9 #[rv b, iv p1, iv p2, iv ln, .unset] [] _
    refine XS.iloadN X3.here hx rfl (hb hby d3_9) rfl ?_
    exact kX
  obtain ⟨T7, h7, k7, X7, e7, E7, A7, st7⟩ := newP X3 hx hZ (hw _ (List.mem_of_getElem? (i := 11) rfl)) e2 (g := (mkF m 10 #[rv b, iv p1, iv p2, iv ln, .unset] [(.int ln)])) rfl (hb hby d3_10) rfl (own_idx (n := 65) (by omega) (by omega)).1 (cap := 64) (Nat.le_of_lt_succ (own_idx (n := 65) (by omega) (by omega)).2) (by decide) (by decide) (by decide)
  obtain ⟨b7, g7⟩ : ∃ z, z = h0.size := ⟨_, rfl⟩
  rw [← g7] at A7 st7
  have ne8 : b ≠ b7 := Nat.ne_of_lt (Nat.lt_of_lt_of_le A_b.lt (Nat.le_of_eq g7.symm))
  have g_b7 : n0 ≤ b7 := Nat.le_trans Z0 (Nat.le_of_eq g7.symm)
  have sz_b7 : h0.size ≤ b7 := Nat.le_trans K0.1 (Nat.le_of_eq g7.symm)
  have pre9 : ∀ t, own_s p e below T7 m 12 #[rv b, iv p1, iv p2, iv ln, .unset] [(.ref b7)] t → Steps p.tables e below S0 t := fun tX kX => pre6 _ (st7 _ kX)
  have f10_A : own_Af Z h7 b .byte 64 (fun j => .int (g j)) := A_b.ext E7
  have Z11 : n0 ≤ h7.size := Nat.le_trans Z0 E7.1
  have K12 : Keep h0 h7 [] := K0.ext E7
  have f13_A : own_Af Z h7 b7 .byte (E - S) (fun _ => (.int (0 : Int32))) := own_Af.new A7 (own_idx (n := 65) (by omega) (by omega)).1 (own_nat (by omega))
  have pre15 : ∀ t, own_s p e below T7 m 20 #[rv b, iv p1, iv p2, iv ln, rv b7] [(.ref b), (.int (0 : Int32)), (.ref b7), (.int p1), (.ref b)] t → Steps p.tables e below S0 t := by
    intro tX kX
    refine pre9 _ ?_
    show own_s p e below T7 m 12 #[rv b, iv p1, iv p2, iv ln, .unset] [(.ref b7)] _
    refine XS.astore X7.here hx rfl (hb hby d3_12) rfl rfl (l' := #[rv b, iv p1, iv p2, iv ln, rv b7]) rfl ?_
    show own_s p e below T7 m 14 #[rv b, iv p1, iv p2, iv ln, rv b7] [] _
    refine XS.aloadN X7.here hx rfl (hb hby d3_14) rfl rfl ?_
    show own_s p e below T7 m 15 #[rv b, iv p1, iv p2, iv ln, rv b7] [(.ref b)] _
    refine XS.iloadN X7.here hx rfl (hb hby d3_15) rfl ?_
    show own_s p e below T7 m 16 #[rv b, iv p1, iv p2, iv ln, rv b7] [(.int p1), (.ref b)] _
    refine XS.aload X7.here hx rfl (hb hby d3_16) rfl rfl ?_
    show own_s p e below T7 m 18 #[rv b, iv p1, iv p2, iv ln, rv b7] [(.ref b7), (.int p1), (.ref b)] _
    refine XS.iconst X7.here hx rfl (hb hby d3_18) ?_
    show own_s p e below T7 m 19 #[rv b, iv p1, iv p2, iv ln, rv b7] [(.int (0 : Int32)), (.ref b7), (.int p1), (.ref b)] _
    refine XS.aloadN X7.here hx rfl (hb hby d3_19) rfl rfl ?_
    exact kX
  obtain ⟨cl14, Ar14, S14, M14, H14⟩ := id f10_A
  have pre16 : ∀ t, own_s p e below T7 m 24 #[rv b, iv p1, iv p2, iv ln, rv b7] [(.int ln), (.int ((64 : Int32) - p1)), (.int (0 : Int32)), (.ref b7), (.int p1), (.ref b)] t → Steps p.tables e below S0 t := by
    intro tX kX
    refine pre15 _ ?_
    show own_s p e below T7 m 20 #[rv b, iv p1, iv p2, iv ln, rv b7] [(.ref b), (.int (0 : Int32)), (.ref b7), (.int p1), (.ref b)] _
    refine X7.arraylength hx (by rw [e7]; exact Ar14.1) (State.isArrayOf_alike hZ.alike Ar14.2.1) (g := (mkF m 20 #[rv b, iv p1, iv p2, iv ln, rv b7] [(.ref b), (.int (0 : Int32)), (.ref b7), (.int p1), (.ref b)])) rfl rfl (hb hby d3_20) _ ?_
    rw [show cl14.slots.size.toInt32 = (64 : Int32) from by rw [S14]; exact rfl]
    show own_s p e below T7 m 21 #[rv b, iv p1, iv p2, iv ln, rv b7] [(.int (64 : Int32)), (.int (0 : Int32)), (.ref b7), (.int p1), (.ref b)] _
    refine XS.iloadN X7.here hx rfl (hb hby d3_21) rfl ?_
    show own_s p e below T7 m 22 #[rv b, iv p1, iv p2, iv ln, rv b7] [(.int p1), (.int (64 : Int32)), (.int (0 : Int32)), (.ref b7), (.int p1), (.ref b)] _
    refine XS.isub X7.here hx rfl (hb hby d3_22) rfl ?_
    show own_s p e below T7 m 23 #[rv b, iv p1, iv p2, iv ln, rv b7] [(.int ((64 : Int32) - p1)), (.int (0 : Int32)), (.ref b7), (.int p1), (.ref b)] _
    refine XS.iloadN X7.here hx rfl (hb hby d3_23) rfl ?_
    exact kX
  obtain ⟨_, _, ⟨T17, L17, k17, n17⟩, -, X17, ⟨Lc17, hQ17, l17, y17, z17⟩, st17⟩ := Jvm.LawKit.callS X7 hx (y := (⟨"java/lang/Math", "min", "(II)I"⟩ : MethodName)) hown (mvT hZ (hw _ (List.mem_of_getElem? (i := 54) rfl))) (mvT hZ (hw _ (List.mem_of_getElem? (i := 55) rfl))) (mvT hZ (hw _ (List.mem_of_getElem? (i := 56) rfl))) (mvT hZ (hw _ (List.mem_of_getElem? (i := 57) rfl))) (by decide) (backOf (W := 4) (rm1 l Z a0 hw [] ((64 : Int32) - p1) ln  h7 n0 Z11 ) hZ (hw _ (List.mem_of_getElem? (i := 57) rfl)) (hw _ (List.mem_of_getElem? (i := 56) rfl)) (by decide) (by decide)) (g := (mkF m 24 #[rv b, iv p1, iv p2, iv ln, rv b7] [(.int ln), (.int ((64 : Int32) - p1)), (.int (0 : Int32)), (.ref b7), (.int p1), (.ref b)])) rfl (by rw [hml]; rfl) (argsL := [(.int ((64 : Int32) - p1)), (.int ln)]) (rest := [(.int (0 : Int32)), (.ref b7), (.int p1), (.ref b)]) (lenOf pd3_1 rfl) rfl (by show 2 * 0 + _ ≤ _; exact Nat.le_of_eq rfl) (hb hby d3_24) (fun _ _ => ⟨rfl, e7, (by decide : 1 + 0 ≤ _), (by decide : 64 + 0 ≤ _)⟩)
  dsimp only [Pt.U, Pt.locs, Pt.cells, Pt.slots] at X17 l17 y17 z17 st17 hQ17
  subst l17 y17 z17
  obtain ⟨rfl, Nq17, e17⟩ := hQ17
  have N17 := Fr.app N3 Nq17
  obtain ⟨LL18, X18, N18⟩ : ∃ LL, Stand p l e ({ frames := 1, cells := 1, slots := 64, locals := 50 } : Room) s m #[(.ref b), (.int p1), (.int p2)] below meth c T17 LL 1 64 ∧ Fr n0 LL := ⟨_, X17, N17⟩
  have pre19 : ∀ t, own_s p e below T17 m 27 #[rv b, iv p1, iv p2, iv ln, rv b7] [(.int (own_min ((64 : Int32) - p1) ln)), (.int (0 : Int32)), (.ref b7), (.int p1), (.ref b)] t → Steps p.tables e below S0 t := fun tX kX => pre16 _ (st17 _ kX)
  obtain ⟨mn, hmn⟩ : ∃ z : Int32, z = (own_min ((64 : Int32) - p1) ln) := ⟨_, rfl⟩
  rw [← hmn] at pre19
  have mnI : mn.toInt = ((E - S : Nat) : Int) := by
    have d1 := c_isub (64 : Int32) p1
    have d2 := rng32 ((64 : Int32) - p1)
    have d3 : (64 : Int32).toInt = 64 := rfl
    rw [hmn]; unfold own_min; by_cases q : ln < ((64 : Int32) - p1)
    · rw [if_pos q]; exact lnI
    · rw [if_neg q]; have : ¬ ln.toInt < ((64 : Int32) - p1).toInt := fun w => q (Int32.lt_iff_toInt_lt.mpr w); omega
  obtain ⟨ks, Vs⟩ := own_arv f10_A fg
  obtain ⟨kd, Vd⟩ := own_arv (g := fun _ => (0 : Int32)) f13_A (fun _ => rfl)
  have spI : p1.toNatClampNeg = S := own_nat iS
  have mnN : mn.toNatClampNeg = E - S := own_nat (by omega)
  have z64 : (Int32.ofNat 64).toNatClampNeg = 64 := by decide
  have znn : (Int32.ofNat (E - S)).toNatClampNeg = E - S := own_nat (own_ofn (by omega))
  obtain ⟨T20, h20, Lq20, X20, e20, N20, Kq20, V20, st20⟩ := cpA X18 hx hZ hown (hw _ (List.mem_of_getElem? (i := 58) rfl)) (hw _ (List.mem_of_getElem? (i := 61) rfl)) (hw _ (List.mem_of_getElem? (i := 59) rfl)) (hw _ (List.mem_of_getElem? (i := 60) rfl)) e17 Vs Vd (Or.inl ⟨rfl, rfl⟩) (sp := p1) (dp := (0 : Int32)) (nn := mn) (own_idx (n := 65) (by omega) (by omega)).1 (by decide) (own_idx (n := 65) (by omega) (by omega)).1 (by rw [spI, mnN, z64]; omega) (by rw [mnN, znn]; show 0 + _ ≤ _; omega) rfl (by rw [mnN, List.length_map, List.length_range]; show 0 + _ ≤ _; omega) N18 g_b7 (g := (mkF m 27 #[rv b, iv p1, iv p2, iv ln, rv b7] [(.int mn), (.int (0 : Int32)), (.ref b7), (.int p1), (.ref b)])) rfl (by rw [hml]; rfl) rfl (hb hby d3_27) (by decide) (W := 0) (by show 2 * 0 + _ ≤ _; exact Nat.le_of_eq rfl) (by decide)
  have pre21 : ∀ t, own_s p e below T20 m 30 #[rv b, iv p1, iv p2, iv ln, rv b7] [] t → Steps p.tables e below S0 t := fun tX kX => pre19 _ (st20 _ kX)
  have Z20 : n0 ≤ h20.size := Nat.le_trans Z11 Kq20.1
  have K20 : Keep h0 h20 [] := K12.trans Kq20 (allS (Or.inr sz_b7) all0)
  have f22_A : own_Af Z h20 b7 .byte (E - S) (fun j => .int (g (S + j))) := own_ofarv V20 znn (own_cp spI mnN rfl (by omega))
  have pre23 : ∀ t, own_s p e below T20 m 32 #[rv b, iv p1, iv p2, iv ln, rv b7] [(.ref b7)] t → Steps p.tables e below S0 t := by
    intro tX kX
    refine pre21 _ ?_
    show own_s p e below T20 m 30 #[rv b, iv p1, iv p2, iv ln, rv b7] [] _
    refine XS.aload X20.here hx rfl (hb hby d3_30) rfl rfl ?_
    exact kX
  subst hS0
  obtain ⟨fs, hr, hrun, hended, hW, hsame⟩ := X20.leave (v := (some (.ref b7))) (fun h => by rw [Bd.returns] at h; cases h)
  refine ⟨_, _, pre23 _ (retOut X20 hx Bd.returns (own_narR rfl) (Or.inr (Or.inr (Or.inr (Or.inr ⟨rfl, rfl, rfl⟩)))) (hb hby d3_32) hr), hrun, hended, _, _, rfl, ?_, ⟨_, rfl⟩, hW, hsame.mono (by decide) (by decide)⟩
  show Q3 Z b p1 p2 g S E h0 n0 (some (.ref b7)) T20.heap _
  rw [e20]
  exact ⟨b7, rfl, N20, K20, sz_b7, g_b7, f22_A⟩
theorem d4_0 : decode jdk_65_method_132_code 0 = .ok (.iload_n 1, 1) := by decide +kernel
theorem d4_1 : decode jdk_65_method_132_code 1 = .ok (.ifCond .ne 9, 3) := by decide +kernel
theorem d4_4 : decode jdk_65_method_132_code 4 = .ok (.iload_n 2, 1) := by decide +kernel
theorem d4_5 : decode jdk_65_method_132_code 5 = .ok (.aload_n 0, 1) := by decide +kernel
theorem d4_6 : decode jdk_65_method_132_code 6 = .ok (.arraylength, 1) := by decide +kernel
theorem d4_7 : decode jdk_65_method_132_code 7 = .ok (.if_icmp .eq 10, 3) := by decide +kernel
theorem d4_10 : decode jdk_65_method_132_code 10 = .ok (.aload_n 0, 1) := by decide +kernel
theorem d4_11 : decode jdk_65_method_132_code 11 = .ok (.iload_n 1, 1) := by decide +kernel
theorem d4_12 : decode jdk_65_method_132_code 12 = .ok (.iload_n 2, 1) := by decide +kernel
theorem d4_13 : decode jdk_65_method_132_code 13 = .ok (.invokestatic 339, 3) := by decide +kernel
theorem d4_16 : decode jdk_65_method_132_code 16 = .ok (.areturn, 1) := by decide +kernel
theorem pn_4 : plainName "java/util/Arrays" = true := by first | (simp [plainName, overriddenIn]; done) | decide +kernel
theorem pd4_0 : parseMethodDescriptor "([BII)[B" = some ⟨[(.array .byte), .int, .int], some (.array .byte)⟩ := by decide +kernel
theorem ef_4 (m : MethodId) (b : Addr) (p1 : Int32) (p2 : Int32) : entryFrame m #[(.ref b), (.int p1), (.int p2)] 3 = mkF m 0 #[rv b, iv p1, iv p2] [] := by first | (simp [entryFrame, mkF, argsToLocals, Value.category]; done) | rfl
def Q4 (Z : State) (b : Addr) (p1 : Int32) (p2 : Int32) (g : Nat → Int32) (S : Nat) (E : Nat) (h0 : Heap) (n0 : Nat) (v : Option Value) (h : Heap) (L : List Loc) : Prop := ∃ r : Addr, v = some (.ref r) ∧ Fr n0 L ∧ Keep h0 h [] ∧ h0.size ≤ r ∧ n0 ≤ r ∧ own_Af Z h r .byte (E - S) (fun j => .int (g (S + j)))
set_option maxRecDepth 65536 in
set_option maxHeartbeats 40000000 in
theorem rm4 (l : Launch) (Z : State) (a0 : Array Value) (hw : ∀ d ∈ tables_1, d.before a0 Z = true) (ws : List Jvm.Cond) (b : Addr) (p1 : Int32) (p2 : Int32) (g : Nat → Int32) (S : Nat) (E : Nat) (h0 : Heap) (n0 : Nat) (Z0 : n0 ≤ h0.size) (A_b : own_Af Z h0 b .byte 64 (fun j => .int (g j))) (fg : ∀ j, fits .byte (.int (g j)) = true) (hp1 : p1 = Int32.ofNat S) (hp2 : p2 = Int32.ofNat E) (hS : S ≤ E) (hE : E ≤ 64) (hne : ¬ (S = 0 ∧ E = 64)) :
    MetFree l (⟨"java/util/Arrays", "copyOfRange", "([BII)[B"⟩ : MethodName) (head1 (Jvm.Cond.code (⟨"java/util/Arrays", "copyOfRange", "([BII)[B"⟩ : MethodName) jdk_65_method_132_code 3 (some (.array .byte)) :: ws) ({ frames := 2, cells := 1, slots := 64, locals := 70 } : Room)) (fun aX UX => aX = #[(.ref b), (.int p1), (.int p2)] ∧ Z.Warmed39 UX.vm ∧ UX.heap = h0) (fun _ _ _ _ _ => True) (fun _ UX oX UY => ∃ vX LX, oX = .returned vX ∧ Q4 Z b p1 p2 g S E h0 n0 vX UY.heap LX ∧ FrameEnd UX oX UY LX ({ frames := 2, cells := 1, slots := 64, locals := 70 } : Room).cells ({ frames := 2, cells := 1, slots := 64, locals := 70 } : Room).slots) := by
  refine MetFree.of_bodySF (plainFor_of_name pn_4) hisR ?_
  intro p e s m args below meth c s₁ Bd hml0 hPX hKX
  obtain ⟨rfl, hZ, hh⟩ := hPX
  have hx := Bd.exec
  have hby := Bd.bytes
  have hml : c.maxLocals = 3 := hml0
  have hown : s.vm.findClass "java/util/Arrays" = some m.cls := findClass_of_methodNamed Bd.named
  have hnm := (name_of_methodNamed Bd.named Bd.method).1
  have X0 : Stand p l e ({ frames := 2, cells := 1, slots := 64, locals := 70 } : Room) s m #[(.ref b), (.int p1), (.int p2)] below meth c s₁ [] 0 0 := Stand.of_body Bd
  have e0 : s₁.heap = h0 := by rw [← hh, Bd.state]; rfl
  have N0 := Fr.nil n0
  have pre0 : ∀ t, Steps p.tables e below (s₁.setTop (mkF m 0 #[rv b, iv p1, iv p2] [])) t → Steps p.tables e below (s₁.setTop (entryFrame m #[(.ref b), (.int p1), (.int p2)] 3)) t := fun t k => castTop (ef_4 m b p1 p2) k
  obtain ⟨S0, hS0⟩ : ∃ z, z = (s₁.setTop (entryFrame m #[(.ref b), (.int p1), (.int p2)] 3)) := ⟨_, rfl⟩
  rw [← hS0] at pre0
  have K0 : Keep h0 h0 [] := Keep.refl h0 _
  have iS : p1.toInt = S := by rw [hp1]; exact own_ofn (by omega)
  have iE : p2.toInt = E := by rw [hp2]; exact own_ofn (by omega)
  have pre1 : ∀ t, own_s p e below s₁ m 1 #[rv b, iv p1, iv p2] [(.int p1)] t → Steps p.tables e below S0 t := by
    intro tX kX
    refine pre0 _ ?_
    show own_s p e below s₁ m 0 #[rv b, iv p1, iv p2] [] _
    refine XS.iloadN X0.here hx rfl (hb hby d4_0) rfl ?_
    exact kX
  by_cases hc2 : p1 = (0 : Int32)
  · skip
    have ihc2 : (p1).toInt = (0 : Int) := congrArg Int32.toInt hc2
    have pre4 : ∀ t, own_s p e below s₁ m 6 #[rv b, iv p1, iv p2] [(.ref b), (.int p2)] t → Steps p.tables e below S0 t := by
      intro tX kX
      refine pre1 _ ?_
      show own_s p e below s₁ m 1 #[rv b, iv p1, iv p2] [(.int p1)] _
      refine XS.ifNo X0.here hx rfl (hb hby d4_1) rfl ((if0 _ _).trans (teq hc2).2) ?_
      show own_s p e below s₁ m 4 #[rv b, iv p1, iv p2] [] _
      refine XS.iloadN X0.here hx rfl (hb hby d4_4) rfl ?_
      show own_s p e below s₁ m 5 #[rv b, iv p1, iv p2] [(.int p2)] _
      refine XS.aloadN X0.here hx rfl (hb hby d4_5) rfl rfl ?_
      exact kX
    obtain ⟨cl3, Ar3, S3, M3, H3⟩ := id A_b
    have pre5 : ∀ t, own_s p e below s₁ m 13 #[rv b, iv p1, iv p2] [(.int p2), (.int p1), (.ref b)] t → Steps p.tables e below S0 t := by
      intro tX kX
      refine pre4 _ ?_
      show own_s p e below s₁ m 6 #[rv b, iv p1, iv p2] [(.ref b), (.int p2)] _
      refine X0.arraylength hx (by rw [e0]; exact Ar3.1) (State.isArrayOf_alike hZ.alike Ar3.2.1) (g := (mkF m 6 #[rv b, iv p1, iv p2] [(.ref b), (.int p2)])) rfl rfl (hb hby d4_6) _ ?_
      rw [show cl3.slots.size.toInt32 = (64 : Int32) from by rw [S3]; exact rfl]
      show own_s p e below s₁ m 7 #[rv b, iv p1, iv p2] [(.int (64 : Int32)), (.int p2)] _
      refine XS.icmpNo X0.here hx rfl (hb hby d4_7) rfl (feq (fun q => absurd (show p2.toInt = 64 from congrArg Int32.toInt q) (by omega))).1 ?_
      show own_s p e below s₁ m 10 #[rv b, iv p1, iv p2] [] _
      refine XS.aloadN X0.here hx rfl (hb hby d4_10) rfl rfl ?_
      show own_s p e below s₁ m 11 #[rv b, iv p1, iv p2] [(.ref b)] _
      refine XS.iloadN X0.here hx rfl (hb hby d4_11) rfl ?_
      show own_s p e below s₁ m 12 #[rv b, iv p1, iv p2] [(.int p1), (.ref b)] _
      refine XS.iloadN X0.here hx rfl (hb hby d4_12) rfl ?_
      exact kX
    obtain ⟨_, _, ⟨T6, L6, k6, n6⟩, -, X6, ⟨Lc6, hQ6, l6, y6, z6⟩, st6⟩ := Jvm.LawKit.callS X0 hx (y := (⟨"java/util/Arrays", "copyOfRangeByte", "([BII)[B"⟩ : MethodName)) hown (mvT hZ (hw _ (List.mem_of_getElem? (i := 48) rfl))) (mvT hZ (hw _ (List.mem_of_getElem? (i := 49) rfl))) (mvT hZ (hw _ (List.mem_of_getElem? (i := 46) rfl))) (mvT hZ (hw _ (List.mem_of_getElem? (i := 50) rfl))) (by decide) (backOf (W := 0) (rm3 l Z a0 hw [] b p1 p2 g S E h0 n0 Z0 A_b fg hp1 hp2 hS hE) hZ (hw _ (List.mem_of_getElem? (i := 50) rfl)) (hw _ (List.mem_of_getElem? (i := 46) rfl)) (by decide) (by decide)) (g := (mkF m 13 #[rv b, iv p1, iv p2] [(.int p2), (.int p1), (.ref b)])) rfl (by rw [hml]; rfl) (argsL := [(.ref b), (.int p1), (.int p2)]) (rest := []) (lenOf pd4_0 rfl) rfl (by show 2 * 0 + _ ≤ _; exact Nat.le_of_eq rfl) (hb hby d4_13) (fun _ _ => ⟨rfl, e0, (by decide : 0 + 1 ≤ _), (by decide : 0 + 64 ≤ _)⟩)
    dsimp only [Pt.U, Pt.locs, Pt.cells, Pt.slots] at X6 l6 y6 z6 st6 hQ6
    subst l6 y6 z6
    obtain ⟨r6, rfl, Nq6, Kq6, sz_r6, g_r6, fA6⟩ := hQ6
    have N6 := Fr.app N0 Nq6
    have e6 : T6.heap = T6.heap := rfl
    have Z6 : n0 ≤ T6.heap.size := Nat.le_trans Z0 Kq6.1
    have ne7 : b ≠ r6 := Nat.ne_of_lt (Nat.lt_of_lt_of_le A_b.lt sz_r6)
    have K6 : Keep h0 T6.heap [] := K0.trans Kq6 all0
    have sz0_r6 : h0.size ≤ r6 := Nat.le_trans K0.1 sz_r6
    have f8_A : own_Af Z T6.heap b .byte 64 (fun j => .int (g j)) := A_b.keep Kq6 nin0
    obtain ⟨LL9, X9, N9⟩ : ∃ LL, Stand p l e ({ frames := 2, cells := 1, slots := 64, locals := 70 } : Room) s m #[(.ref b), (.int p1), (.int p2)] below meth c T6 LL 1 64 ∧ Fr n0 LL := ⟨_, X6, N6⟩
    have pre10 : ∀ t, own_s p e below T6 m 16 #[rv b, iv p1, iv p2] [(.ref r6)] t → Steps p.tables e below S0 t := fun tX kX => pre5 _ (st6 _ kX)
    subst hS0
    obtain ⟨fs, hr, hrun, hended, hW, hsame⟩ := X9.leave (v := (some (.ref r6))) (fun h => by rw [Bd.returns] at h; cases h)
    refine ⟨_, _, pre10 _ (retOut X9 hx Bd.returns (own_narR rfl) (Or.inr (Or.inr (Or.inr (Or.inr ⟨rfl, rfl, rfl⟩)))) (hb hby d4_16) hr), hrun, hended, _, _, rfl, ?_, ⟨_, rfl⟩, hW, hsame.mono (by decide) (by decide)⟩
    show Q4 Z b p1 p2 g S E h0 n0 (some (.ref r6)) T6.heap _
    exact ⟨r6, rfl, N9, K6, sz0_r6, g_r6, fA6⟩
  · skip
    have ihc2 : ¬ ((p1).toInt = (0 : Int)) := fun q => hc2 (Int32.toInt_inj.mp q)
    have pre11 : ∀ t, own_s p e below s₁ m 13 #[rv b, iv p1, iv p2] [(.int p2), (.int p1), (.ref b)] t → Steps p.tables e below S0 t := by
      intro tX kX
      refine pre1 _ ?_
      show own_s p e below s₁ m 1 #[rv b, iv p1, iv p2] [(.int p1)] _
      refine XS.ifYes X0.here hx rfl (pc0 := 1) (pc' := 10) rfl (hb hby d4_1) rfl ((if0 _ _).trans (feq hc2).2) (by decide) (by decide) ?_
      show own_s p e below s₁ m 10 #[rv b, iv p1, iv p2] [] _
      refine XS.aloadN X0.here hx rfl (hb hby d4_10) rfl rfl ?_
      show own_s p e below s₁ m 11 #[rv b, iv p1, iv p2] [(.ref b)] _
      refine XS.iloadN X0.here hx rfl (hb hby d4_11) rfl ?_
      show own_s p e below s₁ m 12 #[rv b, iv p1, iv p2] [(.int p1), (.ref b)] _
      refine XS.iloadN X0.here hx rfl (hb hby d4_12) rfl ?_
      exact kX
    obtain ⟨_, _, ⟨T12, L12, k12, n12⟩, -, X12, ⟨Lc12, hQ12, l12, y12, z12⟩, st12⟩ := Jvm.LawKit.callS X0 hx (y := (⟨"java/util/Arrays", "copyOfRangeByte", "([BII)[B"⟩ : MethodName)) hown (mvT hZ (hw _ (List.mem_of_getElem? (i := 48) rfl))) (mvT hZ (hw _ (List.mem_of_getElem? (i := 49) rfl))) (mvT hZ (hw _ (List.mem_of_getElem? (i := 46) rfl))) (mvT hZ (hw _ (List.mem_of_getElem? (i := 50) rfl))) (by decide) (backOf (W := 0) (rm3 l Z a0 hw [] b p1 p2 g S E h0 n0 Z0 A_b fg hp1 hp2 hS hE) hZ (hw _ (List.mem_of_getElem? (i := 50) rfl)) (hw _ (List.mem_of_getElem? (i := 46) rfl)) (by decide) (by decide)) (g := (mkF m 13 #[rv b, iv p1, iv p2] [(.int p2), (.int p1), (.ref b)])) rfl (by rw [hml]; rfl) (argsL := [(.ref b), (.int p1), (.int p2)]) (rest := []) (lenOf pd4_0 rfl) rfl (by show 2 * 0 + _ ≤ _; exact Nat.le_of_eq rfl) (hb hby d4_13) (fun _ _ => ⟨rfl, e0, (by decide : 0 + 1 ≤ _), (by decide : 0 + 64 ≤ _)⟩)
    dsimp only [Pt.U, Pt.locs, Pt.cells, Pt.slots] at X12 l12 y12 z12 st12 hQ12
    subst l12 y12 z12
    obtain ⟨r12, rfl, Nq12, Kq12, sz_r12, g_r12, fA12⟩ := hQ12
    have N12 := Fr.app N0 Nq12
    have e12 : T12.heap = T12.heap := rfl
    have Z12 : n0 ≤ T12.heap.size := Nat.le_trans Z0 Kq12.1
    have ne13 : b ≠ r12 := Nat.ne_of_lt (Nat.lt_of_lt_of_le A_b.lt sz_r12)
    have K12 : Keep h0 T12.heap [] := K0.trans Kq12 all0
    have sz0_r12 : h0.size ≤ r12 := Nat.le_trans K0.1 sz_r12
    have f14_A : own_Af Z T12.heap b .byte 64 (fun j => .int (g j)) := A_b.keep Kq12 nin0
    obtain ⟨LL15, X15, N15⟩ : ∃ LL, Stand p l e ({ frames := 2, cells := 1, slots := 64, locals := 70 } : Room) s m #[(.ref b), (.int p1), (.int p2)] below meth c T12 LL 1 64 ∧ Fr n0 LL := ⟨_, X12, N12⟩
    have pre16 : ∀ t, own_s p e below T12 m 16 #[rv b, iv p1, iv p2] [(.ref r12)] t → Steps p.tables e below S0 t := fun tX kX => pre11 _ (st12 _ kX)
    subst hS0
    obtain ⟨fs, hr, hrun, hended, hW, hsame⟩ := X15.leave (v := (some (.ref r12))) (fun h => by rw [Bd.returns] at h; cases h)
    refine ⟨_, _, pre16 _ (retOut X15 hx Bd.returns (own_narR rfl) (Or.inr (Or.inr (Or.inr (Or.inr ⟨rfl, rfl, rfl⟩)))) (hb hby d4_16) hr), hrun, hended, _, _, rfl, ?_, ⟨_, rfl⟩, hW, hsame.mono (by decide) (by decide)⟩
    show Q4 Z b p1 p2 g S E h0 n0 (some (.ref r12)) T12.heap _
    exact ⟨r12, rfl, N15, K12, sz0_r12, g_r12, fA12⟩
theorem d5_0 : decode prog_43_method_21_code 0 = .ok (.aload_n 0, 1) := by decide +kernel
theorem d5_1 : decode prog_43_method_21_code 1 = .ok (.getfield 9, 3) := by decide +kernel
theorem d5_4 : decode prog_43_method_21_code 4 = .ok (.aload_n 0, 1) := by decide +kernel
theorem d5_5 : decode prog_43_method_21_code 5 = .ok (.getfield 128, 3) := by decide +kernel
theorem d5_8 : decode prog_43_method_21_code 8 = .ok (.aload_n 0, 1) := by decide +kernel
theorem d5_9 : decode prog_43_method_21_code 9 = .ok (.getfield 19, 3) := by decide +kernel
theorem d5_12 : decode prog_43_method_21_code 12 = .ok (.invokestatic 135, 3) := by decide +kernel
theorem d5_15 : decode prog_43_method_21_code 15 = .ok (.areturn, 1) := by decide +kernel
theorem pn_5 : plainName "com/example/farcall/farcall/io/XdrEncoder" = true := by first | (simp [plainName, overriddenIn]; done) | decide +kernel
theorem pd5_0 : parseMethodDescriptor "([BII)[B" = some ⟨[(.array .byte), .int, .int], some (.array .byte)⟩ := by decide +kernel
theorem ef_5 (m : MethodId) (a : Addr) : entryFrame m #[(.ref a)] 1 = mkF m 0 #[rv a] [] := by first | (simp [entryFrame, mkF, argsToLocals, Value.category]; done) | rfl
def Q5 (Z : State) (a : Addr) (b : Addr) (g : Nat → Int32) (S : Nat) (E : Nat) (h0 : Heap) (n0 : Nat) (v : Option Value) (h : Heap) (L : List Loc) : Prop := ∃ r : Addr, v = some (.ref r) ∧ Fr n0 L ∧ Keep h0 h [] ∧ h0.size ≤ r ∧ n0 ≤ r ∧ own_Af Z h r .byte (E - S) (fun j => .int (g (S + j)))
set_option maxRecDepth 65536 in
set_option maxHeartbeats 40000000 in
theorem rm5 (l : Launch) (Z : State) (a0 : Array Value) (hw : ∀ d ∈ tables_1, d.before a0 Z = true) (ws : List Jvm.Cond) (a : Addr) (b : Addr) (g : Nat → Int32) (S : Nat) (E : Nat) (h0 : Heap) (n0 : Nat) (Z0 : n0 ≤ h0.size) (E_a : Exa Z h0 a "com/example/farcall/farcall/io/XdrEncoder") (F_buf : Fld Z h0 a "com/example/farcall/farcall/io/XdrEncoder" "buffer" "[B" (.ref b)) (F_sta : Fld Z h0 a "com/example/farcall/farcall/io/XdrEncoder" "start" "I" (.int (Int32.ofNat S))) (F_end : Fld Z h0 a "com/example/farcall/farcall/io/XdrEncoder" "end" "I" (.int (Int32.ofNat E))) (A_b : own_Af Z h0 b .byte 64 (fun j => .int (g j))) (ne_ab : a ≠ b) (fg : (∀ j, fits .byte (.int (g j)) = true)) (g_a : n0 ≤ a) (g_b : n0 ≤ b) (hS : S ≤ E) (hE : E ≤ 64) (hne : ¬ (S = 0 ∧ E = 64)) :
    MetFree l (⟨"com/example/farcall/farcall/io/XdrEncoder", "toByteArray", "()[B"⟩ : MethodName) (head1 (Jvm.Cond.code (⟨"com/example/farcall/farcall/io/XdrEncoder", "toByteArray", "()[B"⟩ : MethodName) prog_43_method_21_code 1 (some (.array .byte)) :: ws) ({ frames := 3, cells := 1, slots := 64, locals := 90 } : Room)) (fun aX UX => aX = #[(.ref a)] ∧ Z.Warmed39 UX.vm ∧ UX.heap = h0) (fun _ _ _ _ _ => True) (fun _ UX oX UY => ∃ vX LX, oX = .returned vX ∧ Q5 Z a b g S E h0 n0 vX UY.heap LX ∧ FrameEnd UX oX UY LX ({ frames := 3, cells := 1, slots := 64, locals := 90 } : Room).cells ({ frames := 3, cells := 1, slots := 64, locals := 90 } : Room).slots) := by
  refine MetFree.of_bodySF (plainFor_of_name pn_5) hisR ?_
  intro p e s m args below meth c s₁ Bd hml0 hPX hKX
  obtain ⟨rfl, hZ, hh⟩ := hPX
  have hx := Bd.exec
  have hby := Bd.bytes
  have hml : c.maxLocals = 1 := hml0
  have hown : s.vm.findClass "com/example/farcall/farcall/io/XdrEncoder" = some m.cls := findClass_of_methodNamed Bd.named
  have hnm := (name_of_methodNamed Bd.named Bd.method).1
  have X0 : Stand p l e ({ frames := 3, cells := 1, slots := 64, locals := 90 } : Room) s m #[(.ref a)] below meth c s₁ [] 0 0 := Stand.of_body Bd
  have e0 : s₁.heap = h0 := by rw [← hh, Bd.state]; rfl
  have N0 := Fr.nil n0
  have pre0 : ∀ t, Steps p.tables e below (s₁.setTop (mkF m 0 #[rv a] [])) t → Steps p.tables e below (s₁.setTop (entryFrame m #[(.ref a)] 1)) t := fun t k => castTop (ef_5 m a) k
  obtain ⟨S0, hS0⟩ : ∃ z, z = (s₁.setTop (entryFrame m #[(.ref a)] 1)) := ⟨_, rfl⟩
  rw [← hS0] at pre0
  have K0 : Keep h0 h0 [] := Keep.refl h0 _
  have pre1 : ∀ t, own_s p e below s₁ m 1 #[rv a] [(.ref a)] t → Steps p.tables e below S0 t := by
    intro tX kX
    refine pre0 _ ?_
    show own_s p e below s₁ m 0 #[rv a] [] _
    refine XS.aloadN X0.here hx rfl (hb hby d5_0) rfl rfl ?_
    exact kX
  obtain ⟨T2, X2, e2, st2⟩ := getF X0 hx hZ hown (host := "") (Or.inl (hw _ (List.mem_of_getElem? (i := 12) rfl))) Via.refl e0 F_buf (g := (mkF m 1 #[rv a] [(.ref a)])) rfl rfl (hb hby d5_1)
  have pre3 : ∀ t, own_s p e below T2 m 4 #[rv a] [(.ref b)] t → Steps p.tables e below S0 t := fun tX kX => pre1 _ (st2 _ kX)
  have pre4 : ∀ t, own_s p e below T2 m 5 #[rv a] [(.ref a), (.ref b)] t → Steps p.tables e below S0 t := by
    intro tX kX
    refine pre3 _ ?_
    show own_s p e below T2 m 4 #[rv a] [(.ref b)] _
    refine XS.aloadN X2.here hx rfl (hb hby d5_4) rfl rfl ?_
    exact kX
  obtain ⟨T5, X5, e5, st5⟩ := getF X2 hx hZ hown (host := "") (Or.inl (hw _ (List.mem_of_getElem? (i := 30) rfl))) Via.refl e2 F_sta (g := (mkF m 5 #[rv a] [(.ref a), (.ref b)])) rfl rfl (hb hby d5_5)
  have pre6 : ∀ t, own_s p e below T5 m 8 #[rv a] [(.int (Int32.ofNat S)), (.ref b)] t → Steps p.tables e below S0 t := fun tX kX => pre4 _ (st5 _ kX)
  have pre7 : ∀ t, own_s p e below T5 m 9 #[rv a] [(.ref a), (.int (Int32.ofNat S)), (.ref b)] t → Steps p.tables e below S0 t := by
    intro tX kX
    refine pre6 _ ?_
    show own_s p e below T5 m 8 #[rv a] [(.int (Int32.ofNat S)), (.ref b)] _
    refine XS.aloadN X5.here hx rfl (hb hby d5_8) rfl rfl ?_
    exact kX
  obtain ⟨T8, X8, e8, st8⟩ := getF X5 hx hZ hown (host := "") (Or.inl (hw _ (List.mem_of_getElem? (i := 23) rfl))) Via.refl e5 F_end (g := (mkF m 9 #[rv a] [(.ref a), (.int (Int32.ofNat S)), (.ref b)])) rfl rfl (hb hby d5_9)
  have pre9 : ∀ t, own_s p e below T8 m 12 #[rv a] [(.int (Int32.ofNat E)), (.int (Int32.ofNat S)), (.ref b)] t → Steps p.tables e below S0 t := fun tX kX => pre7 _ (st8 _ kX)
  obtain ⟨_, _, ⟨T10, L10, k10, n10⟩, -, X10, ⟨Lc10, hQ10, l10, y10, z10⟩, st10⟩ := Jvm.LawKit.callS X8 hx (y := (⟨"java/util/Arrays", "copyOfRange", "([BII)[B"⟩ : MethodName)) hown (mvT hZ (hw _ (List.mem_of_getElem? (i := 44) rfl))) (mvT hZ (hw _ (List.mem_of_getElem? (i := 45) rfl))) (mvT hZ (hw _ (List.mem_of_getElem? (i := 46) rfl))) (mvT hZ (hw _ (List.mem_of_getElem? (i := 47) rfl))) (by decide) (backOf (W := 0) (rm4 l Z a0 hw [] b (Int32.ofNat S) (Int32.ofNat E) g S E h0 n0 Z0 A_b fg rfl rfl hS hE hne) hZ (hw _ (List.mem_of_getElem? (i := 47) rfl)) (hw _ (List.mem_of_getElem? (i := 46) rfl)) (by decide) (by decide)) (g := (mkF m 12 #[rv a] [(.int (Int32.ofNat E)), (.int (Int32.ofNat S)), (.ref b)])) rfl (by rw [hml]; rfl) (argsL := [(.ref b), (.int (Int32.ofNat S)), (.int (Int32.ofNat E))]) (rest := []) (lenOf pd5_0 rfl) rfl (by show 2 * 0 + _ ≤ _; exact Nat.le_of_eq rfl) (hb hby d5_12) (fun _ _ => ⟨rfl, e8, (by decide : 0 + 1 ≤ _), (by decide : 0 + 64 ≤ _)⟩)
  dsimp only [Pt.U, Pt.locs, Pt.cells, Pt.slots] at X10 l10 y10 z10 st10 hQ10
  subst l10 y10 z10
  obtain ⟨r10, rfl, Nq10, Kq10, sz_r10, g_r10, fA10⟩ := hQ10
  have N10 := Fr.app N0 Nq10
  have e10 : T10.heap = T10.heap := rfl
  have Z10 : n0 ≤ T10.heap.size := Nat.le_trans Z0 Kq10.1
  have ne11 : a ≠ r10 := Nat.ne_of_lt (Nat.lt_of_lt_of_le E_a.lt sz_r10)
  have ne12 : b ≠ r10 := Nat.ne_of_lt (Nat.lt_of_lt_of_le A_b.lt sz_r10)
  have K10 : Keep h0 T10.heap [] := K0.trans Kq10 all0
  have sz0_r10 : h0.size ≤ r10 := Nat.le_trans K0.1 sz_r10
  have f13_E : Exa Z T10.heap a "com/example/farcall/farcall/io/XdrEncoder" := E_a.keep Kq10
  have f14_F : Fld Z T10.heap a "com/example/farcall/farcall/io/XdrEncoder" "buffer" "[B" (.ref b) := F_buf.keep Kq10 nin0
  have f15_F : Fld Z T10.heap a "com/example/farcall/farcall/io/XdrEncoder" "start" "I" (.int (Int32.ofNat S)) := F_sta.keep Kq10 nin0
  have f16_F : Fld Z T10.heap a "com/example/farcall/farcall/io/XdrEncoder" "end" "I" (.int (Int32.ofNat E)) := F_end.keep Kq10 nin0
  have f17_A : own_Af Z T10.heap b .byte 64 (fun j => .int (g j)) := A_b.keep Kq10 nin0
  obtain ⟨LL18, X18, N18⟩ : ∃ LL, Stand p l e ({ frames := 3, cells := 1, slots := 64, locals := 90 } : Room) s m #[(.ref a)] below meth c T10 LL 1 64 ∧ Fr n0 LL := ⟨_, X10, N10⟩
  have pre19 : ∀ t, own_s p e below T10 m 15 #[rv a] [(.ref r10)] t → Steps p.tables e below S0 t := fun tX kX => pre9 _ (st10 _ kX)
  subst hS0
  obtain ⟨fs, hr, hrun, hended, hW, hsame⟩ := X18.leave (v := (some (.ref r10))) (fun h => by rw [Bd.returns] at h; cases h)
  refine ⟨_, _, pre19 _ (retOut X18 hx Bd.returns (own_narR rfl) (Or.inr (Or.inr (Or.inr (Or.inr ⟨rfl, rfl, rfl⟩)))) (hb hby d5_15) hr), hrun, hended, _, _, rfl, ?_, ⟨_, rfl⟩, hW, hsame.mono (by decide) (by decide)⟩
  show Q5 Z a b g S E h0 n0 (some (.ref r10)) T10.heap _
  exact ⟨r10, rfl, N18, K10, sz0_r10, g_r10, fA10⟩
theorem d6_0 : decode prog_43_method_19_code 0 = .ok (.aload_n 0, 1) := by decide +kernel
theorem d6_1 : decode prog_43_method_19_code 1 = .ok (.getfield 19, 3) := by decide +kernel
theorem d6_4 : decode prog_43_method_19_code 4 = .ok (.aload_n 0, 1) := by decide +kernel
theorem d6_5 : decode prog_43_method_19_code 5 = .ok (.getfield 128, 3) := by decide +kernel
theorem d6_8 : decode prog_43_method_19_code 8 = .ok (.isub, 1) := by decide +kernel
theorem d6_9 : decode prog_43_method_19_code 9 = .ok (.ireturn, 1) := by decide +kernel
theorem pn_6 : plainName "com/example/farcall/farcall/io/XdrEncoder" = true := by first | (simp [plainName, overriddenIn]; done) | decide +kernel
theorem ef_6 (m : MethodId) (a : Addr) : entryFrame m #[(.ref a)] 1 = mkF m 0 #[rv a] [] := by first | (simp [entryFrame, mkF, argsToLocals, Value.category]; done) | rfl
def Q6 (Z : State) (a : Addr) (b : Addr) (g : Nat → Int32) (S : Nat) (E : Nat) (h0 : Heap) (n0 : Nat) (v : Option Value) (h : Heap) (L : List Loc) : Prop := v = some (.int (Int32.ofNat (E - S))) ∧ Fr n0 L ∧ h = h0
set_option maxRecDepth 65536 in
set_option maxHeartbeats 40000000 in
theorem rm6 (l : Launch) (Z : State) (a0 : Array Value) (hw : ∀ d ∈ tables_1, d.before a0 Z = true) (ws : List Jvm.Cond) (a : Addr) (b : Addr) (g : Nat → Int32) (S : Nat) (E : Nat) (h0 : Heap) (n0 : Nat) (Z0 : n0 ≤ h0.size) (E_a : Exa Z h0 a "com/example/farcall/farcall/io/XdrEncoder") (F_buf : Fld Z h0 a "com/example/farcall/farcall/io/XdrEncoder" "buffer" "[B" (.ref b)) (F_sta : Fld Z h0 a "com/example/farcall/farcall/io/XdrEncoder" "start" "I" (.int (Int32.ofNat S))) (F_end : Fld Z h0 a "com/example/farcall/farcall/io/XdrEncoder" "end" "I" (.int (Int32.ofNat E))) (A_b : own_Af Z h0 b .byte 64 (fun j => .int (g j))) (ne_ab : a ≠ b) (fg : (∀ j, fits .byte (.int (g j)) = true)) (g_a : n0 ≤ a) (g_b : n0 ≤ b) (hS : S ≤ E) (hE : E ≤ 64) :
    MetFree l (⟨"com/example/farcall/farcall/io/XdrEncoder", "size", "()I"⟩ : MethodName) (head1 (Jvm.Cond.code (⟨"com/example/farcall/farcall/io/XdrEncoder", "size", "()I"⟩ : MethodName) prog_43_method_19_code 1 (some .int) :: ws) ({ frames := 0, cells := 0, slots := 0, locals := 0 } : Room)) (fun aX UX => aX = #[(.ref a)] ∧ Z.Warmed39 UX.vm ∧ UX.heap = h0) (fun _ _ _ _ _ => True) (fun _ UX oX UY => ∃ vX LX, oX = .returned vX ∧ Q6 Z a b g S E h0 n0 vX UY.heap LX ∧ FrameEnd UX oX UY LX ({ frames := 0, cells := 0, slots := 0, locals := 0 } : Room).cells ({ frames := 0, cells := 0, slots := 0, locals := 0 } : Room).slots) := by
  refine MetFree.of_bodySF (plainFor_of_name pn_6) hisR ?_
  intro p e s m args below meth c s₁ Bd hml0 hPX hKX
  obtain ⟨rfl, hZ, hh⟩ := hPX
  have hx := Bd.exec
  have hby := Bd.bytes
  have hml : c.maxLocals = 1 := hml0
  have hown : s.vm.findClass "com/example/farcall/farcall/io/XdrEncoder" = some m.cls := findClass_of_methodNamed Bd.named
  have hnm := (name_of_methodNamed Bd.named Bd.method).1
  have X0 : Stand p l e ({ frames := 0, cells := 0, slots := 0, locals := 0 } : Room) s m #[(.ref a)] below meth c s₁ [] 0 0 := Stand.of_body Bd
  have e0 : s₁.heap = h0 := by rw [← hh, Bd.state]; rfl
  have N0 := Fr.nil n0
  have pre0 : ∀ t, Steps p.tables e below (s₁.setTop (mkF m 0 #[rv a] [])) t → Steps p.tables e below (s₁.setTop (entryFrame m #[(.ref a)] 1)) t := fun t k => castTop (ef_6 m a) k
  obtain ⟨S0, hS0⟩ : ∃ z, z = (s₁.setTop (entryFrame m #[(.ref a)] 1)) := ⟨_, rfl⟩
  rw [← hS0] at pre0
  have pre1 : ∀ t, own_s p e below s₁ m 1 #[rv a] [(.ref a)] t → Steps p.tables e below S0 t := by
    intro tX kX
    refine pre0 _ ?_
    show own_s p e below s₁ m 0 #[rv a] [] _
    refine XS.aloadN X0.here hx rfl (hb hby d6_0) rfl rfl ?_
    exact kX
  obtain ⟨T2, X2, e2, st2⟩ := getF X0 hx hZ hown (host := "") (Or.inl (hw _ (List.mem_of_getElem? (i := 23) rfl))) Via.refl e0 F_end (g := (mkF m 1 #[rv a] [(.ref a)])) rfl rfl (hb hby d6_1)
  have pre3 : ∀ t, own_s p e below T2 m 4 #[rv a] [(.int (Int32.ofNat E))] t → Steps p.tables e below S0 t := fun tX kX => pre1 _ (st2 _ kX)
  have pre4 : ∀ t, own_s p e below T2 m 5 #[rv a] [(.ref a), (.int (Int32.ofNat E))] t → Steps p.tables e below S0 t := by
    intro tX kX
    refine pre3 _ ?_
    show own_s p e below T2 m 4 #[rv a] [(.int (Int32.ofNat E))] _
    refine XS.aloadN X2.here hx rfl (hb hby d6_4) rfl rfl ?_
    exact kX
  obtain ⟨T5, X5, e5, st5⟩ := getF X2 hx hZ hown (host := "") (Or.inl (hw _ (List.mem_of_getElem? (i := 30) rfl))) Via.refl e2 F_sta (g := (mkF m 5 #[rv a] [(.ref a), (.int (Int32.ofNat E))])) rfl rfl (hb hby d6_5)
  have pre6 : ∀ t, own_s p e below T5 m 8 #[rv a] [(.int (Int32.ofNat S)), (.int (Int32.ofNat E))] t → Steps p.tables e below S0 t := fun tX kX => pre4 _ (st5 _ kX)
  have pre7 : ∀ t, own_s p e below T5 m 9 #[rv a] [(.int ((Int32.ofNat E) - (Int32.ofNat S)))] t → Steps p.tables e below S0 t := by
    intro tX kX
    refine pre6 _ ?_
    show own_s p e below T5 m 8 #[rv a] [(.int (Int32.ofNat S)), (.int (Int32.ofNat E))] _
    refine XS.isub X5.here hx rfl (hb hby d6_8) rfl ?_
    exact kX
  subst hS0
  obtain ⟨fs, hr, hrun, hended, hW, hsame⟩ := X5.leave (v := (some (.int ((Int32.ofNat E) - (Int32.ofNat S))))) (fun h => by rw [Bd.returns] at h; cases h)
  refine ⟨_, _, pre7 _ (retI X5 hx Bd.returns (hb hby d6_9) hr), hrun, hended, _, _, rfl, ?_, ⟨_, rfl⟩, hW, hsame.mono (by decide) (by decide)⟩
  show Q6 Z a b g S E h0 n0 (some (.int ((Int32.ofNat E) - (Int32.ofNat S)))) T5.heap _
  exact ⟨congrArg (fun z => some (Value.int z)) (show ((Int32.ofNat E) - (Int32.ofNat S)) = Int32.ofNat (E - S) from own_of (by omega) (by have iS : (Int32.ofNat S).toInt = S := own_ofn (by omega); have iE : (Int32.ofNat E).toInt = E := own_ofn (by omega); have d1 := c_isub (Int32.ofNat E) (Int32.ofNat S); have d2 := rng32 (Int32.ofNat E - Int32.ofNat S); omega)), N0, e5⟩
theorem d7_0 : decode prog_43_method_28_code 0 = .ok (.aload_n 0, 1) := by decide +kernel
theorem d7_1 : decode prog_43_method_28_code 1 = .ok (.getfield 9, 3) := by decide +kernel
theorem d7_4 : decode prog_43_method_28_code 4 = .ok (.arraylength, 1) := by decide +kernel
theorem d7_5 : decode prog_43_method_28_code 5 = .ok (.aload_n 0, 1) := by decide +kernel
theorem d7_6 : decode prog_43_method_28_code 6 = .ok (.getfield 19, 3) := by decide +kernel
theorem d7_9 : decode prog_43_method_28_code 9 = .ok (.isub, 1) := by decide +kernel
theorem d7_10 : decode prog_43_method_28_code 10 = .ok (.iload_n 1, 1) := by decide +kernel
theorem d7_11 : decode prog_43_method_28_code 11 = .ok (.if_icmp .ge 30, 3) := by decide +kernel
theorem d7_41 : decode prog_43_method_28_code 41 = .ok (.return_, 1) := by decide +kernel
theorem pn_7 : plainName "com/example/farcall/farcall/io/XdrEncoder" = true := by first | (simp [plainName, overriddenIn]; done) | decide +kernel
theorem ef_7 (m : MethodId) (a : Addr) (p1 : Int32) : entryFrame m #[(.ref a), (.int p1)] 2 = mkF m 0 #[rv a, iv p1] [] := by first | (simp [entryFrame, mkF, argsToLocals, Value.category]; done) | rfl
def Q7 (Z : State) (a : Addr) (p1 : Int32) (b : Addr) (g : Nat → Int32) (S : Nat) (E : Nat) (h0 : Heap) (n0 : Nat) (v : Option Value) (h : Heap) (L : List Loc) : Prop := v = none ∧ Fr n0 L ∧ h = h0
set_option maxRecDepth 65536 in
set_option maxHeartbeats 40000000 in
theorem rm7 (l : Launch) (Z : State) (a0 : Array Value) (hw : ∀ d ∈ tables_1, d.before a0 Z = true) (ws : List Jvm.Cond) (a : Addr) (p1 : Int32) (b : Addr) (g : Nat → Int32) (S : Nat) (E : Nat) (h0 : Heap) (n0 : Nat) (Z0 : n0 ≤ h0.size) (E_a : Exa Z h0 a "com/example/farcall/farcall/io/XdrEncoder") (F_buf : Fld Z h0 a "com/example/farcall/farcall/io/XdrEncoder" "buffer" "[B" (.ref b)) (F_sta : Fld Z h0 a "com/example/farcall/farcall/io/XdrEncoder" "start" "I" (.int (Int32.ofNat S))) (F_end : Fld Z h0 a "com/example/farcall/farcall/io/XdrEncoder" "end" "I" (.int (Int32.ofNat E))) (A_b : own_Af Z h0 b .byte 64 (fun j => .int (g j))) (ne_ab : a ≠ b) (fg : (∀ j, fits .byte (.int (g j)) = true)) (g_a : n0 ≤ a) (g_b : n0 ≤ b) (hp1 : p1 = 4) (hE : E + 4 ≤ 64) :
    MetFree l (⟨"com/example/farcall/farcall/io/XdrEncoder", "ensureRoom", "(I)V"⟩ : MethodName) (head1 (Jvm.Cond.code (⟨"com/example/farcall/farcall/io/XdrEncoder", "ensureRoom", "(I)V"⟩ : MethodName) prog_43_method_28_code 2 none :: ws) ({ frames := 0, cells := 0, slots := 0, locals := 0 } : Room)) (fun aX UX => aX = #[(.ref a), (.int p1)] ∧ Z.Warmed39 UX.vm ∧ UX.heap = h0) (fun _ _ _ _ _ => True) (fun _ UX oX UY => ∃ vX LX, oX = .returned vX ∧ Q7 Z a p1 b g S E h0 n0 vX UY.heap LX ∧ FrameEnd UX oX UY LX ({ frames := 0, cells := 0, slots := 0, locals := 0 } : Room).cells ({ frames := 0, cells := 0, slots := 0, locals := 0 } : Room).slots) := by
  refine MetFree.of_bodySF (plainFor_of_name pn_7) hisR ?_
  intro p e s m args below meth c s₁ Bd hml0 hPX hKX
  obtain ⟨rfl, hZ, hh⟩ := hPX
  have hx := Bd.exec
  have hby := Bd.bytes
  have hml : c.maxLocals = 2 := hml0
  have hown : s.vm.findClass "com/example/farcall/farcall/io/XdrEncoder" = some m.cls := findClass_of_methodNamed Bd.named
  have hnm := (name_of_methodNamed Bd.named Bd.method).1
  have X0 : Stand p l e ({ frames := 0, cells := 0, slots := 0, locals := 0 } : Room) s m #[(.ref a), (.int p1)] below meth c s₁ [] 0 0 := Stand.of_body Bd
  have e0 : s₁.heap = h0 := by rw [← hh, Bd.state]; rfl
  have N0 := Fr.nil n0
  have pre0 : ∀ t, Steps p.tables e below (s₁.setTop (mkF m 0 #[rv a, iv p1] [])) t → Steps p.tables e below (s₁.setTop (entryFrame m #[(.ref a), (.int p1)] 2)) t := fun t k => castTop (ef_7 m a p1) k
  obtain ⟨S0, hS0⟩ : ∃ z, z = (s₁.setTop (entryFrame m #[(.ref a), (.int p1)] 2)) := ⟨_, rfl⟩
  rw [← hS0] at pre0
  have pre1 : ∀ t, own_s p e below s₁ m 1 #[rv a, iv p1] [(.ref a)] t → Steps p.tables e below S0 t := by
    intro tX kX
    refine pre0 _ ?_
    show own_s p e below s₁ m 0 #[rv a, iv p1] [] _
    refine XS.aloadN X0.here hx rfl (hb hby d7_0) rfl rfl ?_
    exact kX
  obtain ⟨T2, X2, e2, st2⟩ := getF X0 hx hZ hown (host := "") (Or.inl (hw _ (List.mem_of_getElem? (i := 12) rfl))) Via.refl e0 F_buf (g := (mkF m 1 #[rv a, iv p1] [(.ref a)])) rfl rfl (hb hby d7_1)
  have pre3 : ∀ t, own_s p e below T2 m 4 #[rv a, iv p1] [(.ref b)] t → Steps p.tables e below S0 t := fun tX kX => pre1 _ (st2 _ kX)
  obtain ⟨cl4, Ar4, S4, M4, H4⟩ := id A_b
  have pre5 : ∀ t, own_s p e below T2 m 6 #[rv a, iv p1] [(.ref a), (.int (64 : Int32))] t → Steps p.tables e below S0 t := by
    intro tX kX
    refine pre3 _ ?_
    show own_s p e below T2 m 4 #[rv a, iv p1] [(.ref b)] _
    refine X2.arraylength hx (by rw [e2]; exact Ar4.1) (State.isArrayOf_alike hZ.alike Ar4.2.1) (g := (mkF m 4 #[rv a, iv p1] [(.ref b)])) rfl rfl (hb hby d7_4) _ ?_
    rw [show cl4.slots.size.toInt32 = (64 : Int32) from by rw [S4]; exact rfl]
    show own_s p e below T2 m 5 #[rv a, iv p1] [(.int (64 : Int32))] _
    refine XS.aloadN X2.here hx rfl (hb hby d7_5) rfl rfl ?_
    exact kX
  obtain ⟨T6, X6, e6, st6⟩ := getF X2 hx hZ hown (host := "") (Or.inl (hw _ (List.mem_of_getElem? (i := 23) rfl))) Via.refl e2 F_end (g := (mkF m 6 #[rv a, iv p1] [(.ref a), (.int (64 : Int32))])) rfl rfl (hb hby d7_6)
  have pre7 : ∀ t, own_s p e below T6 m 9 #[rv a, iv p1] [(.int (Int32.ofNat E)), (.int (64 : Int32))] t → Steps p.tables e below S0 t := fun tX kX => pre5 _ (st6 _ kX)
  have pre8 : ∀ t, own_s p e below T6 m 41 #[rv a, iv p1] [] t → Steps p.tables e below S0 t := by
    intro tX kX
    refine pre7 _ ?_
    show own_s p e below T6 m 9 #[rv a, iv p1] [(.int (Int32.ofNat E)), (.int (64 : Int32))] _
    refine XS.isub X6.here hx rfl (hb hby d7_9) rfl ?_
    show own_s p e below T6 m 10 #[rv a, iv p1] [(.int ((64 : Int32) - (Int32.ofNat E)))] _
    refine XS.iloadN X6.here hx rfl (hb hby d7_10) rfl ?_
    show own_s p e below T6 m 11 #[rv a, iv p1] [(.int p1), (.int ((64 : Int32) - (Int32.ofNat E)))] _
    refine XS.icmpYes X6.here hx rfl (pc0 := 11) (pc' := 41) rfl (hb hby d7_11) rfl (flt (show ¬ (((64 : Int32) - (Int32.ofNat E)) < p1) from fun q => absurd (Int32.lt_iff_toInt_lt.mp q) (by have d1 := c_isub (64 : Int32) (Int32.ofNat E); have d2 := rng32 ((64 : Int32) - Int32.ofNat E); have d3 : (64 : Int32).toInt = 64 := rfl; have d4 : (Int32.ofNat E).toInt = E := own_ofn (by omega); have d5 : p1.toInt = 4 := (congrArg Int32.toInt hp1 : p1.toInt = (4 : Int32).toInt); omega))).2.1 (by decide) (by decide) ?_
    exact kX
  subst hS0
  obtain ⟨fs, hr, hrun, hended, hW, hsame⟩ := X6.leave (v := none) (fun _ => rfl)
  refine ⟨_, _, pre8 _ (X6.returnOut hx Bd.returns (hb hby d7_41) hr), hrun, hended, _, _, rfl, ?_, ⟨_, rfl⟩, hW, hsame.mono (by decide) (by decide)⟩
  show Q7 Z a p1 b g S E h0 n0 none T6.heap _
  exact ⟨rfl, N0, e6⟩
theorem d8_0 : decode prog_43_method_24_code 0 = .ok (.aload_n 0, 1) := by decide +kernel
theorem d8_1 : decode prog_43_method_24_code 1 = .ok (.getfield 128, 3) := by decide +kernel
theorem d8_4 : decode prog_43_method_24_code 4 = .ok (.iload_n 1, 1) := by decide +kernel
theorem d8_5 : decode prog_43_method_24_code 5 = .ok (.iadd, 1) := by decide +kernel
theorem d8_6 : decode prog_43_method_24_code 6 = .ok (.istore_n 3, 1) := by decide +kernel
theorem d8_7 : decode prog_43_method_24_code 7 = .ok (.aload_n 0, 1) := by decide +kernel
theorem d8_8 : decode prog_43_method_24_code 8 = .ok (.getfield 9, 3) := by decide +kernel
theorem d8_11 : decode prog_43_method_24_code 11 = .ok (.iload_n 3, 1) := by decide +kernel
theorem d8_12 : decode prog_43_method_24_code 12 = .ok (.iload_n 2, 1) := by decide +kernel
theorem d8_13 : decode prog_43_method_24_code 13 = .ok (.bipush 24, 2) := by decide +kernel
theorem d8_15 : decode prog_43_method_24_code 15 = .ok (.iushr, 1) := by decide +kernel
theorem d8_16 : decode prog_43_method_24_code 16 = .ok (.i2b, 1) := by decide +kernel
theorem d8_17 : decode prog_43_method_24_code 17 = .ok (.bastore, 1) := by decide +kernel
theorem d8_18 : decode prog_43_method_24_code 18 = .ok (.aload_n 0, 1) := by decide +kernel
theorem d8_19 : decode prog_43_method_24_code 19 = .ok (.getfield 9, 3) := by decide +kernel
theorem d8_22 : decode prog_43_method_24_code 22 = .ok (.iload_n 3, 1) := by decide +kernel
theorem d8_23 : decode prog_43_method_24_code 23 = .ok (.iconst 1, 1) := by decide +kernel
theorem d8_24 : decode prog_43_method_24_code 24 = .ok (.iadd, 1) := by decide +kernel
theorem d8_25 : decode prog_43_method_24_code 25 = .ok (.iload_n 2, 1) := by decide +kernel
theorem d8_26 : decode prog_43_method_24_code 26 = .ok (.bipush 16, 2) := by decide +kernel
theorem d8_28 : decode prog_43_method_24_code 28 = .ok (.iushr, 1) := by decide +kernel
theorem d8_29 : decode prog_43_method_24_code 29 = .ok (.i2b, 1) := by decide +kernel
theorem d8_30 : decode prog_43_method_24_code 30 = .ok (.bastore, 1) := by decide +kernel
theorem d8_31 : decode prog_43_method_24_code 31 = .ok (.aload_n 0, 1) := by decide +kernel
theorem d8_32 : decode prog_43_method_24_code 32 = .ok (.getfield 9, 3) := by decide +kernel
theorem d8_35 : decode prog_43_method_24_code 35 = .ok (.iload_n 3, 1) := by decide +kernel
theorem d8_36 : decode prog_43_method_24_code 36 = .ok (.iconst 2, 1) := by decide +kernel
theorem d8_37 : decode prog_43_method_24_code 37 = .ok (.iadd, 1) := by decide +kernel
theorem d8_38 : decode prog_43_method_24_code 38 = .ok (.iload_n 2, 1) := by decide +kernel
theorem d8_39 : decode prog_43_method_24_code 39 = .ok (.bipush 8, 2) := by decide +kernel
theorem d8_41 : decode prog_43_method_24_code 41 = .ok (.iushr, 1) := by decide +kernel
theorem d8_42 : decode prog_43_method_24_code 42 = .ok (.i2b, 1) := by decide +kernel
theorem d8_43 : decode prog_43_method_24_code 43 = .ok (.bastore, 1) := by decide +kernel
theorem d8_44 : decode prog_43_method_24_code 44 = .ok (.aload_n 0, 1) := by decide +kernel
theorem d8_45 : decode prog_43_method_24_code 45 = .ok (.getfield 9, 3) := by decide +kernel
theorem d8_48 : decode prog_43_method_24_code 48 = .ok (.iload_n 3, 1) := by decide +kernel
theorem d8_49 : decode prog_43_method_24_code 49 = .ok (.iconst 3, 1) := by decide +kernel
theorem d8_50 : decode prog_43_method_24_code 50 = .ok (.iadd, 1) := by decide +kernel
theorem d8_51 : decode prog_43_method_24_code 51 = .ok (.iload_n 2, 1) := by decide +kernel
theorem d8_52 : decode prog_43_method_24_code 52 = .ok (.i2b, 1) := by decide +kernel
theorem d8_53 : decode prog_43_method_24_code 53 = .ok (.bastore, 1) := by decide +kernel
theorem d8_54 : decode prog_43_method_24_code 54 = .ok (.return_, 1) := by decide +kernel
theorem pn_8 : plainName "com/example/farcall/farcall/io/XdrEncoder" = true := by first | (simp [plainName, overriddenIn]; done) | decide +kernel
theorem ef_8 (m : MethodId) (a : Addr) (p1 : Int32) (p2 : Int32) : entryFrame m #[(.ref a), (.int p1), (.int p2)] 4 = mkF m 0 #[rv a, iv p1, iv p2, .unset] [] := by first | (simp [entryFrame, mkF, argsToLocals, Value.category]; done) | rfl
def Q8 (Z : State) (a : Addr) (p1 : Int32) (p2 : Int32) (b : Addr) (g : Nat → Int32) (S : Nat) (E : Nat) (O : Nat) (h0 : Heap) (n0 : Nat) (v : Option Value) (h : Heap) (L : List Loc) : Prop := v = none ∧ Fr n0 L ∧ Keep h0 h [b] ∧ Exa Z h a "com/example/farcall/farcall/io/XdrEncoder" ∧ Fld Z h a "com/example/farcall/farcall/io/XdrEncoder" "buffer" "[B" (.ref b) ∧ Fld Z h a "com/example/farcall/farcall/io/XdrEncoder" "start" "I" (.int (Int32.ofNat S)) ∧ Fld Z h a "com/example/farcall/farcall/io/XdrEncoder" "end" "I" (.int (Int32.ofNat E)) ∧ own_Af Z h b .byte 64 (fun j => .int ((own_put g (S + O) p2) j)) ∧ a ≠ b ∧ (∀ j, fits .byte (.int ((own_put g (S + O) p2) j)) = true) ∧ n0 ≤ a ∧ n0 ≤ b
set_option maxRecDepth 65536 in
set_option maxHeartbeats 40000000 in
theorem rm8 (l : Launch) (Z : State) (a0 : Array Value) (hw : ∀ d ∈ tables_1, d.before a0 Z = true) (ws : List Jvm.Cond) (a : Addr) (p1 : Int32) (p2 : Int32) (b : Addr) (g : Nat → Int32) (S : Nat) (E : Nat) (O : Nat) (h0 : Heap) (n0 : Nat) (Z0 : n0 ≤ h0.size) (E_a : Exa Z h0 a "com/example/farcall/farcall/io/XdrEncoder") (F_buf : Fld Z h0 a "com/example/farcall/farcall/io/XdrEncoder" "buffer" "[B" (.ref b)) (F_sta : Fld Z h0 a "com/example/farcall/farcall/io/XdrEncoder" "start" "I" (.int (Int32.ofNat S))) (F_end : Fld Z h0 a "com/example/farcall/farcall/io/XdrEncoder" "end" "I" (.int (Int32.ofNat E))) (A_b : own_Af Z h0 b .byte 64 (fun j => .int (g j))) (ne_ab : a ≠ b) (fg : (∀ j, fits .byte (.int (g j)) = true)) (g_a : n0 ≤ a) (g_b : n0 ≤ b) (hp1 : p1 = Int32.ofNat O) (hO : S + O + 4 ≤ 64) :
    MetFree l (⟨"com/example/farcall/farcall/io/XdrEncoder", "setInt", "(II)V"⟩ : MethodName) (head1 (Jvm.Cond.code (⟨"com/example/farcall/farcall/io/XdrEncoder", "setInt", "(II)V"⟩ : MethodName) prog_43_method_24_code 4 none :: ws) ({ frames := 0, cells := 0, slots := 0, locals := 0 } : Room)) (fun aX UX => aX = #[(.ref a), (.int p1), (.int p2)] ∧ Z.Warmed39 UX.vm ∧ UX.heap = h0) (fun _ _ _ _ _ => True) (fun _ UX oX UY => ∃ vX LX, oX = .returned vX ∧ Q8 Z a p1 p2 b g S E O h0 n0 vX UY.heap LX ∧ FrameEnd UX oX UY LX ({ frames := 0, cells := 0, slots := 0, locals := 0 } : Room).cells ({ frames := 0, cells := 0, slots := 0, locals := 0 } : Room).slots) := by
  refine MetFree.of_bodySF (plainFor_of_name pn_8) hisR ?_
  intro p e s m args below meth c s₁ Bd hml0 hPX hKX
  obtain ⟨rfl, hZ, hh⟩ := hPX
  have hx := Bd.exec
  have hby := Bd.bytes
  have hml : c.maxLocals = 4 := hml0
  have hown : s.vm.findClass "com/example/farcall/farcall/io/XdrEncoder" = some m.cls := findClass_of_methodNamed Bd.named
  have hnm := (name_of_methodNamed Bd.named Bd.method).1
  have X0 : Stand p l e ({ frames := 0, cells := 0, slots := 0, locals := 0 } : Room) s m #[(.ref a), (.int p1), (.int p2)] below meth c s₁ [] 0 0 := Stand.of_body Bd
  have e0 : s₁.heap = h0 := by rw [← hh, Bd.state]; rfl
  have N0 := Fr.nil n0
  have pre0 : ∀ t, Steps p.tables e below (s₁.setTop (mkF m 0 #[rv a, iv p1, iv p2, .unset] [])) t → Steps p.tables e below (s₁.setTop (entryFrame m #[(.ref a), (.int p1), (.int p2)] 4)) t := fun t k => castTop (ef_8 m a p1 p2) k
  obtain ⟨S0, hS0⟩ : ∃ z, z = (s₁.setTop (entryFrame m #[(.ref a), (.int p1), (.int p2)] 4)) := ⟨_, rfl⟩
  rw [← hS0] at pre0
  have K0 : Keep h0 h0 [b] := Keep.refl h0 _
  have pre1 : ∀ t, own_s p e below s₁ m 1 #[rv a, iv p1, iv p2, .unset] [(.ref a)] t → Steps p.tables e below S0 t := by
    intro tX kX
    refine pre0 _ ?_
    show own_s p e below s₁ m 0 #[rv a, iv p1, iv p2, .unset] [] _
    refine XS.aloadN X0.here hx rfl (hb hby d8_0) rfl rfl ?_
    exact kX
  obtain ⟨T2, X2, e2, st2⟩ := getF X0 hx hZ hown (host := "") (Or.inl (hw _ (List.mem_of_getElem? (i := 30) rfl))) Via.refl e0 F_sta (g := (mkF m 1 #[rv a, iv p1, iv p2, .unset] [(.ref a)])) rfl rfl (hb hby d8_1)
  have pre3 : ∀ t, own_s p e below T2 m 4 #[rv a, iv p1, iv p2, .unset] [(.int (Int32.ofNat S))] t → Steps p.tables e below S0 t := fun tX kX => pre1 _ (st2 _ kX)
  have pre4 : ∀ t, own_s p e below T2 m 6 #[rv a, iv p1, iv p2, .unset] [(.int ((Int32.ofNat S) + p1))] t → Steps p.tables e below S0 t := by
    intro tX kX
    refine pre3 _ ?_
    show own_s p e below T2 m 4 #[rv a, iv p1, iv p2, .unset] [(.int (Int32.ofNat S))] _
    refine XS.iloadN X2.here hx rfl (hb hby d8_4) rfl ?_
    show own_s p e below T2 m 5 #[rv a, iv p1, iv p2, .unset] [(.int p1), (.int (Int32.ofNat S))] _
    refine XS.iadd X2.here hx rfl (hb hby d8_5) rfl ?_
    exact kX
  obtain ⟨pp, hpp⟩ : ∃ z : Int32, z = ((Int32.ofNat S) + p1) := ⟨_, rfl⟩
  rw [← hpp] at pre4
  have ppI : pp.toInt = ((S + O : Nat) : Int) := by rw [hpp, hp1]; have d1 := c_iadd (Int32.ofNat S) (Int32.ofNat O); have d2 := rng32 (Int32.ofNat S + Int32.ofNat O); have d3 : (Int32.ofNat S).toInt = S := own_ofn (by omega); have d4 : (Int32.ofNat O).toInt = O := own_ofn (by omega); omega
  have pre5 : ∀ t, own_s p e below T2 m 8 #[rv a, iv p1, iv p2, iv pp] [(.ref a)] t → Steps p.tables e below S0 t := by
    intro tX kX
    refine pre4 _ ?_
    show own_s p e below T2 m 6 #[rv a, iv p1, iv p2, .unset] [(.int pp)] _
    refine XS.istoreN X2.here hx rfl (hb hby d8_6) rfl (l' := #[rv a, iv p1, iv p2, iv pp]) rfl ?_
    show own_s p e below T2 m 7 #[rv a, iv p1, iv p2, iv pp] [] _
    refine XS.aloadN X2.here hx rfl (hb hby d8_7) rfl rfl ?_
    exact kX
  obtain ⟨T6, X6, e6, st6⟩ := getF X2 hx hZ hown (host := "") (Or.inl (hw _ (List.mem_of_getElem? (i := 12) rfl))) Via.refl e2 F_buf (g := (mkF m 8 #[rv a, iv p1, iv p2, iv pp] [(.ref a)])) rfl rfl (hb hby d8_8)
  have pre7 : ∀ t, own_s p e below T6 m 11 #[rv a, iv p1, iv p2, iv pp] [(.ref b)] t → Steps p.tables e below S0 t := fun tX kX => pre5 _ (st6 _ kX)
  have pre8 : ∀ t, own_s p e below T6 m 17 #[rv a, iv p1, iv p2, iv pp] [(.int (((p2.toUInt32 >>> ((24 : Int32) &&& 31).toUInt32).toInt32).toInt8.toInt32)), (.int pp), (.ref b)] t → Steps p.tables e below S0 t := by
    intro tX kX
    refine pre7 _ ?_
    show own_s p e below T6 m 11 #[rv a, iv p1, iv p2, iv pp] [(.ref b)] _
    refine XS.iloadN X6.here hx rfl (hb hby d8_11) rfl ?_
    show own_s p e below T6 m 12 #[rv a, iv p1, iv p2, iv pp] [(.int pp), (.ref b)] _
    refine XS.iloadN X6.here hx rfl (hb hby d8_12) rfl ?_
    show own_s p e below T6 m 13 #[rv a, iv p1, iv p2, iv pp] [(.int p2), (.int pp), (.ref b)] _
    refine XS.bipush X6.here hx rfl (hb hby d8_13) ?_
    show own_s p e below T6 m 15 #[rv a, iv p1, iv p2, iv pp] [(.int (24 : Int32)), (.int p2), (.int pp), (.ref b)] _
    refine XS.iushr X6.here hx rfl (hb hby d8_15) rfl ?_
    show own_s p e below T6 m 16 #[rv a, iv p1, iv p2, iv pp] [(.int ((p2.toUInt32 >>> ((24 : Int32) &&& 31).toUInt32).toInt32)), (.int pp), (.ref b)] _
    refine XS.i2b X6.here hx rfl (hb hby d8_16) rfl ?_
    exact kX
  obtain ⟨cl9, Ar9, S9, M9, H9⟩ := id A_b
  obtain ⟨T10, h10, X10, e10, W10, st10⟩ := stB X6 hx hZ e6 Ar9 (j := pp) (own_inb S9 M9 (own_idx (by omega) (by omega))) (g := (mkF m 17 #[rv a, iv p1, iv p2, iv pp] [(.int (((p2.toUInt32 >>> ((24 : Int32) &&& 31).toUInt32).toInt32).toInt8.toInt32)), (.int pp), (.ref b)])) rfl rfl (hb hby d8_17)
  have pre11 : ∀ t, own_s p e below T10 m 18 #[rv a, iv p1, iv p2, iv pp] [] t → Steps p.tables e below S0 t := fun tX kX => pre8 _ (st10 _ kX)
  obtain ⟨LL12, X12, N12⟩ : ∃ LL, Stand p l e ({ frames := 0, cells := 0, slots := 0, locals := 0 } : Room) s m #[(.ref a), (.int p1), (.int p2)] below meth c T10 LL 0 0 ∧ Fr n0 LL := ⟨_, X10, Fr.snoc X10 N0 g_b⟩
  have f13_E : Exa Z h10 a "com/example/farcall/farcall/io/XdrEncoder" := E_a.wr W10
  have f14_F : Fld Z h10 a "com/example/farcall/farcall/io/XdrEncoder" "buffer" "[B" (.ref b) := F_buf.other W10 (Or.inl ne_ab)
  have f15_F : Fld Z h10 a "com/example/farcall/farcall/io/XdrEncoder" "start" "I" (.int (Int32.ofNat S)) := F_sta.other W10 (Or.inl ne_ab)
  have f16_F : Fld Z h10 a "com/example/farcall/farcall/io/XdrEncoder" "end" "I" (.int (Int32.ofNat E)) := F_end.other W10 (Or.inl ne_ab)
  have Z17 : n0 ≤ h10.size := Nat.le_trans Z0 (Keep.of_wr W10).1
  have K18 : Keep h0 h10 [b] := K0.wr W10 (Or.inl (List.mem_of_getElem? (i := 0) rfl))
  have f19_A : own_Af Z h10 b .byte 64 (own_up (fun j => .int (g j)) pp.toNatClampNeg (.int (nar .byte (((p2.toUInt32 >>> ((24 : Int32) &&& 31).toUInt32).toInt32).toInt8.toInt32)))) := own_Af.set Ar9 S9 M9 H9 W10
  have fS20 : own_Af Z h10 b .byte 64 (fun j => .int ((own_upi g (S + O) (own_by p2 0)) j)) := by
    have q := f19_A
    rw [show pp.toNatClampNeg = (S + O) from own_nat (by omega), own_nn, own_upI] at q
    exact q
  have pre21 : ∀ t, own_s p e below T10 m 19 #[rv a, iv p1, iv p2, iv pp] [(.ref a)] t → Steps p.tables e below S0 t := by
    intro tX kX
    refine pre11 _ ?_
    show own_s p e below T10 m 18 #[rv a, iv p1, iv p2, iv pp] [] _
    refine XS.aloadN X12.here hx rfl (hb hby d8_18) rfl rfl ?_
    exact kX
  obtain ⟨T22, X22, e22, st22⟩ := getF X12 hx hZ hown (host := "") (Or.inl (hw _ (List.mem_of_getElem? (i := 12) rfl))) Via.refl e10 f14_F (g := (mkF m 19 #[rv a, iv p1, iv p2, iv pp] [(.ref a)])) rfl rfl (hb hby d8_19)
  have pre23 : ∀ t, own_s p e below T22 m 22 #[rv a, iv p1, iv p2, iv pp] [(.ref b)] t → Steps p.tables e below S0 t := fun tX kX => pre21 _ (st22 _ kX)
  have pre24 : ∀ t, own_s p e below T22 m 30 #[rv a, iv p1, iv p2, iv pp] [(.int (((p2.toUInt32 >>> ((16 : Int32) &&& 31).toUInt32).toInt32).toInt8.toInt32)), (.int (pp + (1 : Int32))), (.ref b)] t → Steps p.tables e below S0 t := by
    intro tX kX
    refine pre23 _ ?_
    show own_s p e below T22 m 22 #[rv a, iv p1, iv p2, iv pp] [(.ref b)] _
    refine XS.iloadN X22.here hx rfl (hb hby d8_22) rfl ?_
    show own_s p e below T22 m 23 #[rv a, iv p1, iv p2, iv pp] [(.int pp), (.ref b)] _
    refine XS.iconst X22.here hx rfl (hb hby d8_23) ?_
    show own_s p e below T22 m 24 #[rv a, iv p1, iv p2, iv pp] [(.int (1 : Int32)), (.int pp), (.ref b)] _
    refine XS.iadd X22.here hx rfl (hb hby d8_24) rfl ?_
    show own_s p e below T22 m 25 #[rv a, iv p1, iv p2, iv pp] [(.int (pp + (1 : Int32))), (.ref b)] _
    refine XS.iloadN X22.here hx rfl (hb hby d8_25) rfl ?_
    show own_s p e below T22 m 26 #[rv a, iv p1, iv p2, iv pp] [(.int p2), (.int (pp + (1 : Int32))), (.ref b)] _
    refine XS.bipush X22.here hx rfl (hb hby d8_26) ?_
    show own_s p e below T22 m 28 #[rv a, iv p1, iv p2, iv pp] [(.int (16 : Int32)), (.int p2), (.int (pp + (1 : Int32))), (.ref b)] _
    refine XS.iushr X22.here hx rfl (hb hby d8_28) rfl ?_
    show own_s p e below T22 m 29 #[rv a, iv p1, iv p2, iv pp] [(.int ((p2.toUInt32 >>> ((16 : Int32) &&& 31).toUInt32).toInt32)), (.int (pp + (1 : Int32))), (.ref b)] _
    refine XS.i2b X22.here hx rfl (hb hby d8_29) rfl ?_
    exact kX
  have ix1 : (pp + (1 : Int32)).toInt = pp.toInt + 1 := by have d1 := c_iadd pp 1; have d2 := rng32 (pp + 1); have d3 : (1 : Int32).toInt = 1 := rfl; omega
  obtain ⟨cl25, Ar25, S25, M25, H25⟩ := id fS20
  obtain ⟨T26, h26, X26, e26, W26, st26⟩ := stB X22 hx hZ e22 Ar25 (j := (pp + (1 : Int32))) (own_inb S25 M25 (own_idx (by omega) (by omega))) (g := (mkF m 30 #[rv a, iv p1, iv p2, iv pp] [(.int (((p2.toUInt32 >>> ((16 : Int32) &&& 31).toUInt32).toInt32).toInt8.toInt32)), (.int (pp + (1 : Int32))), (.ref b)])) rfl rfl (hb hby d8_30)
  have pre27 : ∀ t, own_s p e below T26 m 31 #[rv a, iv p1, iv p2, iv pp] [] t → Steps p.tables e below S0 t := fun tX kX => pre24 _ (st26 _ kX)
  obtain ⟨LL28, X28, N28⟩ : ∃ LL, Stand p l e ({ frames := 0, cells := 0, slots := 0, locals := 0 } : Room) s m #[(.ref a), (.int p1), (.int p2)] below meth c T26 LL 0 0 ∧ Fr n0 LL := ⟨_, X26, Fr.snoc X26 N12 g_b⟩
  have f29_E : Exa Z h26 a "com/example/farcall/farcall/io/XdrEncoder" := f13_E.wr W26
  have f30_F : Fld Z h26 a "com/example/farcall/farcall/io/XdrEncoder" "buffer" "[B" (.ref b) := f14_F.other W26 (Or.inl ne_ab)
  have f31_F : Fld Z h26 a "com/example/farcall/farcall/io/XdrEncoder" "start" "I" (.int (Int32.ofNat S)) := f15_F.other W26 (Or.inl ne_ab)
  have f32_F : Fld Z h26 a "com/example/farcall/farcall/io/XdrEncoder" "end" "I" (.int (Int32.ofNat E)) := f16_F.other W26 (Or.inl ne_ab)
  have Z33 : n0 ≤ h26.size := Nat.le_trans Z17 (Keep.of_wr W26).1
  have K34 : Keep h0 h26 [b] := K18.wr W26 (Or.inl (List.mem_of_getElem? (i := 0) rfl))
  have f35_A : own_Af Z h26 b .byte 64 (own_up (fun j => .int ((own_upi g (S + O) (own_by p2 0)) j)) (pp + (1 : Int32)).toNatClampNeg (.int (nar .byte (((p2.toUInt32 >>> ((16 : Int32) &&& 31).toUInt32).toInt32).toInt8.toInt32)))) := own_Af.set Ar25 S25 M25 H25 W26
  have fS36 : own_Af Z h26 b .byte 64 (fun j => .int ((own_upi (own_upi g (S + O) (own_by p2 0)) (S + O + 1) (own_by p2 1)) j)) := by
    have q := f35_A
    rw [show (pp + (1 : Int32)).toNatClampNeg = (S + O + 1) from own_nat (by have d1 := c_iadd pp 1; have d2 := rng32 (pp + 1); have d3 : (1 : Int32).toInt = 1 := rfl; omega), own_nn, own_upI] at q
    exact q
  have pre37 : ∀ t, own_s p e below T26 m 32 #[rv a, iv p1, iv p2, iv pp] [(.ref a)] t → Steps p.tables e below S0 t := by
    intro tX kX
    refine pre27 _ ?_
    show own_s p e below T26 m 31 #[rv a, iv p1, iv p2, iv pp] [] _
    refine XS.aloadN X28.here hx rfl (hb hby d8_31) rfl rfl ?_
    exact kX
  obtain ⟨T38, X38, e38, st38⟩ := getF X28 hx hZ hown (host := "") (Or.inl (hw _ (List.mem_of_getElem? (i := 12) rfl))) Via.refl e26 f30_F (g := (mkF m 32 #[rv a, iv p1, iv p2, iv pp] [(.ref a)])) rfl rfl (hb hby d8_32)
  have pre39 : ∀ t, own_s p e below T38 m 35 #[rv a, iv p1, iv p2, iv pp] [(.ref b)] t → Steps p.tables e below S0 t := fun tX kX => pre37 _ (st38 _ kX)
  have pre40 : ∀ t, own_s p e below T38 m 43 #[rv a, iv p1, iv p2, iv pp] [(.int (((p2.toUInt32 >>> ((8 : Int32) &&& 31).toUInt32).toInt32).toInt8.toInt32)), (.int (pp + (2 : Int32))), (.ref b)] t → Steps p.tables e below S0 t := by
    intro tX kX
    refine pre39 _ ?_
    show own_s p e below T38 m 35 #[rv a, iv p1, iv p2, iv pp] [(.ref b)] _
    refine XS.iloadN X38.here hx rfl (hb hby d8_35) rfl ?_
    show own_s p e below T38 m 36 #[rv a, iv p1, iv p2, iv pp] [(.int pp), (.ref b)] _
    refine XS.iconst X38.here hx rfl (hb hby d8_36) ?_
    show own_s p e below T38 m 37 #[rv a, iv p1, iv p2, iv pp] [(.int (2 : Int32)), (.int pp), (.ref b)] _
    refine XS.iadd X38.here hx rfl (hb hby d8_37) rfl ?_
    show own_s p e below T38 m 38 #[rv a, iv p1, iv p2, iv pp] [(.int (pp + (2 : Int32))), (.ref b)] _
    refine XS.iloadN X38.here hx rfl (hb hby d8_38) rfl ?_
    show own_s p e below T38 m 39 #[rv a, iv p1, iv p2, iv pp] [(.int p2), (.int (pp + (2 : Int32))), (.ref b)] _
    refine XS.bipush X38.here hx rfl (hb hby d8_39) ?_
    show own_s p e below T38 m 41 #[rv a, iv p1, iv p2, iv pp] [(.int (8 : Int32)), (.int p2), (.int (pp + (2 : Int32))), (.ref b)] _
    refine XS.iushr X38.here hx rfl (hb hby d8_41) rfl ?_
    show own_s p e below T38 m 42 #[rv a, iv p1, iv p2, iv pp] [(.int ((p2.toUInt32 >>> ((8 : Int32) &&& 31).toUInt32).toInt32)), (.int (pp + (2 : Int32))), (.ref b)] _
    refine XS.i2b X38.here hx rfl (hb hby d8_42) rfl ?_
    exact kX
  have ix2 : (pp + (2 : Int32)).toInt = pp.toInt + 2 := by have d1 := c_iadd pp 2; have d2 := rng32 (pp + 2); have d3 : (2 : Int32).toInt = 2 := rfl; omega
  obtain ⟨cl41, Ar41, S41, M41, H41⟩ := id fS36
  obtain ⟨T42, h42, X42, e42, W42, st42⟩ := stB X38 hx hZ e38 Ar41 (j := (pp + (2 : Int32))) (own_inb S41 M41 (own_idx (by omega) (by omega))) (g := (mkF m 43 #[rv a, iv p1, iv p2, iv pp] [(.int (((p2.toUInt32 >>> ((8 : Int32) &&& 31).toUInt32).toInt32).toInt8.toInt32)), (.int (pp + (2 : Int32))), (.ref b)])) rfl rfl (hb hby d8_43)
  have pre43 : ∀ t, own_s p e below T42 m 44 #[rv a, iv p1, iv p2, iv pp] [] t → Steps p.tables e below S0 t := fun tX kX => pre40 _ (st42 _ kX)
  obtain ⟨LL44, X44, N44⟩ : ∃ LL, Stand p l e ({ frames := 0, cells := 0, slots := 0, locals := 0 } : Room) s m #[(.ref a), (.int p1), (.int p2)] below meth c T42 LL 0 0 ∧ Fr n0 LL := ⟨_, X42, Fr.snoc X42 N28 g_b⟩
  have f45_E : Exa Z h42 a "com/example/farcall/farcall/io/XdrEncoder" := f29_E.wr W42
  have f46_F : Fld Z h42 a "com/example/farcall/farcall/io/XdrEncoder" "buffer" "[B" (.ref b) := f30_F.other W42 (Or.inl ne_ab)
  have f47_F : Fld Z h42 a "com/example/farcall/farcall/io/XdrEncoder" "start" "I" (.int (Int32.ofNat S)) := f31_F.other W42 (Or.inl ne_ab)
  have f48_F : Fld Z h42 a "com/example/farcall/farcall/io/XdrEncoder" "end" "I" (.int (Int32.ofNat E)) := f32_F.other W42 (Or.inl ne_ab)
  have Z49 : n0 ≤ h42.size := Nat.le_trans Z33 (Keep.of_wr W42).1
  have K50 : Keep h0 h42 [b] := K34.wr W42 (Or.inl (List.mem_of_getElem? (i := 0) rfl))
  have f51_A : own_Af Z h42 b .byte 64 (own_up (fun j => .int ((own_upi (own_upi g (S + O) (own_by p2 0)) (S + O + 1) (own_by p2 1)) j)) (pp + (2 : Int32)).toNatClampNeg (.int (nar .byte (((p2.toUInt32 >>> ((8 : Int32) &&& 31).toUInt32).toInt32).toInt8.toInt32)))) := own_Af.set Ar41 S41 M41 H41 W42
  have fS52 : own_Af Z h42 b .byte 64 (fun j => .int ((own_upi (own_upi (own_upi g (S + O) (own_by p2 0)) (S + O + 1) (own_by p2 1)) (S + O + 2) (own_by p2 2)) j)) := by
    have q := f51_A
    rw [show (pp + (2 : Int32)).toNatClampNeg = (S + O + 2) from own_nat (by have d1 := c_iadd pp 2; have d2 := rng32 (pp + 2); have d3 : (2 : Int32).toInt = 2 := rfl; omega), own_nn, own_upI] at q
    exact q
  have pre53 : ∀ t, own_s p e below T42 m 45 #[rv a, iv p1, iv p2, iv pp] [(.ref a)] t → Steps p.tables e below S0 t := by
    intro tX kX
    refine pre43 _ ?_
    show own_s p e below T42 m 44 #[rv a, iv p1, iv p2, iv pp] [] _
    refine XS.aloadN X44.here hx rfl (hb hby d8_44) rfl rfl ?_
    exact kX
  obtain ⟨T54, X54, e54, st54⟩ := getF X44 hx hZ hown (host := "") (Or.inl (hw _ (List.mem_of_getElem? (i := 12) rfl))) Via.refl e42 f46_F (g := (mkF m 45 #[rv a, iv p1, iv p2, iv pp] [(.ref a)])) rfl rfl (hb hby d8_45)
  have pre55 : ∀ t, own_s p e below T54 m 48 #[rv a, iv p1, iv p2, iv pp] [(.ref b)] t → Steps p.tables e below S0 t := fun tX kX => pre53 _ (st54 _ kX)
  have pre56 : ∀ t, own_s p e below T54 m 53 #[rv a, iv p1, iv p2, iv pp] [(.int (p2.toInt8.toInt32)), (.int (pp + (3 : Int32))), (.ref b)] t → Steps p.tables e below S0 t := by
    intro tX kX
    refine pre55 _ ?_
    show own_s p e below T54 m 48 #[rv a, iv p1, iv p2, iv pp] [(.ref b)] _
    refine XS.iloadN X54.here hx rfl (hb hby d8_48) rfl ?_
    show own_s p e below T54 m 49 #[rv a, iv p1, iv p2, iv pp] [(.int pp), (.ref b)] _
    refine XS.iconst X54.here hx rfl (hb hby d8_49) ?_
    show own_s p e below T54 m 50 #[rv a, iv p1, iv p2, iv pp] [(.int (3 : Int32)), (.int pp), (.ref b)] _
    refine XS.iadd X54.here hx rfl (hb hby d8_50) rfl ?_
    show own_s p e below T54 m 51 #[rv a, iv p1, iv p2, iv pp] [(.int (pp + (3 : Int32))), (.ref b)] _
    refine XS.iloadN X54.here hx rfl (hb hby d8_51) rfl ?_
    show own_s p e below T54 m 52 #[rv a, iv p1, iv p2, iv pp] [(.int p2), (.int (pp + (3 : Int32))), (.ref b)] _
    refine XS.i2b X54.here hx rfl (hb hby d8_52) rfl ?_
    exact kX
  have ix3 : (pp + (3 : Int32)).toInt = pp.toInt + 3 := by have d1 := c_iadd pp 3; have d2 := rng32 (pp + 3); have d3 : (3 : Int32).toInt = 3 := rfl; omega
  obtain ⟨cl57, Ar57, S57, M57, H57⟩ := id fS52
  obtain ⟨T58, h58, X58, e58, W58, st58⟩ := stB X54 hx hZ e54 Ar57 (j := (pp + (3 : Int32))) (own_inb S57 M57 (own_idx (by omega) (by omega))) (g := (mkF m 53 #[rv a, iv p1, iv p2, iv pp] [(.int (p2.toInt8.toInt32)), (.int (pp + (3 : Int32))), (.ref b)])) rfl rfl (hb hby d8_53)
  have pre59 : ∀ t, own_s p e below T58 m 54 #[rv a, iv p1, iv p2, iv pp] [] t → Steps p.tables e below S0 t := fun tX kX => pre56 _ (st58 _ kX)
  obtain ⟨LL60, X60, N60⟩ : ∃ LL, Stand p l e ({ frames := 0, cells := 0, slots := 0, locals := 0 } : Room) s m #[(.ref a), (.int p1), (.int p2)] below meth c T58 LL 0 0 ∧ Fr n0 LL := ⟨_, X58, Fr.snoc X58 N44 g_b⟩
  have f61_E : Exa Z h58 a "com/example/farcall/farcall/io/XdrEncoder" := f45_E.wr W58
  have f62_F : Fld Z h58 a "com/example/farcall/farcall/io/XdrEncoder" "buffer" "[B" (.ref b) := f46_F.other W58 (Or.inl ne_ab)
  have f63_F : Fld Z h58 a "com/example/farcall/farcall/io/XdrEncoder" "start" "I" (.int (Int32.ofNat S)) := f47_F.other W58 (Or.inl ne_ab)
  have f64_F : Fld Z h58 a "com/example/farcall/farcall/io/XdrEncoder" "end" "I" (.int (Int32.ofNat E)) := f48_F.other W58 (Or.inl ne_ab)
  have Z65 : n0 ≤ h58.size := Nat.le_trans Z49 (Keep.of_wr W58).1
  have K66 : Keep h0 h58 [b] := K50.wr W58 (Or.inl (List.mem_of_getElem? (i := 0) rfl))
  have f67_A : own_Af Z h58 b .byte 64 (own_up (fun j => .int ((own_upi (own_upi (own_upi g (S + O) (own_by p2 0)) (S + O + 1) (own_by p2 1)) (S + O + 2) (own_by p2 2)) j)) (pp + (3 : Int32)).toNatClampNeg (.int (nar .byte (p2.toInt8.toInt32)))) := own_Af.set Ar57 S57 M57 H57 W58
  have fS68 : own_Af Z h58 b .byte 64 (fun j => .int ((own_upi (own_upi (own_upi (own_upi g (S + O) (own_by p2 0)) (S + O + 1) (own_by p2 1)) (S + O + 2) (own_by p2 2)) (S + O + 3) (own_by p2 3)) j)) := by
    have q := f67_A
    rw [show (pp + (3 : Int32)).toNatClampNeg = (S + O + 3) from own_nat (by have d1 := c_iadd pp 3; have d2 := rng32 (pp + 3); have d3 : (3 : Int32).toInt = 3 := rfl; omega), own_nn, own_upI] at q
    exact q
  subst hS0
  obtain ⟨fs, hr, hrun, hended, hW, hsame⟩ := X60.leave (v := none) (fun _ => rfl)
  refine ⟨_, _, pre59 _ (X60.returnOut hx Bd.returns (hb hby d8_54) hr), hrun, hended, _, _, rfl, ?_, ⟨_, rfl⟩, hW, hsame.mono (by decide) (by decide)⟩
  show Q8 Z a p1 p2 b g S E O h0 n0 none T58.heap _
  rw [e58]
  exact ⟨rfl, N60, K66, f61_E, f62_F, f63_F, f64_F, fS68, ne_ab, own_fput fg _ _, g_a, g_b⟩
theorem d9_0 : decode prog_43_method_2_code 0 = .ok (.aload_n 0, 1) := by decide +kernel
theorem d9_1 : decode prog_43_method_2_code 1 = .ok (.iconst 4, 1) := by decide +kernel
theorem d9_2 : decode prog_43_method_2_code 2 = .ok (.invokevirtual 15, 3) := by decide +kernel
theorem d9_5 : decode prog_43_method_2_code 5 = .ok (.aload_n 0, 1) := by decide +kernel
theorem d9_6 : decode prog_43_method_2_code 6 = .ok (.dup, 1) := by decide +kernel
theorem d9_7 : decode prog_43_method_2_code 7 = .ok (.getfield 19, 3) := by decide +kernel
theorem d9_10 : decode prog_43_method_2_code 10 = .ok (.iconst 4, 1) := by decide +kernel
theorem d9_11 : decode prog_43_method_2_code 11 = .ok (.iadd, 1) := by decide +kernel
theorem d9_12 : decode prog_43_method_2_code 12 = .ok (.putfield 19, 3) := by decide +kernel
theorem d9_15 : decode prog_43_method_2_code 15 = .ok (.aload_n 0, 1) := by decide +kernel
theorem d9_16 : decode prog_43_method_2_code 16 = .ok (.aload_n 0, 1) := by decide +kernel
theorem d9_17 : decode prog_43_method_2_code 17 = .ok (.invokevirtual 23, 3) := by decide +kernel
theorem d9_20 : decode prog_43_method_2_code 20 = .ok (.iconst 4, 1) := by decide +kernel
theorem d9_21 : decode prog_43_method_2_code 21 = .ok (.isub, 1) := by decide +kernel
theorem d9_22 : decode prog_43_method_2_code 22 = .ok (.iload_n 1, 1) := by decide +kernel
theorem d9_23 : decode prog_43_method_2_code 23 = .ok (.invokevirtual 27, 3) := by decide +kernel
theorem d9_26 : decode prog_43_method_2_code 26 = .ok (.aload_n 0, 1) := by decide +kernel
theorem d9_27 : decode prog_43_method_2_code 27 = .ok (.areturn, 1) := by decide +kernel
theorem pn_9 : plainName "com/example/farcall/farcall/io/XdrEncoder" = true := by first | (simp [plainName, overriddenIn]; done) | decide +kernel
theorem pd9_0 : parseMethodDescriptor "(I)V" = some ⟨[.int], none⟩ := by decide +kernel
theorem pd9_1 : parseMethodDescriptor "()I" = some ⟨[], some .int⟩ := by decide +kernel
theorem pd9_2 : parseMethodDescriptor "(II)V" = some ⟨[.int, .int], none⟩ := by decide +kernel
theorem ef_9 (m : MethodId) (a : Addr) (p1 : Int32) : entryFrame m #[(.ref a), (.int p1)] 2 = mkF m 0 #[rv a, iv p1] [] := by first | (simp [entryFrame, mkF, argsToLocals, Value.category]; done) | rfl
def Q9 (Z : State) (a : Addr) (p1 : Int32) (b : Addr) (g : Nat → Int32) (S : Nat) (E : Nat) (h0 : Heap) (n0 : Nat) (v : Option Value) (h : Heap) (L : List Loc) : Prop := v = some (.ref a) ∧ Fr n0 L ∧ Keep h0 h [a, b] ∧ Exa Z h a "com/example/farcall/farcall/io/XdrEncoder" ∧ Fld Z h a "com/example/farcall/farcall/io/XdrEncoder" "buffer" "[B" (.ref b) ∧ Fld Z h a "com/example/farcall/farcall/io/XdrEncoder" "start" "I" (.int (Int32.ofNat S)) ∧ Fld Z h a "com/example/farcall/farcall/io/XdrEncoder" "end" "I" (.int (Int32.ofNat (E + 4))) ∧ own_Af Z h b .byte 64 (fun j => .int ((own_put g E p1) j)) ∧ a ≠ b ∧ (∀ j, fits .byte (.int ((own_put g E p1) j)) = true) ∧ n0 ≤ a ∧ n0 ≤ b
set_option maxRecDepth 65536 in
set_option maxHeartbeats 40000000 in
theorem rm9 (l : Launch) (Z : State) (a0 : Array Value) (hw : ∀ d ∈ tables_1, d.before a0 Z = true) (ws : List Jvm.Cond) (a : Addr) (p1 : Int32) (b : Addr) (g : Nat → Int32) (S : Nat) (E : Nat) (h0 : Heap) (n0 : Nat) (Z0 : n0 ≤ h0.size) (E_a : Exa Z h0 a "com/example/farcall/farcall/io/XdrEncoder") (F_buf : Fld Z h0 a "com/example/farcall/farcall/io/XdrEncoder" "buffer" "[B" (.ref b)) (F_sta : Fld Z h0 a "com/example/farcall/farcall/io/XdrEncoder" "start" "I" (.int (Int32.ofNat S))) (F_end : Fld Z h0 a "com/example/farcall/farcall/io/XdrEncoder" "end" "I" (.int (Int32.ofNat E))) (A_b : own_Af Z h0 b .byte 64 (fun j => .int (g j))) (ne_ab : a ≠ b) (fg : (∀ j, fits .byte (.int (g j)) = true)) (g_a : n0 ≤ a) (g_b : n0 ≤ b) (hS : S ≤ E) (hE : E + 4 ≤ 64) :
    MetFree l (⟨"com/example/farcall/farcall/io/XdrEncoder", "writeInt", "(I)Lcom/example/farcall/farcall/io/XdrEncoder;"⟩ : MethodName) (head1 (Jvm.Cond.code (⟨"com/example/farcall/farcall/io/XdrEncoder", "writeInt", "(I)Lcom/example/farcall/farcall/io/XdrEncoder;"⟩ : MethodName) prog_43_method_2_code 2 (some (.object "com/example/farcall/farcall/io/XdrEncoder")) :: ws) ({ frames := 1, cells := 0, slots := 0, locals := 20 } : Room)) (fun aX UX => aX = #[(.ref a), (.int p1)] ∧ Z.Warmed39 UX.vm ∧ UX.heap = h0) (fun _ _ _ _ _ => True) (fun _ UX oX UY => ∃ vX LX, oX = .returned vX ∧ Q9 Z a p1 b g S E h0 n0 vX UY.heap LX ∧ FrameEnd UX oX UY LX ({ frames := 1, cells := 0, slots := 0, locals := 20 } : Room).cells ({ frames := 1, cells := 0, slots := 0, locals := 20 } : Room).slots) := by
  refine MetFree.of_bodySF (plainFor_of_name pn_9) hisR ?_
  intro p e s m args below meth c s₁ Bd hml0 hPX hKX
  obtain ⟨rfl, hZ, hh⟩ := hPX
  have hx := Bd.exec
  have hby := Bd.bytes
  have hml : c.maxLocals = 2 := hml0
  have hown : s.vm.findClass "com/example/farcall/farcall/io/XdrEncoder" = some m.cls := findClass_of_methodNamed Bd.named
  have hnm := (name_of_methodNamed Bd.named Bd.method).1
  have X0 : Stand p l e ({ frames := 1, cells := 0, slots := 0, locals := 20 } : Room) s m #[(.ref a), (.int p1)] below meth c s₁ [] 0 0 := Stand.of_body Bd
  have e0 : s₁.heap = h0 := by rw [← hh, Bd.state]; rfl
  have N0 := Fr.nil n0
  have pre0 : ∀ t, Steps p.tables e below (s₁.setTop (mkF m 0 #[rv a, iv p1] [])) t → Steps p.tables e below (s₁.setTop (entryFrame m #[(.ref a), (.int p1)] 2)) t := fun t k => castTop (ef_9 m a p1) k
  obtain ⟨S0, hS0⟩ : ∃ z, z = (s₁.setTop (entryFrame m #[(.ref a), (.int p1)] 2)) := ⟨_, rfl⟩
  rw [← hS0] at pre0
  have K0 : Keep h0 h0 [a, b] := Keep.refl h0 _
  have pre1 : ∀ t, own_s p e below s₁ m 2 #[rv a, iv p1] [(.int (4 : Int32)), (.ref a)] t → Steps p.tables e below S0 t := by
    intro tX kX
    refine pre0 _ ?_
    show own_s p e below s₁ m 0 #[rv a, iv p1] [] _
    refine XS.aloadN X0.here hx rfl (hb hby d9_0) rfl rfl ?_
    show own_s p e below s₁ m 1 #[rv a, iv p1] [(.ref a)] _
    refine XS.iconst X0.here hx rfl (hb hby d9_1) ?_
    exact kX
  obtain ⟨cq2, q2, q2'⟩ := E_a.cell
  obtain ⟨_, _, ⟨T2, L2, k2, n2⟩, -, X2, ⟨Lc2, hQ2, l2, y2, z2⟩, st2⟩ := X0.privateBack hx (y := (⟨"com/example/farcall/farcall/io/XdrEncoder", "ensureRoom", "(I)V"⟩ : MethodName)) hown (mvT hZ (hw _ (List.mem_of_getElem? (i := 19) rfl))) (mvT hZ (hw _ (List.mem_of_getElem? (i := 20) rfl))) (own_selP (mvT hZ (hw _ (List.mem_of_getElem? (i := 3) rfl))) (Cond.privateMethod_at (mvP hZ (hw _ (List.mem_of_getElem? (i := 21) rfl)) (args := #[]))) (mvT hZ (hw _ (List.mem_of_getElem? (i := 20) rfl))) (by decide)) (Cond.privateMethod_at (mvP hZ (hw _ (List.mem_of_getElem? (i := 21) rfl)) (args := #[]))) (mvT hZ (hw _ (List.mem_of_getElem? (i := 22) rfl))) (by decide) (backOf (W := 0) (rm7 l Z a0 hw [] a (4 : Int32) b (g) S E h0 n0 Z0 E_a F_buf F_sta F_end A_b ne_ab fg g_a g_b rfl hE) hZ (hw _ (List.mem_of_getElem? (i := 22) rfl)) (hw _ (List.mem_of_getElem? (i := 4) rfl)) (by decide) (by decide)) (g := (mkF m 2 #[rv a, iv p1] [(.int (4 : Int32)), (.ref a)])) rfl (by rw [hml]; rfl) (Steps.refl _) (a := a) (by rw [e0]; exact q2) q2' (argsL := [(.int (4 : Int32))]) (rest := []) (lenOf pd9_0 rfl) rfl (by show 2 * 0 + _ ≤ _; exact Nat.le_of_eq rfl) (hb hby d9_2) (fun _ _ => ⟨rfl, e0, (by decide : 0 + 0 ≤ _), (by decide : 0 + 0 ≤ _)⟩)
  dsimp only [Pt.U, Pt.locs, Pt.cells, Pt.slots] at X2 l2 y2 z2 st2 hQ2
  subst l2 y2 z2
  obtain ⟨rfl, Nq2, e2⟩ := hQ2
  have N2 := Fr.app N0 Nq2
  obtain ⟨LL3, X3, N3⟩ : ∃ LL, Stand p l e ({ frames := 1, cells := 0, slots := 0, locals := 20 } : Room) s m #[(.ref a), (.int p1)] below meth c T2 LL 0 0 ∧ Fr n0 LL := ⟨_, X2, N2⟩
  have pre4 : ∀ t, own_s p e below T2 m 5 #[rv a, iv p1] [] t → Steps p.tables e below S0 t := fun tX kX => pre1 _ (st2.trans kX)
  have pre5 : ∀ t, own_s p e below T2 m 7 #[rv a, iv p1] [(.ref a), (.ref a)] t → Steps p.tables e below S0 t := by
    intro tX kX
    refine pre4 _ ?_
    show own_s p e below T2 m 5 #[rv a, iv p1] [] _
    refine XS.aloadN X3.here hx rfl (hb hby d9_5) rfl rfl ?_
    show own_s p e below T2 m 6 #[rv a, iv p1] [(.ref a)] _
    refine XS.dup X3.here hx rfl (hb hby d9_6) rfl rfl ?_
    exact kX
  obtain ⟨T6, X6, e6, st6⟩ := getF X3 hx hZ hown (host := "") (Or.inl (hw _ (List.mem_of_getElem? (i := 23) rfl))) Via.refl e2 F_end (g := (mkF m 7 #[rv a, iv p1] [(.ref a), (.ref a)])) rfl rfl (hb hby d9_7)
  have pre7 : ∀ t, own_s p e below T6 m 10 #[rv a, iv p1] [(.int (Int32.ofNat E)), (.ref a)] t → Steps p.tables e below S0 t := fun tX kX => pre5 _ (st6 _ kX)
  have pre8 : ∀ t, own_s p e below T6 m 12 #[rv a, iv p1] [(.int ((Int32.ofNat E) + (4 : Int32))), (.ref a)] t → Steps p.tables e below S0 t := by
    intro tX kX
    refine pre7 _ ?_
    show own_s p e below T6 m 10 #[rv a, iv p1] [(.int (Int32.ofNat E)), (.ref a)] _
    refine XS.iconst X6.here hx rfl (hb hby d9_10) ?_
    show own_s p e below T6 m 11 #[rv a, iv p1] [(.int (4 : Int32)), (.int (Int32.ofNat E)), (.ref a)] _
    refine XS.iadd X6.here hx rfl (hb hby d9_11) rfl ?_
    exact kX
  rw [show ((Int32.ofNat E) + (4 : Int32)) = (Int32.ofNat (E + 4)) from own_of (by omega) (by have d1 := c_iadd (Int32.ofNat E) 4; have d2 := rng32 (Int32.ofNat E + 4); have d3 : (4 : Int32).toInt = 4 := rfl; have d4 : (Int32.ofNat E).toInt = E := own_ofn (by omega); omega)] at pre8
  obtain ⟨T9, h9, X9, e9, W9, st9⟩ := putF X6 hx hZ hown (host := "") (Or.inl (hw _ (List.mem_of_getElem? (i := 23) rfl))) Via.refl e6 F_end E_a (Or.inl (hw _ (List.mem_of_getElem? (i := 24) rfl))) (hw _ (List.mem_of_getElem? (i := 3) rfl)) (ty := .int) (by decide) rfl rfl (g := (mkF m 12 #[rv a, iv p1] [(.int (Int32.ofNat (E + 4))), (.ref a)])) rfl rfl (hb hby d9_12)
  have pre10 : ∀ t, own_s p e below T9 m 15 #[rv a, iv p1] [] t → Steps p.tables e below S0 t := fun tX kX => pre8 _ (st9 _ kX)
  obtain ⟨LL11, X11, N11⟩ : ∃ LL, Stand p l e ({ frames := 1, cells := 0, slots := 0, locals := 20 } : Room) s m #[(.ref a), (.int p1)] below meth c T9 LL 0 0 ∧ Fr n0 LL := ⟨_, X9, Fr.snoc X9 N3 g_a⟩
  have f12_E : Exa Z h9 a "com/example/farcall/farcall/io/XdrEncoder" := E_a.wr W9
  have f13_F : Fld Z h9 a "com/example/farcall/farcall/io/XdrEncoder" "buffer" "[B" (.ref b) := F_buf.other W9 (Or.inr (slot_ne (Or.inl (hw _ (List.mem_of_getElem? (i := 13) rfl))) (Or.inl (hw _ (List.mem_of_getElem? (i := 24) rfl))) (by decide) (t := (.array .byte)) (t' := .int) (by decide) (by decide)))
  have f14_F : Fld Z h9 a "com/example/farcall/farcall/io/XdrEncoder" "start" "I" (.int (Int32.ofNat S)) := F_sta.other W9 (Or.inr (slot_ne (Or.inl (hw _ (List.mem_of_getElem? (i := 31) rfl))) (Or.inl (hw _ (List.mem_of_getElem? (i := 24) rfl))) (by decide) (t := .int) (t' := .int) (by decide) (by decide)))
  have f15_A : own_Af Z h9 b .byte 64 (fun j => .int (g j)) := A_b.other W9 (Ne.symm ne_ab)
  have Z16 : n0 ≤ h9.size := Nat.le_trans Z0 (Keep.of_wr W9).1
  have K17 : Keep h0 h9 [a, b] := K0.wr W9 (Or.inl (List.mem_of_getElem? (i := 0) rfl))
  have f18_F : Fld Z h9 a "com/example/farcall/farcall/io/XdrEncoder" "end" "I" (.int (Int32.ofNat (E + 4))) := F_end.same W9
  have pre19 : ∀ t, own_s p e below T9 m 17 #[rv a, iv p1] [(.ref a), (.ref a)] t → Steps p.tables e below S0 t := by
    intro tX kX
    refine pre10 _ ?_
    show own_s p e below T9 m 15 #[rv a, iv p1] [] _
    refine XS.aloadN X11.here hx rfl (hb hby d9_15) rfl rfl ?_
    show own_s p e below T9 m 16 #[rv a, iv p1] [(.ref a)] _
    refine XS.aloadN X11.here hx rfl (hb hby d9_16) rfl rfl ?_
    exact kX
  obtain ⟨cq20, kq20, q20a, q20b, q20c⟩ := isOf hZ e9 f12_E
  obtain ⟨_, _, ⟨T20, L20, k20, n20⟩, -, X20, ⟨Lc20, hQ20, l20, y20, z20⟩, st20⟩ := X11.virtualBack hx (y := (⟨"com/example/farcall/farcall/io/XdrEncoder", "size", "()I"⟩ : MethodName)) (z := (⟨"com/example/farcall/farcall/io/XdrEncoder", "size", "()I"⟩ : MethodName)) hown (mvT hZ (hw _ (List.mem_of_getElem? (i := 25) rfl))) (mvT hZ (hw _ (List.mem_of_getElem? (i := 26) rfl))) (notFace_of_selects (args := #[]) (mvT hZ (hw _ (List.mem_of_getElem? (i := 28) rfl)))) (mvT hZ (hw _ (List.mem_of_getElem? (i := 28) rfl))) (mvT hZ (hw _ (List.mem_of_getElem? (i := 27) rfl))) (by decide) (backOf (W := 1) (rm6 l Z a0 hw [] a b (g) S (E + 4) h9 n0 Z16 f12_E f13_F f14_F f18_F f15_A ne_ab fg g_a g_b (by omega) (by omega)) hZ (hw _ (List.mem_of_getElem? (i := 29) rfl)) (hw _ (List.mem_of_getElem? (i := 4) rfl)) (by decide) (by decide)) q20a q20c (g := (mkF m 17 #[rv a, iv p1] [(.ref a), (.ref a)])) rfl (by rw [hml]; rfl) (Steps.refl _) (argsL := []) (rest := [(.ref a)]) (lenOf pd9_1 rfl) rfl (by show 2 * 0 + _ ≤ _; exact Nat.le_of_eq rfl) (hb hby d9_17) (fun _ _ => ⟨rfl, e9, (by decide : 0 + 0 ≤ _), (by decide : 0 + 0 ≤ _)⟩)
  dsimp only [Pt.U, Pt.locs, Pt.cells, Pt.slots] at X20 l20 y20 z20 st20 hQ20
  subst l20 y20 z20
  obtain ⟨rfl, Nq20, e20⟩ := hQ20
  have N20 := Fr.app N11 Nq20
  obtain ⟨LL21, X21, N21⟩ : ∃ LL, Stand p l e ({ frames := 1, cells := 0, slots := 0, locals := 20 } : Room) s m #[(.ref a), (.int p1)] below meth c T20 LL 0 0 ∧ Fr n0 LL := ⟨_, X20, N20⟩
  have pre22 : ∀ t, own_s p e below T20 m 20 #[rv a, iv p1] [(.int (Int32.ofNat ((E + 4) - S))), (.ref a)] t → Steps p.tables e below S0 t := fun tX kX => pre19 _ (st20.trans kX)
  have pre23 : ∀ t, own_s p e below T20 m 22 #[rv a, iv p1] [(.int ((Int32.ofNat ((E + 4) - S)) - (4 : Int32))), (.ref a)] t → Steps p.tables e below S0 t := by
    intro tX kX
    refine pre22 _ ?_
    show own_s p e below T20 m 20 #[rv a, iv p1] [(.int (Int32.ofNat ((E + 4) - S))), (.ref a)] _
    refine XS.iconst X21.here hx rfl (hb hby d9_20) ?_
    show own_s p e below T20 m 21 #[rv a, iv p1] [(.int (4 : Int32)), (.int (Int32.ofNat ((E + 4) - S))), (.ref a)] _
    refine XS.isub X21.here hx rfl (hb hby d9_21) rfl ?_
    exact kX
  rw [show ((Int32.ofNat ((E + 4) - S)) - (4 : Int32)) = (Int32.ofNat (E - S)) from own_of (by omega) (by have d1 := c_isub (Int32.ofNat (E + 4 - S)) 4; have d2 := rng32 (Int32.ofNat (E + 4 - S) - 4); have d3 : (4 : Int32).toInt = 4 := rfl; have d4 : (Int32.ofNat (E + 4 - S)).toInt = ((E + 4 - S : Nat) : Int) := own_ofn (by omega); omega)] at pre23
  have pre24 : ∀ t, own_s p e below T20 m 23 #[rv a, iv p1] [(.int p1), (.int (Int32.ofNat (E - S))), (.ref a)] t → Steps p.tables e below S0 t := by
    intro tX kX
    refine pre23 _ ?_
    show own_s p e below T20 m 22 #[rv a, iv p1] [(.int (Int32.ofNat (E - S))), (.ref a)] _
    refine XS.iloadN X21.here hx rfl (hb hby d9_22) rfl ?_
    exact kX
  obtain ⟨cq25, kq25, q25a, q25b, q25c⟩ := isOf hZ e20 f12_E
  obtain ⟨_, _, ⟨T25, L25, k25, n25⟩, -, X25, ⟨Lc25, hQ25, l25, y25, z25⟩, st25⟩ := X21.virtualBack hx (y := (⟨"com/example/farcall/farcall/io/XdrEncoder", "setInt", "(II)V"⟩ : MethodName)) (z := (⟨"com/example/farcall/farcall/io/XdrEncoder", "setInt", "(II)V"⟩ : MethodName)) hown (mvT hZ (hw _ (List.mem_of_getElem? (i := 32) rfl))) (mvT hZ (hw _ (List.mem_of_getElem? (i := 33) rfl))) (notFace_of_selects (args := #[]) (mvT hZ (hw _ (List.mem_of_getElem? (i := 35) rfl)))) (mvT hZ (hw _ (List.mem_of_getElem? (i := 35) rfl))) (mvT hZ (hw _ (List.mem_of_getElem? (i := 34) rfl))) (by decide) (backOf (W := 0) (rm8 l Z a0 hw [] a (Int32.ofNat (E - S)) p1 b (g) S (E + 4) (E - S) h9 n0 Z16 f12_E f13_F f14_F f18_F f15_A ne_ab fg g_a g_b rfl (by omega)) hZ (hw _ (List.mem_of_getElem? (i := 36) rfl)) (hw _ (List.mem_of_getElem? (i := 4) rfl)) (by decide) (by decide)) q25a q25c (g := (mkF m 23 #[rv a, iv p1] [(.int p1), (.int (Int32.ofNat (E - S))), (.ref a)])) rfl (by rw [hml]; rfl) (Steps.refl _) (argsL := [(.int (Int32.ofNat (E - S))), (.int p1)]) (rest := []) (lenOf pd9_2 rfl) rfl (by show 2 * 0 + _ ≤ _; exact Nat.le_of_eq rfl) (hb hby d9_23) (fun _ _ => ⟨rfl, e20, (by decide : 0 + 0 ≤ _), (by decide : 0 + 0 ≤ _)⟩)
  dsimp only [Pt.U, Pt.locs, Pt.cells, Pt.slots] at X25 l25 y25 z25 st25 hQ25
  subst l25 y25 z25
  unfold Q8 at hQ25
  rw [show S + (E - S) = E from by omega] at hQ25
  obtain ⟨rfl, Nq25, Kq25, E_a25, F_buf25, F_sta25, F_end25, A_b25, ne_ab25, fg25, g_a25, g_b25⟩ := hQ25
  have N25 := Fr.app N21 Nq25
  have e25 : T25.heap = T25.heap := rfl
  have Z25 : n0 ≤ T25.heap.size := Nat.le_trans Z16 Kq25.1
  have K25 : Keep h0 T25.heap [a, b] := K17.trans Kq25 (allS (Or.inl (List.mem_of_getElem? (i := 1) rfl)) all0)
  obtain ⟨LL26, X26, N26⟩ : ∃ LL, Stand p l e ({ frames := 1, cells := 0, slots := 0, locals := 20 } : Room) s m #[(.ref a), (.int p1)] below meth c T25 LL 0 0 ∧ Fr n0 LL := ⟨_, X25, N25⟩
  have pre27 : ∀ t, own_s p e below T25 m 26 #[rv a, iv p1] [] t → Steps p.tables e below S0 t := fun tX kX => pre24 _ (st25.trans kX)
  have pre28 : ∀ t, own_s p e below T25 m 27 #[rv a, iv p1] [(.ref a)] t → Steps p.tables e below S0 t := by
    intro tX kX
    refine pre27 _ ?_
    show own_s p e below T25 m 26 #[rv a, iv p1] [] _
    refine XS.aloadN X26.here hx rfl (hb hby d9_26) rfl rfl ?_
    exact kX
  subst hS0
  obtain ⟨fs, hr, hrun, hended, hW, hsame⟩ := X26.leave (v := (some (.ref a))) (fun h => by rw [Bd.returns] at h; cases h)
  refine ⟨_, _, pre28 _ (retOut X26 hx Bd.returns (own_narR rfl) (Or.inr (Or.inr (Or.inr (Or.inr ⟨rfl, rfl, rfl⟩)))) (hb hby d9_27) hr), hrun, hended, _, _, rfl, ?_, ⟨_, rfl⟩, hW, hsame.mono (by decide) (by decide)⟩
  show Q9 Z a p1 b g S E h0 n0 (some (.ref a)) T25.heap _
  exact ⟨rfl, N26, K25, E_a25, F_buf25, F_sta25, F_end25, A_b25, ne_ab25, fg25, g_a, g_b⟩
theorem d10_0 : decode prog_43_method_22_code 0 = .ok (.aload_n 0, 1) := by decide +kernel
theorem d10_1 : decode prog_43_method_22_code 1 = .ok (.getfield 128, 3) := by decide +kernel
theorem d10_4 : decode prog_43_method_22_code 4 = .ok (.istore_n 1, 1) := by decide +kernel
theorem d10_5 : decode prog_43_method_22_code 5 = .ok (.aload_n 0, 1) := by decide +kernel
theorem d10_6 : decode prog_43_method_22_code 6 = .ok (.aload_n 0, 1) := by decide +kernel
theorem d10_7 : decode prog_43_method_22_code 7 = .ok (.getfield 19, 3) := by decide +kernel
theorem d10_10 : decode prog_43_method_22_code 10 = .ok (.putfield 128, 3) := by decide +kernel
theorem d10_13 : decode prog_43_method_22_code 13 = .ok (.iload_n 1, 1) := by decide +kernel
theorem d10_14 : decode prog_43_method_22_code 14 = .ok (.ireturn, 1) := by decide +kernel
theorem pn_10 : plainName "com/example/farcall/farcall/io/XdrEncoder" = true := by first | (simp [plainName, overriddenIn]; done) | decide +kernel
theorem ef_10 (m : MethodId) (a : Addr) : entryFrame m #[(.ref a)] 2 = mkF m 0 #[rv a, .unset] [] := by first | (simp [entryFrame, mkF, argsToLocals, Value.category]; done) | rfl
def Q10 (Z : State) (a : Addr) (b : Addr) (g : Nat → Int32) (S : Nat) (E : Nat) (h0 : Heap) (n0 : Nat) (v : Option Value) (h : Heap) (L : List Loc) : Prop := v = some (.int (Int32.ofNat S)) ∧ Fr n0 L ∧ Keep h0 h [a] ∧ Exa Z h a "com/example/farcall/farcall/io/XdrEncoder" ∧ Fld Z h a "com/example/farcall/farcall/io/XdrEncoder" "buffer" "[B" (.ref b) ∧ Fld Z h a "com/example/farcall/farcall/io/XdrEncoder" "start" "I" (.int (Int32.ofNat E)) ∧ Fld Z h a "com/example/farcall/farcall/io/XdrEncoder" "end" "I" (.int (Int32.ofNat E)) ∧ own_Af Z h b .byte 64 (fun j => .int (g j)) ∧ a ≠ b ∧ (∀ j, fits .byte (.int (g j)) = true) ∧ n0 ≤ a ∧ n0 ≤ b
set_option maxRecDepth 65536 in
set_option maxHeartbeats 40000000 in
theorem rm10 (l : Launch) (Z : State) (a0 : Array Value) (hw : ∀ d ∈ tables_1, d.before a0 Z = true) (ws : List Jvm.Cond) (a : Addr) (b : Addr) (g : Nat → Int32) (S : Nat) (E : Nat) (h0 : Heap) (n0 : Nat) (Z0 : n0 ≤ h0.size) (E_a : Exa Z h0 a "com/example/farcall/farcall/io/XdrEncoder") (F_buf : Fld Z h0 a "com/example/farcall/farcall/io/XdrEncoder" "buffer" "[B" (.ref b)) (F_sta : Fld Z h0 a "com/example/farcall/farcall/io/XdrEncoder" "start" "I" (.int (Int32.ofNat S))) (F_end : Fld Z h0 a "com/example/farcall/farcall/io/XdrEncoder" "end" "I" (.int (Int32.ofNat E))) (A_b : own_Af Z h0 b .byte 64 (fun j => .int (g j))) (ne_ab : a ≠ b) (fg : (∀ j, fits .byte (.int (g j)) = true)) (g_a : n0 ≤ a) (g_b : n0 ≤ b) :
    MetFree l (⟨"com/example/farcall/farcall/io/XdrEncoder", "beginPart", "()I"⟩ : MethodName) (head1 (Jvm.Cond.code (⟨"com/example/farcall/farcall/io/XdrEncoder", "beginPart", "()I"⟩ : MethodName) prog_43_method_22_code 2 (some .int) :: ws) ({ frames := 0, cells := 0, slots := 0, locals := 0 } : Room)) (fun aX UX => aX = #[(.ref a)] ∧ Z.Warmed39 UX.vm ∧ UX.heap = h0) (fun _ _ _ _ _ => True) (fun _ UX oX UY => ∃ vX LX, oX = .returned vX ∧ Q10 Z a b g S E h0 n0 vX UY.heap LX ∧ FrameEnd UX oX UY LX ({ frames := 0, cells := 0, slots := 0, locals := 0 } : Room).cells ({ frames := 0, cells := 0, slots := 0, locals := 0 } : Room).slots) := by
  refine MetFree.of_bodySF (plainFor_of_name pn_10) hisR ?_
  intro p e s m args below meth c s₁ Bd hml0 hPX hKX
  obtain ⟨rfl, hZ, hh⟩ := hPX
  have hx := Bd.exec
  have hby := Bd.bytes
  have hml : c.maxLocals = 2 := hml0
  have hown : s.vm.findClass "com/example/farcall/farcall/io/XdrEncoder" = some m.cls := findClass_of_methodNamed Bd.named
  have hnm := (name_of_methodNamed Bd.named Bd.method).1
  have X0 : Stand p l e ({ frames := 0, cells := 0, slots := 0, locals := 0 } : Room) s m #[(.ref a)] below meth c s₁ [] 0 0 := Stand.of_body Bd
  have e0 : s₁.heap = h0 := by rw [← hh, Bd.state]; rfl
  have N0 := Fr.nil n0
  have pre0 : ∀ t, Steps p.tables e below (s₁.setTop (mkF m 0 #[rv a, .unset] [])) t → Steps p.tables e below (s₁.setTop (entryFrame m #[(.ref a)] 2)) t := fun t k => castTop (ef_10 m a) k
  obtain ⟨S0, hS0⟩ : ∃ z, z = (s₁.setTop (entryFrame m #[(.ref a)] 2)) := ⟨_, rfl⟩
  rw [← hS0] at pre0
  have K0 : Keep h0 h0 [a] := Keep.refl h0 _
  have pre1 : ∀ t, own_s p e below s₁ m 1 #[rv a, .unset] [(.ref a)] t → Steps p.tables e below S0 t := by
    intro tX kX
    refine pre0 _ ?_
    show own_s p e below s₁ m 0 #[rv a, .unset] [] _
    refine XS.aloadN X0.here hx rfl (hb hby d10_0) rfl rfl ?_
    exact kX
  obtain ⟨T2, X2, e2, st2⟩ := getF X0 hx hZ hown (host := "") (Or.inl (hw _ (List.mem_of_getElem? (i := 30) rfl))) Via.refl e0 F_sta (g := (mkF m 1 #[rv a, .unset] [(.ref a)])) rfl rfl (hb hby d10_1)
  have pre3 : ∀ t, own_s p e below T2 m 4 #[rv a, .unset] [(.int (Int32.ofNat S))] t → Steps p.tables e below S0 t := fun tX kX => pre1 _ (st2 _ kX)
  have pre4 : ∀ t, own_s p e below T2 m 7 #[rv a, iv (Int32.ofNat S)] [(.ref a), (.ref a)] t → Steps p.tables e below S0 t := by
    intro tX kX
    refine pre3 _ ?_
    show own_s p e below T2 m 4 #[rv a, .unset] [(.int (Int32.ofNat S))] _
    refine XS.istoreN X2.here hx rfl (hb hby d10_4) rfl (l' := #[rv a, iv (Int32.ofNat S)]) rfl ?_
    show own_s p e below T2 m 5 #[rv a, iv (Int32.ofNat S)] [] _
    refine XS.aloadN X2.here hx rfl (hb hby d10_5) rfl rfl ?_
    show own_s p e below T2 m 6 #[rv a, iv (Int32.ofNat S)] [(.ref a)] _
    refine XS.aloadN X2.here hx rfl (hb hby d10_6) rfl rfl ?_
    exact kX
  obtain ⟨T5, X5, e5, st5⟩ := getF X2 hx hZ hown (host := "") (Or.inl (hw _ (List.mem_of_getElem? (i := 23) rfl))) Via.refl e2 F_end (g := (mkF m 7 #[rv a, iv (Int32.ofNat S)] [(.ref a), (.ref a)])) rfl rfl (hb hby d10_7)
  have pre6 : ∀ t, own_s p e below T5 m 10 #[rv a, iv (Int32.ofNat S)] [(.int (Int32.ofNat E)), (.ref a)] t → Steps p.tables e below S0 t := fun tX kX => pre4 _ (st5 _ kX)
  obtain ⟨T7, h7, X7, e7, W7, st7⟩ := putF X5 hx hZ hown (host := "") (Or.inl (hw _ (List.mem_of_getElem? (i := 30) rfl))) Via.refl e5 F_sta E_a (Or.inl (hw _ (List.mem_of_getElem? (i := 31) rfl))) (hw _ (List.mem_of_getElem? (i := 3) rfl)) (ty := .int) (by decide) rfl rfl (g := (mkF m 10 #[rv a, iv (Int32.ofNat S)] [(.int (Int32.ofNat E)), (.ref a)])) rfl rfl (hb hby d10_10)
  have pre8 : ∀ t, own_s p e below T7 m 13 #[rv a, iv (Int32.ofNat S)] [] t → Steps p.tables e below S0 t := fun tX kX => pre6 _ (st7 _ kX)
  obtain ⟨LL9, X9, N9⟩ : ∃ LL, Stand p l e ({ frames := 0, cells := 0, slots := 0, locals := 0 } : Room) s m #[(.ref a)] below meth c T7 LL 0 0 ∧ Fr n0 LL := ⟨_, X7, Fr.snoc X7 N0 g_a⟩
  have f10_E : Exa Z h7 a "com/example/farcall/farcall/io/XdrEncoder" := E_a.wr W7
  have f11_F : Fld Z h7 a "com/example/farcall/farcall/io/XdrEncoder" "buffer" "[B" (.ref b) := F_buf.other W7 (Or.inr (slot_ne (Or.inl (hw _ (List.mem_of_getElem? (i := 13) rfl))) (Or.inl (hw _ (List.mem_of_getElem? (i := 31) rfl))) (by decide) (t := (.array .byte)) (t' := .int) (by decide) (by decide)))
  have f12_F : Fld Z h7 a "com/example/farcall/farcall/io/XdrEncoder" "end" "I" (.int (Int32.ofNat E)) := F_end.other W7 (Or.inr (slot_ne (Or.inl (hw _ (List.mem_of_getElem? (i := 24) rfl))) (Or.inl (hw _ (List.mem_of_getElem? (i := 31) rfl))) (by decide) (t := .int) (t' := .int) (by decide) (by decide)))
  have f13_A : own_Af Z h7 b .byte 64 (fun j => .int (g j)) := A_b.other W7 (Ne.symm ne_ab)
  have Z14 : n0 ≤ h7.size := Nat.le_trans Z0 (Keep.of_wr W7).1
  have K15 : Keep h0 h7 [a] := K0.wr W7 (Or.inl (List.mem_of_getElem? (i := 0) rfl))
  have f16_F : Fld Z h7 a "com/example/farcall/farcall/io/XdrEncoder" "start" "I" (.int (Int32.ofNat E)) := F_sta.same W7
  have pre17 : ∀ t, own_s p e below T7 m 14 #[rv a, iv (Int32.ofNat S)] [(.int (Int32.ofNat S))] t → Steps p.tables e below S0 t := by
    intro tX kX
    refine pre8 _ ?_
    show own_s p e below T7 m 13 #[rv a, iv (Int32.ofNat S)] [] _
    refine XS.iloadN X9.here hx rfl (hb hby d10_13) rfl ?_
    exact kX
  subst hS0
  obtain ⟨fs, hr, hrun, hended, hW, hsame⟩ := X9.leave (v := (some (.int (Int32.ofNat S)))) (fun h => by rw [Bd.returns] at h; cases h)
  refine ⟨_, _, pre17 _ (retI X9 hx Bd.returns (hb hby d10_14) hr), hrun, hended, _, _, rfl, ?_, ⟨_, rfl⟩, hW, hsame.mono (by decide) (by decide)⟩
  show Q10 Z a b g S E h0 n0 (some (.int (Int32.ofNat S))) T7.heap _
  rw [e7]
  exact ⟨rfl, N9, K15, f10_E, f11_F, f16_F, f12_F, f13_A, ne_ab, fg, g_a, g_b⟩
theorem d11_0 : decode prog_43_method_23_code 0 = .ok (.iload_n 1, 1) := by decide +kernel
theorem d11_1 : decode prog_43_method_23_code 1 = .ok (.ifCond .lt 11, 3) := by decide +kernel
theorem d11_4 : decode prog_43_method_23_code 4 = .ok (.iload_n 1, 1) := by decide +kernel
theorem d11_5 : decode prog_43_method_23_code 5 = .ok (.aload_n 0, 1) := by decide +kernel
theorem d11_6 : decode prog_43_method_23_code 6 = .ok (.getfield 128, 3) := by decide +kernel
theorem d11_9 : decode prog_43_method_23_code 9 = .ok (.if_icmp .le 21, 3) := by decide +kernel
theorem d11_30 : decode prog_43_method_23_code 30 = .ok (.aload_n 0, 1) := by decide +kernel
theorem d11_31 : decode prog_43_method_23_code 31 = .ok (.iload_n 1, 1) := by decide +kernel
theorem d11_32 : decode prog_43_method_23_code 32 = .ok (.putfield 128, 3) := by decide +kernel
theorem d11_35 : decode prog_43_method_23_code 35 = .ok (.return_, 1) := by decide +kernel
theorem pn_11 : plainName "com/example/farcall/farcall/io/XdrEncoder" = true := by first | (simp [plainName, overriddenIn]; done) | decide +kernel
theorem ef_11 (m : MethodId) (a : Addr) (p1 : Int32) : entryFrame m #[(.ref a), (.int p1)] 2 = mkF m 0 #[rv a, iv p1] [] := by first | (simp [entryFrame, mkF, argsToLocals, Value.category]; done) | rfl
def Q11 (Z : State) (a : Addr) (p1 : Int32) (b : Addr) (g : Nat → Int32) (S : Nat) (E : Nat) (P : Nat) (h0 : Heap) (n0 : Nat) (v : Option Value) (h : Heap) (L : List Loc) : Prop := v = none ∧ Fr n0 L ∧ Keep h0 h [a] ∧ Exa Z h a "com/example/farcall/farcall/io/XdrEncoder" ∧ Fld Z h a "com/example/farcall/farcall/io/XdrEncoder" "buffer" "[B" (.ref b) ∧ Fld Z h a "com/example/farcall/farcall/io/XdrEncoder" "start" "I" (.int (Int32.ofNat P)) ∧ Fld Z h a "com/example/farcall/farcall/io/XdrEncoder" "end" "I" (.int (Int32.ofNat E)) ∧ own_Af Z h b .byte 64 (fun j => .int (g j)) ∧ a ≠ b ∧ (∀ j, fits .byte (.int (g j)) = true) ∧ n0 ≤ a ∧ n0 ≤ b
set_option maxRecDepth 65536 in
set_option maxHeartbeats 40000000 in
theorem rm11 (l : Launch) (Z : State) (a0 : Array Value) (hw : ∀ d ∈ tables_1, d.before a0 Z = true) (ws : List Jvm.Cond) (a : Addr) (p1 : Int32) (b : Addr) (g : Nat → Int32) (S : Nat) (E : Nat) (P : Nat) (h0 : Heap) (n0 : Nat) (Z0 : n0 ≤ h0.size) (E_a : Exa Z h0 a "com/example/farcall/farcall/io/XdrEncoder") (F_buf : Fld Z h0 a "com/example/farcall/farcall/io/XdrEncoder" "buffer" "[B" (.ref b)) (F_sta : Fld Z h0 a "com/example/farcall/farcall/io/XdrEncoder" "start" "I" (.int (Int32.ofNat S))) (F_end : Fld Z h0 a "com/example/farcall/farcall/io/XdrEncoder" "end" "I" (.int (Int32.ofNat E))) (A_b : own_Af Z h0 b .byte 64 (fun j => .int (g j))) (ne_ab : a ≠ b) (fg : (∀ j, fits .byte (.int (g j)) = true)) (g_a : n0 ≤ a) (g_b : n0 ≤ b) (hp1 : p1 = Int32.ofNat P) (hP : P ≤ S) (hS : S ≤ 64) :
    MetFree l (⟨"com/example/farcall/farcall/io/XdrEncoder", "endPart", "(I)V"⟩ : MethodName) (head1 (Jvm.Cond.code (⟨"com/example/farcall/farcall/io/XdrEncoder", "endPart", "(I)V"⟩ : MethodName) prog_43_method_23_code 2 none :: ws) ({ frames := 0, cells := 0, slots := 0, locals := 0 } : Room)) (fun aX UX => aX = #[(.ref a), (.int p1)] ∧ Z.Warmed39 UX.vm ∧ UX.heap = h0) (fun _ _ _ _ _ => True) (fun _ UX oX UY => ∃ vX LX, oX = .returned vX ∧ Q11 Z a p1 b g S E P h0 n0 vX UY.heap LX ∧ FrameEnd UX oX UY LX ({ frames := 0, cells := 0, slots := 0, locals := 0 } : Room).cells ({ frames := 0, cells := 0, slots := 0, locals := 0 } : Room).slots) := by
  refine MetFree.of_bodySF (plainFor_of_name pn_11) hisR ?_
  intro p e s m args below meth c s₁ Bd hml0 hPX hKX
  obtain ⟨rfl, hZ, hh⟩ := hPX
  have hx := Bd.exec
  have hby := Bd.bytes
  have hml : c.maxLocals = 2 := hml0
  have hown : s.vm.findClass "com/example/farcall/farcall/io/XdrEncoder" = some m.cls := findClass_of_methodNamed Bd.named
  have hnm := (name_of_methodNamed Bd.named Bd.method).1
  have X0 : Stand p l e ({ frames := 0, cells := 0, slots := 0, locals := 0 } : Room) s m #[(.ref a), (.int p1)] below meth c s₁ [] 0 0 := Stand.of_body Bd
  have e0 : s₁.heap = h0 := by rw [← hh, Bd.state]; rfl
  have N0 := Fr.nil n0
  have pre0 : ∀ t, Steps p.tables e below (s₁.setTop (mkF m 0 #[rv a, iv p1] [])) t → Steps p.tables e below (s₁.setTop (entryFrame m #[(.ref a), (.int p1)] 2)) t := fun t k => castTop (ef_11 m a p1) k
  obtain ⟨S0, hS0⟩ : ∃ z, z = (s₁.setTop (entryFrame m #[(.ref a), (.int p1)] 2)) := ⟨_, rfl⟩
  rw [← hS0] at pre0
  have K0 : Keep h0 h0 [a] := Keep.refl h0 _
  have pre1 : ∀ t, own_s p e below s₁ m 6 #[rv a, iv p1] [(.ref a), (.int p1)] t → Steps p.tables e below S0 t := by
    intro tX kX
    refine pre0 _ ?_
    show own_s p e below s₁ m 0 #[rv a, iv p1] [] _
    refine XS.iloadN X0.here hx rfl (hb hby d11_0) rfl ?_
    show own_s p e below s₁ m 1 #[rv a, iv p1] [(.int p1)] _
    refine XS.ifNo X0.here hx rfl (hb hby d11_1) rfl ((if0 _ _).trans (flt (show ¬ (p1 < (0 : Int32)) from fun q => absurd (Int32.lt_iff_toInt_lt.mp q) (by
        have d1 : p1.toInt = P := by rw [hp1]; exact own_ofn (by omega)
        have d2 : (0 : Int32).toInt = 0 := rfl
        have d3 : (Int32.ofNat S).toInt = S := own_ofn (by omega)
        omega))).1) ?_
    show own_s p e below s₁ m 4 #[rv a, iv p1] [] _
    refine XS.iloadN X0.here hx rfl (hb hby d11_4) rfl ?_
    show own_s p e below s₁ m 5 #[rv a, iv p1] [(.int p1)] _
    refine XS.aloadN X0.here hx rfl (hb hby d11_5) rfl rfl ?_
    exact kX
  obtain ⟨T2, X2, e2, st2⟩ := getF X0 hx hZ hown (host := "") (Or.inl (hw _ (List.mem_of_getElem? (i := 30) rfl))) Via.refl e0 F_sta (g := (mkF m 6 #[rv a, iv p1] [(.ref a), (.int p1)])) rfl rfl (hb hby d11_6)
  have pre3 : ∀ t, own_s p e below T2 m 9 #[rv a, iv p1] [(.int (Int32.ofNat S)), (.int p1)] t → Steps p.tables e below S0 t := fun tX kX => pre1 _ (st2 _ kX)
  have pre4 : ∀ t, own_s p e below T2 m 32 #[rv a, iv p1] [(.int p1), (.ref a)] t → Steps p.tables e below S0 t := by
    intro tX kX
    refine pre3 _ ?_
    show own_s p e below T2 m 9 #[rv a, iv p1] [(.int (Int32.ofNat S)), (.int p1)] _
    refine XS.icmpYes X2.here hx rfl (pc0 := 9) (pc' := 30) rfl (hb hby d11_9) rfl (flt (show ¬ ((Int32.ofNat S) < p1) from fun q => absurd (Int32.lt_iff_toInt_lt.mp q) (by
        have d1 : p1.toInt = P := by rw [hp1]; exact own_ofn (by omega)
        have d2 : (0 : Int32).toInt = 0 := rfl
        have d3 : (Int32.ofNat S).toInt = S := own_ofn (by omega)
        omega))).2.2.2 (by decide) (by decide) ?_
    show own_s p e below T2 m 30 #[rv a, iv p1] [] _
    refine XS.aloadN X2.here hx rfl (hb hby d11_30) rfl rfl ?_
    show own_s p e below T2 m 31 #[rv a, iv p1] [(.ref a)] _
    refine XS.iloadN X2.here hx rfl (hb hby d11_31) rfl ?_
    exact kX
  obtain ⟨T5, h5, X5, e5, W5, st5⟩ := putF X2 hx hZ hown (host := "") (Or.inl (hw _ (List.mem_of_getElem? (i := 30) rfl))) Via.refl e2 F_sta E_a (Or.inl (hw _ (List.mem_of_getElem? (i := 31) rfl))) (hw _ (List.mem_of_getElem? (i := 3) rfl)) (ty := .int) (by decide) rfl rfl (g := (mkF m 32 #[rv a, iv p1] [(.int p1), (.ref a)])) rfl rfl (hb hby d11_32)
  have pre6 : ∀ t, own_s p e below T5 m 35 #[rv a, iv p1] [] t → Steps p.tables e below S0 t := fun tX kX => pre4 _ (st5 _ kX)
  obtain ⟨LL7, X7, N7⟩ : ∃ LL, Stand p l e ({ frames := 0, cells := 0, slots := 0, locals := 0 } : Room) s m #[(.ref a), (.int p1)] below meth c T5 LL 0 0 ∧ Fr n0 LL := ⟨_, X5, Fr.snoc X5 N0 g_a⟩
  have f8_E : Exa Z h5 a "com/example/farcall/farcall/io/XdrEncoder" := E_a.wr W5
  have f9_F : Fld Z h5 a "com/example/farcall/farcall/io/XdrEncoder" "buffer" "[B" (.ref b) := F_buf.other W5 (Or.inr (slot_ne (Or.inl (hw _ (List.mem_of_getElem? (i := 13) rfl))) (Or.inl (hw _ (List.mem_of_getElem? (i := 31) rfl))) (by decide) (t := (.array .byte)) (t' := .int) (by decide) (by decide)))
  have f10_F : Fld Z h5 a "com/example/farcall/farcall/io/XdrEncoder" "end" "I" (.int (Int32.ofNat E)) := F_end.other W5 (Or.inr (slot_ne (Or.inl (hw _ (List.mem_of_getElem? (i := 24) rfl))) (Or.inl (hw _ (List.mem_of_getElem? (i := 31) rfl))) (by decide) (t := .int) (t' := .int) (by decide) (by decide)))
  have f11_A : own_Af Z h5 b .byte 64 (fun j => .int (g j)) := A_b.other W5 (Ne.symm ne_ab)
  have Z12 : n0 ≤ h5.size := Nat.le_trans Z0 (Keep.of_wr W5).1
  have K13 : Keep h0 h5 [a] := K0.wr W5 (Or.inl (List.mem_of_getElem? (i := 0) rfl))
  have f14_F : Fld Z h5 a "com/example/farcall/farcall/io/XdrEncoder" "start" "I" (.int p1) := F_sta.same W5
  subst hS0
  obtain ⟨fs, hr, hrun, hended, hW, hsame⟩ := X7.leave (v := none) (fun _ => rfl)
  refine ⟨_, _, pre6 _ (X7.returnOut hx Bd.returns (hb hby d11_35) hr), hrun, hended, _, _, rfl, ?_, ⟨_, rfl⟩, hW, hsame.mono (by decide) (by decide)⟩
  show Q11 Z a p1 b g S E P h0 n0 none T5.heap _
  rw [e5]
  exact ⟨rfl, N7, K13, f8_E, f9_F, (hp1 ▸ f14_F), f10_F, f11_A, ne_ab, fg, g_a, g_b⟩
theorem d12_0 : decode prog_43_method_1_code 0 = .ok (.aload_n 0, 1) := by decide +kernel
theorem d12_1 : decode prog_43_method_1_code 1 = .ok (.invokespecial 1, 3) := by decide +kernel
theorem d12_4 : decode prog_43_method_1_code 4 = .ok (.aload_n 0, 1) := by decide +kernel
theorem d12_5 : decode prog_43_method_1_code 5 = .ok (.bipush 64, 2) := by decide +kernel
theorem d12_7 : decode prog_43_method_1_code 7 = .ok (.newarray .byte, 2) := by decide +kernel
theorem d12_9 : decode prog_43_method_1_code 9 = .ok (.putfield 9, 3) := by decide +kernel
theorem d12_12 : decode prog_43_method_1_code 12 = .ok (.return_, 1) := by decide +kernel
theorem pn_12 : plainName "com/example/farcall/farcall/io/XdrEncoder" = true := by first | (simp [plainName, overriddenIn]; done) | decide +kernel
theorem ef_12 (m : MethodId) (a : Addr) : entryFrame m #[(.ref a)] 1 = mkF m 0 #[rv a] [] := by first | (simp [entryFrame, mkF, argsToLocals, Value.category]; done) | rfl
def Q12 (Z : State) (a : Addr) (h0 : Heap) (n0 : Nat) (v : Option Value) (h : Heap) (L : List Loc) : Prop := v = none ∧ Fr n0 L ∧ Keep h0 h [a] ∧ ∃ b : Addr, h0.size ≤ b ∧ Exa Z h a "com/example/farcall/farcall/io/XdrEncoder" ∧ Fld Z h a "com/example/farcall/farcall/io/XdrEncoder" "buffer" "[B" (.ref b) ∧ Fld Z h a "com/example/farcall/farcall/io/XdrEncoder" "start" "I" (.int (Int32.ofNat 0)) ∧ Fld Z h a "com/example/farcall/farcall/io/XdrEncoder" "end" "I" (.int (Int32.ofNat 0)) ∧ own_Af Z h b .byte 64 (fun j => .int ((fun _ : Nat => (0 : Int32)) j)) ∧ a ≠ b ∧ (∀ j, fits .byte (.int ((fun _ : Nat => (0 : Int32)) j)) = true) ∧ n0 ≤ a ∧ n0 ≤ b
set_option maxRecDepth 65536 in
set_option maxHeartbeats 40000000 in
theorem rm12 (l : Launch) (Z : State) (a0 : Array Value) (hw : ∀ d ∈ tables_1, d.before a0 Z = true) (ws : List Jvm.Cond) (a : Addr) (h0 : Heap) (n0 : Nat) (Z0 : n0 ≤ h0.size) (E_a : Exa Z h0 a "com/example/farcall/farcall/io/XdrEncoder") (F_buf : Fld Z h0 a "com/example/farcall/farcall/io/XdrEncoder" "buffer" "[B" .null) (F_sta : Fld Z h0 a "com/example/farcall/farcall/io/XdrEncoder" "start" "I" (.int (0 : Int32))) (F_end : Fld Z h0 a "com/example/farcall/farcall/io/XdrEncoder" "end" "I" (.int (0 : Int32))) (g_a : n0 ≤ a) :
    MetFree l (⟨"com/example/farcall/farcall/io/XdrEncoder", "<init>", "()V"⟩ : MethodName) (head1 (Jvm.Cond.code (⟨"com/example/farcall/farcall/io/XdrEncoder", "<init>", "()V"⟩ : MethodName) prog_43_method_1_code 1 none :: ws) ({ frames := 1, cells := 1, slots := 64, locals := 15 } : Room)) (fun aX UX => aX = #[(.ref a)] ∧ Z.Warmed39 UX.vm ∧ UX.heap = h0) (fun _ _ _ _ _ => True) (fun _ UX oX UY => ∃ vX LX, oX = .returned vX ∧ Q12 Z a h0 n0 vX UY.heap LX ∧ FrameEnd UX oX UY LX ({ frames := 1, cells := 1, slots := 64, locals := 15 } : Room).cells ({ frames := 1, cells := 1, slots := 64, locals := 15 } : Room).slots) := by
  refine MetFree.of_bodySF (plainFor_of_name pn_12) hisR ?_
  intro p e s m args below meth c s₁ Bd hml0 hPX hKX
  obtain ⟨rfl, hZ, hh⟩ := hPX
  have hx := Bd.exec
  have hby := Bd.bytes
  have hml : c.maxLocals = 1 := hml0
  have hown : s.vm.findClass "com/example/farcall/farcall/io/XdrEncoder" = some m.cls := findClass_of_methodNamed Bd.named
  have hnm := (name_of_methodNamed Bd.named Bd.method).1
  have X0 : Stand p l e ({ frames := 1, cells := 1, slots := 64, locals := 15 } : Room) s m #[(.ref a)] below meth c s₁ [] 0 0 := Stand.of_body Bd
  have e0 : s₁.heap = h0 := by rw [← hh, Bd.state]; rfl
  have N0 := Fr.nil n0
  have pre0 : ∀ t, Steps p.tables e below (s₁.setTop (mkF m 0 #[rv a] [])) t → Steps p.tables e below (s₁.setTop (entryFrame m #[(.ref a)] 1)) t := fun t k => castTop (ef_12 m a) k
  obtain ⟨S0, hS0⟩ : ∃ z, z = (s₁.setTop (entryFrame m #[(.ref a)] 1)) := ⟨_, rfl⟩
  rw [← hS0] at pre0
  have K0 : Keep h0 h0 [a] := Keep.refl h0 _
  have pre1 : ∀ t, own_s p e below s₁ m 1 #[rv a] [(.ref a)] t → Steps p.tables e below S0 t := by
    intro tX kX
    refine pre0 _ ?_
    show own_s p e below s₁ m 0 #[rv a] [] _
    refine XS.aloadN X0.here hx rfl (hb hby d12_0) rfl rfl ?_
    exact kX
  obtain ⟨T2, X2, e2, st2⟩ := initO X0 hx hZ hown (hw _ (List.mem_of_getElem? (i := 8) rfl)) (hw _ (List.mem_of_getElem? (i := 9) rfl)) (hw _ (List.mem_of_getElem? (i := 10) rfl)) e0 (g := (mkF m 1 #[rv a] [(.ref a)])) rfl (by rw [hml]; rfl) rfl (hb hby d12_1) (by decide) (W := 0) (by show 2 * 0 + _ ≤ _; exact Nat.le_of_eq rfl) (by decide)
  have pre3 : ∀ t, own_s p e below T2 m 4 #[rv a] [] t → Steps p.tables e below S0 t := fun tX kX => pre1 _ (st2 _ kX)
  have pre4 : ∀ t, own_s p e below T2 m 7 #[rv a] [(.int (64 : Int32)), (.ref a)] t → Steps p.tables e below S0 t := by
    intro tX kX
    refine pre3 _ ?_
    show own_s p e below T2 m 4 #[rv a] [] _
    refine XS.aloadN X2.here hx rfl (hb hby d12_4) rfl rfl ?_
    show own_s p e below T2 m 5 #[rv a] [(.ref a)] _
    refine XS.bipush X2.here hx rfl (hb hby d12_5) ?_
    exact kX
  obtain ⟨T5, h5, k5, X5, e5, E5, A5, st5⟩ := newP X2 hx hZ (hw _ (List.mem_of_getElem? (i := 11) rfl)) e2 (g := (mkF m 7 #[rv a] [(.int (64 : Int32)), (.ref a)])) rfl (hb hby d12_7) rfl (by decide) (cap := 64) (by decide) (by decide) (by decide) (by decide)
  obtain ⟨b5, g5⟩ : ∃ z, z = h0.size := ⟨_, rfl⟩
  rw [← g5] at A5 st5
  have ne6 : a ≠ b5 := Nat.ne_of_lt (Nat.lt_of_lt_of_le E_a.lt (Nat.le_of_eq g5.symm))
  have g_b5 : n0 ≤ b5 := Nat.le_trans Z0 (Nat.le_of_eq g5.symm)
  have sz_b5 : h0.size ≤ b5 := Nat.le_trans K0.1 (Nat.le_of_eq g5.symm)
  have pre7 : ∀ t, own_s p e below T5 m 9 #[rv a] [(.ref b5), (.ref a)] t → Steps p.tables e below S0 t := fun tX kX => pre4 _ (st5 _ kX)
  have f8_E : Exa Z h5 a "com/example/farcall/farcall/io/XdrEncoder" := E_a.ext E5
  have f9_F : Fld Z h5 a "com/example/farcall/farcall/io/XdrEncoder" "buffer" "[B" .null := F_buf.ext E5
  have f10_F : Fld Z h5 a "com/example/farcall/farcall/io/XdrEncoder" "start" "I" (.int (0 : Int32)) := F_sta.ext E5
  have f11_F : Fld Z h5 a "com/example/farcall/farcall/io/XdrEncoder" "end" "I" (.int (0 : Int32)) := F_end.ext E5
  have Z12 : n0 ≤ h5.size := Nat.le_trans Z0 E5.1
  have K13 : Keep h0 h5 [a] := K0.ext E5
  have f14_A : own_Af Z h5 b5 .byte 64 (fun _ => (.int (0 : Int32))) := own_Af.new A5 (by decide) rfl
  obtain ⟨T15, h15, X15, e15, W15, st15⟩ := putF X5 hx hZ hown (host := "") (Or.inl (hw _ (List.mem_of_getElem? (i := 12) rfl))) Via.refl e5 f9_F f8_E (Or.inl (hw _ (List.mem_of_getElem? (i := 13) rfl))) (hw _ (List.mem_of_getElem? (i := 3) rfl)) (ty := (.array .byte)) (by decide) rfl rfl (g := (mkF m 9 #[rv a] [(.ref b5), (.ref a)])) rfl rfl (hb hby d12_9)
  have pre16 : ∀ t, own_s p e below T15 m 12 #[rv a] [] t → Steps p.tables e below S0 t := fun tX kX => pre7 _ (st15 _ kX)
  obtain ⟨LL17, X17, N17⟩ : ∃ LL, Stand p l e ({ frames := 1, cells := 1, slots := 64, locals := 15 } : Room) s m #[(.ref a)] below meth c T15 LL 1 64 ∧ Fr n0 LL := ⟨_, X15, Fr.snoc X15 N0 g_a⟩
  have f18_E : Exa Z h15 a "com/example/farcall/farcall/io/XdrEncoder" := f8_E.wr W15
  have f19_F : Fld Z h15 a "com/example/farcall/farcall/io/XdrEncoder" "start" "I" (.int (0 : Int32)) := f10_F.other W15 (Or.inr (slot_ne (Or.inl (hw _ (List.mem_of_getElem? (i := 31) rfl))) (Or.inl (hw _ (List.mem_of_getElem? (i := 13) rfl))) (by decide) (t := .int) (t' := (.array .byte)) (by decide) (by decide)))
  have f20_F : Fld Z h15 a "com/example/farcall/farcall/io/XdrEncoder" "end" "I" (.int (0 : Int32)) := f11_F.other W15 (Or.inr (slot_ne (Or.inl (hw _ (List.mem_of_getElem? (i := 24) rfl))) (Or.inl (hw _ (List.mem_of_getElem? (i := 13) rfl))) (by decide) (t := .int) (t' := (.array .byte)) (by decide) (by decide)))
  have f21_A : own_Af Z h15 b5 .byte 64 (fun _ => (.int (0 : Int32))) := f14_A.other W15 (Ne.symm ne6)
  have Z22 : n0 ≤ h15.size := Nat.le_trans Z12 (Keep.of_wr W15).1
  have K23 : Keep h0 h15 [a] := K13.wr W15 (Or.inl (List.mem_of_getElem? (i := 0) rfl))
  have f24_F : Fld Z h15 a "com/example/farcall/farcall/io/XdrEncoder" "buffer" "[B" (.ref b5) := f9_F.same W15
  subst hS0
  obtain ⟨fs, hr, hrun, hended, hW, hsame⟩ := X17.leave (v := none) (fun _ => rfl)
  refine ⟨_, _, pre16 _ (X17.returnOut hx Bd.returns (hb hby d12_12) hr), hrun, hended, _, _, rfl, ?_, ⟨_, rfl⟩, hW, hsame.mono (by decide) (by decide)⟩
  show Q12 Z a h0 n0 none T15.heap _
  rw [e15]
  exact ⟨rfl, N17, K23, b5, sz_b5, f18_E, f24_F, f19_F, f20_F, f21_A, ne6, fun _ => rfl, g_a, g_b5⟩
theorem d13_0 : decode method_2_code 0 = .ok (.iload_n 0, 1) := by decide +kernel
theorem d13_1 : decode method_2_code 1 = .ok (.bipush 8, 2) := by decide +kernel
theorem d13_3 : decode method_2_code 3 = .ok (.iconst 3, 1) := by decide +kernel
theorem d13_4 : decode method_2_code 4 = .ok (.iload_n 1, 1) := by decide +kernel
theorem d13_5 : decode method_2_code 5 = .ok (.isub, 1) := by decide +kernel
theorem d13_6 : decode method_2_code 6 = .ok (.imul, 1) := by decide +kernel
theorem d13_7 : decode method_2_code 7 = .ok (.ishr, 1) := by decide +kernel
theorem d13_8 : decode method_2_code 8 = .ok (.sipush 255, 3) := by decide +kernel
theorem d13_11 : decode method_2_code 11 = .ok (.iand, 1) := by decide +kernel
theorem d13_12 : decode method_2_code 12 = .ok (.i2b, 1) := by decide +kernel
theorem d13_13 : decode method_2_code 13 = .ok (.ireturn, 1) := by decide +kernel
theorem pn_13 : plainName "com/example/farcall/farcall/io/XdrEncoderSetIntPinLaw" = true := by first | (simp [plainName, overriddenIn]; done) | decide +kernel
theorem ef_13 (m : MethodId) (p0 : Int32) (p1 : Int32) : entryFrame m #[(.int p0), (.int p1)] 2 = mkF m 0 #[iv p0, iv p1] [] := by first | (simp [entryFrame, mkF, argsToLocals, Value.category]; done) | rfl
def Q13 (Z : State) (p0 : Int32) (p1 : Int32) (K : Nat) (h0 : Heap) (n0 : Nat) (v : Option Value) (h : Heap) (L : List Loc) : Prop := v = some (.int (own_by p0 K)) ∧ Fr n0 L ∧ h = h0
set_option maxRecDepth 65536 in
set_option maxHeartbeats 40000000 in
theorem rm13 (l : Launch) (Z : State) (a0 : Array Value) (hw : ∀ d ∈ tables_1, d.before a0 Z = true) (ws : List Jvm.Cond) (p0 : Int32) (p1 : Int32) (K : Nat) (h0 : Heap) (n0 : Nat) (Z0 : n0 ≤ h0.size) (hk : p1 = Int32.ofNat K) (hK : K ≤ 3) :
    MetFree l (⟨"com/example/farcall/farcall/io/XdrEncoderSetIntPinLaw", "intByte", "(II)B"⟩ : MethodName) (head1 (Jvm.Cond.code (⟨"com/example/farcall/farcall/io/XdrEncoderSetIntPinLaw", "intByte", "(II)B"⟩ : MethodName) method_2_code 2 (some .byte) :: ws) ({ frames := 0, cells := 0, slots := 0, locals := 0 } : Room)) (fun aX UX => aX = #[(.int p0), (.int p1)] ∧ Z.Warmed39 UX.vm ∧ UX.heap = h0) (fun _ _ _ _ _ => True) (fun _ UX oX UY => ∃ vX LX, oX = .returned vX ∧ Q13 Z p0 p1 K h0 n0 vX UY.heap LX ∧ FrameEnd UX oX UY LX ({ frames := 0, cells := 0, slots := 0, locals := 0 } : Room).cells ({ frames := 0, cells := 0, slots := 0, locals := 0 } : Room).slots) := by
  refine MetFree.of_bodySF (plainFor_of_name pn_13) hisR ?_
  intro p e s m args below meth c s₁ Bd hml0 hPX hKX
  obtain ⟨rfl, hZ, hh⟩ := hPX
  have hx := Bd.exec
  have hby := Bd.bytes
  have hml : c.maxLocals = 2 := hml0
  have hown : s.vm.findClass "com/example/farcall/farcall/io/XdrEncoderSetIntPinLaw" = some m.cls := findClass_of_methodNamed Bd.named
  have hnm := (name_of_methodNamed Bd.named Bd.method).1
  have X0 : Stand p l e ({ frames := 0, cells := 0, slots := 0, locals := 0 } : Room) s m #[(.int p0), (.int p1)] below meth c s₁ [] 0 0 := Stand.of_body Bd
  have e0 : s₁.heap = h0 := by rw [← hh, Bd.state]; rfl
  have N0 := Fr.nil n0
  have pre0 : ∀ t, Steps p.tables e below (s₁.setTop (mkF m 0 #[iv p0, iv p1] [])) t → Steps p.tables e below (s₁.setTop (entryFrame m #[(.int p0), (.int p1)] 2)) t := fun t k => castTop (ef_13 m p0 p1) k
  obtain ⟨S0, hS0⟩ : ∃ z, z = (s₁.setTop (entryFrame m #[(.int p0), (.int p1)] 2)) := ⟨_, rfl⟩
  rw [← hS0] at pre0
  have pre1 : ∀ t, own_s p e below s₁ m 13 #[iv p0, iv p1] [(.int (((p0 >>> (((8 : Int32) * ((3 : Int32) - p1)) &&& 31)) &&& (255 : Int32)).toInt8.toInt32))] t → Steps p.tables e below S0 t := by
    intro tX kX
    refine pre0 _ ?_
    show own_s p e below s₁ m 0 #[iv p0, iv p1] [] _
    refine XS.iloadN X0.here hx rfl (hb hby d13_0) rfl ?_
    show own_s p e below s₁ m 1 #[iv p0, iv p1] [(.int p0)] _
    refine XS.bipush X0.here hx rfl (hb hby d13_1) ?_
    show own_s p e below s₁ m 3 #[iv p0, iv p1] [(.int (8 : Int32)), (.int p0)] _
    refine XS.iconst X0.here hx rfl (hb hby d13_3) ?_
    show own_s p e below s₁ m 4 #[iv p0, iv p1] [(.int (3 : Int32)), (.int (8 : Int32)), (.int p0)] _
    refine XS.iloadN X0.here hx rfl (hb hby d13_4) rfl ?_
    show own_s p e below s₁ m 5 #[iv p0, iv p1] [(.int p1), (.int (3 : Int32)), (.int (8 : Int32)), (.int p0)] _
    refine XS.isub X0.here hx rfl (hb hby d13_5) rfl ?_
    show own_s p e below s₁ m 6 #[iv p0, iv p1] [(.int ((3 : Int32) - p1)), (.int (8 : Int32)), (.int p0)] _
    refine XS.imul X0.here hx rfl (hb hby d13_6) rfl ?_
    show own_s p e below s₁ m 7 #[iv p0, iv p1] [(.int ((8 : Int32) * ((3 : Int32) - p1))), (.int p0)] _
    refine XS.ishr X0.here hx rfl (hb hby d13_7) rfl ?_
    show own_s p e below s₁ m 8 #[iv p0, iv p1] [(.int (p0 >>> (((8 : Int32) * ((3 : Int32) - p1)) &&& 31)))] _
    refine XS.sipush X0.here hx rfl (hb hby d13_8) ?_
    show own_s p e below s₁ m 11 #[iv p0, iv p1] [(.int (255 : Int32)), (.int (p0 >>> (((8 : Int32) * ((3 : Int32) - p1)) &&& 31)))] _
    refine XS.iand X0.here hx rfl (hb hby d13_11) rfl ?_
    show own_s p e below s₁ m 12 #[iv p0, iv p1] [(.int ((p0 >>> (((8 : Int32) * ((3 : Int32) - p1)) &&& 31)) &&& (255 : Int32)))] _
    refine XS.i2b X0.here hx rfl (hb hby d13_12) rfl ?_
    exact kX
  subst hS0
  obtain ⟨fs, hr, hrun, hended, hW, hsame⟩ := X0.leave (v := (some (.int (nar .byte (((p0 >>> (((8 : Int32) * ((3 : Int32) - p1)) &&& 31)) &&& (255 : Int32)).toInt8.toInt32))))) (fun h => by rw [Bd.returns] at h; cases h)
  refine ⟨_, _, pre1 _ (retN X0 hx (t := .byte) Bd.returns (by simp) (hb hby d13_13) hr), hrun, hended, _, _, rfl, ?_, ⟨_, rfl⟩, hW, hsame.mono (by decide) (by decide)⟩
  show Q13 Z p0 p1 K h0 n0 (some (.int (nar .byte (((p0 >>> (((8 : Int32) * ((3 : Int32) - p1)) &&& 31)) &&& (255 : Int32)).toInt8.toInt32)))) s₁.heap _
  exact ⟨congrArg (fun z => some (Value.int z)) ((own_nn _).trans (own_ib p0 p1 hk hK)), N0, e0⟩
theorem d14_0 : decode method_3_code 0 = .ok (.iload_n 0, 1) := by decide +kernel
theorem d14_1 : decode method_3_code 1 = .ok (.iload_n 1, 1) := by decide +kernel
theorem d14_2 : decode method_3_code 2 = .ok (.if_icmp .lt 18, 3) := by decide +kernel
theorem d14_5 : decode method_3_code 5 = .ok (.iload_n 0, 1) := by decide +kernel
theorem d14_6 : decode method_3_code 6 = .ok (.iload_n 1, 1) := by decide +kernel
theorem d14_7 : decode method_3_code 7 = .ok (.iconst 4, 1) := by decide +kernel
theorem d14_8 : decode method_3_code 8 = .ok (.iadd, 1) := by decide +kernel
theorem d14_9 : decode method_3_code 9 = .ok (.if_icmp .ge 11, 3) := by decide +kernel
theorem d14_12 : decode method_3_code 12 = .ok (.iload_n 2, 1) := by decide +kernel
theorem d14_13 : decode method_3_code 13 = .ok (.iload_n 0, 1) := by decide +kernel
theorem d14_14 : decode method_3_code 14 = .ok (.iload_n 1, 1) := by decide +kernel
theorem d14_15 : decode method_3_code 15 = .ok (.isub, 1) := by decide +kernel
theorem d14_16 : decode method_3_code 16 = .ok (.invokestatic 7, 3) := by decide +kernel
theorem d14_19 : decode method_3_code 19 = .ok (.ireturn, 1) := by decide +kernel
theorem d14_20 : decode method_3_code 20 = .ok (.iload_n 0, 1) := by decide +kernel
theorem d14_21 : decode method_3_code 21 = .ok (.iconst 4, 1) := by decide +kernel
theorem d14_22 : decode method_3_code 22 = .ok (.idiv, 1) := by decide +kernel
theorem d14_23 : decode method_3_code 23 = .ok (.istore 6, 2) := by decide +kernel
theorem d14_25 : decode method_3_code 25 = .ok (.iload 6, 2) := by decide +kernel
theorem d14_27 : decode method_3_code 27 = .ok (.ifCond .ne 9, 3) := by decide +kernel
theorem d14_30 : decode method_3_code 30 = .ok (.iload_n 3, 1) := by decide +kernel
theorem d14_31 : decode method_3_code 31 = .ok (.istore 7, 2) := by decide +kernel
theorem d14_33 : decode method_3_code 33 = .ok (.goto 20, 3) := by decide +kernel
theorem d14_36 : decode method_3_code 36 = .ok (.iload 6, 2) := by decide +kernel
theorem d14_38 : decode method_3_code 38 = .ok (.iconst 1, 1) := by decide +kernel
theorem d14_39 : decode method_3_code 39 = .ok (.if_icmp .ne 10, 3) := by decide +kernel
theorem d14_42 : decode method_3_code 42 = .ok (.iload 4, 2) := by decide +kernel
theorem d14_44 : decode method_3_code 44 = .ok (.istore 7, 2) := by decide +kernel
theorem d14_46 : decode method_3_code 46 = .ok (.goto 7, 3) := by decide +kernel
theorem d14_49 : decode method_3_code 49 = .ok (.iload 5, 2) := by decide +kernel
theorem d14_51 : decode method_3_code 51 = .ok (.istore 7, 2) := by decide +kernel
theorem d14_53 : decode method_3_code 53 = .ok (.iload 7, 2) := by decide +kernel
theorem d14_55 : decode method_3_code 55 = .ok (.iload_n 0, 1) := by decide +kernel
theorem d14_56 : decode method_3_code 56 = .ok (.iconst 4, 1) := by decide +kernel
theorem d14_57 : decode method_3_code 57 = .ok (.irem, 1) := by decide +kernel
theorem d14_58 : decode method_3_code 58 = .ok (.invokestatic 7, 3) := by decide +kernel
theorem d14_61 : decode method_3_code 61 = .ok (.ireturn, 1) := by decide +kernel
theorem pn_14 : plainName "com/example/farcall/farcall/io/XdrEncoderSetIntPinLaw" = true := by first | (simp [plainName, overriddenIn]; done) | decide +kernel
theorem pd14_0 : parseMethodDescriptor "(II)B" = some ⟨[.int, .int], some .byte⟩ := by decide +kernel
theorem ef_14 (m : MethodId) (p0 : Int32) (p1 : Int32) (p2 : Int32) (p3 : Int32) (p4 : Int32) (p5 : Int32) : entryFrame m #[(.int p0), (.int p1), (.int p2), (.int p3), (.int p4), (.int p5)] 8 = mkF m 0 #[iv p0, iv p1, iv p2, iv p3, iv p4, iv p5, .unset, .unset] [] := by first | (simp [entryFrame, mkF, argsToLocals, Value.category]; done) | rfl
def Q14 (Z : State) (p0 : Int32) (p1 : Int32) (p2 : Int32) (p3 : Int32) (p4 : Int32) (p5 : Int32) (I : Nat) (O : Nat) (h0 : Heap) (n0 : Nat) (v : Option Value) (h : Heap) (L : List Loc) : Prop := v = some (.int (own_xp I O p2 p3 p4 p5)) ∧ Fr n0 L ∧ h = h0
set_option maxRecDepth 65536 in
set_option maxHeartbeats 40000000 in
theorem rm14 (l : Launch) (Z : State) (a0 : Array Value) (hw : ∀ d ∈ tables_1, d.before a0 Z = true) (ws : List Jvm.Cond) (p0 : Int32) (p1 : Int32) (p2 : Int32) (p3 : Int32) (p4 : Int32) (p5 : Int32) (I : Nat) (O : Nat) (h0 : Heap) (n0 : Nat) (Z0 : n0 ≤ h0.size) (hp0 : p0 = Int32.ofNat I) (hp1 : p1 = Int32.ofNat O) (hI : I ≤ 11) (hO : O ≤ 8) :
    MetFree l (⟨"com/example/farcall/farcall/io/XdrEncoderSetIntPinLaw", "expected", "(IIIIII)B"⟩ : MethodName) (head1 (Jvm.Cond.code (⟨"com/example/farcall/farcall/io/XdrEncoderSetIntPinLaw", "expected", "(IIIIII)B"⟩ : MethodName) method_3_code 8 (some .byte) :: ws) ({ frames := 1, cells := 0, slots := 0, locals := 15 } : Room)) (fun aX UX => aX = #[(.int p0), (.int p1), (.int p2), (.int p3), (.int p4), (.int p5)] ∧ Z.Warmed39 UX.vm ∧ UX.heap = h0) (fun _ _ _ _ _ => True) (fun _ UX oX UY => ∃ vX LX, oX = .returned vX ∧ Q14 Z p0 p1 p2 p3 p4 p5 I O h0 n0 vX UY.heap LX ∧ FrameEnd UX oX UY LX ({ frames := 1, cells := 0, slots := 0, locals := 15 } : Room).cells ({ frames := 1, cells := 0, slots := 0, locals := 15 } : Room).slots) := by
  refine MetFree.of_bodySF (plainFor_of_name pn_14) hisR ?_
  intro p e s m args below meth c s₁ Bd hml0 hPX hKX
  obtain ⟨rfl, hZ, hh⟩ := hPX
  have hx := Bd.exec
  have hby := Bd.bytes
  have hml : c.maxLocals = 8 := hml0
  have hown : s.vm.findClass "com/example/farcall/farcall/io/XdrEncoderSetIntPinLaw" = some m.cls := findClass_of_methodNamed Bd.named
  have hnm := (name_of_methodNamed Bd.named Bd.method).1
  have X0 : Stand p l e ({ frames := 1, cells := 0, slots := 0, locals := 15 } : Room) s m #[(.int p0), (.int p1), (.int p2), (.int p3), (.int p4), (.int p5)] below meth c s₁ [] 0 0 := Stand.of_body Bd
  have e0 : s₁.heap = h0 := by rw [← hh, Bd.state]; rfl
  have N0 := Fr.nil n0
  have pre0 : ∀ t, Steps p.tables e below (s₁.setTop (mkF m 0 #[iv p0, iv p1, iv p2, iv p3, iv p4, iv p5, .unset, .unset] [])) t → Steps p.tables e below (s₁.setTop (entryFrame m #[(.int p0), (.int p1), (.int p2), (.int p3), (.int p4), (.int p5)] 8)) t := fun t k => castTop (ef_14 m p0 p1 p2 p3 p4 p5) k
  obtain ⟨S0, hS0⟩ : ∃ z, z = (s₁.setTop (entryFrame m #[(.int p0), (.int p1), (.int p2), (.int p3), (.int p4), (.int p5)] 8)) := ⟨_, rfl⟩
  rw [← hS0] at pre0
  have iI : p0.toInt = I := by rw [hp0]; exact own_ofn (by omega)
  have iO : p1.toInt = O := by rw [hp1]; exact own_ofn (by omega)
  have i4 : (p1 + (4 : Int32)).toInt = ((O + 4 : Nat) : Int) := by have d1 := c_iadd p1 4; have d2 := rng32 (p1 + 4); have d3 : (4 : Int32).toInt = 4 := rfl; omega
  have iD : (p0 / (4 : Int32)).toInt = ((I / 4 : Nat) : Int) := by have d1 := (c_idiv p0 4 4 (by decide) (by decide)).1 (by omega); omega
  have pre1 : ∀ t, own_s p e below s₁ m 2 #[iv p0, iv p1, iv p2, iv p3, iv p4, iv p5, .unset, .unset] [(.int p1), (.int p0)] t → Steps p.tables e below S0 t := by
    intro tX kX
    refine pre0 _ ?_
    show own_s p e below s₁ m 0 #[iv p0, iv p1, iv p2, iv p3, iv p4, iv p5, .unset, .unset] [] _
    refine XS.iloadN X0.here hx rfl (hb hby d14_0) rfl ?_
    show own_s p e below s₁ m 1 #[iv p0, iv p1, iv p2, iv p3, iv p4, iv p5, .unset, .unset] [(.int p0)] _
    refine XS.iloadN X0.here hx rfl (hb hby d14_1) rfl ?_
    exact kX
  by_cases hc2 : p0 < p1
  · skip
    have ihc2 : (p0).toInt < (p1).toInt := Int32.lt_iff_toInt_lt.mp hc2
    have pre3 : ∀ t, own_s p e below s₁ m 27 #[iv p0, iv p1, iv p2, iv p3, iv p4, iv p5, iv (p0 / (4 : Int32)), .unset] [(.int (p0 / (4 : Int32)))] t → Steps p.tables e below S0 t := by
      intro tX kX
      refine pre1 _ ?_
      show own_s p e below s₁ m 2 #[iv p0, iv p1, iv p2, iv p3, iv p4, iv p5, .unset, .unset] [(.int p1), (.int p0)] _
      refine XS.icmpYes X0.here hx rfl (pc0 := 2) (pc' := 20) rfl (hb hby d14_2) rfl (tlt hc2).1 (by decide) (by decide) ?_
      show own_s p e below s₁ m 20 #[iv p0, iv p1, iv p2, iv p3, iv p4, iv p5, .unset, .unset] [] _
      refine XS.iloadN X0.here hx rfl (hb hby d14_20) rfl ?_
      show own_s p e below s₁ m 21 #[iv p0, iv p1, iv p2, iv p3, iv p4, iv p5, .unset, .unset] [(.int p0)] _
      refine XS.iconst X0.here hx rfl (hb hby d14_21) ?_
      show own_s p e below s₁ m 22 #[iv p0, iv p1, iv p2, iv p3, iv p4, iv p5, .unset, .unset] [(.int (4 : Int32)), (.int p0)] _
      refine XS.idiv X0.here hx rfl (hb hby d14_22) rfl (by decide) ?_
      show own_s p e below s₁ m 23 #[iv p0, iv p1, iv p2, iv p3, iv p4, iv p5, .unset, .unset] [(.int (p0 / (4 : Int32)))] _
      refine XS.istore X0.here hx rfl (hb hby d14_23) rfl (l' := #[iv p0, iv p1, iv p2, iv p3, iv p4, iv p5, iv (p0 / (4 : Int32)), .unset]) rfl ?_
      show own_s p e below s₁ m 25 #[iv p0, iv p1, iv p2, iv p3, iv p4, iv p5, iv (p0 / (4 : Int32)), .unset] [] _
      refine XS.iload X0.here hx rfl (hb hby d14_25) rfl ?_
      exact kX
    by_cases hc4 : (p0 / (4 : Int32)) = (0 : Int32)
    · skip
      have ihc4 : ((p0 / (4 : Int32))).toInt = (0 : Int) := congrArg Int32.toInt hc4
      have pre5 : ∀ t, own_s p e below s₁ m 58 #[iv p0, iv p1, iv p2, iv p3, iv p4, iv p5, iv (p0 / (4 : Int32)), iv p3] [(.int (p0 % (4 : Int32))), (.int p3)] t → Steps p.tables e below S0 t := by
        intro tX kX
        refine pre3 _ ?_
        show own_s p e below s₁ m 27 #[iv p0, iv p1, iv p2, iv p3, iv p4, iv p5, iv (p0 / (4 : Int32)), .unset] [(.int (p0 / (4 : Int32)))] _
        refine XS.ifNo X0.here hx rfl (hb hby d14_27) rfl ((if0 _ _).trans (teq hc4).2) ?_
        show own_s p e below s₁ m 30 #[iv p0, iv p1, iv p2, iv p3, iv p4, iv p5, iv (p0 / (4 : Int32)), .unset] [] _
        refine XS.iloadN X0.here hx rfl (hb hby d14_30) rfl ?_
        show own_s p e below s₁ m 31 #[iv p0, iv p1, iv p2, iv p3, iv p4, iv p5, iv (p0 / (4 : Int32)), .unset] [(.int p3)] _
        refine XS.istore X0.here hx rfl (hb hby d14_31) rfl (l' := #[iv p0, iv p1, iv p2, iv p3, iv p4, iv p5, iv (p0 / (4 : Int32)), iv p3]) rfl ?_
        show own_s p e below s₁ m 33 #[iv p0, iv p1, iv p2, iv p3, iv p4, iv p5, iv (p0 / (4 : Int32)), iv p3] [] _
        refine XS.goto X0.here hx rfl (pc0 := 33) (pc' := 53) rfl (hb hby d14_33) (by decide) (by decide) ?_
        show own_s p e below s₁ m 53 #[iv p0, iv p1, iv p2, iv p3, iv p4, iv p5, iv (p0 / (4 : Int32)), iv p3] [] _
        refine XS.iload X0.here hx rfl (hb hby d14_53) rfl ?_
        show own_s p e below s₁ m 55 #[iv p0, iv p1, iv p2, iv p3, iv p4, iv p5, iv (p0 / (4 : Int32)), iv p3] [(.int p3)] _
        refine XS.iloadN X0.here hx rfl (hb hby d14_55) rfl ?_
        show own_s p e below s₁ m 56 #[iv p0, iv p1, iv p2, iv p3, iv p4, iv p5, iv (p0 / (4 : Int32)), iv p3] [(.int p0), (.int p3)] _
        refine XS.iconst X0.here hx rfl (hb hby d14_56) ?_
        show own_s p e below s₁ m 57 #[iv p0, iv p1, iv p2, iv p3, iv p4, iv p5, iv (p0 / (4 : Int32)), iv p3] [(.int (4 : Int32)), (.int p0), (.int p3)] _
        refine iremM X0 hx rfl (hb hby d14_57) rfl (by decide) ?_
        exact kX
      have d1 := (c_irem p0 4 4 (by decide)).1 (by omega)
      have hk : (p0 % (4 : Int32)) = Int32.ofNat (I % 4) := own_of (by omega) (by omega)
      obtain ⟨_, _, ⟨T6, L6, k6, n6⟩, -, X6, ⟨Lc6, hQ6, l6, y6, z6⟩, st6⟩ := Jvm.LawKit.callS X0 hx (y := (⟨"com/example/farcall/farcall/io/XdrEncoderSetIntPinLaw", "intByte", "(II)B"⟩ : MethodName)) hown (mvT hZ (hw _ (List.mem_of_getElem? (i := 69) rfl))) (mvT hZ (hw _ (List.mem_of_getElem? (i := 70) rfl))) (mvT hZ (hw _ (List.mem_of_getElem? (i := 64) rfl))) (mvT hZ (hw _ (List.mem_of_getElem? (i := 71) rfl))) (by decide) (backOf (W := 0) (rm13 l Z a0 hw [] p3 (p0 % (4 : Int32)) (I % 4) h0 n0 Z0 hk (by omega)) hZ (hw _ (List.mem_of_getElem? (i := 71) rfl)) (hw _ (List.mem_of_getElem? (i := 64) rfl)) (by decide) (by decide)) (g := (mkF m 58 #[iv p0, iv p1, iv p2, iv p3, iv p4, iv p5, iv (p0 / (4 : Int32)), iv p3] [(.int (p0 % (4 : Int32))), (.int p3)])) rfl (by rw [hml]; rfl) (argsL := [(.int p3), (.int (p0 % (4 : Int32)))]) (rest := []) (lenOf pd14_0 rfl) rfl (by show 2 * 0 + _ ≤ _; exact Nat.le_of_eq rfl) (hb hby d14_58) (fun _ _ => ⟨rfl, e0, (by decide : 0 + 0 ≤ _), (by decide : 0 + 0 ≤ _)⟩)
      dsimp only [Pt.U, Pt.locs, Pt.cells, Pt.slots] at X6 l6 y6 z6 st6 hQ6
      subst l6 y6 z6
      obtain ⟨rfl, Nq6, e6⟩ := hQ6
      have N6 := Fr.app N0 Nq6
      obtain ⟨LL7, X7, N7⟩ : ∃ LL, Stand p l e ({ frames := 1, cells := 0, slots := 0, locals := 15 } : Room) s m #[(.int p0), (.int p1), (.int p2), (.int p3), (.int p4), (.int p5)] below meth c T6 LL 0 0 ∧ Fr n0 LL := ⟨_, X6, N6⟩
      have pre8 : ∀ t, own_s p e below T6 m 61 #[iv p0, iv p1, iv p2, iv p3, iv p4, iv p5, iv (p0 / (4 : Int32)), iv p3] [(.int (own_by p3 (I % 4)))] t → Steps p.tables e below S0 t := fun tX kX => pre5 _ (st6 _ kX)
      subst hS0
      obtain ⟨fs, hr, hrun, hended, hW, hsame⟩ := X7.leave (v := (some (.int (nar .byte (own_by p3 (I % 4)))))) (fun h => by rw [Bd.returns] at h; cases h)
      refine ⟨_, _, pre8 _ (retN X7 hx (t := .byte) Bd.returns (by simp) (hb hby d14_61) hr), hrun, hended, _, _, rfl, ?_, ⟨_, rfl⟩, hW, hsame.mono (by decide) (by decide)⟩
      show Q14 Z p0 p1 p2 p3 p4 p5 I O h0 n0 (some (.int (nar .byte (own_by p3 (I % 4))))) T6.heap _
      exact ⟨congrArg (fun z => some (Value.int z)) ((own_nby _ _).trans (show own_by p3 (I % 4) = own_xp I O p2 p3 p4 p5 from by unfold own_xp own_xp0; rw [if_neg (by omega), if_pos (by omega)])), N7, e6⟩
    · skip
      have ihc4 : ¬ (((p0 / (4 : Int32))).toInt = (0 : Int)) := fun q => hc4 (Int32.toInt_inj.mp q)
      have pre9 : ∀ t, own_s p e below s₁ m 39 #[iv p0, iv p1, iv p2, iv p3, iv p4, iv p5, iv (p0 / (4 : Int32)), .unset] [(.int (1 : Int32)), (.int (p0 / (4 : Int32)))] t → Steps p.tables e below S0 t := by
        intro tX kX
        refine pre3 _ ?_
        show own_s p e below s₁ m 27 #[iv p0, iv p1, iv p2, iv p3, iv p4, iv p5, iv (p0 / (4 : Int32)), .unset] [(.int (p0 / (4 : Int32)))] _
        refine XS.ifYes X0.here hx rfl (pc0 := 27) (pc' := 36) rfl (hb hby d14_27) rfl ((if0 _ _).trans (feq hc4).2) (by decide) (by decide) ?_
        show own_s p e below s₁ m 36 #[iv p0, iv p1, iv p2, iv p3, iv p4, iv p5, iv (p0 / (4 : Int32)), .unset] [] _
        refine XS.iload X0.here hx rfl (hb hby d14_36) rfl ?_
        show own_s p e below s₁ m 38 #[iv p0, iv p1, iv p2, iv p3, iv p4, iv p5, iv (p0 / (4 : Int32)), .unset] [(.int (p0 / (4 : Int32)))] _
        refine XS.iconst X0.here hx rfl (hb hby d14_38) ?_
        exact kX
      by_cases hc10 : (p0 / (4 : Int32)) = (1 : Int32)
      · skip
        have ihc10 : ((p0 / (4 : Int32))).toInt = (1 : Int) := congrArg Int32.toInt hc10
        have pre11 : ∀ t, own_s p e below s₁ m 58 #[iv p0, iv p1, iv p2, iv p3, iv p4, iv p5, iv (p0 / (4 : Int32)), iv p4] [(.int (p0 % (4 : Int32))), (.int p4)] t → Steps p.tables e below S0 t := by
          intro tX kX
          refine pre9 _ ?_
          show own_s p e below s₁ m 39 #[iv p0, iv p1, iv p2, iv p3, iv p4, iv p5, iv (p0 / (4 : Int32)), .unset] [(.int (1 : Int32)), (.int (p0 / (4 : Int32)))] _
          refine XS.icmpNo X0.here hx rfl (hb hby d14_39) rfl (teq hc10).2 ?_
          show own_s p e below s₁ m 42 #[iv p0, iv p1, iv p2, iv p3, iv p4, iv p5, iv (p0 / (4 : Int32)), .unset] [] _
          refine XS.iload X0.here hx rfl (hb hby d14_42) rfl ?_
          show own_s p e below s₁ m 44 #[iv p0, iv p1, iv p2, iv p3, iv p4, iv p5, iv (p0 / (4 : Int32)), .unset] [(.int p4)] _
          refine XS.istore X0.here hx rfl (hb hby d14_44) rfl (l' := #[iv p0, iv p1, iv p2, iv p3, iv p4, iv p5, iv (p0 / (4 : Int32)), iv p4]) rfl ?_
          show own_s p e below s₁ m 46 #[iv p0, iv p1, iv p2, iv p3, iv p4, iv p5, iv (p0 / (4 : Int32)), iv p4] [] _
          refine XS.goto X0.here hx rfl (pc0 := 46) (pc' := 53) rfl (hb hby d14_46) (by decide) (by decide) ?_
          show own_s p e below s₁ m 53 #[iv p0, iv p1, iv p2, iv p3, iv p4, iv p5, iv (p0 / (4 : Int32)), iv p4] [] _
          refine XS.iload X0.here hx rfl (hb hby d14_53) rfl ?_
          show own_s p e below s₁ m 55 #[iv p0, iv p1, iv p2, iv p3, iv p4, iv p5, iv (p0 / (4 : Int32)), iv p4] [(.int p4)] _
          refine XS.iloadN X0.here hx rfl (hb hby d14_55) rfl ?_
          show own_s p e below s₁ m 56 #[iv p0, iv p1, iv p2, iv p3, iv p4, iv p5, iv (p0 / (4 : Int32)), iv p4] [(.int p0), (.int p4)] _
          refine XS.iconst X0.here hx rfl (hb hby d14_56) ?_
          show own_s p e below s₁ m 57 #[iv p0, iv p1, iv p2, iv p3, iv p4, iv p5, iv (p0 / (4 : Int32)), iv p4] [(.int (4 : Int32)), (.int p0), (.int p4)] _
          refine iremM X0 hx rfl (hb hby d14_57) rfl (by decide) ?_
          exact kX
        have d1 := (c_irem p0 4 4 (by decide)).1 (by omega)
        have hk : (p0 % (4 : Int32)) = Int32.ofNat (I % 4) := own_of (by omega) (by omega)
        obtain ⟨_, _, ⟨T12, L12, k12, n12⟩, -, X12, ⟨Lc12, hQ12, l12, y12, z12⟩, st12⟩ := Jvm.LawKit.callS X0 hx (y := (⟨"com/example/farcall/farcall/io/XdrEncoderSetIntPinLaw", "intByte", "(II)B"⟩ : MethodName)) hown (mvT hZ (hw _ (List.mem_of_getElem? (i := 69) rfl))) (mvT hZ (hw _ (List.mem_of_getElem? (i := 70) rfl))) (mvT hZ (hw _ (List.mem_of_getElem? (i := 64) rfl))) (mvT hZ (hw _ (List.mem_of_getElem? (i := 71) rfl))) (by decide) (backOf (W := 0) (rm13 l Z a0 hw [] p4 (p0 % (4 : Int32)) (I % 4) h0 n0 Z0 hk (by omega)) hZ (hw _ (List.mem_of_getElem? (i := 71) rfl)) (hw _ (List.mem_of_getElem? (i := 64) rfl)) (by decide) (by decide)) (g := (mkF m 58 #[iv p0, iv p1, iv p2, iv p3, iv p4, iv p5, iv (p0 / (4 : Int32)), iv p4] [(.int (p0 % (4 : Int32))), (.int p4)])) rfl (by rw [hml]; rfl) (argsL := [(.int p4), (.int (p0 % (4 : Int32)))]) (rest := []) (lenOf pd14_0 rfl) rfl (by show 2 * 0 + _ ≤ _; exact Nat.le_of_eq rfl) (hb hby d14_58) (fun _ _ => ⟨rfl, e0, (by decide : 0 + 0 ≤ _), (by decide : 0 + 0 ≤ _)⟩)
        dsimp only [Pt.U, Pt.locs, Pt.cells, Pt.slots] at X12 l12 y12 z12 st12 hQ12
        subst l12 y12 z12
        obtain ⟨rfl, Nq12, e12⟩ := hQ12
        have N12 := Fr.app N0 Nq12
        obtain ⟨LL13, X13, N13⟩ : ∃ LL, Stand p l e ({ frames := 1, cells := 0, slots := 0, locals := 15 } : Room) s m #[(.int p0), (.int p1), (.int p2), (.int p3), (.int p4), (.int p5)] below meth c T12 LL 0 0 ∧ Fr n0 LL := ⟨_, X12, N12⟩
        have pre14 : ∀ t, own_s p e below T12 m 61 #[iv p0, iv p1, iv p2, iv p3, iv p4, iv p5, iv (p0 / (4 : Int32)), iv p4] [(.int (own_by p4 (I % 4)))] t → Steps p.tables e below S0 t := fun tX kX => pre11 _ (st12 _ kX)
        subst hS0
        obtain ⟨fs, hr, hrun, hended, hW, hsame⟩ := X13.leave (v := (some (.int (nar .byte (own_by p4 (I % 4)))))) (fun h => by rw [Bd.returns] at h; cases h)
        refine ⟨_, _, pre14 _ (retN X13 hx (t := .byte) Bd.returns (by simp) (hb hby d14_61) hr), hrun, hended, _, _, rfl, ?_, ⟨_, rfl⟩, hW, hsame.mono (by decide) (by decide)⟩
        show Q14 Z p0 p1 p2 p3 p4 p5 I O h0 n0 (some (.int (nar .byte (own_by p4 (I % 4))))) T12.heap _
        exact ⟨congrArg (fun z => some (Value.int z)) ((own_nby _ _).trans (show own_by p4 (I % 4) = own_xp I O p2 p3 p4 p5 from by unfold own_xp own_xp0; rw [if_neg (by omega), if_neg (by omega), if_pos (by omega)])), N13, e12⟩
      · skip
        have ihc10 : ¬ (((p0 / (4 : Int32))).toInt = (1 : Int)) := fun q => hc10 (Int32.toInt_inj.mp q)
        have pre15 : ∀ t, own_s p e below s₁ m 58 #[iv p0, iv p1, iv p2, iv p3, iv p4, iv p5, iv (p0 / (4 : Int32)), iv p5] [(.int (p0 % (4 : Int32))), (.int p5)] t → Steps p.tables e below S0 t := by
          intro tX kX
          refine pre9 _ ?_
          show own_s p e below s₁ m 39 #[iv p0, iv p1, iv p2, iv p3, iv p4, iv p5, iv (p0 / (4 : Int32)), .unset] [(.int (1 : Int32)), (.int (p0 / (4 : Int32)))] _
          refine XS.icmpYes X0.here hx rfl (pc0 := 39) (pc' := 49) rfl (hb hby d14_39) rfl (feq hc10).2 (by decide) (by decide) ?_
          show own_s p e below s₁ m 49 #[iv p0, iv p1, iv p2, iv p3, iv p4, iv p5, iv (p0 / (4 : Int32)), .unset] [] _
          refine XS.iload X0.here hx rfl (hb hby d14_49) rfl ?_
          show own_s p e below s₁ m 51 #[iv p0, iv p1, iv p2, iv p3, iv p4, iv p5, iv (p0 / (4 : Int32)), .unset] [(.int p5)] _
          refine XS.istore X0.here hx rfl (hb hby d14_51) rfl (l' := #[iv p0, iv p1, iv p2, iv p3, iv p4, iv p5, iv (p0 / (4 : Int32)), iv p5]) rfl ?_
          show own_s p e below s₁ m 53 #[iv p0, iv p1, iv p2, iv p3, iv p4, iv p5, iv (p0 / (4 : Int32)), iv p5] [] _
          refine XS.iload X0.here hx rfl (hb hby d14_53) rfl ?_
          show own_s p e below s₁ m 55 #[iv p0, iv p1, iv p2, iv p3, iv p4, iv p5, iv (p0 / (4 : Int32)), iv p5] [(.int p5)] _
          refine XS.iloadN X0.here hx rfl (hb hby d14_55) rfl ?_
          show own_s p e below s₁ m 56 #[iv p0, iv p1, iv p2, iv p3, iv p4, iv p5, iv (p0 / (4 : Int32)), iv p5] [(.int p0), (.int p5)] _
          refine XS.iconst X0.here hx rfl (hb hby d14_56) ?_
          show own_s p e below s₁ m 57 #[iv p0, iv p1, iv p2, iv p3, iv p4, iv p5, iv (p0 / (4 : Int32)), iv p5] [(.int (4 : Int32)), (.int p0), (.int p5)] _
          refine iremM X0 hx rfl (hb hby d14_57) rfl (by decide) ?_
          exact kX
        have d1 := (c_irem p0 4 4 (by decide)).1 (by omega)
        have hk : (p0 % (4 : Int32)) = Int32.ofNat (I % 4) := own_of (by omega) (by omega)
        obtain ⟨_, _, ⟨T16, L16, k16, n16⟩, -, X16, ⟨Lc16, hQ16, l16, y16, z16⟩, st16⟩ := Jvm.LawKit.callS X0 hx (y := (⟨"com/example/farcall/farcall/io/XdrEncoderSetIntPinLaw", "intByte", "(II)B"⟩ : MethodName)) hown (mvT hZ (hw _ (List.mem_of_getElem? (i := 69) rfl))) (mvT hZ (hw _ (List.mem_of_getElem? (i := 70) rfl))) (mvT hZ (hw _ (List.mem_of_getElem? (i := 64) rfl))) (mvT hZ (hw _ (List.mem_of_getElem? (i := 71) rfl))) (by decide) (backOf (W := 0) (rm13 l Z a0 hw [] p5 (p0 % (4 : Int32)) (I % 4) h0 n0 Z0 hk (by omega)) hZ (hw _ (List.mem_of_getElem? (i := 71) rfl)) (hw _ (List.mem_of_getElem? (i := 64) rfl)) (by decide) (by decide)) (g := (mkF m 58 #[iv p0, iv p1, iv p2, iv p3, iv p4, iv p5, iv (p0 / (4 : Int32)), iv p5] [(.int (p0 % (4 : Int32))), (.int p5)])) rfl (by rw [hml]; rfl) (argsL := [(.int p5), (.int (p0 % (4 : Int32)))]) (rest := []) (lenOf pd14_0 rfl) rfl (by show 2 * 0 + _ ≤ _; exact Nat.le_of_eq rfl) (hb hby d14_58) (fun _ _ => ⟨rfl, e0, (by decide : 0 + 0 ≤ _), (by decide : 0 + 0 ≤ _)⟩)
        dsimp only [Pt.U, Pt.locs, Pt.cells, Pt.slots] at X16 l16 y16 z16 st16 hQ16
        subst l16 y16 z16
        obtain ⟨rfl, Nq16, e16⟩ := hQ16
        have N16 := Fr.app N0 Nq16
        obtain ⟨LL17, X17, N17⟩ : ∃ LL, Stand p l e ({ frames := 1, cells := 0, slots := 0, locals := 15 } : Room) s m #[(.int p0), (.int p1), (.int p2), (.int p3), (.int p4), (.int p5)] below meth c T16 LL 0 0 ∧ Fr n0 LL := ⟨_, X16, N16⟩
        have pre18 : ∀ t, own_s p e below T16 m 61 #[iv p0, iv p1, iv p2, iv p3, iv p4, iv p5, iv (p0 / (4 : Int32)), iv p5] [(.int (own_by p5 (I % 4)))] t → Steps p.tables e below S0 t := fun tX kX => pre15 _ (st16 _ kX)
        subst hS0
        obtain ⟨fs, hr, hrun, hended, hW, hsame⟩ := X17.leave (v := (some (.int (nar .byte (own_by p5 (I % 4)))))) (fun h => by rw [Bd.returns] at h; cases h)
        refine ⟨_, _, pre18 _ (retN X17 hx (t := .byte) Bd.returns (by simp) (hb hby d14_61) hr), hrun, hended, _, _, rfl, ?_, ⟨_, rfl⟩, hW, hsame.mono (by decide) (by decide)⟩
        show Q14 Z p0 p1 p2 p3 p4 p5 I O h0 n0 (some (.int (nar .byte (own_by p5 (I % 4))))) T16.heap _
        exact ⟨congrArg (fun z => some (Value.int z)) ((own_nby _ _).trans (show own_by p5 (I % 4) = own_xp I O p2 p3 p4 p5 from by unfold own_xp own_xp0; rw [if_neg (by omega), if_neg (by omega), if_neg (by omega)])), N17, e16⟩
  · skip
    have ihc2 : ¬ ((p0).toInt < (p1).toInt) := fun q => hc2 (Int32.lt_iff_toInt_lt.mpr q)
    have pre19 : ∀ t, own_s p e below s₁ m 9 #[iv p0, iv p1, iv p2, iv p3, iv p4, iv p5, .unset, .unset] [(.int (p1 + (4 : Int32))), (.int p0)] t → Steps p.tables e below S0 t := by
      intro tX kX
      refine pre1 _ ?_
      show own_s p e below s₁ m 2 #[iv p0, iv p1, iv p2, iv p3, iv p4, iv p5, .unset, .unset] [(.int p1), (.int p0)] _
      refine XS.icmpNo X0.here hx rfl (hb hby d14_2) rfl (flt hc2).1 ?_
      show own_s p e below s₁ m 5 #[iv p0, iv p1, iv p2, iv p3, iv p4, iv p5, .unset, .unset] [] _
      refine XS.iloadN X0.here hx rfl (hb hby d14_5) rfl ?_
      show own_s p e below s₁ m 6 #[iv p0, iv p1, iv p2, iv p3, iv p4, iv p5, .unset, .unset] [(.int p0)] _
      refine XS.iloadN X0.here hx rfl (hb hby d14_6) rfl ?_
      show own_s p e below s₁ m 7 #[iv p0, iv p1, iv p2, iv p3, iv p4, iv p5, .unset, .unset] [(.int p1), (.int p0)] _
      refine XS.iconst X0.here hx rfl (hb hby d14_7) ?_
      show own_s p e below s₁ m 8 #[iv p0, iv p1, iv p2, iv p3, iv p4, iv p5, .unset, .unset] [(.int (4 : Int32)), (.int p1), (.int p0)] _
      refine XS.iadd X0.here hx rfl (hb hby d14_8) rfl ?_
      exact kX
    by_cases hc20 : p0 < (p1 + (4 : Int32))
    · skip
      have ihc20 : (p0).toInt < ((p1 + (4 : Int32))).toInt := Int32.lt_iff_toInt_lt.mp hc20
      have pre21 : ∀ t, own_s p e below s₁ m 16 #[iv p0, iv p1, iv p2, iv p3, iv p4, iv p5, .unset, .unset] [(.int (p0 - p1)), (.int p2)] t → Steps p.tables e below S0 t := by
        intro tX kX
        refine pre19 _ ?_
        show own_s p e below s₁ m 9 #[iv p0, iv p1, iv p2, iv p3, iv p4, iv p5, .unset, .unset] [(.int (p1 + (4 : Int32))), (.int p0)] _
        refine XS.icmpNo X0.here hx rfl (hb hby d14_9) rfl (tlt hc20).2.1 ?_
        show own_s p e below s₁ m 12 #[iv p0, iv p1, iv p2, iv p3, iv p4, iv p5, .unset, .unset] [] _
        refine XS.iloadN X0.here hx rfl (hb hby d14_12) rfl ?_
        show own_s p e below s₁ m 13 #[iv p0, iv p1, iv p2, iv p3, iv p4, iv p5, .unset, .unset] [(.int p2)] _
        refine XS.iloadN X0.here hx rfl (hb hby d14_13) rfl ?_
        show own_s p e below s₁ m 14 #[iv p0, iv p1, iv p2, iv p3, iv p4, iv p5, .unset, .unset] [(.int p0), (.int p2)] _
        refine XS.iloadN X0.here hx rfl (hb hby d14_14) rfl ?_
        show own_s p e below s₁ m 15 #[iv p0, iv p1, iv p2, iv p3, iv p4, iv p5, .unset, .unset] [(.int p1), (.int p0), (.int p2)] _
        refine XS.isub X0.here hx rfl (hb hby d14_15) rfl ?_
        exact kX
      have d1 := c_isub p0 p1
      have d2 := rng32 (p0 - p1)
      have hk : (p0 - p1) = Int32.ofNat (I - O) := own_of (by omega) (by omega)
      obtain ⟨_, _, ⟨T22, L22, k22, n22⟩, -, X22, ⟨Lc22, hQ22, l22, y22, z22⟩, st22⟩ := Jvm.LawKit.callS X0 hx (y := (⟨"com/example/farcall/farcall/io/XdrEncoderSetIntPinLaw", "intByte", "(II)B"⟩ : MethodName)) hown (mvT hZ (hw _ (List.mem_of_getElem? (i := 69) rfl))) (mvT hZ (hw _ (List.mem_of_getElem? (i := 70) rfl))) (mvT hZ (hw _ (List.mem_of_getElem? (i := 64) rfl))) (mvT hZ (hw _ (List.mem_of_getElem? (i := 71) rfl))) (by decide) (backOf (W := 0) (rm13 l Z a0 hw [] p2 (p0 - p1) (I - O) h0 n0 Z0 hk (by omega)) hZ (hw _ (List.mem_of_getElem? (i := 71) rfl)) (hw _ (List.mem_of_getElem? (i := 64) rfl)) (by decide) (by decide)) (g := (mkF m 16 #[iv p0, iv p1, iv p2, iv p3, iv p4, iv p5, .unset, .unset] [(.int (p0 - p1)), (.int p2)])) rfl (by rw [hml]; rfl) (argsL := [(.int p2), (.int (p0 - p1))]) (rest := []) (lenOf pd14_0 rfl) rfl (by show 2 * 0 + _ ≤ _; exact Nat.le_of_eq rfl) (hb hby d14_16) (fun _ _ => ⟨rfl, e0, (by decide : 0 + 0 ≤ _), (by decide : 0 + 0 ≤ _)⟩)
      dsimp only [Pt.U, Pt.locs, Pt.cells, Pt.slots] at X22 l22 y22 z22 st22 hQ22
      subst l22 y22 z22
      obtain ⟨rfl, Nq22, e22⟩ := hQ22
      have N22 := Fr.app N0 Nq22
      obtain ⟨LL23, X23, N23⟩ : ∃ LL, Stand p l e ({ frames := 1, cells := 0, slots := 0, locals := 15 } : Room) s m #[(.int p0), (.int p1), (.int p2), (.int p3), (.int p4), (.int p5)] below meth c T22 LL 0 0 ∧ Fr n0 LL := ⟨_, X22, N22⟩
      have pre24 : ∀ t, own_s p e below T22 m 19 #[iv p0, iv p1, iv p2, iv p3, iv p4, iv p5, .unset, .unset] [(.int (own_by p2 (I - O)))] t → Steps p.tables e below S0 t := fun tX kX => pre21 _ (st22 _ kX)
      subst hS0
      obtain ⟨fs, hr, hrun, hended, hW, hsame⟩ := X23.leave (v := (some (.int (nar .byte (own_by p2 (I - O)))))) (fun h => by rw [Bd.returns] at h; cases h)
      refine ⟨_, _, pre24 _ (retN X23 hx (t := .byte) Bd.returns (by simp) (hb hby d14_19) hr), hrun, hended, _, _, rfl, ?_, ⟨_, rfl⟩, hW, hsame.mono (by decide) (by decide)⟩
      show Q14 Z p0 p1 p2 p3 p4 p5 I O h0 n0 (some (.int (nar .byte (own_by p2 (I - O))))) T22.heap _
      exact ⟨congrArg (fun z => some (Value.int z)) ((own_nby _ _).trans (show own_by p2 (I - O) = own_xp I O p2 p3 p4 p5 from by unfold own_xp; rw [if_pos (by omega)])), N23, e22⟩
    · skip
      have ihc20 : ¬ ((p0).toInt < ((p1 + (4 : Int32))).toInt) := fun q => hc20 (Int32.lt_iff_toInt_lt.mpr q)
      have pre25 : ∀ t, own_s p e below s₁ m 27 #[iv p0, iv p1, iv p2, iv p3, iv p4, iv p5, iv (p0 / (4 : Int32)), .unset] [(.int (p0 / (4 : Int32)))] t → Steps p.tables e below S0 t := by
        intro tX kX
        refine pre19 _ ?_
        show own_s p e below s₁ m 9 #[iv p0, iv p1, iv p2, iv p3, iv p4, iv p5, .unset, .unset] [(.int (p1 + (4 : Int32))), (.int p0)] _
        refine XS.icmpYes X0.here hx rfl (pc0 := 9) (pc' := 20) rfl (hb hby d14_9) rfl (flt hc20).2.1 (by decide) (by decide) ?_
        show own_s p e below s₁ m 20 #[iv p0, iv p1, iv p2, iv p3, iv p4, iv p5, .unset, .unset] [] _
        refine XS.iloadN X0.here hx rfl (hb hby d14_20) rfl ?_
        show own_s p e below s₁ m 21 #[iv p0, iv p1, iv p2, iv p3, iv p4, iv p5, .unset, .unset] [(.int p0)] _
        refine XS.iconst X0.here hx rfl (hb hby d14_21) ?_
        show own_s p e below s₁ m 22 #[iv p0, iv p1, iv p2, iv p3, iv p4, iv p5, .unset, .unset] [(.int (4 : Int32)), (.int p0)] _
        refine XS.idiv X0.here hx rfl (hb hby d14_22) rfl (by decide) ?_
        show own_s p e below s₁ m 23 #[iv p0, iv p1, iv p2, iv p3, iv p4, iv p5, .unset, .unset] [(.int (p0 / (4 : Int32)))] _
        refine XS.istore X0.here hx rfl (hb hby d14_23) rfl (l' := #[iv p0, iv p1, iv p2, iv p3, iv p4, iv p5, iv (p0 / (4 : Int32)), .unset]) rfl ?_
        show own_s p e below s₁ m 25 #[iv p0, iv p1, iv p2, iv p3, iv p4, iv p5, iv (p0 / (4 : Int32)), .unset] [] _
        refine XS.iload X0.here hx rfl (hb hby d14_25) rfl ?_
        exact kX
      by_cases hc26 : (p0 / (4 : Int32)) = (0 : Int32)
      · skip
        have ihc26 : ((p0 / (4 : Int32))).toInt = (0 : Int) := congrArg Int32.toInt hc26
        have pre27 : ∀ t, own_s p e below s₁ m 58 #[iv p0, iv p1, iv p2, iv p3, iv p4, iv p5, iv (p0 / (4 : Int32)), iv p3] [(.int (p0 % (4 : Int32))), (.int p3)] t → Steps p.tables e below S0 t := by
          intro tX kX
          refine pre25 _ ?_
          show own_s p e below s₁ m 27 #[iv p0, iv p1, iv p2, iv p3, iv p4, iv p5, iv (p0 / (4 : Int32)), .unset] [(.int (p0 / (4 : Int32)))] _
          refine XS.ifNo X0.here hx rfl (hb hby d14_27) rfl ((if0 _ _).trans (teq hc26).2) ?_
          show own_s p e below s₁ m 30 #[iv p0, iv p1, iv p2, iv p3, iv p4, iv p5, iv (p0 / (4 : Int32)), .unset] [] _
          refine XS.iloadN X0.here hx rfl (hb hby d14_30) rfl ?_
          show own_s p e below s₁ m 31 #[iv p0, iv p1, iv p2, iv p3, iv p4, iv p5, iv (p0 / (4 : Int32)), .unset] [(.int p3)] _
          refine XS.istore X0.here hx rfl (hb hby d14_31) rfl (l' := #[iv p0, iv p1, iv p2, iv p3, iv p4, iv p5, iv (p0 / (4 : Int32)), iv p3]) rfl ?_
          show own_s p e below s₁ m 33 #[iv p0, iv p1, iv p2, iv p3, iv p4, iv p5, iv (p0 / (4 : Int32)), iv p3] [] _
          refine XS.goto X0.here hx rfl (pc0 := 33) (pc' := 53) rfl (hb hby d14_33) (by decide) (by decide) ?_
          show own_s p e below s₁ m 53 #[iv p0, iv p1, iv p2, iv p3, iv p4, iv p5, iv (p0 / (4 : Int32)), iv p3] [] _
          refine XS.iload X0.here hx rfl (hb hby d14_53) rfl ?_
          show own_s p e below s₁ m 55 #[iv p0, iv p1, iv p2, iv p3, iv p4, iv p5, iv (p0 / (4 : Int32)), iv p3] [(.int p3)] _
          refine XS.iloadN X0.here hx rfl (hb hby d14_55) rfl ?_
          show own_s p e below s₁ m 56 #[iv p0, iv p1, iv p2, iv p3, iv p4, iv p5, iv (p0 / (4 : Int32)), iv p3] [(.int p0), (.int p3)] _
          refine XS.iconst X0.here hx rfl (hb hby d14_56) ?_
          show own_s p e below s₁ m 57 #[iv p0, iv p1, iv p2, iv p3, iv p4, iv p5, iv (p0 / (4 : Int32)), iv p3] [(.int (4 : Int32)), (.int p0), (.int p3)] _
          refine iremM X0 hx rfl (hb hby d14_57) rfl (by decide) ?_
          exact kX
        have d1 := (c_irem p0 4 4 (by decide)).1 (by omega)
        have hk : (p0 % (4 : Int32)) = Int32.ofNat (I % 4) := own_of (by omega) (by omega)
        obtain ⟨_, _, ⟨T28, L28, k28, n28⟩, -, X28, ⟨Lc28, hQ28, l28, y28, z28⟩, st28⟩ := Jvm.LawKit.callS X0 hx (y := (⟨"com/example/farcall/farcall/io/XdrEncoderSetIntPinLaw", "intByte", "(II)B"⟩ : MethodName)) hown (mvT hZ (hw _ (List.mem_of_getElem? (i := 69) rfl))) (mvT hZ (hw _ (List.mem_of_getElem? (i := 70) rfl))) (mvT hZ (hw _ (List.mem_of_getElem? (i := 64) rfl))) (mvT hZ (hw _ (List.mem_of_getElem? (i := 71) rfl))) (by decide) (backOf (W := 0) (rm13 l Z a0 hw [] p3 (p0 % (4 : Int32)) (I % 4) h0 n0 Z0 hk (by omega)) hZ (hw _ (List.mem_of_getElem? (i := 71) rfl)) (hw _ (List.mem_of_getElem? (i := 64) rfl)) (by decide) (by decide)) (g := (mkF m 58 #[iv p0, iv p1, iv p2, iv p3, iv p4, iv p5, iv (p0 / (4 : Int32)), iv p3] [(.int (p0 % (4 : Int32))), (.int p3)])) rfl (by rw [hml]; rfl) (argsL := [(.int p3), (.int (p0 % (4 : Int32)))]) (rest := []) (lenOf pd14_0 rfl) rfl (by show 2 * 0 + _ ≤ _; exact Nat.le_of_eq rfl) (hb hby d14_58) (fun _ _ => ⟨rfl, e0, (by decide : 0 + 0 ≤ _), (by decide : 0 + 0 ≤ _)⟩)
        dsimp only [Pt.U, Pt.locs, Pt.cells, Pt.slots] at X28 l28 y28 z28 st28 hQ28
        subst l28 y28 z28
        obtain ⟨rfl, Nq28, e28⟩ := hQ28
        have N28 := Fr.app N0 Nq28
        obtain ⟨LL29, X29, N29⟩ : ∃ LL, Stand p l e ({ frames := 1, cells := 0, slots := 0, locals := 15 } : Room) s m #[(.int p0), (.int p1), (.int p2), (.int p3), (.int p4), (.int p5)] below meth c T28 LL 0 0 ∧ Fr n0 LL := ⟨_, X28, N28⟩
        have pre30 : ∀ t, own_s p e below T28 m 61 #[iv p0, iv p1, iv p2, iv p3, iv p4, iv p5, iv (p0 / (4 : Int32)), iv p3] [(.int (own_by p3 (I % 4)))] t → Steps p.tables e below S0 t := fun tX kX => pre27 _ (st28 _ kX)
        subst hS0
        obtain ⟨fs, hr, hrun, hended, hW, hsame⟩ := X29.leave (v := (some (.int (nar .byte (own_by p3 (I % 4)))))) (fun h => by rw [Bd.returns] at h; cases h)
        refine ⟨_, _, pre30 _ (retN X29 hx (t := .byte) Bd.returns (by simp) (hb hby d14_61) hr), hrun, hended, _, _, rfl, ?_, ⟨_, rfl⟩, hW, hsame.mono (by decide) (by decide)⟩
        show Q14 Z p0 p1 p2 p3 p4 p5 I O h0 n0 (some (.int (nar .byte (own_by p3 (I % 4))))) T28.heap _
        exact ⟨congrArg (fun z => some (Value.int z)) ((own_nby _ _).trans (show own_by p3 (I % 4) = own_xp I O p2 p3 p4 p5 from by unfold own_xp own_xp0; rw [if_neg (by omega), if_pos (by omega)])), N29, e28⟩
      · skip
        have ihc26 : ¬ (((p0 / (4 : Int32))).toInt = (0 : Int)) := fun q => hc26 (Int32.toInt_inj.mp q)
        have pre31 : ∀ t, own_s p e below s₁ m 39 #[iv p0, iv p1, iv p2, iv p3, iv p4, iv p5, iv (p0 / (4 : Int32)), .unset] [(.int (1 : Int32)), (.int (p0 / (4 : Int32)))] t → Steps p.tables e below S0 t := by
          intro tX kX
          refine pre25 _ ?_
          show own_s p e below s₁ m 27 #[iv p0, iv p1, iv p2, iv p3, iv p4, iv p5, iv (p0 / (4 : Int32)), .unset] [(.int (p0 / (4 : Int32)))] _
          refine XS.ifYes X0.here hx rfl (pc0 := 27) (pc' := 36) rfl (hb hby d14_27) rfl ((if0 _ _).trans (feq hc26).2) (by decide) (by decide) ?_
          show own_s p e below s₁ m 36 #[iv p0, iv p1, iv p2, iv p3, iv p4, iv p5, iv (p0 / (4 : Int32)), .unset] [] _
          refine XS.iload X0.here hx rfl (hb hby d14_36) rfl ?_
          show own_s p e below s₁ m 38 #[iv p0, iv p1, iv p2, iv p3, iv p4, iv p5, iv (p0 / (4 : Int32)), .unset] [(.int (p0 / (4 : Int32)))] _
          refine XS.iconst X0.here hx rfl (hb hby d14_38) ?_
          exact kX
        by_cases hc32 : (p0 / (4 : Int32)) = (1 : Int32)
        · skip
          have ihc32 : ((p0 / (4 : Int32))).toInt = (1 : Int) := congrArg Int32.toInt hc32
          have pre33 : ∀ t, own_s p e below s₁ m 58 #[iv p0, iv p1, iv p2, iv p3, iv p4, iv p5, iv (p0 / (4 : Int32)), iv p4] [(.int (p0 % (4 : Int32))), (.int p4)] t → Steps p.tables e below S0 t := by
            intro tX kX
            refine pre31 _ ?_
            show own_s p e below s₁ m 39 #[iv p0, iv p1, iv p2, iv p3, iv p4, iv p5, iv (p0 / (4 : Int32)), .unset] [(.int (1 : Int32)), (.int (p0 / (4 : Int32)))] _
            refine XS.icmpNo X0.here hx rfl (hb hby d14_39) rfl (teq hc32).2 ?_
            show own_s p e below s₁ m 42 #[iv p0, iv p1, iv p2, iv p3, iv p4, iv p5, iv (p0 / (4 : Int32)), .unset] [] _
            refine XS.iload X0.here hx rfl (hb hby d14_42) rfl ?_
            show own_s p e below s₁ m 44 #[iv p0, iv p1, iv p2, iv p3, iv p4, iv p5, iv (p0 / (4 : Int32)), .unset] [(.int p4)] _
            refine XS.istore X0.here hx rfl (hb hby d14_44) rfl (l' := #[iv p0, iv p1, iv p2, iv p3, iv p4, iv p5, iv (p0 / (4 : Int32)), iv p4]) rfl ?_
            show own_s p e below s₁ m 46 #[iv p0, iv p1, iv p2, iv p3, iv p4, iv p5, iv (p0 / (4 : Int32)), iv p4] [] _
            refine XS.goto X0.here hx rfl (pc0 := 46) (pc' := 53) rfl (hb hby d14_46) (by decide) (by decide) ?_
            show own_s p e below s₁ m 53 #[iv p0, iv p1, iv p2, iv p3, iv p4, iv p5, iv (p0 / (4 : Int32)), iv p4] [] _
            refine XS.iload X0.here hx rfl (hb hby d14_53) rfl ?_
            show own_s p e below s₁ m 55 #[iv p0, iv p1, iv p2, iv p3, iv p4, iv p5, iv (p0 / (4 : Int32)), iv p4] [(.int p4)] _
            refine XS.iloadN X0.here hx rfl (hb hby d14_55) rfl ?_
            show own_s p e below s₁ m 56 #[iv p0, iv p1, iv p2, iv p3, iv p4, iv p5, iv (p0 / (4 : Int32)), iv p4] [(.int p0), (.int p4)] _
            refine XS.iconst X0.here hx rfl (hb hby d14_56) ?_
            show own_s p e below s₁ m 57 #[iv p0, iv p1, iv p2, iv p3, iv p4, iv p5, iv (p0 / (4 : Int32)), iv p4] [(.int (4 : Int32)), (.int p0), (.int p4)] _
            refine iremM X0 hx rfl (hb hby d14_57) rfl (by decide) ?_
            exact kX
          have d1 := (c_irem p0 4 4 (by decide)).1 (by omega)
          have hk : (p0 % (4 : Int32)) = Int32.ofNat (I % 4) := own_of (by omega) (by omega)
          obtain ⟨_, _, ⟨T34, L34, k34, n34⟩, -, X34, ⟨Lc34, hQ34, l34, y34, z34⟩, st34⟩ := Jvm.LawKit.callS X0 hx (y := (⟨"com/example/farcall/farcall/io/XdrEncoderSetIntPinLaw", "intByte", "(II)B"⟩ : MethodName)) hown (mvT hZ (hw _ (List.mem_of_getElem? (i := 69) rfl))) (mvT hZ (hw _ (List.mem_of_getElem? (i := 70) rfl))) (mvT hZ (hw _ (List.mem_of_getElem? (i := 64) rfl))) (mvT hZ (hw _ (List.mem_of_getElem? (i := 71) rfl))) (by decide) (backOf (W := 0) (rm13 l Z a0 hw [] p4 (p0 % (4 : Int32)) (I % 4) h0 n0 Z0 hk (by omega)) hZ (hw _ (List.mem_of_getElem? (i := 71) rfl)) (hw _ (List.mem_of_getElem? (i := 64) rfl)) (by decide) (by decide)) (g := (mkF m 58 #[iv p0, iv p1, iv p2, iv p3, iv p4, iv p5, iv (p0 / (4 : Int32)), iv p4] [(.int (p0 % (4 : Int32))), (.int p4)])) rfl (by rw [hml]; rfl) (argsL := [(.int p4), (.int (p0 % (4 : Int32)))]) (rest := []) (lenOf pd14_0 rfl) rfl (by show 2 * 0 + _ ≤ _; exact Nat.le_of_eq rfl) (hb hby d14_58) (fun _ _ => ⟨rfl, e0, (by decide : 0 + 0 ≤ _), (by decide : 0 + 0 ≤ _)⟩)
          dsimp only [Pt.U, Pt.locs, Pt.cells, Pt.slots] at X34 l34 y34 z34 st34 hQ34
          subst l34 y34 z34
          obtain ⟨rfl, Nq34, e34⟩ := hQ34
          have N34 := Fr.app N0 Nq34
          obtain ⟨LL35, X35, N35⟩ : ∃ LL, Stand p l e ({ frames := 1, cells := 0, slots := 0, locals := 15 } : Room) s m #[(.int p0), (.int p1), (.int p2), (.int p3), (.int p4), (.int p5)] below meth c T34 LL 0 0 ∧ Fr n0 LL := ⟨_, X34, N34⟩
          have pre36 : ∀ t, own_s p e below T34 m 61 #[iv p0, iv p1, iv p2, iv p3, iv p4, iv p5, iv (p0 / (4 : Int32)), iv p4] [(.int (own_by p4 (I % 4)))] t → Steps p.tables e below S0 t := fun tX kX => pre33 _ (st34 _ kX)
          subst hS0
          obtain ⟨fs, hr, hrun, hended, hW, hsame⟩ := X35.leave (v := (some (.int (nar .byte (own_by p4 (I % 4)))))) (fun h => by rw [Bd.returns] at h; cases h)
          refine ⟨_, _, pre36 _ (retN X35 hx (t := .byte) Bd.returns (by simp) (hb hby d14_61) hr), hrun, hended, _, _, rfl, ?_, ⟨_, rfl⟩, hW, hsame.mono (by decide) (by decide)⟩
          show Q14 Z p0 p1 p2 p3 p4 p5 I O h0 n0 (some (.int (nar .byte (own_by p4 (I % 4))))) T34.heap _
          exact ⟨congrArg (fun z => some (Value.int z)) ((own_nby _ _).trans (show own_by p4 (I % 4) = own_xp I O p2 p3 p4 p5 from by unfold own_xp own_xp0; rw [if_neg (by omega), if_neg (by omega), if_pos (by omega)])), N35, e34⟩
        · skip
          have ihc32 : ¬ (((p0 / (4 : Int32))).toInt = (1 : Int)) := fun q => hc32 (Int32.toInt_inj.mp q)
          have pre37 : ∀ t, own_s p e below s₁ m 58 #[iv p0, iv p1, iv p2, iv p3, iv p4, iv p5, iv (p0 / (4 : Int32)), iv p5] [(.int (p0 % (4 : Int32))), (.int p5)] t → Steps p.tables e below S0 t := by
            intro tX kX
            refine pre31 _ ?_
            show own_s p e below s₁ m 39 #[iv p0, iv p1, iv p2, iv p3, iv p4, iv p5, iv (p0 / (4 : Int32)), .unset] [(.int (1 : Int32)), (.int (p0 / (4 : Int32)))] _
            refine XS.icmpYes X0.here hx rfl (pc0 := 39) (pc' := 49) rfl (hb hby d14_39) rfl (feq hc32).2 (by decide) (by decide) ?_
            show own_s p e below s₁ m 49 #[iv p0, iv p1, iv p2, iv p3, iv p4, iv p5, iv (p0 / (4 : Int32)), .unset] [] _
            refine XS.iload X0.here hx rfl (hb hby d14_49) rfl ?_
            show own_s p e below s₁ m 51 #[iv p0, iv p1, iv p2, iv p3, iv p4, iv p5, iv (p0 / (4 : Int32)), .unset] [(.int p5)] _
            refine XS.istore X0.here hx rfl (hb hby d14_51) rfl (l' := #[iv p0, iv p1, iv p2, iv p3, iv p4, iv p5, iv (p0 / (4 : Int32)), iv p5]) rfl ?_
            show own_s p e below s₁ m 53 #[iv p0, iv p1, iv p2, iv p3, iv p4, iv p5, iv (p0 / (4 : Int32)), iv p5] [] _
            refine XS.iload X0.here hx rfl (hb hby d14_53) rfl ?_
            show own_s p e below s₁ m 55 #[iv p0, iv p1, iv p2, iv p3, iv p4, iv p5, iv (p0 / (4 : Int32)), iv p5] [(.int p5)] _
            refine XS.iloadN X0.here hx rfl (hb hby d14_55) rfl ?_
            show own_s p e below s₁ m 56 #[iv p0, iv p1, iv p2, iv p3, iv p4, iv p5, iv (p0 / (4 : Int32)), iv p5] [(.int p0), (.int p5)] _
            refine XS.iconst X0.here hx rfl (hb hby d14_56) ?_
            show own_s p e below s₁ m 57 #[iv p0, iv p1, iv p2, iv p3, iv p4, iv p5, iv (p0 / (4 : Int32)), iv p5] [(.int (4 : Int32)), (.int p0), (.int p5)] _
            refine iremM X0 hx rfl (hb hby d14_57) rfl (by decide) ?_
            exact kX
          have d1 := (c_irem p0 4 4 (by decide)).1 (by omega)
          have hk : (p0 % (4 : Int32)) = Int32.ofNat (I % 4) := own_of (by omega) (by omega)
          obtain ⟨_, _, ⟨T38, L38, k38, n38⟩, -, X38, ⟨Lc38, hQ38, l38, y38, z38⟩, st38⟩ := Jvm.LawKit.callS X0 hx (y := (⟨"com/example/farcall/farcall/io/XdrEncoderSetIntPinLaw", "intByte", "(II)B"⟩ : MethodName)) hown (mvT hZ (hw _ (List.mem_of_getElem? (i := 69) rfl))) (mvT hZ (hw _ (List.mem_of_getElem? (i := 70) rfl))) (mvT hZ (hw _ (List.mem_of_getElem? (i := 64) rfl))) (mvT hZ (hw _ (List.mem_of_getElem? (i := 71) rfl))) (by decide) (backOf (W := 0) (rm13 l Z a0 hw [] p5 (p0 % (4 : Int32)) (I % 4) h0 n0 Z0 hk (by omega)) hZ (hw _ (List.mem_of_getElem? (i := 71) rfl)) (hw _ (List.mem_of_getElem? (i := 64) rfl)) (by decide) (by decide)) (g := (mkF m 58 #[iv p0, iv p1, iv p2, iv p3, iv p4, iv p5, iv (p0 / (4 : Int32)), iv p5] [(.int (p0 % (4 : Int32))), (.int p5)])) rfl (by rw [hml]; rfl) (argsL := [(.int p5), (.int (p0 % (4 : Int32)))]) (rest := []) (lenOf pd14_0 rfl) rfl (by show 2 * 0 + _ ≤ _; exact Nat.le_of_eq rfl) (hb hby d14_58) (fun _ _ => ⟨rfl, e0, (by decide : 0 + 0 ≤ _), (by decide : 0 + 0 ≤ _)⟩)
          dsimp only [Pt.U, Pt.locs, Pt.cells, Pt.slots] at X38 l38 y38 z38 st38 hQ38
          subst l38 y38 z38
          obtain ⟨rfl, Nq38, e38⟩ := hQ38
          have N38 := Fr.app N0 Nq38
          obtain ⟨LL39, X39, N39⟩ : ∃ LL, Stand p l e ({ frames := 1, cells := 0, slots := 0, locals := 15 } : Room) s m #[(.int p0), (.int p1), (.int p2), (.int p3), (.int p4), (.int p5)] below meth c T38 LL 0 0 ∧ Fr n0 LL := ⟨_, X38, N38⟩
          have pre40 : ∀ t, own_s p e below T38 m 61 #[iv p0, iv p1, iv p2, iv p3, iv p4, iv p5, iv (p0 / (4 : Int32)), iv p5] [(.int (own_by p5 (I % 4)))] t → Steps p.tables e below S0 t := fun tX kX => pre37 _ (st38 _ kX)
          subst hS0
          obtain ⟨fs, hr, hrun, hended, hW, hsame⟩ := X39.leave (v := (some (.int (nar .byte (own_by p5 (I % 4)))))) (fun h => by rw [Bd.returns] at h; cases h)
          refine ⟨_, _, pre40 _ (retN X39 hx (t := .byte) Bd.returns (by simp) (hb hby d14_61) hr), hrun, hended, _, _, rfl, ?_, ⟨_, rfl⟩, hW, hsame.mono (by decide) (by decide)⟩
          show Q14 Z p0 p1 p2 p3 p4 p5 I O h0 n0 (some (.int (nar .byte (own_by p5 (I % 4))))) T38.heap _
          exact ⟨congrArg (fun z => some (Value.int z)) ((own_nby _ _).trans (show own_by p5 (I % 4) = own_xp I O p2 p3 p4 p5 from by unfold own_xp own_xp0; rw [if_neg (by omega), if_neg (by omega), if_neg (by omega)])), N39, e38⟩
theorem d15_0 : decode method_4_code 0 = .ok (.aload_n 0, 1) := by decide +kernel
theorem d15_1 : decode method_4_code 1 = .ok (.iload_n 1, 1) := by decide +kernel
theorem d15_2 : decode method_4_code 2 = .ok (.iload_n 2, 1) := by decide +kernel
theorem d15_3 : decode method_4_code 3 = .ok (.iadd, 1) := by decide +kernel
theorem d15_4 : decode method_4_code 4 = .ok (.baload, 1) := by decide +kernel
theorem d15_5 : decode method_4_code 5 = .ok (.iload_n 2, 1) := by decide +kernel
theorem d15_6 : decode method_4_code 6 = .ok (.iload_n 3, 1) := by decide +kernel
theorem d15_7 : decode method_4_code 7 = .ok (.iload 4, 2) := by decide +kernel
theorem d15_9 : decode method_4_code 9 = .ok (.iload 5, 2) := by decide +kernel
theorem d15_11 : decode method_4_code 11 = .ok (.iload 6, 2) := by decide +kernel
theorem d15_13 : decode method_4_code 13 = .ok (.iload 7, 2) := by decide +kernel
theorem d15_15 : decode method_4_code 15 = .ok (.invokestatic 13, 3) := by decide +kernel
theorem d15_18 : decode method_4_code 18 = .ok (.if_icmp .ne 7, 3) := by decide +kernel
theorem d15_21 : decode method_4_code 21 = .ok (.iconst 1, 1) := by decide +kernel
theorem d15_22 : decode method_4_code 22 = .ok (.goto 4, 3) := by decide +kernel
theorem d15_26 : decode method_4_code 26 = .ok (.ireturn, 1) := by decide +kernel
theorem pn_15 : plainName "com/example/farcall/farcall/io/XdrEncoderSetIntPinLaw" = true := by first | (simp [plainName, overriddenIn]; done) | decide +kernel
theorem pd15_0 : parseMethodDescriptor "(IIIIII)B" = some ⟨[.int, .int, .int, .int, .int, .int], some .byte⟩ := by decide +kernel
theorem ef_15 (m : MethodId) (r : Addr) (p1 : Int32) (p2 : Int32) (p3 : Int32) (p4 : Int32) (p5 : Int32) (p6 : Int32) (p7 : Int32) : entryFrame m #[(.ref r), (.int p1), (.int p2), (.int p3), (.int p4), (.int p5), (.int p6), (.int p7)] 8 = mkF m 0 #[rv r, iv p1, iv p2, iv p3, iv p4, iv p5, iv p6, iv p7] [] := by first | (simp [entryFrame, mkF, argsToLocals, Value.category]; done) | rfl
def Q15 (Z : State) (r : Addr) (p1 : Int32) (p2 : Int32) (p3 : Int32) (p4 : Int32) (p5 : Int32) (p6 : Int32) (p7 : Int32) (R : Nat → Int32) (N : Nat) (B : Nat) (I : Nat) (O : Nat) (h0 : Heap) (n0 : Nat) (v : Option Value) (h : Heap) (L : List Loc) : Prop := v = some (.int 1) ∧ Fr n0 L ∧ h = h0
set_option maxRecDepth 65536 in
set_option maxHeartbeats 40000000 in
theorem rm15 (l : Launch) (Z : State) (a0 : Array Value) (hw : ∀ d ∈ tables_1, d.before a0 Z = true) (ws : List Jvm.Cond) (r : Addr) (p1 : Int32) (p2 : Int32) (p3 : Int32) (p4 : Int32) (p5 : Int32) (p6 : Int32) (p7 : Int32) (R : Nat → Int32) (N : Nat) (B : Nat) (I : Nat) (O : Nat) (h0 : Heap) (n0 : Nat) (Z0 : n0 ≤ h0.size) (A_r : own_Af Z h0 r .byte N (fun j => .int (R j))) (hp1 : p1 = Int32.ofNat B) (hp2 : p2 = Int32.ofNat I) (hp3 : p3 = Int32.ofNat O) (hI : I ≤ 11) (hO : O ≤ 8) (hB : B ≤ 4) (hN : B + 12 ≤ N) (hR : R (B + I) = own_xp I O p4 p5 p6 p7) :
    MetFree l (⟨"com/example/farcall/farcall/io/XdrEncoderSetIntPinLaw", "at", "([BIIIIIII)Z"⟩ : MethodName) (head1 (Jvm.Cond.code (⟨"com/example/farcall/farcall/io/XdrEncoderSetIntPinLaw", "at", "([BIIIIIII)Z"⟩ : MethodName) method_4_code 8 (some .boolean) :: ws) ({ frames := 2, cells := 0, slots := 0, locals := 40 } : Room)) (fun aX UX => aX = #[(.ref r), (.int p1), (.int p2), (.int p3), (.int p4), (.int p5), (.int p6), (.int p7)] ∧ Z.Warmed39 UX.vm ∧ UX.heap = h0) (fun _ _ _ _ _ => True) (fun _ UX oX UY => ∃ vX LX, oX = .returned vX ∧ Q15 Z r p1 p2 p3 p4 p5 p6 p7 R N B I O h0 n0 vX UY.heap LX ∧ FrameEnd UX oX UY LX ({ frames := 2, cells := 0, slots := 0, locals := 40 } : Room).cells ({ frames := 2, cells := 0, slots := 0, locals := 40 } : Room).slots) := by
  refine MetFree.of_bodySF (plainFor_of_name pn_15) hisR ?_
  intro p e s m args below meth c s₁ Bd hml0 hPX hKX
  obtain ⟨rfl, hZ, hh⟩ := hPX
  have hx := Bd.exec
  have hby := Bd.bytes
  have hml : c.maxLocals = 8 := hml0
  have hown : s.vm.findClass "com/example/farcall/farcall/io/XdrEncoderSetIntPinLaw" = some m.cls := findClass_of_methodNamed Bd.named
  have hnm := (name_of_methodNamed Bd.named Bd.method).1
  have X0 : Stand p l e ({ frames := 2, cells := 0, slots := 0, locals := 40 } : Room) s m #[(.ref r), (.int p1), (.int p2), (.int p3), (.int p4), (.int p5), (.int p6), (.int p7)] below meth c s₁ [] 0 0 := Stand.of_body Bd
  have e0 : s₁.heap = h0 := by rw [← hh, Bd.state]; rfl
  have N0 := Fr.nil n0
  have pre0 : ∀ t, Steps p.tables e below (s₁.setTop (mkF m 0 #[rv r, iv p1, iv p2, iv p3, iv p4, iv p5, iv p6, iv p7] [])) t → Steps p.tables e below (s₁.setTop (entryFrame m #[(.ref r), (.int p1), (.int p2), (.int p3), (.int p4), (.int p5), (.int p6), (.int p7)] 8)) t := fun t k => castTop (ef_15 m r p1 p2 p3 p4 p5 p6 p7) k
  obtain ⟨S0, hS0⟩ : ∃ z, z = (s₁.setTop (entryFrame m #[(.ref r), (.int p1), (.int p2), (.int p3), (.int p4), (.int p5), (.int p6), (.int p7)] 8)) := ⟨_, rfl⟩
  rw [← hS0] at pre0
  have iS : (p1 + p2).toInt = ((B + I : Nat) : Int) := by rw [hp1, hp2]; have d1 := c_iadd (Int32.ofNat B) (Int32.ofNat I); have d2 := rng32 (Int32.ofNat B + Int32.ofNat I); have d3 : (Int32.ofNat B).toInt = B := own_ofn (by omega); have d4 : (Int32.ofNat I).toInt = I := own_ofn (by omega); omega
  have pre2 : ∀ t, own_s p e below s₁ m 4 #[rv r, iv p1, iv p2, iv p3, iv p4, iv p5, iv p6, iv p7] [(.int (p1 + p2)), (.ref r)] t → Steps p.tables e below S0 t := by
    intro tX kX
    refine pre0 _ ?_
    show own_s p e below s₁ m 0 #[rv r, iv p1, iv p2, iv p3, iv p4, iv p5, iv p6, iv p7] [] _
    refine XS.aloadN X0.here hx rfl (hb hby d15_0) rfl rfl ?_
    show own_s p e below s₁ m 1 #[rv r, iv p1, iv p2, iv p3, iv p4, iv p5, iv p6, iv p7] [(.ref r)] _
    refine XS.iloadN X0.here hx rfl (hb hby d15_1) rfl ?_
    show own_s p e below s₁ m 2 #[rv r, iv p1, iv p2, iv p3, iv p4, iv p5, iv p6, iv p7] [(.int p1), (.ref r)] _
    refine XS.iloadN X0.here hx rfl (hb hby d15_2) rfl ?_
    show own_s p e below s₁ m 3 #[rv r, iv p1, iv p2, iv p3, iv p4, iv p5, iv p6, iv p7] [(.int p2), (.int p1), (.ref r)] _
    refine XS.iadd X0.here hx rfl (hb hby d15_3) rfl ?_
    exact kX
  obtain ⟨cl1, Ar1, S1, M1, H1⟩ := id A_r
  have pre3 : ∀ t, own_s p e below s₁ m 15 #[rv r, iv p1, iv p2, iv p3, iv p4, iv p5, iv p6, iv p7] [(.int p7), (.int p6), (.int p5), (.int p4), (.int p3), (.int p2), (.int (R (B + I)))] t → Steps p.tables e below S0 t := by
    intro tX kX
    refine pre2 _ ?_
    show own_s p e below s₁ m 4 #[rv r, iv p1, iv p2, iv p3, iv p4, iv p5, iv p6, iv p7] [(.int (p1 + p2)), (.ref r)] _
    refine X0.baloadBytes hx (j := (p1 + p2)) (v := (.int (R (B + I)))) (by rw [e0]; exact Ar1.1) (State.isArrayOf_alike hZ.alike Ar1.2.1) Ar1.2.2 (own_inb S1 M1 (own_idx (by omega) (by omega))) (own_get H1 S1 (own_idx (by omega) (by omega)) (by show Value.int (R (p1 + p2).toNatClampNeg) = _; rw [own_nat iS])) (g := (mkF m 4 #[rv r, iv p1, iv p2, iv p3, iv p4, iv p5, iv p6, iv p7] [(.int (p1 + p2)), (.ref r)])) rfl rfl (hb hby d15_4) _ ?_
    show own_s p e below s₁ m 5 #[rv r, iv p1, iv p2, iv p3, iv p4, iv p5, iv p6, iv p7] [(.int (R (B + I)))] _
    refine XS.iloadN X0.here hx rfl (hb hby d15_5) rfl ?_
    show own_s p e below s₁ m 6 #[rv r, iv p1, iv p2, iv p3, iv p4, iv p5, iv p6, iv p7] [(.int p2), (.int (R (B + I)))] _
    refine XS.iloadN X0.here hx rfl (hb hby d15_6) rfl ?_
    show own_s p e below s₁ m 7 #[rv r, iv p1, iv p2, iv p3, iv p4, iv p5, iv p6, iv p7] [(.int p3), (.int p2), (.int (R (B + I)))] _
    refine XS.iload X0.here hx rfl (hb hby d15_7) rfl ?_
    show own_s p e below s₁ m 9 #[rv r, iv p1, iv p2, iv p3, iv p4, iv p5, iv p6, iv p7] [(.int p4), (.int p3), (.int p2), (.int (R (B + I)))] _
    refine XS.iload X0.here hx rfl (hb hby d15_9) rfl ?_
    show own_s p e below s₁ m 11 #[rv r, iv p1, iv p2, iv p3, iv p4, iv p5, iv p6, iv p7] [(.int p5), (.int p4), (.int p3), (.int p2), (.int (R (B + I)))] _
    refine XS.iload X0.here hx rfl (hb hby d15_11) rfl ?_
    show own_s p e below s₁ m 13 #[rv r, iv p1, iv p2, iv p3, iv p4, iv p5, iv p6, iv p7] [(.int p6), (.int p5), (.int p4), (.int p3), (.int p2), (.int (R (B + I)))] _
    refine XS.iload X0.here hx rfl (hb hby d15_13) rfl ?_
    exact kX
  obtain ⟨_, _, ⟨T4, L4, k4, n4⟩, -, X4, ⟨Lc4, hQ4, l4, y4, z4⟩, st4⟩ := Jvm.LawKit.callS X0 hx (y := (⟨"com/example/farcall/farcall/io/XdrEncoderSetIntPinLaw", "expected", "(IIIIII)B"⟩ : MethodName)) hown (mvT hZ (hw _ (List.mem_of_getElem? (i := 66) rfl))) (mvT hZ (hw _ (List.mem_of_getElem? (i := 67) rfl))) (mvT hZ (hw _ (List.mem_of_getElem? (i := 64) rfl))) (mvT hZ (hw _ (List.mem_of_getElem? (i := 68) rfl))) (by decide) (backOf (W := 1) (rm14 l Z a0 hw [] p2 p3 p4 p5 p6 p7 I O h0 n0 Z0 hp2 hp3 hI hO) hZ (hw _ (List.mem_of_getElem? (i := 68) rfl)) (hw _ (List.mem_of_getElem? (i := 64) rfl)) (by decide) (by decide)) (g := (mkF m 15 #[rv r, iv p1, iv p2, iv p3, iv p4, iv p5, iv p6, iv p7] [(.int p7), (.int p6), (.int p5), (.int p4), (.int p3), (.int p2), (.int (R (B + I)))])) rfl (by rw [hml]; rfl) (argsL := [(.int p2), (.int p3), (.int p4), (.int p5), (.int p6), (.int p7)]) (rest := [(.int (R (B + I)))]) (lenOf pd15_0 rfl) rfl (by show 2 * 0 + _ ≤ _; exact Nat.le_of_eq rfl) (hb hby d15_15) (fun _ _ => ⟨rfl, e0, (by decide : 0 + 0 ≤ _), (by decide : 0 + 0 ≤ _)⟩)
  dsimp only [Pt.U, Pt.locs, Pt.cells, Pt.slots] at X4 l4 y4 z4 st4 hQ4
  subst l4 y4 z4
  obtain ⟨rfl, Nq4, e4⟩ := hQ4
  have N4 := Fr.app N0 Nq4
  obtain ⟨LL5, X5, N5⟩ : ∃ LL, Stand p l e ({ frames := 2, cells := 0, slots := 0, locals := 40 } : Room) s m #[(.ref r), (.int p1), (.int p2), (.int p3), (.int p4), (.int p5), (.int p6), (.int p7)] below meth c T4 LL 0 0 ∧ Fr n0 LL := ⟨_, X4, N4⟩
  have pre6 : ∀ t, own_s p e below T4 m 18 #[rv r, iv p1, iv p2, iv p3, iv p4, iv p5, iv p6, iv p7] [(.int (own_xp I O p4 p5 p6 p7)), (.int (R (B + I)))] t → Steps p.tables e below S0 t := fun tX kX => pre3 _ (st4 _ kX)
  have pre7 : ∀ t, own_s p e below T4 m 26 #[rv r, iv p1, iv p2, iv p3, iv p4, iv p5, iv p6, iv p7] [(.int (1 : Int32))] t → Steps p.tables e below S0 t := by
    intro tX kX
    refine pre6 _ ?_
    show own_s p e below T4 m 18 #[rv r, iv p1, iv p2, iv p3, iv p4, iv p5, iv p6, iv p7] [(.int (own_xp I O p4 p5 p6 p7)), (.int (R (B + I)))] _
    refine XS.icmpNo X5.here hx rfl (hb hby d15_18) rfl (teq hR).2 ?_
    show own_s p e below T4 m 21 #[rv r, iv p1, iv p2, iv p3, iv p4, iv p5, iv p6, iv p7] [] _
    refine XS.iconst X5.here hx rfl (hb hby d15_21) ?_
    show own_s p e below T4 m 22 #[rv r, iv p1, iv p2, iv p3, iv p4, iv p5, iv p6, iv p7] [(.int (1 : Int32))] _
    refine XS.goto X5.here hx rfl (pc0 := 22) (pc' := 26) rfl (hb hby d15_22) (by decide) (by decide) ?_
    exact kX
  subst hS0
  obtain ⟨fs, hr, hrun, hended, hW, hsame⟩ := X5.leave (v := (some (.int (1 : Int32)))) (fun h => by rw [Bd.returns] at h; cases h)
  refine ⟨_, _, pre7 _ (retN X5 hx (t := .boolean) Bd.returns (by simp) (hb hby d15_26) hr), hrun, hended, _, _, rfl, ?_, ⟨_, rfl⟩, hW, hsame.mono (by decide) (by decide)⟩
  show Q15 Z r p1 p2 p3 p4 p5 p6 p7 R N B I O h0 n0 (some (.int (1 : Int32))) T4.heap _
  exact ⟨rfl, N5, e4⟩
theorem pn_0 : plainName "com/example/farcall/farcall/io/XdrEncoderSetIntPinLaw" = true := by first | (simp [plainName, overriddenIn]; done) | decide +kernel
theorem pd0_0 : parseMethodDescriptor "()V" = some ⟨[], none⟩ := by decide +kernel
theorem pd0_1 : parseMethodDescriptor "(I)Lcom/example/farcall/farcall/io/XdrEncoder;" = some ⟨[.int], some (.object "com/example/farcall/farcall/io/XdrEncoder")⟩ := by decide +kernel
theorem pd0_2 : parseMethodDescriptor "(II)V" = some ⟨[.int, .int], none⟩ := by decide +kernel
theorem pd0_3 : parseMethodDescriptor "()I" = some ⟨[], some .int⟩ := by decide +kernel
theorem pd0_4 : parseMethodDescriptor "()[B" = some ⟨[], some (.array .byte)⟩ := by decide +kernel
theorem pd0_5 : parseMethodDescriptor "([BIIIIIII)Z" = some ⟨[(.array .byte), .int, .int, .int, .int, .int, .int, .int], some .boolean⟩ := by decide +kernel
theorem pd0_6 : parseMethodDescriptor "(I)V" = some ⟨[.int], none⟩ := by decide +kernel
theorem pd0_7 : parseMethodDescriptor "(II)B" = some ⟨[.int, .int], some .byte⟩ := by decide +kernel
theorem ef_0 (m : MethodId) (i0 : Int32) (i1 : Int32) (i2 : Int32) (i3 : Int32) (i4 : Int32) (i5 : Int32) : entryFrame m #[(.int i0), (.int i1), (.int i2), (.int i3), (.int i4), (.int i5)] maxLocals = mkF m 0 #[iv i0, iv i1, iv i2, iv i3, iv i4, iv i5, .unset, .unset, .unset, .unset, .unset, .unset, .unset, .unset] [] := by first | (simp [entryFrame, mkF, argsToLocals, Value.category, maxLocals]; done) | rfl
def Q0 (Z : State) (i0 : Int32) (i1 : Int32) (i2 : Int32) (i3 : Int32) (i4 : Int32) (i5 : Int32) (h0 : Heap) (n0 : Nat) (v : Option Value) (h : Heap) (L : List Loc) : Prop := v = some (.int 1) ∧ Fr n0 L
set_option maxRecDepth 65536 in
set_option maxHeartbeats 40000000 in
theorem rm0 (l : Launch) (Z : State) (a0 : Array Value) (hw : ∀ d ∈ tables_1, d.before a0 Z = true) (ws : List Jvm.Cond) (i0 : Int32) (i1 : Int32) (i2 : Int32) (i3 : Int32) (i4 : Int32) (i5 : Int32) (h0 : Heap) (n0 : Nat) (Z0 : n0 ≤ h0.size)  :
    MetFree l x (head1 (Jvm.Cond.code x code maxLocals ret :: ws) room_1) (fun aX UX => aX = #[(.int i0), (.int i1), (.int i2), (.int i3), (.int i4), (.int i5)] ∧ Z.Warmed39 UX.vm ∧ UX.heap = h0) (fun _ _ _ _ _ => True) (fun _ UX oX UY => ∃ vX LX, oX = .returned vX ∧ Q0 Z i0 i1 i2 i3 i4 i5 h0 n0 vX UY.heap LX ∧ FrameEnd UX oX UY LX 3 132) := by
  refine MetFree.of_bodySF (plainFor_of_name pn_0) hisR ?_
  intro p e s m args below meth c s₁ Bd hml0 hPX hKX
  obtain ⟨rfl, hZ, hh⟩ := hPX
  have hx := Bd.exec
  have hby := Bd.bytes
  have hml : c.maxLocals = 14 := hml0
  have hown : s.vm.findClass "com/example/farcall/farcall/io/XdrEncoderSetIntPinLaw" = some m.cls := findClass_of_methodNamed Bd.named
  have hnm := (name_of_methodNamed Bd.named Bd.method).1
  have X0 : Stand p l e room_1 s m #[(.int i0), (.int i1), (.int i2), (.int i3), (.int i4), (.int i5)] below meth c s₁ [] 0 0 := Stand.of_body Bd
  have e0 : s₁.heap = h0 := by rw [← hh, Bd.state]; rfl
  have N0 := Fr.nil n0
  have pre0 : ∀ t, Steps p.tables e below (s₁.setTop (mkF m 0 #[iv i0, iv i1, iv i2, iv i3, iv i4, iv i5, .unset, .unset, .unset, .unset, .unset, .unset, .unset, .unset] [])) t → Steps p.tables e below (s₁.setTop (entryFrame m #[(.int i0), (.int i1), (.int i2), (.int i3), (.int i4), (.int i5)] maxLocals)) t := fun t k => castTop (ef_0 m i0 i1 i2 i3 i4 i5) k
  obtain ⟨S0, hS0⟩ : ∃ z, z = (s₁.setTop (entryFrame m #[(.int i0), (.int i1), (.int i2), (.int i3), (.int i4), (.int i5)] maxLocals)) := ⟨_, rfl⟩
  rw [← hS0] at pre0
  have pre1 : ∀ t, own_s p e below s₁ m 8 #[iv i0, iv i1, iv i2, iv i3, iv i4, iv i5, .unset, .unset, .unset, .unset, .unset, .unset, .unset, .unset] [(.int ((i5 &&& (65535 : Int32)) % (9 : Int32)))] t → Steps p.tables e below S0 t := by
    intro tX kX
    refine pre0 _ ?_
    show own_s p e below s₁ m 0 #[iv i0, iv i1, iv i2, iv i3, iv i4, iv i5, .unset, .unset, .unset, .unset, .unset, .unset, .unset, .unset] [] _
    refine XS.iload X0.here hx rfl (hb hby at_0) rfl ?_
    show own_s p e below s₁ m 2 #[iv i0, iv i1, iv i2, iv i3, iv i4, iv i5, .unset, .unset, .unset, .unset, .unset, .unset, .unset, .unset] [(.int i5)] _
    refine X0.ldcInt hx hown (mvT hZ (hw _ (List.mem_of_getElem? (i := 0) rfl))) (g := (mkF m 2 #[iv i0, iv i1, iv i2, iv i3, iv i4, iv i5, .unset, .unset, .unset, .unset, .unset, .unset, .unset, .unset] [(.int i5)])) rfl (hb hby at_2) _ ?_
    show own_s p e below s₁ m 4 #[iv i0, iv i1, iv i2, iv i3, iv i4, iv i5, .unset, .unset, .unset, .unset, .unset, .unset, .unset, .unset] [(.int (65535 : Int32)), (.int i5)] _
    refine XS.iand X0.here hx rfl (hb hby at_4) rfl ?_
    show own_s p e below s₁ m 5 #[iv i0, iv i1, iv i2, iv i3, iv i4, iv i5, .unset, .unset, .unset, .unset, .unset, .unset, .unset, .unset] [(.int (i5 &&& (65535 : Int32)))] _
    refine XS.bipush X0.here hx rfl (hb hby at_5) ?_
    show own_s p e below s₁ m 7 #[iv i0, iv i1, iv i2, iv i3, iv i4, iv i5, .unset, .unset, .unset, .unset, .unset, .unset, .unset, .unset] [(.int (9 : Int32)), (.int (i5 &&& (65535 : Int32)))] _
    refine iremM X0 hx rfl (hb hby at_7) rfl (by decide) ?_
    exact kX
  obtain ⟨of, hof⟩ : ∃ z : Int32, z = ((i5 &&& (65535 : Int32)) % (9 : Int32)) := ⟨_, rfl⟩
  rw [← hof] at pre1
  obtain ⟨O, hOf, hO⟩ : ∃ O : Nat, of = Int32.ofNat O ∧ O ≤ 8 := by
    have m1 := c_mask i5 65535 16 (by decide) (by decide)
    have r1 := (c_irem (i5 &&& 65535) 9 9 (by decide)).1 (by omega)
    rw [← hof] at r1
    exact ⟨of.toInt.toNat, own_of (by omega) (by omega), by omega⟩
  have pre2 : ∀ t, own_s p e below s₁ m 15 #[iv i0, iv i1, iv i2, iv i3, iv i4, iv i5, iv of, .unset, .unset, .unset, .unset, .unset, .unset, .unset] [(.int (i5 &&& (65536 : Int32)))] t → Steps p.tables e below S0 t := by
    intro tX kX
    refine pre1 _ ?_
    show own_s p e below s₁ m 8 #[iv i0, iv i1, iv i2, iv i3, iv i4, iv i5, .unset, .unset, .unset, .unset, .unset, .unset, .unset, .unset] [(.int of)] _
    refine XS.istore X0.here hx rfl (hb hby at_8) rfl (l' := #[iv i0, iv i1, iv i2, iv i3, iv i4, iv i5, iv of, .unset, .unset, .unset, .unset, .unset, .unset, .unset]) rfl ?_
    show own_s p e below s₁ m 10 #[iv i0, iv i1, iv i2, iv i3, iv i4, iv i5, iv of, .unset, .unset, .unset, .unset, .unset, .unset, .unset] [] _
    refine XS.iload X0.here hx rfl (hb hby at_10) rfl ?_
    show own_s p e below s₁ m 12 #[iv i0, iv i1, iv i2, iv i3, iv i4, iv i5, iv of, .unset, .unset, .unset, .unset, .unset, .unset, .unset] [(.int i5)] _
    refine X0.ldcInt hx hown (mvT hZ (hw _ (List.mem_of_getElem? (i := 1) rfl))) (g := (mkF m 12 #[iv i0, iv i1, iv i2, iv i3, iv i4, iv i5, iv of, .unset, .unset, .unset, .unset, .unset, .unset, .unset] [(.int i5)])) rfl (hb hby at_12) _ ?_
    show own_s p e below s₁ m 14 #[iv i0, iv i1, iv i2, iv i3, iv i4, iv i5, iv of, .unset, .unset, .unset, .unset, .unset, .unset, .unset] [(.int (65536 : Int32)), (.int i5)] _
    refine XS.iand X0.here hx rfl (hb hby at_14) rfl ?_
    exact kX
  by_cases hc3 : (i5 &&& (65536 : Int32)) = (0 : Int32)
  · skip
    have pre4 : ∀ t, own_s p e below s₁ m 25 #[iv i0, iv i1, iv i2, iv i3, iv i4, iv i5, iv of, iv (0 : Int32), .unset, .unset, .unset, .unset, .unset, .unset] [] t → Steps p.tables e below S0 t := by
      intro tX kX
      refine pre2 _ ?_
      show own_s p e below s₁ m 15 #[iv i0, iv i1, iv i2, iv i3, iv i4, iv i5, iv of, .unset, .unset, .unset, .unset, .unset, .unset, .unset] [(.int (i5 &&& (65536 : Int32)))] _
      refine XS.ifYes X0.here hx rfl (pc0 := 15) (pc' := 22) rfl (hb hby at_15) rfl ((if0 _ _).trans (teq hc3).1) (by decide) (by decide) ?_
      show own_s p e below s₁ m 22 #[iv i0, iv i1, iv i2, iv i3, iv i4, iv i5, iv of, .unset, .unset, .unset, .unset, .unset, .unset, .unset] [] _
      refine XS.iconst X0.here hx rfl (hb hby at_22) ?_
      show own_s p e below s₁ m 23 #[iv i0, iv i1, iv i2, iv i3, iv i4, iv i5, iv of, .unset, .unset, .unset, .unset, .unset, .unset, .unset] [(.int (0 : Int32))] _
      refine XS.istore X0.here hx rfl (hb hby at_23) rfl (l' := #[iv i0, iv i1, iv i2, iv i3, iv i4, iv i5, iv of, iv (0 : Int32), .unset, .unset, .unset, .unset, .unset, .unset]) rfl ?_
      exact kX
    obtain ⟨T5, h5, X5, e5, E5, A5, D5, -, st5⟩ := newO X0 hx hZ hown (hw _ (List.mem_of_getElem? (i := 2) rfl)) (hw _ (List.mem_of_getElem? (i := 3) rfl)) (hw _ (List.mem_of_getElem? (i := 4) rfl)) e0 (g := (mkF m 25 #[iv i0, iv i1, iv i2, iv i3, iv i4, iv i5, iv of, iv (0 : Int32), .unset, .unset, .unset, .unset, .unset, .unset] [])) rfl (hb hby at_25) (by decide) (by decide)
    obtain ⟨b5, g5⟩ : ∃ z, z = h0.size := ⟨_, rfl⟩
    rw [← g5] at A5 D5 st5
    have g_b5 : n0 ≤ b5 := Nat.le_trans Z0 (Nat.le_of_eq g5.symm)
    have pre6 : ∀ t, own_s p e below T5 m 28 #[iv i0, iv i1, iv i2, iv i3, iv i4, iv i5, iv of, iv (0 : Int32), .unset, .unset, .unset, .unset, .unset, .unset] [(.ref b5)] t → Steps p.tables e below S0 t := fun tX kX => pre4 _ (st5 _ kX)
    have Z7 : n0 ≤ h5.size := Nat.le_trans Z0 E5.1
    have f8_E : Exa Z h5 b5 "com/example/farcall/farcall/io/XdrEncoder" := A5
    have f9_F : Fld Z h5 b5 "com/example/farcall/farcall/io/XdrEncoder" "buffer" "[B" .null := D5 (Or.inl (hw _ (List.mem_of_getElem? (i := 13) rfl))) (ty := (.array .byte)) (by decide)
    have f10_F : Fld Z h5 b5 "com/example/farcall/farcall/io/XdrEncoder" "end" "I" (.int (0 : Int32)) := D5 (Or.inl (hw _ (List.mem_of_getElem? (i := 24) rfl))) (ty := .int) (by decide)
    have f11_F : Fld Z h5 b5 "com/example/farcall/farcall/io/XdrEncoder" "start" "I" (.int (0 : Int32)) := D5 (Or.inl (hw _ (List.mem_of_getElem? (i := 31) rfl))) (ty := .int) (by decide)
    have pre12 : ∀ t, own_s p e below T5 m 29 #[iv i0, iv i1, iv i2, iv i3, iv i4, iv i5, iv of, iv (0 : Int32), .unset, .unset, .unset, .unset, .unset, .unset] [(.ref b5), (.ref b5)] t → Steps p.tables e below S0 t := by
      intro tX kX
      refine pre6 _ ?_
      show own_s p e below T5 m 28 #[iv i0, iv i1, iv i2, iv i3, iv i4, iv i5, iv of, iv (0 : Int32), .unset, .unset, .unset, .unset, .unset, .unset] [(.ref b5)] _
      refine XS.dup X5.here hx rfl (hb hby at_28) rfl rfl ?_
      exact kX
    obtain ⟨_, _, ⟨T13, L13, k13, n13⟩, -, X13, ⟨Lc13, hQ13, l13, y13, z13⟩, st13⟩ := X5.specialBack hx (y := (⟨"com/example/farcall/farcall/io/XdrEncoder", "<init>", "()V"⟩ : MethodName)) rfl hown (mvT hZ (hw _ (List.mem_of_getElem? (i := 5) rfl))) (mvT hZ (hw _ (List.mem_of_getElem? (i := 6) rfl))) (mvT hZ (hw _ (List.mem_of_getElem? (i := 7) rfl))) (by decide) (backOf (W := 1) (rm12 l Z a0 hw [] b5  h5 n0 Z7 f8_E f9_F f11_F f10_F g_b5) hZ (hw _ (List.mem_of_getElem? (i := 7) rfl)) (hw _ (List.mem_of_getElem? (i := 4) rfl)) (by decide) (by decide)) (g := (mkF m 29 #[iv i0, iv i1, iv i2, iv i3, iv i4, iv i5, iv of, iv (0 : Int32), .unset, .unset, .unset, .unset, .unset, .unset] [(.ref b5), (.ref b5)])) rfl (by rw [hml]; rfl) (Steps.refl _) (a := b5) (argsL := []) (rest := [(.ref b5)]) (lenOf pd0_0 rfl) rfl (by show 2 * 0 + _ ≤ _; exact Nat.le_of_eq rfl) (hb hby at_29) (fun _ _ => ⟨rfl, e5, (by decide : 1 + 1 ≤ _), (by decide : 4 + 64 ≤ _)⟩)
    dsimp only [Pt.U, Pt.locs, Pt.cells, Pt.slots] at X13 l13 y13 z13 st13 hQ13
    subst l13 y13 z13
    obtain ⟨rfl, Nq13, Kq13, bb13, szq13, E_a13, F_buf13, F_sta13, F_end13, A_b13, ne_ab13, fg13, g_a13, g_b13⟩ := hQ13
    have N13 := Fr.app N0 Nq13
    have e13 : T13.heap = T13.heap := rfl
    have Z13 : n0 ≤ T13.heap.size := Nat.le_trans Z7 Kq13.1
    obtain ⟨LL14, X14, N14⟩ : ∃ LL, Stand p l e room_1 s m #[(.int i0), (.int i1), (.int i2), (.int i3), (.int i4), (.int i5)] below meth c T13 LL 2 68 ∧ Fr n0 LL := ⟨_, X13, N13⟩
    have pre15 : ∀ t, own_s p e below T13 m 32 #[iv i0, iv i1, iv i2, iv i3, iv i4, iv i5, iv of, iv (0 : Int32), .unset, .unset, .unset, .unset, .unset, .unset] [(.ref b5)] t → Steps p.tables e below S0 t := fun tX kX => pre12 _ (st13.trans kX)
    have pre16 : ∀ t, own_s p e below T13 m 60 #[iv i0, iv i1, iv i2, iv i3, iv i4, iv i5, iv of, iv (0 : Int32), rv b5, iv (0 : Int32), .unset, .unset, .unset, .unset] [(.int i0), (.ref b5)] t → Steps p.tables e below S0 t := by
      intro tX kX
      refine pre15 _ ?_
      show own_s p e below T13 m 32 #[iv i0, iv i1, iv i2, iv i3, iv i4, iv i5, iv of, iv (0 : Int32), .unset, .unset, .unset, .unset, .unset, .unset] [(.ref b5)] _
      refine XS.astore X14.here hx rfl (hb hby at_32) rfl rfl (l' := #[iv i0, iv i1, iv i2, iv i3, iv i4, iv i5, iv of, iv (0 : Int32), rv b5, .unset, .unset, .unset, .unset, .unset]) rfl ?_
      show own_s p e below T13 m 34 #[iv i0, iv i1, iv i2, iv i3, iv i4, iv i5, iv of, iv (0 : Int32), rv b5, .unset, .unset, .unset, .unset, .unset] [] _
      refine XS.iconst X14.here hx rfl (hb hby at_34) ?_
      show own_s p e below T13 m 35 #[iv i0, iv i1, iv i2, iv i3, iv i4, iv i5, iv of, iv (0 : Int32), rv b5, .unset, .unset, .unset, .unset, .unset] [(.int (0 : Int32))] _
      refine XS.istore X14.here hx rfl (hb hby at_35) rfl (l' := #[iv i0, iv i1, iv i2, iv i3, iv i4, iv i5, iv of, iv (0 : Int32), rv b5, iv (0 : Int32), .unset, .unset, .unset, .unset]) rfl ?_
      show own_s p e below T13 m 37 #[iv i0, iv i1, iv i2, iv i3, iv i4, iv i5, iv of, iv (0 : Int32), rv b5, iv (0 : Int32), .unset, .unset, .unset, .unset] [] _
      refine XS.iload X14.here hx rfl (hb hby at_37) rfl ?_
      show own_s p e below T13 m 39 #[iv i0, iv i1, iv i2, iv i3, iv i4, iv i5, iv of, iv (0 : Int32), rv b5, iv (0 : Int32), .unset, .unset, .unset, .unset] [(.int (0 : Int32))] _
      refine XS.ifYes X14.here hx rfl (pc0 := 39) (pc' := 57) rfl (hb hby at_39) rfl ((if0 _ _).trans (teq (by decide : (0 : Int32) = (0 : Int32))).1) (by decide) (by decide) ?_
      show own_s p e below T13 m 57 #[iv i0, iv i1, iv i2, iv i3, iv i4, iv i5, iv of, iv (0 : Int32), rv b5, iv (0 : Int32), .unset, .unset, .unset, .unset] [] _
      refine XS.aload X14.here hx rfl (hb hby at_57) rfl rfl ?_
      show own_s p e below T13 m 59 #[iv i0, iv i1, iv i2, iv i3, iv i4, iv i5, iv of, iv (0 : Int32), rv b5, iv (0 : Int32), .unset, .unset, .unset, .unset] [(.ref b5)] _
      refine XS.iloadN X14.here hx rfl (hb hby at_59) rfl ?_
      exact kX
    obtain ⟨cq17, kq17, q17a, q17b, q17c⟩ := isOf hZ e13 E_a13
    obtain ⟨_, _, ⟨T17, L17, k17, n17⟩, -, X17, ⟨Lc17, hQ17, l17, y17, z17⟩, st17⟩ := X14.virtualBack hx (y := (⟨"com/example/farcall/farcall/io/XdrEncoder", "writeInt", "(I)Lcom/example/farcall/farcall/io/XdrEncoder;"⟩ : MethodName)) (z := (⟨"com/example/farcall/farcall/io/XdrEncoder", "writeInt", "(I)Lcom/example/farcall/farcall/io/XdrEncoder;"⟩ : MethodName)) hown (mvT hZ (hw _ (List.mem_of_getElem? (i := 14) rfl))) (mvT hZ (hw _ (List.mem_of_getElem? (i := 15) rfl))) (notFace_of_selects (args := #[]) (mvT hZ (hw _ (List.mem_of_getElem? (i := 17) rfl)))) (mvT hZ (hw _ (List.mem_of_getElem? (i := 17) rfl))) (mvT hZ (hw _ (List.mem_of_getElem? (i := 16) rfl))) (by decide) (backOf (W := 0) (rm9 l Z a0 hw [] b5 i0 bb13 ((fun _ : Nat => (0 : Int32))) 0 0 T13.heap n0 Z13 E_a13 F_buf13 F_sta13 F_end13 A_b13 ne_ab13 fg13 g_a13 g_b13 (by decide) (by decide)) hZ (hw _ (List.mem_of_getElem? (i := 18) rfl)) (hw _ (List.mem_of_getElem? (i := 4) rfl)) (by decide) (by decide)) q17a q17c (g := (mkF m 60 #[iv i0, iv i1, iv i2, iv i3, iv i4, iv i5, iv of, iv (0 : Int32), rv b5, iv (0 : Int32), .unset, .unset, .unset, .unset] [(.int i0), (.ref b5)])) rfl (by rw [hml]; rfl) (Steps.refl _) (argsL := [(.int i0)]) (rest := []) (lenOf pd0_1 rfl) rfl (by show 2 * 0 + _ ≤ _; exact Nat.le_of_eq rfl) (hb hby at_60) (fun _ _ => ⟨rfl, e13, (by decide : 2 + 0 ≤ _), (by decide : 68 + 0 ≤ _)⟩)
    dsimp only [Pt.U, Pt.locs, Pt.cells, Pt.slots] at X17 l17 y17 z17 st17 hQ17
    subst l17 y17 z17
    obtain ⟨rfl, Nq17, Kq17, E_a17, F_buf17, F_sta17, F_end17, A_b17, ne_ab17, fg17, g_a17, g_b17⟩ := hQ17
    have N17 := Fr.app N14 Nq17
    have e17 : T17.heap = T17.heap := rfl
    have Z17 : n0 ≤ T17.heap.size := Nat.le_trans Z13 Kq17.1
    obtain ⟨LL18, X18, N18⟩ : ∃ LL, Stand p l e room_1 s m #[(.int i0), (.int i1), (.int i2), (.int i3), (.int i4), (.int i5)] below meth c T17 LL 2 68 ∧ Fr n0 LL := ⟨_, X17, N17⟩
    have pre19 : ∀ t, own_s p e below T17 m 63 #[iv i0, iv i1, iv i2, iv i3, iv i4, iv i5, iv of, iv (0 : Int32), rv b5, iv (0 : Int32), .unset, .unset, .unset, .unset] [(.ref b5)] t → Steps p.tables e below S0 t := fun tX kX => pre16 _ (st17.trans kX)
    have pre20 : ∀ t, own_s p e below T17 m 67 #[iv i0, iv i1, iv i2, iv i3, iv i4, iv i5, iv of, iv (0 : Int32), rv b5, iv (0 : Int32), .unset, .unset, .unset, .unset] [(.int i1), (.ref b5)] t → Steps p.tables e below S0 t := by
      intro tX kX
      refine pre19 _ ?_
      show own_s p e below T17 m 63 #[iv i0, iv i1, iv i2, iv i3, iv i4, iv i5, iv of, iv (0 : Int32), rv b5, iv (0 : Int32), .unset, .unset, .unset, .unset] [(.ref b5)] _
      refine XS.pop X18.here hx rfl (hb hby at_63) rfl rfl ?_
      show own_s p e below T17 m 64 #[iv i0, iv i1, iv i2, iv i3, iv i4, iv i5, iv of, iv (0 : Int32), rv b5, iv (0 : Int32), .unset, .unset, .unset, .unset] [] _
      refine XS.aload X18.here hx rfl (hb hby at_64) rfl rfl ?_
      show own_s p e below T17 m 66 #[iv i0, iv i1, iv i2, iv i3, iv i4, iv i5, iv of, iv (0 : Int32), rv b5, iv (0 : Int32), .unset, .unset, .unset, .unset] [(.ref b5)] _
      refine XS.iloadN X18.here hx rfl (hb hby at_66) rfl ?_
      exact kX
    obtain ⟨cq21, kq21, q21a, q21b, q21c⟩ := isOf hZ e17 E_a17
    obtain ⟨_, _, ⟨T21, L21, k21, n21⟩, -, X21, ⟨Lc21, hQ21, l21, y21, z21⟩, st21⟩ := X18.virtualBack hx (y := (⟨"com/example/farcall/farcall/io/XdrEncoder", "writeInt", "(I)Lcom/example/farcall/farcall/io/XdrEncoder;"⟩ : MethodName)) (z := (⟨"com/example/farcall/farcall/io/XdrEncoder", "writeInt", "(I)Lcom/example/farcall/farcall/io/XdrEncoder;"⟩ : MethodName)) hown (mvT hZ (hw _ (List.mem_of_getElem? (i := 14) rfl))) (mvT hZ (hw _ (List.mem_of_getElem? (i := 15) rfl))) (notFace_of_selects (args := #[]) (mvT hZ (hw _ (List.mem_of_getElem? (i := 17) rfl)))) (mvT hZ (hw _ (List.mem_of_getElem? (i := 17) rfl))) (mvT hZ (hw _ (List.mem_of_getElem? (i := 16) rfl))) (by decide) (backOf (W := 0) (rm9 l Z a0 hw [] b5 i1 bb13 ((own_put (fun _ : Nat => (0 : Int32)) 0 i0)) 0 4 T17.heap n0 Z17 E_a17 F_buf17 F_sta17 F_end17 A_b17 ne_ab17 fg17 g_a17 g_b17 (by decide) (by decide)) hZ (hw _ (List.mem_of_getElem? (i := 18) rfl)) (hw _ (List.mem_of_getElem? (i := 4) rfl)) (by decide) (by decide)) q21a q21c (g := (mkF m 67 #[iv i0, iv i1, iv i2, iv i3, iv i4, iv i5, iv of, iv (0 : Int32), rv b5, iv (0 : Int32), .unset, .unset, .unset, .unset] [(.int i1), (.ref b5)])) rfl (by rw [hml]; rfl) (Steps.refl _) (argsL := [(.int i1)]) (rest := []) (lenOf pd0_1 rfl) rfl (by show 2 * 0 + _ ≤ _; exact Nat.le_of_eq rfl) (hb hby at_67) (fun _ _ => ⟨rfl, e17, (by decide : 2 + 0 ≤ _), (by decide : 68 + 0 ≤ _)⟩)
    dsimp only [Pt.U, Pt.locs, Pt.cells, Pt.slots] at X21 l21 y21 z21 st21 hQ21
    subst l21 y21 z21
    obtain ⟨rfl, Nq21, Kq21, E_a21, F_buf21, F_sta21, F_end21, A_b21, ne_ab21, fg21, g_a21, g_b21⟩ := hQ21
    have N21 := Fr.app N18 Nq21
    have e21 : T21.heap = T21.heap := rfl
    have Z21 : n0 ≤ T21.heap.size := Nat.le_trans Z17 Kq21.1
    obtain ⟨LL22, X22, N22⟩ : ∃ LL, Stand p l e room_1 s m #[(.int i0), (.int i1), (.int i2), (.int i3), (.int i4), (.int i5)] below meth c T21 LL 2 68 ∧ Fr n0 LL := ⟨_, X21, N21⟩
    have pre23 : ∀ t, own_s p e below T21 m 70 #[iv i0, iv i1, iv i2, iv i3, iv i4, iv i5, iv of, iv (0 : Int32), rv b5, iv (0 : Int32), .unset, .unset, .unset, .unset] [(.ref b5)] t → Steps p.tables e below S0 t := fun tX kX => pre20 _ (st21.trans kX)
    have pre24 : ∀ t, own_s p e below T21 m 74 #[iv i0, iv i1, iv i2, iv i3, iv i4, iv i5, iv of, iv (0 : Int32), rv b5, iv (0 : Int32), .unset, .unset, .unset, .unset] [(.int i2), (.ref b5)] t → Steps p.tables e below S0 t := by
      intro tX kX
      refine pre23 _ ?_
      show own_s p e below T21 m 70 #[iv i0, iv i1, iv i2, iv i3, iv i4, iv i5, iv of, iv (0 : Int32), rv b5, iv (0 : Int32), .unset, .unset, .unset, .unset] [(.ref b5)] _
      refine XS.pop X22.here hx rfl (hb hby at_70) rfl rfl ?_
      show own_s p e below T21 m 71 #[iv i0, iv i1, iv i2, iv i3, iv i4, iv i5, iv of, iv (0 : Int32), rv b5, iv (0 : Int32), .unset, .unset, .unset, .unset] [] _
      refine XS.aload X22.here hx rfl (hb hby at_71) rfl rfl ?_
      show own_s p e below T21 m 73 #[iv i0, iv i1, iv i2, iv i3, iv i4, iv i5, iv of, iv (0 : Int32), rv b5, iv (0 : Int32), .unset, .unset, .unset, .unset] [(.ref b5)] _
      refine XS.iloadN X22.here hx rfl (hb hby at_73) rfl ?_
      exact kX
    obtain ⟨cq25, kq25, q25a, q25b, q25c⟩ := isOf hZ e21 E_a21
    obtain ⟨_, _, ⟨T25, L25, k25, n25⟩, -, X25, ⟨Lc25, hQ25, l25, y25, z25⟩, st25⟩ := X22.virtualBack hx (y := (⟨"com/example/farcall/farcall/io/XdrEncoder", "writeInt", "(I)Lcom/example/farcall/farcall/io/XdrEncoder;"⟩ : MethodName)) (z := (⟨"com/example/farcall/farcall/io/XdrEncoder", "writeInt", "(I)Lcom/example/farcall/farcall/io/XdrEncoder;"⟩ : MethodName)) hown (mvT hZ (hw _ (List.mem_of_getElem? (i := 14) rfl))) (mvT hZ (hw _ (List.mem_of_getElem? (i := 15) rfl))) (notFace_of_selects (args := #[]) (mvT hZ (hw _ (List.mem_of_getElem? (i := 17) rfl)))) (mvT hZ (hw _ (List.mem_of_getElem? (i := 17) rfl))) (mvT hZ (hw _ (List.mem_of_getElem? (i := 16) rfl))) (by decide) (backOf (W := 0) (rm9 l Z a0 hw [] b5 i2 bb13 ((own_put (own_put (fun _ : Nat => (0 : Int32)) 0 i0) 4 i1)) 0 8 T21.heap n0 Z21 E_a21 F_buf21 F_sta21 F_end21 A_b21 ne_ab21 fg21 g_a21 g_b21 (by decide) (by decide)) hZ (hw _ (List.mem_of_getElem? (i := 18) rfl)) (hw _ (List.mem_of_getElem? (i := 4) rfl)) (by decide) (by decide)) q25a q25c (g := (mkF m 74 #[iv i0, iv i1, iv i2, iv i3, iv i4, iv i5, iv of, iv (0 : Int32), rv b5, iv (0 : Int32), .unset, .unset, .unset, .unset] [(.int i2), (.ref b5)])) rfl (by rw [hml]; rfl) (Steps.refl _) (argsL := [(.int i2)]) (rest := []) (lenOf pd0_1 rfl) rfl (by show 2 * 0 + _ ≤ _; exact Nat.le_of_eq rfl) (hb hby at_74) (fun _ _ => ⟨rfl, e21, (by decide : 2 + 0 ≤ _), (by decide : 68 + 0 ≤ _)⟩)
    dsimp only [Pt.U, Pt.locs, Pt.cells, Pt.slots] at X25 l25 y25 z25 st25 hQ25
    subst l25 y25 z25
    obtain ⟨rfl, Nq25, Kq25, E_a25, F_buf25, F_sta25, F_end25, A_b25, ne_ab25, fg25, g_a25, g_b25⟩ := hQ25
    have N25 := Fr.app N22 Nq25
    have e25 : T25.heap = T25.heap := rfl
    have Z25 : n0 ≤ T25.heap.size := Nat.le_trans Z21 Kq25.1
    obtain ⟨LL26, X26, N26⟩ : ∃ LL, Stand p l e room_1 s m #[(.int i0), (.int i1), (.int i2), (.int i3), (.int i4), (.int i5)] below meth c T25 LL 2 68 ∧ Fr n0 LL := ⟨_, X25, N25⟩
    have pre27 : ∀ t, own_s p e below T25 m 77 #[iv i0, iv i1, iv i2, iv i3, iv i4, iv i5, iv of, iv (0 : Int32), rv b5, iv (0 : Int32), .unset, .unset, .unset, .unset] [(.ref b5)] t → Steps p.tables e below S0 t := fun tX kX => pre24 _ (st25.trans kX)
    have pre28 : ∀ t, own_s p e below T25 m 83 #[iv i0, iv i1, iv i2, iv i3, iv i4, iv i5, iv of, iv (0 : Int32), rv b5, iv (0 : Int32), .unset, .unset, .unset, .unset] [(.int i3), (.int of), (.ref b5)] t → Steps p.tables e below S0 t := by
      intro tX kX
      refine pre27 _ ?_
      show own_s p e below T25 m 77 #[iv i0, iv i1, iv i2, iv i3, iv i4, iv i5, iv of, iv (0 : Int32), rv b5, iv (0 : Int32), .unset, .unset, .unset, .unset] [(.ref b5)] _
      refine XS.pop X26.here hx rfl (hb hby at_77) rfl rfl ?_
      show own_s p e below T25 m 78 #[iv i0, iv i1, iv i2, iv i3, iv i4, iv i5, iv of, iv (0 : Int32), rv b5, iv (0 : Int32), .unset, .unset, .unset, .unset] [] _
      refine XS.aload X26.here hx rfl (hb hby at_78) rfl rfl ?_
      show own_s p e below T25 m 80 #[iv i0, iv i1, iv i2, iv i3, iv i4, iv i5, iv of, iv (0 : Int32), rv b5, iv (0 : Int32), .unset, .unset, .unset, .unset] [(.ref b5)] _
      refine XS.iload X26.here hx rfl (hb hby at_80) rfl ?_
      show own_s p e below T25 m 82 #[iv i0, iv i1, iv i2, iv i3, iv i4, iv i5, iv of, iv (0 : Int32), rv b5, iv (0 : Int32), .unset, .unset, .unset, .unset] [(.int of), (.ref b5)] _
      refine XS.iloadN X26.here hx rfl (hb hby at_82) rfl ?_
      exact kX
    obtain ⟨cq29, kq29, q29a, q29b, q29c⟩ := isOf hZ e25 E_a25
    obtain ⟨_, _, ⟨T29, L29, k29, n29⟩, -, X29, ⟨Lc29, hQ29, l29, y29, z29⟩, st29⟩ := X26.virtualBack hx (y := (⟨"com/example/farcall/farcall/io/XdrEncoder", "setInt", "(II)V"⟩ : MethodName)) (z := (⟨"com/example/farcall/farcall/io/XdrEncoder", "setInt", "(II)V"⟩ : MethodName)) hown (mvT hZ (hw _ (List.mem_of_getElem? (i := 37) rfl))) (mvT hZ (hw _ (List.mem_of_getElem? (i := 33) rfl))) (notFace_of_selects (args := #[]) (mvT hZ (hw _ (List.mem_of_getElem? (i := 35) rfl)))) (mvT hZ (hw _ (List.mem_of_getElem? (i := 35) rfl))) (mvT hZ (hw _ (List.mem_of_getElem? (i := 34) rfl))) (by decide) (backOf (W := 0) (rm8 l Z a0 hw [] b5 of i3 bb13 ((own_put (own_put (own_put (fun _ : Nat => (0 : Int32)) 0 i0) 4 i1) 8 i2)) 0 12 O T25.heap n0 Z25 E_a25 F_buf25 F_sta25 F_end25 A_b25 ne_ab25 fg25 g_a25 g_b25 hOf (by omega)) hZ (hw _ (List.mem_of_getElem? (i := 36) rfl)) (hw _ (List.mem_of_getElem? (i := 4) rfl)) (by decide) (by decide)) q29a q29c (g := (mkF m 83 #[iv i0, iv i1, iv i2, iv i3, iv i4, iv i5, iv of, iv (0 : Int32), rv b5, iv (0 : Int32), .unset, .unset, .unset, .unset] [(.int i3), (.int of), (.ref b5)])) rfl (by rw [hml]; rfl) (Steps.refl _) (argsL := [(.int of), (.int i3)]) (rest := []) (lenOf pd0_2 rfl) rfl (by show 2 * 0 + _ ≤ _; exact Nat.le_of_eq rfl) (hb hby at_83) (fun _ _ => ⟨rfl, e25, (by decide : 2 + 0 ≤ _), (by decide : 68 + 0 ≤ _)⟩)
    dsimp only [Pt.U, Pt.locs, Pt.cells, Pt.slots] at X29 l29 y29 z29 st29 hQ29
    subst l29 y29 z29
    obtain ⟨rfl, Nq29, Kq29, E_a29, F_buf29, F_sta29, F_end29, A_b29, ne_ab29, fg29, g_a29, g_b29⟩ := hQ29
    have N29 := Fr.app N26 Nq29
    have e29 : T29.heap = T29.heap := rfl
    have Z29 : n0 ≤ T29.heap.size := Nat.le_trans Z25 Kq29.1
    obtain ⟨LL30, X30, N30⟩ : ∃ LL, Stand p l e room_1 s m #[(.int i0), (.int i1), (.int i2), (.int i3), (.int i4), (.int i5)] below meth c T29 LL 2 68 ∧ Fr n0 LL := ⟨_, X29, N29⟩
    have pre31 : ∀ t, own_s p e below T29 m 86 #[iv i0, iv i1, iv i2, iv i3, iv i4, iv i5, iv of, iv (0 : Int32), rv b5, iv (0 : Int32), .unset, .unset, .unset, .unset] [] t → Steps p.tables e below S0 t := fun tX kX => pre28 _ (st29.trans kX)
    have pre32 : ∀ t, own_s p e below T29 m 88 #[iv i0, iv i1, iv i2, iv i3, iv i4, iv i5, iv of, iv (0 : Int32), rv b5, iv (0 : Int32), .unset, .unset, .unset, .unset] [(.ref b5)] t → Steps p.tables e below S0 t := by
      intro tX kX
      refine pre31 _ ?_
      show own_s p e below T29 m 86 #[iv i0, iv i1, iv i2, iv i3, iv i4, iv i5, iv of, iv (0 : Int32), rv b5, iv (0 : Int32), .unset, .unset, .unset, .unset] [] _
      refine XS.aload X30.here hx rfl (hb hby at_86) rfl rfl ?_
      exact kX
    obtain ⟨cq33, kq33, q33a, q33b, q33c⟩ := isOf hZ e29 E_a29
    obtain ⟨_, _, ⟨T33, L33, k33, n33⟩, -, X33, ⟨Lc33, hQ33, l33, y33, z33⟩, st33⟩ := X30.virtualBack hx (y := (⟨"com/example/farcall/farcall/io/XdrEncoder", "size", "()I"⟩ : MethodName)) (z := (⟨"com/example/farcall/farcall/io/XdrEncoder", "size", "()I"⟩ : MethodName)) hown (mvT hZ (hw _ (List.mem_of_getElem? (i := 38) rfl))) (mvT hZ (hw _ (List.mem_of_getElem? (i := 26) rfl))) (notFace_of_selects (args := #[]) (mvT hZ (hw _ (List.mem_of_getElem? (i := 28) rfl)))) (mvT hZ (hw _ (List.mem_of_getElem? (i := 28) rfl))) (mvT hZ (hw _ (List.mem_of_getElem? (i := 27) rfl))) (by decide) (backOf (W := 0) (rm6 l Z a0 hw [] b5 bb13 ((own_put (own_put (own_put (own_put (fun _ : Nat => (0 : Int32)) 0 i0) 4 i1) 8 i2) (0 + O) i3)) 0 12 T29.heap n0 Z29 E_a29 F_buf29 F_sta29 F_end29 A_b29 ne_ab29 fg29 g_a29 g_b29 (by decide) (by decide)) hZ (hw _ (List.mem_of_getElem? (i := 29) rfl)) (hw _ (List.mem_of_getElem? (i := 4) rfl)) (by decide) (by decide)) q33a q33c (g := (mkF m 88 #[iv i0, iv i1, iv i2, iv i3, iv i4, iv i5, iv of, iv (0 : Int32), rv b5, iv (0 : Int32), .unset, .unset, .unset, .unset] [(.ref b5)])) rfl (by rw [hml]; rfl) (Steps.refl _) (argsL := []) (rest := []) (lenOf pd0_3 rfl) rfl (by show 2 * 0 + _ ≤ _; exact Nat.le_of_eq rfl) (hb hby at_88) (fun _ _ => ⟨rfl, e29, (by decide : 2 + 0 ≤ _), (by decide : 68 + 0 ≤ _)⟩)
    dsimp only [Pt.U, Pt.locs, Pt.cells, Pt.slots] at X33 l33 y33 z33 st33 hQ33
    subst l33 y33 z33
    obtain ⟨rfl, Nq33, e33⟩ := hQ33
    have N33 := Fr.app N30 Nq33
    obtain ⟨LL34, X34, N34⟩ : ∃ LL, Stand p l e room_1 s m #[(.int i0), (.int i1), (.int i2), (.int i3), (.int i4), (.int i5)] below meth c T33 LL 2 68 ∧ Fr n0 LL := ⟨_, X33, N33⟩
    have pre35 : ∀ t, own_s p e below T33 m 91 #[iv i0, iv i1, iv i2, iv i3, iv i4, iv i5, iv of, iv (0 : Int32), rv b5, iv (0 : Int32), .unset, .unset, .unset, .unset] [(.int (12 : Int32))] t → Steps p.tables e below S0 t := fun tX kX => pre32 _ (st33.trans kX)
    have pre36 : ∀ t, own_s p e below T33 m 107 #[iv i0, iv i1, iv i2, iv i3, iv i4, iv i5, iv of, iv (0 : Int32), rv b5, iv (0 : Int32), iv (12 : Int32), .unset, .unset, .unset] [(.ref b5)] t → Steps p.tables e below S0 t := by
      intro tX kX
      refine pre35 _ ?_
      show own_s p e below T33 m 91 #[iv i0, iv i1, iv i2, iv i3, iv i4, iv i5, iv of, iv (0 : Int32), rv b5, iv (0 : Int32), .unset, .unset, .unset, .unset] [(.int (12 : Int32))] _
      refine XS.istore X34.here hx rfl (hb hby at_91) rfl (l' := #[iv i0, iv i1, iv i2, iv i3, iv i4, iv i5, iv of, iv (0 : Int32), rv b5, iv (0 : Int32), iv (12 : Int32), .unset, .unset, .unset]) rfl ?_
      show own_s p e below T33 m 93 #[iv i0, iv i1, iv i2, iv i3, iv i4, iv i5, iv of, iv (0 : Int32), rv b5, iv (0 : Int32), iv (12 : Int32), .unset, .unset, .unset] [] _
      refine XS.iload X34.here hx rfl (hb hby at_93) rfl ?_
      show own_s p e below T33 m 95 #[iv i0, iv i1, iv i2, iv i3, iv i4, iv i5, iv of, iv (0 : Int32), rv b5, iv (0 : Int32), iv (12 : Int32), .unset, .unset, .unset] [(.int (0 : Int32))] _
      refine XS.ifYes X34.here hx rfl (pc0 := 95) (pc' := 105) rfl (hb hby at_95) rfl ((if0 _ _).trans (teq (by decide : (0 : Int32) = (0 : Int32))).1) (by decide) (by decide) ?_
      show own_s p e below T33 m 105 #[iv i0, iv i1, iv i2, iv i3, iv i4, iv i5, iv of, iv (0 : Int32), rv b5, iv (0 : Int32), iv (12 : Int32), .unset, .unset, .unset] [] _
      refine XS.aload X34.here hx rfl (hb hby at_105) rfl rfl ?_
      exact kX
    obtain ⟨cq37, kq37, q37a, q37b, q37c⟩ := isOf hZ e33 E_a29
    obtain ⟨_, _, ⟨T37, L37, k37, n37⟩, -, X37, ⟨Lc37, hQ37, l37, y37, z37⟩, st37⟩ := X34.virtualBack hx (y := (⟨"com/example/farcall/farcall/io/XdrEncoder", "toByteArray", "()[B"⟩ : MethodName)) (z := (⟨"com/example/farcall/farcall/io/XdrEncoder", "toByteArray", "()[B"⟩ : MethodName)) hown (mvT hZ (hw _ (List.mem_of_getElem? (i := 39) rfl))) (mvT hZ (hw _ (List.mem_of_getElem? (i := 40) rfl))) (notFace_of_selects (args := #[]) (mvT hZ (hw _ (List.mem_of_getElem? (i := 42) rfl)))) (mvT hZ (hw _ (List.mem_of_getElem? (i := 42) rfl))) (mvT hZ (hw _ (List.mem_of_getElem? (i := 41) rfl))) (by decide) (backOf (W := 0) (rm5 l Z a0 hw [] b5 bb13 ((own_put (own_put (own_put (own_put (fun _ : Nat => (0 : Int32)) 0 i0) 4 i1) 8 i2) (0 + O) i3)) 0 12 T29.heap n0 Z29 E_a29 F_buf29 F_sta29 F_end29 A_b29 ne_ab29 fg29 g_a29 g_b29 (by decide) (by decide) (by decide)) hZ (hw _ (List.mem_of_getElem? (i := 43) rfl)) (hw _ (List.mem_of_getElem? (i := 4) rfl)) (by decide) (by decide)) q37a q37c (g := (mkF m 107 #[iv i0, iv i1, iv i2, iv i3, iv i4, iv i5, iv of, iv (0 : Int32), rv b5, iv (0 : Int32), iv (12 : Int32), .unset, .unset, .unset] [(.ref b5)])) rfl (by rw [hml]; rfl) (Steps.refl _) (argsL := []) (rest := []) (lenOf pd0_4 rfl) rfl (by show 2 * 0 + _ ≤ _; exact Nat.le_of_eq rfl) (hb hby at_107) (fun _ _ => ⟨rfl, e33, (by decide : 2 + 1 ≤ _), (by decide : 68 + 64 ≤ _)⟩)
    dsimp only [Pt.U, Pt.locs, Pt.cells, Pt.slots] at X37 l37 y37 z37 st37 hQ37
    subst l37 y37 z37
    obtain ⟨r37, rfl, Nq37, Kq37, sz_r37, g_r37, fA37⟩ := hQ37
    have N37 := Fr.app N34 Nq37
    have e37 : T37.heap = T37.heap := rfl
    have Z37 : n0 ≤ T37.heap.size := Nat.le_trans Z29 Kq37.1
    have ne38 : b5 ≠ r37 := Nat.ne_of_lt (Nat.lt_of_lt_of_le E_a29.lt sz_r37)
    have ne39 : bb13 ≠ r37 := Nat.ne_of_lt (Nat.lt_of_lt_of_le A_b29.lt sz_r37)
    have f40_E : Exa Z T37.heap b5 "com/example/farcall/farcall/io/XdrEncoder" := E_a29.keep Kq37
    have f41_F : Fld Z T37.heap b5 "com/example/farcall/farcall/io/XdrEncoder" "buffer" "[B" (.ref bb13) := F_buf29.keep Kq37 nin0
    have f42_F : Fld Z T37.heap b5 "com/example/farcall/farcall/io/XdrEncoder" "start" "I" (.int (Int32.ofNat 0)) := F_sta29.keep Kq37 nin0
    have f43_F : Fld Z T37.heap b5 "com/example/farcall/farcall/io/XdrEncoder" "end" "I" (.int (Int32.ofNat 12)) := F_end29.keep Kq37 nin0
    have f44_A : own_Af Z T37.heap bb13 .byte 64 (fun j => .int ((own_put (own_put (own_put (own_put (fun _ : Nat => (0 : Int32)) 0 i0) 4 i1) 8 i2) (0 + O) i3) j)) := A_b29.keep Kq37 nin0
    obtain ⟨LL45, X45, N45⟩ : ∃ LL, Stand p l e room_1 s m #[(.int i0), (.int i1), (.int i2), (.int i3), (.int i4), (.int i5)] below meth c T37 LL 3 132 ∧ Fr n0 LL := ⟨_, X37, N37⟩
    have pre46 : ∀ t, own_s p e below T37 m 110 #[iv i0, iv i1, iv i2, iv i3, iv i4, iv i5, iv of, iv (0 : Int32), rv b5, iv (0 : Int32), iv (12 : Int32), .unset, .unset, .unset] [(.ref r37)] t → Steps p.tables e below S0 t := fun tX kX => pre36 _ (st37.trans kX)
    have pre48 : ∀ t, own_s p e below T37 m 135 #[iv i0, iv i1, iv i2, iv i3, iv i4, iv i5, iv of, iv (0 : Int32), rv b5, iv (0 : Int32), iv (12 : Int32), rv r37, iv (0 : Int32), .unset] [(.ref r37)] t → Steps p.tables e below S0 t := by
      intro tX kX
      refine pre46 _ ?_
      show own_s p e below T37 m 110 #[iv i0, iv i1, iv i2, iv i3, iv i4, iv i5, iv of, iv (0 : Int32), rv b5, iv (0 : Int32), iv (12 : Int32), .unset, .unset, .unset] [(.ref r37)] _
      refine XS.astore X45.here hx rfl (hb hby at_110) rfl rfl (l' := #[iv i0, iv i1, iv i2, iv i3, iv i4, iv i5, iv of, iv (0 : Int32), rv b5, iv (0 : Int32), iv (12 : Int32), rv r37, .unset, .unset]) rfl ?_
      show own_s p e below T37 m 112 #[iv i0, iv i1, iv i2, iv i3, iv i4, iv i5, iv of, iv (0 : Int32), rv b5, iv (0 : Int32), iv (12 : Int32), rv r37, .unset, .unset] [] _
      refine XS.iload X45.here hx rfl (hb hby at_112) rfl ?_
      show own_s p e below T37 m 114 #[iv i0, iv i1, iv i2, iv i3, iv i4, iv i5, iv of, iv (0 : Int32), rv b5, iv (0 : Int32), iv (12 : Int32), rv r37, .unset, .unset] [(.int (0 : Int32))] _
      refine XS.ifYes X45.here hx rfl (pc0 := 114) (pc' := 121) rfl (hb hby at_114) rfl ((if0 _ _).trans (teq (by decide : (0 : Int32) = (0 : Int32))).1) (by decide) (by decide) ?_
      show own_s p e below T37 m 121 #[iv i0, iv i1, iv i2, iv i3, iv i4, iv i5, iv of, iv (0 : Int32), rv b5, iv (0 : Int32), iv (12 : Int32), rv r37, .unset, .unset] [] _
      refine XS.iconst X45.here hx rfl (hb hby at_121) ?_
      show own_s p e below T37 m 122 #[iv i0, iv i1, iv i2, iv i3, iv i4, iv i5, iv of, iv (0 : Int32), rv b5, iv (0 : Int32), iv (12 : Int32), rv r37, .unset, .unset] [(.int (0 : Int32))] _
      refine XS.istore X45.here hx rfl (hb hby at_122) rfl (l' := #[iv i0, iv i1, iv i2, iv i3, iv i4, iv i5, iv of, iv (0 : Int32), rv b5, iv (0 : Int32), iv (12 : Int32), rv r37, iv (0 : Int32), .unset]) rfl ?_
      show own_s p e below T37 m 124 #[iv i0, iv i1, iv i2, iv i3, iv i4, iv i5, iv of, iv (0 : Int32), rv b5, iv (0 : Int32), iv (12 : Int32), rv r37, iv (0 : Int32), .unset] [] _
      refine XS.iload X45.here hx rfl (hb hby at_124) rfl ?_
      show own_s p e below T37 m 126 #[iv i0, iv i1, iv i2, iv i3, iv i4, iv i5, iv of, iv (0 : Int32), rv b5, iv (0 : Int32), iv (12 : Int32), rv r37, iv (0 : Int32), .unset] [(.int (12 : Int32))] _
      refine XS.bipush X45.here hx rfl (hb hby at_126) ?_
      show own_s p e below T37 m 128 #[iv i0, iv i1, iv i2, iv i3, iv i4, iv i5, iv of, iv (0 : Int32), rv b5, iv (0 : Int32), iv (12 : Int32), rv r37, iv (0 : Int32), .unset] [(.int (12 : Int32)), (.int (12 : Int32))] _
      refine XS.icmpYes X45.here hx rfl (pc0 := 128) (pc' := 133) rfl (hb hby at_128) rfl (teq (by decide : (12 : Int32) = (12 : Int32))).1 (by decide) (by decide) ?_
      show own_s p e below T37 m 133 #[iv i0, iv i1, iv i2, iv i3, iv i4, iv i5, iv of, iv (0 : Int32), rv b5, iv (0 : Int32), iv (12 : Int32), rv r37, iv (0 : Int32), .unset] [] _
      refine XS.aload X45.here hx rfl (hb hby at_133) rfl rfl ?_
      exact kX
    obtain ⟨cl47, Ar47, S47, M47, H47⟩ := id fA37
    have pre49 : ∀ t, own_s p e below T37 m 226 #[iv i0, iv i1, iv i2, iv i3, iv i4, iv i5, iv of, iv (0 : Int32), rv b5, iv (0 : Int32), iv (12 : Int32), rv r37, iv (0 : Int32), iv (1 : Int32)] [(.int i2), (.int i1), (.int i0), (.int i3), (.int of), (.int (0 : Int32)), (.int (0 : Int32)), (.ref r37)] t → Steps p.tables e below S0 t := by
      intro tX kX
      refine pre48 _ ?_
      show own_s p e below T37 m 135 #[iv i0, iv i1, iv i2, iv i3, iv i4, iv i5, iv of, iv (0 : Int32), rv b5, iv (0 : Int32), iv (12 : Int32), rv r37, iv (0 : Int32), .unset] [(.ref r37)] _
      refine X45.arraylength hx (by rw [e37]; exact Ar47.1) (State.isArrayOf_alike hZ.alike Ar47.2.1) (g := (mkF m 135 #[iv i0, iv i1, iv i2, iv i3, iv i4, iv i5, iv of, iv (0 : Int32), rv b5, iv (0 : Int32), iv (12 : Int32), rv r37, iv (0 : Int32), .unset] [(.ref r37)])) rfl rfl (hb hby at_135) _ ?_
      rw [show cl47.slots.size.toInt32 = (12 : Int32) from by rw [S47]; exact rfl]
      show own_s p e below T37 m 136 #[iv i0, iv i1, iv i2, iv i3, iv i4, iv i5, iv of, iv (0 : Int32), rv b5, iv (0 : Int32), iv (12 : Int32), rv r37, iv (0 : Int32), .unset] [(.int (12 : Int32))] _
      refine XS.iload X45.here hx rfl (hb hby at_136) rfl ?_
      show own_s p e below T37 m 138 #[iv i0, iv i1, iv i2, iv i3, iv i4, iv i5, iv of, iv (0 : Int32), rv b5, iv (0 : Int32), iv (12 : Int32), rv r37, iv (0 : Int32), .unset] [(.int (0 : Int32)), (.int (12 : Int32))] _
      refine XS.bipush X45.here hx rfl (hb hby at_138) ?_
      show own_s p e below T37 m 140 #[iv i0, iv i1, iv i2, iv i3, iv i4, iv i5, iv of, iv (0 : Int32), rv b5, iv (0 : Int32), iv (12 : Int32), rv r37, iv (0 : Int32), .unset] [(.int (12 : Int32)), (.int (0 : Int32)), (.int (12 : Int32))] _
      refine XS.iadd X45.here hx rfl (hb hby at_140) rfl ?_
      show own_s p e below T37 m 141 #[iv i0, iv i1, iv i2, iv i3, iv i4, iv i5, iv of, iv (0 : Int32), rv b5, iv (0 : Int32), iv (12 : Int32), rv r37, iv (0 : Int32), .unset] [(.int (12 : Int32)), (.int (12 : Int32))] _
      refine XS.icmpYes X45.here hx rfl (pc0 := 141) (pc' := 146) rfl (hb hby at_141) rfl (teq (by decide : (12 : Int32) = (12 : Int32))).1 (by decide) (by decide) ?_
      show own_s p e below T37 m 146 #[iv i0, iv i1, iv i2, iv i3, iv i4, iv i5, iv of, iv (0 : Int32), rv b5, iv (0 : Int32), iv (12 : Int32), rv r37, iv (0 : Int32), .unset] [] _
      refine XS.iload X45.here hx rfl (hb hby at_146) rfl ?_
      show own_s p e below T37 m 148 #[iv i0, iv i1, iv i2, iv i3, iv i4, iv i5, iv of, iv (0 : Int32), rv b5, iv (0 : Int32), iv (12 : Int32), rv r37, iv (0 : Int32), .unset] [(.int (0 : Int32))] _
      refine XS.ifYes X45.here hx rfl (pc0 := 148) (pc' := 203) rfl (hb hby at_148) rfl ((if0 _ _).trans (teq (by decide : (0 : Int32) = (0 : Int32))).1) (by decide) (by decide) ?_
      show own_s p e below T37 m 203 #[iv i0, iv i1, iv i2, iv i3, iv i4, iv i5, iv of, iv (0 : Int32), rv b5, iv (0 : Int32), iv (12 : Int32), rv r37, iv (0 : Int32), .unset] [] _
      refine XS.iconst X45.here hx rfl (hb hby at_203) ?_
      show own_s p e below T37 m 204 #[iv i0, iv i1, iv i2, iv i3, iv i4, iv i5, iv of, iv (0 : Int32), rv b5, iv (0 : Int32), iv (12 : Int32), rv r37, iv (0 : Int32), .unset] [(.int (1 : Int32))] _
      refine XS.goto X45.here hx rfl (pc0 := 204) (pc' := 208) rfl (hb hby at_204) (by decide) (by decide) ?_
      show own_s p e below T37 m 208 #[iv i0, iv i1, iv i2, iv i3, iv i4, iv i5, iv of, iv (0 : Int32), rv b5, iv (0 : Int32), iv (12 : Int32), rv r37, iv (0 : Int32), .unset] [(.int (1 : Int32))] _
      refine XS.istore X45.here hx rfl (hb hby at_208) rfl (l' := #[iv i0, iv i1, iv i2, iv i3, iv i4, iv i5, iv of, iv (0 : Int32), rv b5, iv (0 : Int32), iv (12 : Int32), rv r37, iv (0 : Int32), iv (1 : Int32)]) rfl ?_
      show own_s p e below T37 m 210 #[iv i0, iv i1, iv i2, iv i3, iv i4, iv i5, iv of, iv (0 : Int32), rv b5, iv (0 : Int32), iv (12 : Int32), rv r37, iv (0 : Int32), iv (1 : Int32)] [] _
      refine XS.iload X45.here hx rfl (hb hby at_210) rfl ?_
      show own_s p e below T37 m 212 #[iv i0, iv i1, iv i2, iv i3, iv i4, iv i5, iv of, iv (0 : Int32), rv b5, iv (0 : Int32), iv (12 : Int32), rv r37, iv (0 : Int32), iv (1 : Int32)] [(.int (1 : Int32))] _
      refine XS.ifNo X45.here hx rfl (hb hby at_212) rfl ((if0 _ _).trans (feq (by decide : ¬ ((1 : Int32) = (0 : Int32)))).1) ?_
      show own_s p e below T37 m 215 #[iv i0, iv i1, iv i2, iv i3, iv i4, iv i5, iv of, iv (0 : Int32), rv b5, iv (0 : Int32), iv (12 : Int32), rv r37, iv (0 : Int32), iv (1 : Int32)] [] _
      refine XS.aload X45.here hx rfl (hb hby at_215) rfl rfl ?_
      show own_s p e below T37 m 217 #[iv i0, iv i1, iv i2, iv i3, iv i4, iv i5, iv of, iv (0 : Int32), rv b5, iv (0 : Int32), iv (12 : Int32), rv r37, iv (0 : Int32), iv (1 : Int32)] [(.ref r37)] _
      refine XS.iload X45.here hx rfl (hb hby at_217) rfl ?_
      show own_s p e below T37 m 219 #[iv i0, iv i1, iv i2, iv i3, iv i4, iv i5, iv of, iv (0 : Int32), rv b5, iv (0 : Int32), iv (12 : Int32), rv r37, iv (0 : Int32), iv (1 : Int32)] [(.int (0 : Int32)), (.ref r37)] _
      refine XS.iconst X45.here hx rfl (hb hby at_219) ?_
      show own_s p e below T37 m 220 #[iv i0, iv i1, iv i2, iv i3, iv i4, iv i5, iv of, iv (0 : Int32), rv b5, iv (0 : Int32), iv (12 : Int32), rv r37, iv (0 : Int32), iv (1 : Int32)] [(.int (0 : Int32)), (.int (0 : Int32)), (.ref r37)] _
      refine XS.iload X45.here hx rfl (hb hby at_220) rfl ?_
      show own_s p e below T37 m 222 #[iv i0, iv i1, iv i2, iv i3, iv i4, iv i5, iv of, iv (0 : Int32), rv b5, iv (0 : Int32), iv (12 : Int32), rv r37, iv (0 : Int32), iv (1 : Int32)] [(.int of), (.int (0 : Int32)), (.int (0 : Int32)), (.ref r37)] _
      refine XS.iloadN X45.here hx rfl (hb hby at_222) rfl ?_
      show own_s p e below T37 m 223 #[iv i0, iv i1, iv i2, iv i3, iv i4, iv i5, iv of, iv (0 : Int32), rv b5, iv (0 : Int32), iv (12 : Int32), rv r37, iv (0 : Int32), iv (1 : Int32)] [(.int i3), (.int of), (.int (0 : Int32)), (.int (0 : Int32)), (.ref r37)] _
      refine XS.iloadN X45.here hx rfl (hb hby at_223) rfl ?_
      show own_s p e below T37 m 224 #[iv i0, iv i1, iv i2, iv i3, iv i4, iv i5, iv of, iv (0 : Int32), rv b5, iv (0 : Int32), iv (12 : Int32), rv r37, iv (0 : Int32), iv (1 : Int32)] [(.int i0), (.int i3), (.int of), (.int (0 : Int32)), (.int (0 : Int32)), (.ref r37)] _
      refine XS.iloadN X45.here hx rfl (hb hby at_224) rfl ?_
      show own_s p e below T37 m 225 #[iv i0, iv i1, iv i2, iv i3, iv i4, iv i5, iv of, iv (0 : Int32), rv b5, iv (0 : Int32), iv (12 : Int32), rv r37, iv (0 : Int32), iv (1 : Int32)] [(.int i1), (.int i0), (.int i3), (.int of), (.int (0 : Int32)), (.int (0 : Int32)), (.ref r37)] _
      refine XS.iloadN X45.here hx rfl (hb hby at_225) rfl ?_
      exact kX
    obtain ⟨_, _, ⟨T50, L50, k50, n50⟩, -, X50, ⟨Lc50, hQ50, l50, y50, z50⟩, st50⟩ := Jvm.LawKit.callS X45 hx (y := (⟨"com/example/farcall/farcall/io/XdrEncoderSetIntPinLaw", "at", "([BIIIIIII)Z"⟩ : MethodName)) hown (mvT hZ (hw _ (List.mem_of_getElem? (i := 62) rfl))) (mvT hZ (hw _ (List.mem_of_getElem? (i := 63) rfl))) (mvT hZ (hw _ (List.mem_of_getElem? (i := 64) rfl))) (mvT hZ (hw _ (List.mem_of_getElem? (i := 65) rfl))) (by decide) (backOf (W := 0) (rm15 l Z a0 hw [] r37 (0 : Int32) (0 : Int32) of i3 i0 i1 i2 (fun j => (own_put (own_put (own_put (own_put (fun _ : Nat => (0 : Int32)) 0 i0) 4 i1) 8 i2) (0 + O) i3) (0 + j)) 12 0 0 O T37.heap n0 Z37 fA37 rfl rfl hOf (by decide) hO (by decide) (by decide) (show (own_put (own_put (own_put (own_put (fun _ : Nat => (0 : Int32)) 0 i0) 4 i1) 8 i2) (0 + O) i3) (0 + (0 + 0)) = own_xp 0 O i3 i0 i1 i2 from own_rd (B := 0) (I := 0) (fun _ => (show (own_put (own_put (own_put (fun _ : Nat => (0 : Int32)) 0 i0) 4 i1) 8 i2) (0 + 0) = own_by i0 0 from ((own_put_out (by decide)).trans ((own_put_out (by decide)).trans ((own_put_in (by decide) (by decide)).trans (congrArg (own_by i0) (show _ = 0 from by decide)))))).trans (show own_by i0 0 = own_xp0 0 i0 i1 i2 from rfl)))) hZ (hw _ (List.mem_of_getElem? (i := 65) rfl)) (hw _ (List.mem_of_getElem? (i := 64) rfl)) (by decide) (by decide)) (g := (mkF m 226 #[iv i0, iv i1, iv i2, iv i3, iv i4, iv i5, iv of, iv (0 : Int32), rv b5, iv (0 : Int32), iv (12 : Int32), rv r37, iv (0 : Int32), iv (1 : Int32)] [(.int i2), (.int i1), (.int i0), (.int i3), (.int of), (.int (0 : Int32)), (.int (0 : Int32)), (.ref r37)])) rfl (by rw [hml]; rfl) (argsL := [(.ref r37), (.int (0 : Int32)), (.int (0 : Int32)), (.int of), (.int i3), (.int i0), (.int i1), (.int i2)]) (rest := []) (lenOf pd0_5 rfl) rfl (by show 2 * 0 + _ ≤ _; exact Nat.le_of_eq rfl) (hb hby at_226) (fun _ _ => ⟨rfl, e37, (by decide : 3 + 0 ≤ _), (by decide : 132 + 0 ≤ _)⟩)
    dsimp only [Pt.U, Pt.locs, Pt.cells, Pt.slots] at X50 l50 y50 z50 st50 hQ50
    subst l50 y50 z50
    obtain ⟨rfl, Nq50, e50⟩ := hQ50
    have N50 := Fr.app N45 Nq50
    obtain ⟨LL51, X51, N51⟩ : ∃ LL, Stand p l e room_1 s m #[(.int i0), (.int i1), (.int i2), (.int i3), (.int i4), (.int i5)] below meth c T50 LL 3 132 ∧ Fr n0 LL := ⟨_, X50, N50⟩
    have pre52 : ∀ t, own_s p e below T50 m 229 #[iv i0, iv i1, iv i2, iv i3, iv i4, iv i5, iv of, iv (0 : Int32), rv b5, iv (0 : Int32), iv (12 : Int32), rv r37, iv (0 : Int32), iv (1 : Int32)] [(.int (1 : Int32))] t → Steps p.tables e below S0 t := fun tX kX => pre49 _ (st50 _ kX)
    have pre53 : ∀ t, own_s p e below T50 m 243 #[iv i0, iv i1, iv i2, iv i3, iv i4, iv i5, iv of, iv (0 : Int32), rv b5, iv (0 : Int32), iv (12 : Int32), rv r37, iv (0 : Int32), iv (1 : Int32)] [(.int i2), (.int i1), (.int i0), (.int i3), (.int of), (.int (1 : Int32)), (.int (0 : Int32)), (.ref r37)] t → Steps p.tables e below S0 t := by
      intro tX kX
      refine pre52 _ ?_
      show own_s p e below T50 m 229 #[iv i0, iv i1, iv i2, iv i3, iv i4, iv i5, iv of, iv (0 : Int32), rv b5, iv (0 : Int32), iv (12 : Int32), rv r37, iv (0 : Int32), iv (1 : Int32)] [(.int (1 : Int32))] _
      refine XS.ifNo X51.here hx rfl (hb hby at_229) rfl ((if0 _ _).trans (feq (by decide : ¬ ((1 : Int32) = (0 : Int32)))).1) ?_
      show own_s p e below T50 m 232 #[iv i0, iv i1, iv i2, iv i3, iv i4, iv i5, iv of, iv (0 : Int32), rv b5, iv (0 : Int32), iv (12 : Int32), rv r37, iv (0 : Int32), iv (1 : Int32)] [] _
      refine XS.aload X51.here hx rfl (hb hby at_232) rfl rfl ?_
      show own_s p e below T50 m 234 #[iv i0, iv i1, iv i2, iv i3, iv i4, iv i5, iv of, iv (0 : Int32), rv b5, iv (0 : Int32), iv (12 : Int32), rv r37, iv (0 : Int32), iv (1 : Int32)] [(.ref r37)] _
      refine XS.iload X51.here hx rfl (hb hby at_234) rfl ?_
      show own_s p e below T50 m 236 #[iv i0, iv i1, iv i2, iv i3, iv i4, iv i5, iv of, iv (0 : Int32), rv b5, iv (0 : Int32), iv (12 : Int32), rv r37, iv (0 : Int32), iv (1 : Int32)] [(.int (0 : Int32)), (.ref r37)] _
      refine XS.iconst X51.here hx rfl (hb hby at_236) ?_
      show own_s p e below T50 m 237 #[iv i0, iv i1, iv i2, iv i3, iv i4, iv i5, iv of, iv (0 : Int32), rv b5, iv (0 : Int32), iv (12 : Int32), rv r37, iv (0 : Int32), iv (1 : Int32)] [(.int (1 : Int32)), (.int (0 : Int32)), (.ref r37)] _
      refine XS.iload X51.here hx rfl (hb hby at_237) rfl ?_
      show own_s p e below T50 m 239 #[iv i0, iv i1, iv i2, iv i3, iv i4, iv i5, iv of, iv (0 : Int32), rv b5, iv (0 : Int32), iv (12 : Int32), rv r37, iv (0 : Int32), iv (1 : Int32)] [(.int of), (.int (1 : Int32)), (.int (0 : Int32)), (.ref r37)] _
      refine XS.iloadN X51.here hx rfl (hb hby at_239) rfl ?_
      show own_s p e below T50 m 240 #[iv i0, iv i1, iv i2, iv i3, iv i4, iv i5, iv of, iv (0 : Int32), rv b5, iv (0 : Int32), iv (12 : Int32), rv r37, iv (0 : Int32), iv (1 : Int32)] [(.int i3), (.int of), (.int (1 : Int32)), (.int (0 : Int32)), (.ref r37)] _
      refine XS.iloadN X51.here hx rfl (hb hby at_240) rfl ?_
      show own_s p e below T50 m 241 #[iv i0, iv i1, iv i2, iv i3, iv i4, iv i5, iv of, iv (0 : Int32), rv b5, iv (0 : Int32), iv (12 : Int32), rv r37, iv (0 : Int32), iv (1 : Int32)] [(.int i0), (.int i3), (.int of), (.int (1 : Int32)), (.int (0 : Int32)), (.ref r37)] _
      refine XS.iloadN X51.here hx rfl (hb hby at_241) rfl ?_
      show own_s p e below T50 m 242 #[iv i0, iv i1, iv i2, iv i3, iv i4, iv i5, iv of, iv (0 : Int32), rv b5, iv (0 : Int32), iv (12 : Int32), rv r37, iv (0 : Int32), iv (1 : Int32)] [(.int i1), (.int i0), (.int i3), (.int of), (.int (1 : Int32)), (.int (0 : Int32)), (.ref r37)] _
      refine XS.iloadN X51.here hx rfl (hb hby at_242) rfl ?_
      exact kX
    obtain ⟨_, _, ⟨T54, L54, k54, n54⟩, -, X54, ⟨Lc54, hQ54, l54, y54, z54⟩, st54⟩ := Jvm.LawKit.callS X51 hx (y := (⟨"com/example/farcall/farcall/io/XdrEncoderSetIntPinLaw", "at", "([BIIIIIII)Z"⟩ : MethodName)) hown (mvT hZ (hw _ (List.mem_of_getElem? (i := 62) rfl))) (mvT hZ (hw _ (List.mem_of_getElem? (i := 63) rfl))) (mvT hZ (hw _ (List.mem_of_getElem? (i := 64) rfl))) (mvT hZ (hw _ (List.mem_of_getElem? (i := 65) rfl))) (by decide) (backOf (W := 0) (rm15 l Z a0 hw [] r37 (0 : Int32) (1 : Int32) of i3 i0 i1 i2 (fun j => (own_put (own_put (own_put (own_put (fun _ : Nat => (0 : Int32)) 0 i0) 4 i1) 8 i2) (0 + O) i3) (0 + j)) 12 0 1 O T37.heap n0 Z37 fA37 rfl rfl hOf (by decide) hO (by decide) (by decide) (show (own_put (own_put (own_put (own_put (fun _ : Nat => (0 : Int32)) 0 i0) 4 i1) 8 i2) (0 + O) i3) (0 + (0 + 1)) = own_xp 1 O i3 i0 i1 i2 from own_rd (B := 0) (I := 1) (fun _ => (show (own_put (own_put (own_put (fun _ : Nat => (0 : Int32)) 0 i0) 4 i1) 8 i2) (0 + 1) = own_by i0 1 from ((own_put_out (by decide)).trans ((own_put_out (by decide)).trans ((own_put_in (by decide) (by decide)).trans (congrArg (own_by i0) (show _ = 1 from by decide)))))).trans (show own_by i0 1 = own_xp0 1 i0 i1 i2 from rfl)))) hZ (hw _ (List.mem_of_getElem? (i := 65) rfl)) (hw _ (List.mem_of_getElem? (i := 64) rfl)) (by decide) (by decide)) (g := (mkF m 243 #[iv i0, iv i1, iv i2, iv i3, iv i4, iv i5, iv of, iv (0 : Int32), rv b5, iv (0 : Int32), iv (12 : Int32), rv r37, iv (0 : Int32), iv (1 : Int32)] [(.int i2), (.int i1), (.int i0), (.int i3), (.int of), (.int (1 : Int32)), (.int (0 : Int32)), (.ref r37)])) rfl (by rw [hml]; rfl) (argsL := [(.ref r37), (.int (0 : Int32)), (.int (1 : Int32)), (.int of), (.int i3), (.int i0), (.int i1), (.int i2)]) (rest := []) (lenOf pd0_5 rfl) rfl (by show 2 * 0 + _ ≤ _; exact Nat.le_of_eq rfl) (hb hby at_243) (fun _ _ => ⟨rfl, e50, (by decide : 3 + 0 ≤ _), (by decide : 132 + 0 ≤ _)⟩)
    dsimp only [Pt.U, Pt.locs, Pt.cells, Pt.slots] at X54 l54 y54 z54 st54 hQ54
    subst l54 y54 z54
    obtain ⟨rfl, Nq54, e54⟩ := hQ54
    have N54 := Fr.app N51 Nq54
    obtain ⟨LL55, X55, N55⟩ : ∃ LL, Stand p l e room_1 s m #[(.int i0), (.int i1), (.int i2), (.int i3), (.int i4), (.int i5)] below meth c T54 LL 3 132 ∧ Fr n0 LL := ⟨_, X54, N54⟩
    have pre56 : ∀ t, own_s p e below T54 m 246 #[iv i0, iv i1, iv i2, iv i3, iv i4, iv i5, iv of, iv (0 : Int32), rv b5, iv (0 : Int32), iv (12 : Int32), rv r37, iv (0 : Int32), iv (1 : Int32)] [(.int (1 : Int32))] t → Steps p.tables e below S0 t := fun tX kX => pre53 _ (st54 _ kX)
    have pre57 : ∀ t, own_s p e below T54 m 260 #[iv i0, iv i1, iv i2, iv i3, iv i4, iv i5, iv of, iv (0 : Int32), rv b5, iv (0 : Int32), iv (12 : Int32), rv r37, iv (0 : Int32), iv (1 : Int32)] [(.int i2), (.int i1), (.int i0), (.int i3), (.int of), (.int (2 : Int32)), (.int (0 : Int32)), (.ref r37)] t → Steps p.tables e below S0 t := by
      intro tX kX
      refine pre56 _ ?_
      show own_s p e below T54 m 246 #[iv i0, iv i1, iv i2, iv i3, iv i4, iv i5, iv of, iv (0 : Int32), rv b5, iv (0 : Int32), iv (12 : Int32), rv r37, iv (0 : Int32), iv (1 : Int32)] [(.int (1 : Int32))] _
      refine XS.ifNo X55.here hx rfl (hb hby at_246) rfl ((if0 _ _).trans (feq (by decide : ¬ ((1 : Int32) = (0 : Int32)))).1) ?_
      show own_s p e below T54 m 249 #[iv i0, iv i1, iv i2, iv i3, iv i4, iv i5, iv of, iv (0 : Int32), rv b5, iv (0 : Int32), iv (12 : Int32), rv r37, iv (0 : Int32), iv (1 : Int32)] [] _
      refine XS.aload X55.here hx rfl (hb hby at_249) rfl rfl ?_
      show own_s p e below T54 m 251 #[iv i0, iv i1, iv i2, iv i3, iv i4, iv i5, iv of, iv (0 : Int32), rv b5, iv (0 : Int32), iv (12 : Int32), rv r37, iv (0 : Int32), iv (1 : Int32)] [(.ref r37)] _
      refine XS.iload X55.here hx rfl (hb hby at_251) rfl ?_
      show own_s p e below T54 m 253 #[iv i0, iv i1, iv i2, iv i3, iv i4, iv i5, iv of, iv (0 : Int32), rv b5, iv (0 : Int32), iv (12 : Int32), rv r37, iv (0 : Int32), iv (1 : Int32)] [(.int (0 : Int32)), (.ref r37)] _
      refine XS.iconst X55.here hx rfl (hb hby at_253) ?_
      show own_s p e below T54 m 254 #[iv i0, iv i1, iv i2, iv i3, iv i4, iv i5, iv of, iv (0 : Int32), rv b5, iv (0 : Int32), iv (12 : Int32), rv r37, iv (0 : Int32), iv (1 : Int32)] [(.int (2 : Int32)), (.int (0 : Int32)), (.ref r37)] _
      refine XS.iload X55.here hx rfl (hb hby at_254) rfl ?_
      show own_s p e below T54 m 256 #[iv i0, iv i1, iv i2, iv i3, iv i4, iv i5, iv of, iv (0 : Int32), rv b5, iv (0 : Int32), iv (12 : Int32), rv r37, iv (0 : Int32), iv (1 : Int32)] [(.int of), (.int (2 : Int32)), (.int (0 : Int32)), (.ref r37)] _
      refine XS.iloadN X55.here hx rfl (hb hby at_256) rfl ?_
      show own_s p e below T54 m 257 #[iv i0, iv i1, iv i2, iv i3, iv i4, iv i5, iv of, iv (0 : Int32), rv b5, iv (0 : Int32), iv (12 : Int32), rv r37, iv (0 : Int32), iv (1 : Int32)] [(.int i3), (.int of), (.int (2 : Int32)), (.int (0 : Int32)), (.ref r37)] _
      refine XS.iloadN X55.here hx rfl (hb hby at_257) rfl ?_
      show own_s p e below T54 m 258 #[iv i0, iv i1, iv i2, iv i3, iv i4, iv i5, iv of, iv (0 : Int32), rv b5, iv (0 : Int32), iv (12 : Int32), rv r37, iv (0 : Int32), iv (1 : Int32)] [(.int i0), (.int i3), (.int of), (.int (2 : Int32)), (.int (0 : Int32)), (.ref r37)] _
      refine XS.iloadN X55.here hx rfl (hb hby at_258) rfl ?_
      show own_s p e below T54 m 259 #[iv i0, iv i1, iv i2, iv i3, iv i4, iv i5, iv of, iv (0 : Int32), rv b5, iv (0 : Int32), iv (12 : Int32), rv r37, iv (0 : Int32), iv (1 : Int32)] [(.int i1), (.int i0), (.int i3), (.int of), (.int (2 : Int32)), (.int (0 : Int32)), (.ref r37)] _
      refine XS.iloadN X55.here hx rfl (hb hby at_259) rfl ?_
      exact kX
    obtain ⟨_, _, ⟨T58, L58, k58, n58⟩, -, X58, ⟨Lc58, hQ58, l58, y58, z58⟩, st58⟩ := Jvm.LawKit.callS X55 hx (y := (⟨"com/example/farcall/farcall/io/XdrEncoderSetIntPinLaw", "at", "([BIIIIIII)Z"⟩ : MethodName)) hown (mvT hZ (hw _ (List.mem_of_getElem? (i := 62) rfl))) (mvT hZ (hw _ (List.mem_of_getElem? (i := 63) rfl))) (mvT hZ (hw _ (List.mem_of_getElem? (i := 64) rfl))) (mvT hZ (hw _ (List.mem_of_getElem? (i := 65) rfl))) (by decide) (backOf (W := 0) (rm15 l Z a0 hw [] r37 (0 : Int32) (2 : Int32) of i3 i0 i1 i2 (fun j => (own_put (own_put (own_put (own_put (fun _ : Nat => (0 : Int32)) 0 i0) 4 i1) 8 i2) (0 + O) i3) (0 + j)) 12 0 2 O T37.heap n0 Z37 fA37 rfl rfl hOf (by decide) hO (by decide) (by decide) (show (own_put (own_put (own_put (own_put (fun _ : Nat => (0 : Int32)) 0 i0) 4 i1) 8 i2) (0 + O) i3) (0 + (0 + 2)) = own_xp 2 O i3 i0 i1 i2 from own_rd (B := 0) (I := 2) (fun _ => (show (own_put (own_put (own_put (fun _ : Nat => (0 : Int32)) 0 i0) 4 i1) 8 i2) (0 + 2) = own_by i0 2 from ((own_put_out (by decide)).trans ((own_put_out (by decide)).trans ((own_put_in (by decide) (by decide)).trans (congrArg (own_by i0) (show _ = 2 from by decide)))))).trans (show own_by i0 2 = own_xp0 2 i0 i1 i2 from rfl)))) hZ (hw _ (List.mem_of_getElem? (i := 65) rfl)) (hw _ (List.mem_of_getElem? (i := 64) rfl)) (by decide) (by decide)) (g := (mkF m 260 #[iv i0, iv i1, iv i2, iv i3, iv i4, iv i5, iv of, iv (0 : Int32), rv b5, iv (0 : Int32), iv (12 : Int32), rv r37, iv (0 : Int32), iv (1 : Int32)] [(.int i2), (.int i1), (.int i0), (.int i3), (.int of), (.int (2 : Int32)), (.int (0 : Int32)), (.ref r37)])) rfl (by rw [hml]; rfl) (argsL := [(.ref r37), (.int (0 : Int32)), (.int (2 : Int32)), (.int of), (.int i3), (.int i0), (.int i1), (.int i2)]) (rest := []) (lenOf pd0_5 rfl) rfl (by show 2 * 0 + _ ≤ _; exact Nat.le_of_eq rfl) (hb hby at_260) (fun _ _ => ⟨rfl, e54, (by decide : 3 + 0 ≤ _), (by decide : 132 + 0 ≤ _)⟩)
    dsimp only [Pt.U, Pt.locs, Pt.cells, Pt.slots] at X58 l58 y58 z58 st58 hQ58
    subst l58 y58 z58
    obtain ⟨rfl, Nq58, e58⟩ := hQ58
    have N58 := Fr.app N55 Nq58
    obtain ⟨LL59, X59, N59⟩ : ∃ LL, Stand p l e room_1 s m #[(.int i0), (.int i1), (.int i2), (.int i3), (.int i4), (.int i5)] below meth c T58 LL 3 132 ∧ Fr n0 LL := ⟨_, X58, N58⟩
    have pre60 : ∀ t, own_s p e below T58 m 263 #[iv i0, iv i1, iv i2, iv i3, iv i4, iv i5, iv of, iv (0 : Int32), rv b5, iv (0 : Int32), iv (12 : Int32), rv r37, iv (0 : Int32), iv (1 : Int32)] [(.int (1 : Int32))] t → Steps p.tables e below S0 t := fun tX kX => pre57 _ (st58 _ kX)
    have pre61 : ∀ t, own_s p e below T58 m 277 #[iv i0, iv i1, iv i2, iv i3, iv i4, iv i5, iv of, iv (0 : Int32), rv b5, iv (0 : Int32), iv (12 : Int32), rv r37, iv (0 : Int32), iv (1 : Int32)] [(.int i2), (.int i1), (.int i0), (.int i3), (.int of), (.int (3 : Int32)), (.int (0 : Int32)), (.ref r37)] t → Steps p.tables e below S0 t := by
      intro tX kX
      refine pre60 _ ?_
      show own_s p e below T58 m 263 #[iv i0, iv i1, iv i2, iv i3, iv i4, iv i5, iv of, iv (0 : Int32), rv b5, iv (0 : Int32), iv (12 : Int32), rv r37, iv (0 : Int32), iv (1 : Int32)] [(.int (1 : Int32))] _
      refine XS.ifNo X59.here hx rfl (hb hby at_263) rfl ((if0 _ _).trans (feq (by decide : ¬ ((1 : Int32) = (0 : Int32)))).1) ?_
      show own_s p e below T58 m 266 #[iv i0, iv i1, iv i2, iv i3, iv i4, iv i5, iv of, iv (0 : Int32), rv b5, iv (0 : Int32), iv (12 : Int32), rv r37, iv (0 : Int32), iv (1 : Int32)] [] _
      refine XS.aload X59.here hx rfl (hb hby at_266) rfl rfl ?_
      show own_s p e below T58 m 268 #[iv i0, iv i1, iv i2, iv i3, iv i4, iv i5, iv of, iv (0 : Int32), rv b5, iv (0 : Int32), iv (12 : Int32), rv r37, iv (0 : Int32), iv (1 : Int32)] [(.ref r37)] _
      refine XS.iload X59.here hx rfl (hb hby at_268) rfl ?_
      show own_s p e below T58 m 270 #[iv i0, iv i1, iv i2, iv i3, iv i4, iv i5, iv of, iv (0 : Int32), rv b5, iv (0 : Int32), iv (12 : Int32), rv r37, iv (0 : Int32), iv (1 : Int32)] [(.int (0 : Int32)), (.ref r37)] _
      refine XS.iconst X59.here hx rfl (hb hby at_270) ?_
      show own_s p e below T58 m 271 #[iv i0, iv i1, iv i2, iv i3, iv i4, iv i5, iv of, iv (0 : Int32), rv b5, iv (0 : Int32), iv (12 : Int32), rv r37, iv (0 : Int32), iv (1 : Int32)] [(.int (3 : Int32)), (.int (0 : Int32)), (.ref r37)] _
      refine XS.iload X59.here hx rfl (hb hby at_271) rfl ?_
      show own_s p e below T58 m 273 #[iv i0, iv i1, iv i2, iv i3, iv i4, iv i5, iv of, iv (0 : Int32), rv b5, iv (0 : Int32), iv (12 : Int32), rv r37, iv (0 : Int32), iv (1 : Int32)] [(.int of), (.int (3 : Int32)), (.int (0 : Int32)), (.ref r37)] _
      refine XS.iloadN X59.here hx rfl (hb hby at_273) rfl ?_
      show own_s p e below T58 m 274 #[iv i0, iv i1, iv i2, iv i3, iv i4, iv i5, iv of, iv (0 : Int32), rv b5, iv (0 : Int32), iv (12 : Int32), rv r37, iv (0 : Int32), iv (1 : Int32)] [(.int i3), (.int of), (.int (3 : Int32)), (.int (0 : Int32)), (.ref r37)] _
      refine XS.iloadN X59.here hx rfl (hb hby at_274) rfl ?_
      show own_s p e below T58 m 275 #[iv i0, iv i1, iv i2, iv i3, iv i4, iv i5, iv of, iv (0 : Int32), rv b5, iv (0 : Int32), iv (12 : Int32), rv r37, iv (0 : Int32), iv (1 : Int32)] [(.int i0), (.int i3), (.int of), (.int (3 : Int32)), (.int (0 : Int32)), (.ref r37)] _
      refine XS.iloadN X59.here hx rfl (hb hby at_275) rfl ?_
      show own_s p e below T58 m 276 #[iv i0, iv i1, iv i2, iv i3, iv i4, iv i5, iv of, iv (0 : Int32), rv b5, iv (0 : Int32), iv (12 : Int32), rv r37, iv (0 : Int32), iv (1 : Int32)] [(.int i1), (.int i0), (.int i3), (.int of), (.int (3 : Int32)), (.int (0 : Int32)), (.ref r37)] _
      refine XS.iloadN X59.here hx rfl (hb hby at_276) rfl ?_
      exact kX
    obtain ⟨_, _, ⟨T62, L62, k62, n62⟩, -, X62, ⟨Lc62, hQ62, l62, y62, z62⟩, st62⟩ := Jvm.LawKit.callS X59 hx (y := (⟨"com/example/farcall/farcall/io/XdrEncoderSetIntPinLaw", "at", "([BIIIIIII)Z"⟩ : MethodName)) hown (mvT hZ (hw _ (List.mem_of_getElem? (i := 62) rfl))) (mvT hZ (hw _ (List.mem_of_getElem? (i := 63) rfl))) (mvT hZ (hw _ (List.mem_of_getElem? (i := 64) rfl))) (mvT hZ (hw _ (List.mem_of_getElem? (i := 65) rfl))) (by decide) (backOf (W := 0) (rm15 l Z a0 hw [] r37 (0 : Int32) (3 : Int32) of i3 i0 i1 i2 (fun j => (own_put (own_put (own_put (own_put (fun _ : Nat => (0 : Int32)) 0 i0) 4 i1) 8 i2) (0 + O) i3) (0 + j)) 12 0 3 O T37.heap n0 Z37 fA37 rfl rfl hOf (by decide) hO (by decide) (by decide) (show (own_put (own_put (own_put (own_put (fun _ : Nat => (0 : Int32)) 0 i0) 4 i1) 8 i2) (0 + O) i3) (0 + (0 + 3)) = own_xp 3 O i3 i0 i1 i2 from own_rd (B := 0) (I := 3) (fun _ => (show (own_put (own_put (own_put (fun _ : Nat => (0 : Int32)) 0 i0) 4 i1) 8 i2) (0 + 3) = own_by i0 3 from ((own_put_out (by decide)).trans ((own_put_out (by decide)).trans ((own_put_in (by decide) (by decide)).trans (congrArg (own_by i0) (show _ = 3 from by decide)))))).trans (show own_by i0 3 = own_xp0 3 i0 i1 i2 from rfl)))) hZ (hw _ (List.mem_of_getElem? (i := 65) rfl)) (hw _ (List.mem_of_getElem? (i := 64) rfl)) (by decide) (by decide)) (g := (mkF m 277 #[iv i0, iv i1, iv i2, iv i3, iv i4, iv i5, iv of, iv (0 : Int32), rv b5, iv (0 : Int32), iv (12 : Int32), rv r37, iv (0 : Int32), iv (1 : Int32)] [(.int i2), (.int i1), (.int i0), (.int i3), (.int of), (.int (3 : Int32)), (.int (0 : Int32)), (.ref r37)])) rfl (by rw [hml]; rfl) (argsL := [(.ref r37), (.int (0 : Int32)), (.int (3 : Int32)), (.int of), (.int i3), (.int i0), (.int i1), (.int i2)]) (rest := []) (lenOf pd0_5 rfl) rfl (by show 2 * 0 + _ ≤ _; exact Nat.le_of_eq rfl) (hb hby at_277) (fun _ _ => ⟨rfl, e58, (by decide : 3 + 0 ≤ _), (by decide : 132 + 0 ≤ _)⟩)
    dsimp only [Pt.U, Pt.locs, Pt.cells, Pt.slots] at X62 l62 y62 z62 st62 hQ62
    subst l62 y62 z62
    obtain ⟨rfl, Nq62, e62⟩ := hQ62
    have N62 := Fr.app N59 Nq62
    obtain ⟨LL63, X63, N63⟩ : ∃ LL, Stand p l e room_1 s m #[(.int i0), (.int i1), (.int i2), (.int i3), (.int i4), (.int i5)] below meth c T62 LL 3 132 ∧ Fr n0 LL := ⟨_, X62, N62⟩
    have pre64 : ∀ t, own_s p e below T62 m 280 #[iv i0, iv i1, iv i2, iv i3, iv i4, iv i5, iv of, iv (0 : Int32), rv b5, iv (0 : Int32), iv (12 : Int32), rv r37, iv (0 : Int32), iv (1 : Int32)] [(.int (1 : Int32))] t → Steps p.tables e below S0 t := fun tX kX => pre61 _ (st62 _ kX)
    have pre65 : ∀ t, own_s p e below T62 m 294 #[iv i0, iv i1, iv i2, iv i3, iv i4, iv i5, iv of, iv (0 : Int32), rv b5, iv (0 : Int32), iv (12 : Int32), rv r37, iv (0 : Int32), iv (1 : Int32)] [(.int i2), (.int i1), (.int i0), (.int i3), (.int of), (.int (4 : Int32)), (.int (0 : Int32)), (.ref r37)] t → Steps p.tables e below S0 t := by
      intro tX kX
      refine pre64 _ ?_
      show own_s p e below T62 m 280 #[iv i0, iv i1, iv i2, iv i3, iv i4, iv i5, iv of, iv (0 : Int32), rv b5, iv (0 : Int32), iv (12 : Int32), rv r37, iv (0 : Int32), iv (1 : Int32)] [(.int (1 : Int32))] _
      refine XS.ifNo X63.here hx rfl (hb hby at_280) rfl ((if0 _ _).trans (feq (by decide : ¬ ((1 : Int32) = (0 : Int32)))).1) ?_
      show own_s p e below T62 m 283 #[iv i0, iv i1, iv i2, iv i3, iv i4, iv i5, iv of, iv (0 : Int32), rv b5, iv (0 : Int32), iv (12 : Int32), rv r37, iv (0 : Int32), iv (1 : Int32)] [] _
      refine XS.aload X63.here hx rfl (hb hby at_283) rfl rfl ?_
      show own_s p e below T62 m 285 #[iv i0, iv i1, iv i2, iv i3, iv i4, iv i5, iv of, iv (0 : Int32), rv b5, iv (0 : Int32), iv (12 : Int32), rv r37, iv (0 : Int32), iv (1 : Int32)] [(.ref r37)] _
      refine XS.iload X63.here hx rfl (hb hby at_285) rfl ?_
      show own_s p e below T62 m 287 #[iv i0, iv i1, iv i2, iv i3, iv i4, iv i5, iv of, iv (0 : Int32), rv b5, iv (0 : Int32), iv (12 : Int32), rv r37, iv (0 : Int32), iv (1 : Int32)] [(.int (0 : Int32)), (.ref r37)] _
      refine XS.iconst X63.here hx rfl (hb hby at_287) ?_
      show own_s p e below T62 m 288 #[iv i0, iv i1, iv i2, iv i3, iv i4, iv i5, iv of, iv (0 : Int32), rv b5, iv (0 : Int32), iv (12 : Int32), rv r37, iv (0 : Int32), iv (1 : Int32)] [(.int (4 : Int32)), (.int (0 : Int32)), (.ref r37)] _
      refine XS.iload X63.here hx rfl (hb hby at_288) rfl ?_
      show own_s p e below T62 m 290 #[iv i0, iv i1, iv i2, iv i3, iv i4, iv i5, iv of, iv (0 : Int32), rv b5, iv (0 : Int32), iv (12 : Int32), rv r37, iv (0 : Int32), iv (1 : Int32)] [(.int of), (.int (4 : Int32)), (.int (0 : Int32)), (.ref r37)] _
      refine XS.iloadN X63.here hx rfl (hb hby at_290) rfl ?_
      show own_s p e below T62 m 291 #[iv i0, iv i1, iv i2, iv i3, iv i4, iv i5, iv of, iv (0 : Int32), rv b5, iv (0 : Int32), iv (12 : Int32), rv r37, iv (0 : Int32), iv (1 : Int32)] [(.int i3), (.int of), (.int (4 : Int32)), (.int (0 : Int32)), (.ref r37)] _
      refine XS.iloadN X63.here hx rfl (hb hby at_291) rfl ?_
      show own_s p e below T62 m 292 #[iv i0, iv i1, iv i2, iv i3, iv i4, iv i5, iv of, iv (0 : Int32), rv b5, iv (0 : Int32), iv (12 : Int32), rv r37, iv (0 : Int32), iv (1 : Int32)] [(.int i0), (.int i3), (.int of), (.int (4 : Int32)), (.int (0 : Int32)), (.ref r37)] _
      refine XS.iloadN X63.here hx rfl (hb hby at_292) rfl ?_
      show own_s p e below T62 m 293 #[iv i0, iv i1, iv i2, iv i3, iv i4, iv i5, iv of, iv (0 : Int32), rv b5, iv (0 : Int32), iv (12 : Int32), rv r37, iv (0 : Int32), iv (1 : Int32)] [(.int i1), (.int i0), (.int i3), (.int of), (.int (4 : Int32)), (.int (0 : Int32)), (.ref r37)] _
      refine XS.iloadN X63.here hx rfl (hb hby at_293) rfl ?_
      exact kX
    obtain ⟨_, _, ⟨T66, L66, k66, n66⟩, -, X66, ⟨Lc66, hQ66, l66, y66, z66⟩, st66⟩ := Jvm.LawKit.callS X63 hx (y := (⟨"com/example/farcall/farcall/io/XdrEncoderSetIntPinLaw", "at", "([BIIIIIII)Z"⟩ : MethodName)) hown (mvT hZ (hw _ (List.mem_of_getElem? (i := 62) rfl))) (mvT hZ (hw _ (List.mem_of_getElem? (i := 63) rfl))) (mvT hZ (hw _ (List.mem_of_getElem? (i := 64) rfl))) (mvT hZ (hw _ (List.mem_of_getElem? (i := 65) rfl))) (by decide) (backOf (W := 0) (rm15 l Z a0 hw [] r37 (0 : Int32) (4 : Int32) of i3 i0 i1 i2 (fun j => (own_put (own_put (own_put (own_put (fun _ : Nat => (0 : Int32)) 0 i0) 4 i1) 8 i2) (0 + O) i3) (0 + j)) 12 0 4 O T37.heap n0 Z37 fA37 rfl rfl hOf (by decide) hO (by decide) (by decide) (show (own_put (own_put (own_put (own_put (fun _ : Nat => (0 : Int32)) 0 i0) 4 i1) 8 i2) (0 + O) i3) (0 + (0 + 4)) = own_xp 4 O i3 i0 i1 i2 from own_rd (B := 0) (I := 4) (fun _ => (show (own_put (own_put (own_put (fun _ : Nat => (0 : Int32)) 0 i0) 4 i1) 8 i2) (0 + 4) = own_by i1 0 from ((own_put_out (by decide)).trans ((own_put_in (by decide) (by decide)).trans (congrArg (own_by i1) (show _ = 0 from by decide))))).trans (show own_by i1 0 = own_xp0 4 i0 i1 i2 from rfl)))) hZ (hw _ (List.mem_of_getElem? (i := 65) rfl)) (hw _ (List.mem_of_getElem? (i := 64) rfl)) (by decide) (by decide)) (g := (mkF m 294 #[iv i0, iv i1, iv i2, iv i3, iv i4, iv i5, iv of, iv (0 : Int32), rv b5, iv (0 : Int32), iv (12 : Int32), rv r37, iv (0 : Int32), iv (1 : Int32)] [(.int i2), (.int i1), (.int i0), (.int i3), (.int of), (.int (4 : Int32)), (.int (0 : Int32)), (.ref r37)])) rfl (by rw [hml]; rfl) (argsL := [(.ref r37), (.int (0 : Int32)), (.int (4 : Int32)), (.int of), (.int i3), (.int i0), (.int i1), (.int i2)]) (rest := []) (lenOf pd0_5 rfl) rfl (by show 2 * 0 + _ ≤ _; exact Nat.le_of_eq rfl) (hb hby at_294) (fun _ _ => ⟨rfl, e62, (by decide : 3 + 0 ≤ _), (by decide : 132 + 0 ≤ _)⟩)
    dsimp only [Pt.U, Pt.locs, Pt.cells, Pt.slots] at X66 l66 y66 z66 st66 hQ66
    subst l66 y66 z66
    obtain ⟨rfl, Nq66, e66⟩ := hQ66
    have N66 := Fr.app N63 Nq66
    obtain ⟨LL67, X67, N67⟩ : ∃ LL, Stand p l e room_1 s m #[(.int i0), (.int i1), (.int i2), (.int i3), (.int i4), (.int i5)] below meth c T66 LL 3 132 ∧ Fr n0 LL := ⟨_, X66, N66⟩
    have pre68 : ∀ t, own_s p e below T66 m 297 #[iv i0, iv i1, iv i2, iv i3, iv i4, iv i5, iv of, iv (0 : Int32), rv b5, iv (0 : Int32), iv (12 : Int32), rv r37, iv (0 : Int32), iv (1 : Int32)] [(.int (1 : Int32))] t → Steps p.tables e below S0 t := fun tX kX => pre65 _ (st66 _ kX)
    have pre69 : ∀ t, own_s p e below T66 m 311 #[iv i0, iv i1, iv i2, iv i3, iv i4, iv i5, iv of, iv (0 : Int32), rv b5, iv (0 : Int32), iv (12 : Int32), rv r37, iv (0 : Int32), iv (1 : Int32)] [(.int i2), (.int i1), (.int i0), (.int i3), (.int of), (.int (5 : Int32)), (.int (0 : Int32)), (.ref r37)] t → Steps p.tables e below S0 t := by
      intro tX kX
      refine pre68 _ ?_
      show own_s p e below T66 m 297 #[iv i0, iv i1, iv i2, iv i3, iv i4, iv i5, iv of, iv (0 : Int32), rv b5, iv (0 : Int32), iv (12 : Int32), rv r37, iv (0 : Int32), iv (1 : Int32)] [(.int (1 : Int32))] _
      refine XS.ifNo X67.here hx rfl (hb hby at_297) rfl ((if0 _ _).trans (feq (by decide : ¬ ((1 : Int32) = (0 : Int32)))).1) ?_
      show own_s p e below T66 m 300 #[iv i0, iv i1, iv i2, iv i3, iv i4, iv i5, iv of, iv (0 : Int32), rv b5, iv (0 : Int32), iv (12 : Int32), rv r37, iv (0 : Int32), iv (1 : Int32)] [] _
      refine XS.aload X67.here hx rfl (hb hby at_300) rfl rfl ?_
      show own_s p e below T66 m 302 #[iv i0, iv i1, iv i2, iv i3, iv i4, iv i5, iv of, iv (0 : Int32), rv b5, iv (0 : Int32), iv (12 : Int32), rv r37, iv (0 : Int32), iv (1 : Int32)] [(.ref r37)] _
      refine XS.iload X67.here hx rfl (hb hby at_302) rfl ?_
      show own_s p e below T66 m 304 #[iv i0, iv i1, iv i2, iv i3, iv i4, iv i5, iv of, iv (0 : Int32), rv b5, iv (0 : Int32), iv (12 : Int32), rv r37, iv (0 : Int32), iv (1 : Int32)] [(.int (0 : Int32)), (.ref r37)] _
      refine XS.iconst X67.here hx rfl (hb hby at_304) ?_
      show own_s p e below T66 m 305 #[iv i0, iv i1, iv i2, iv i3, iv i4, iv i5, iv of, iv (0 : Int32), rv b5, iv (0 : Int32), iv (12 : Int32), rv r37, iv (0 : Int32), iv (1 : Int32)] [(.int (5 : Int32)), (.int (0 : Int32)), (.ref r37)] _
      refine XS.iload X67.here hx rfl (hb hby at_305) rfl ?_
      show own_s p e below T66 m 307 #[iv i0, iv i1, iv i2, iv i3, iv i4, iv i5, iv of, iv (0 : Int32), rv b5, iv (0 : Int32), iv (12 : Int32), rv r37, iv (0 : Int32), iv (1 : Int32)] [(.int of), (.int (5 : Int32)), (.int (0 : Int32)), (.ref r37)] _
      refine XS.iloadN X67.here hx rfl (hb hby at_307) rfl ?_
      show own_s p e below T66 m 308 #[iv i0, iv i1, iv i2, iv i3, iv i4, iv i5, iv of, iv (0 : Int32), rv b5, iv (0 : Int32), iv (12 : Int32), rv r37, iv (0 : Int32), iv (1 : Int32)] [(.int i3), (.int of), (.int (5 : Int32)), (.int (0 : Int32)), (.ref r37)] _
      refine XS.iloadN X67.here hx rfl (hb hby at_308) rfl ?_
      show own_s p e below T66 m 309 #[iv i0, iv i1, iv i2, iv i3, iv i4, iv i5, iv of, iv (0 : Int32), rv b5, iv (0 : Int32), iv (12 : Int32), rv r37, iv (0 : Int32), iv (1 : Int32)] [(.int i0), (.int i3), (.int of), (.int (5 : Int32)), (.int (0 : Int32)), (.ref r37)] _
      refine XS.iloadN X67.here hx rfl (hb hby at_309) rfl ?_
      show own_s p e below T66 m 310 #[iv i0, iv i1, iv i2, iv i3, iv i4, iv i5, iv of, iv (0 : Int32), rv b5, iv (0 : Int32), iv (12 : Int32), rv r37, iv (0 : Int32), iv (1 : Int32)] [(.int i1), (.int i0), (.int i3), (.int of), (.int (5 : Int32)), (.int (0 : Int32)), (.ref r37)] _
      refine XS.iloadN X67.here hx rfl (hb hby at_310) rfl ?_
      exact kX
    obtain ⟨_, _, ⟨T70, L70, k70, n70⟩, -, X70, ⟨Lc70, hQ70, l70, y70, z70⟩, st70⟩ := Jvm.LawKit.callS X67 hx (y := (⟨"com/example/farcall/farcall/io/XdrEncoderSetIntPinLaw", "at", "([BIIIIIII)Z"⟩ : MethodName)) hown (mvT hZ (hw _ (List.mem_of_getElem? (i := 62) rfl))) (mvT hZ (hw _ (List.mem_of_getElem? (i := 63) rfl))) (mvT hZ (hw _ (List.mem_of_getElem? (i := 64) rfl))) (mvT hZ (hw _ (List.mem_of_getElem? (i := 65) rfl))) (by decide) (backOf (W := 0) (rm15 l Z a0 hw [] r37 (0 : Int32) (5 : Int32) of i3 i0 i1 i2 (fun j => (own_put (own_put (own_put (own_put (fun _ : Nat => (0 : Int32)) 0 i0) 4 i1) 8 i2) (0 + O) i3) (0 + j)) 12 0 5 O T37.heap n0 Z37 fA37 rfl rfl hOf (by decide) hO (by decide) (by decide) (show (own_put (own_put (own_put (own_put (fun _ : Nat => (0 : Int32)) 0 i0) 4 i1) 8 i2) (0 + O) i3) (0 + (0 + 5)) = own_xp 5 O i3 i0 i1 i2 from own_rd (B := 0) (I := 5) (fun _ => (show (own_put (own_put (own_put (fun _ : Nat => (0 : Int32)) 0 i0) 4 i1) 8 i2) (0 + 5) = own_by i1 1 from ((own_put_out (by decide)).trans ((own_put_in (by decide) (by decide)).trans (congrArg (own_by i1) (show _ = 1 from by decide))))).trans (show own_by i1 1 = own_xp0 5 i0 i1 i2 from rfl)))) hZ (hw _ (List.mem_of_getElem? (i := 65) rfl)) (hw _ (List.mem_of_getElem? (i := 64) rfl)) (by decide) (by decide)) (g := (mkF m 311 #[iv i0, iv i1, iv i2, iv i3, iv i4, iv i5, iv of, iv (0 : Int32), rv b5, iv (0 : Int32), iv (12 : Int32), rv r37, iv (0 : Int32), iv (1 : Int32)] [(.int i2), (.int i1), (.int i0), (.int i3), (.int of), (.int (5 : Int32)), (.int (0 : Int32)), (.ref r37)])) rfl (by rw [hml]; rfl) (argsL := [(.ref r37), (.int (0 : Int32)), (.int (5 : Int32)), (.int of), (.int i3), (.int i0), (.int i1), (.int i2)]) (rest := []) (lenOf pd0_5 rfl) rfl (by show 2 * 0 + _ ≤ _; exact Nat.le_of_eq rfl) (hb hby at_311) (fun _ _ => ⟨rfl, e66, (by decide : 3 + 0 ≤ _), (by decide : 132 + 0 ≤ _)⟩)
    dsimp only [Pt.U, Pt.locs, Pt.cells, Pt.slots] at X70 l70 y70 z70 st70 hQ70
    subst l70 y70 z70
    obtain ⟨rfl, Nq70, e70⟩ := hQ70
    have N70 := Fr.app N67 Nq70
    obtain ⟨LL71, X71, N71⟩ : ∃ LL, Stand p l e room_1 s m #[(.int i0), (.int i1), (.int i2), (.int i3), (.int i4), (.int i5)] below meth c T70 LL 3 132 ∧ Fr n0 LL := ⟨_, X70, N70⟩
    have pre72 : ∀ t, own_s p e below T70 m 314 #[iv i0, iv i1, iv i2, iv i3, iv i4, iv i5, iv of, iv (0 : Int32), rv b5, iv (0 : Int32), iv (12 : Int32), rv r37, iv (0 : Int32), iv (1 : Int32)] [(.int (1 : Int32))] t → Steps p.tables e below S0 t := fun tX kX => pre69 _ (st70 _ kX)
    have pre73 : ∀ t, own_s p e below T70 m 329 #[iv i0, iv i1, iv i2, iv i3, iv i4, iv i5, iv of, iv (0 : Int32), rv b5, iv (0 : Int32), iv (12 : Int32), rv r37, iv (0 : Int32), iv (1 : Int32)] [(.int i2), (.int i1), (.int i0), (.int i3), (.int of), (.int (6 : Int32)), (.int (0 : Int32)), (.ref r37)] t → Steps p.tables e below S0 t := by
      intro tX kX
      refine pre72 _ ?_
      show own_s p e below T70 m 314 #[iv i0, iv i1, iv i2, iv i3, iv i4, iv i5, iv of, iv (0 : Int32), rv b5, iv (0 : Int32), iv (12 : Int32), rv r37, iv (0 : Int32), iv (1 : Int32)] [(.int (1 : Int32))] _
      refine XS.ifNo X71.here hx rfl (hb hby at_314) rfl ((if0 _ _).trans (feq (by decide : ¬ ((1 : Int32) = (0 : Int32)))).1) ?_
      show own_s p e below T70 m 317 #[iv i0, iv i1, iv i2, iv i3, iv i4, iv i5, iv of, iv (0 : Int32), rv b5, iv (0 : Int32), iv (12 : Int32), rv r37, iv (0 : Int32), iv (1 : Int32)] [] _
      refine XS.aload X71.here hx rfl (hb hby at_317) rfl rfl ?_
      show own_s p e below T70 m 319 #[iv i0, iv i1, iv i2, iv i3, iv i4, iv i5, iv of, iv (0 : Int32), rv b5, iv (0 : Int32), iv (12 : Int32), rv r37, iv (0 : Int32), iv (1 : Int32)] [(.ref r37)] _
      refine XS.iload X71.here hx rfl (hb hby at_319) rfl ?_
      show own_s p e below T70 m 321 #[iv i0, iv i1, iv i2, iv i3, iv i4, iv i5, iv of, iv (0 : Int32), rv b5, iv (0 : Int32), iv (12 : Int32), rv r37, iv (0 : Int32), iv (1 : Int32)] [(.int (0 : Int32)), (.ref r37)] _
      refine XS.bipush X71.here hx rfl (hb hby at_321) ?_
      show own_s p e below T70 m 323 #[iv i0, iv i1, iv i2, iv i3, iv i4, iv i5, iv of, iv (0 : Int32), rv b5, iv (0 : Int32), iv (12 : Int32), rv r37, iv (0 : Int32), iv (1 : Int32)] [(.int (6 : Int32)), (.int (0 : Int32)), (.ref r37)] _
      refine XS.iload X71.here hx rfl (hb hby at_323) rfl ?_
      show own_s p e below T70 m 325 #[iv i0, iv i1, iv i2, iv i3, iv i4, iv i5, iv of, iv (0 : Int32), rv b5, iv (0 : Int32), iv (12 : Int32), rv r37, iv (0 : Int32), iv (1 : Int32)] [(.int of), (.int (6 : Int32)), (.int (0 : Int32)), (.ref r37)] _
      refine XS.iloadN X71.here hx rfl (hb hby at_325) rfl ?_
      show own_s p e below T70 m 326 #[iv i0, iv i1, iv i2, iv i3, iv i4, iv i5, iv of, iv (0 : Int32), rv b5, iv (0 : Int32), iv (12 : Int32), rv r37, iv (0 : Int32), iv (1 : Int32)] [(.int i3), (.int of), (.int (6 : Int32)), (.int (0 : Int32)), (.ref r37)] _
      refine XS.iloadN X71.here hx rfl (hb hby at_326) rfl ?_
      show own_s p e below T70 m 327 #[iv i0, iv i1, iv i2, iv i3, iv i4, iv i5, iv of, iv (0 : Int32), rv b5, iv (0 : Int32), iv (12 : Int32), rv r37, iv (0 : Int32), iv (1 : Int32)] [(.int i0), (.int i3), (.int of), (.int (6 : Int32)), (.int (0 : Int32)), (.ref r37)] _
      refine XS.iloadN X71.here hx rfl (hb hby at_327) rfl ?_
      show own_s p e below T70 m 328 #[iv i0, iv i1, iv i2, iv i3, iv i4, iv i5, iv of, iv (0 : Int32), rv b5, iv (0 : Int32), iv (12 : Int32), rv r37, iv (0 : Int32), iv (1 : Int32)] [(.int i1), (.int i0), (.int i3), (.int of), (.int (6 : Int32)), (.int (0 : Int32)), (.ref r37)] _
      refine XS.iloadN X71.here hx rfl (hb hby at_328) rfl ?_
      exact kX
    obtain ⟨_, _, ⟨T74, L74, k74, n74⟩, -, X74, ⟨Lc74, hQ74, l74, y74, z74⟩, st74⟩ := Jvm.LawKit.callS X71 hx (y := (⟨"com/example/farcall/farcall/io/XdrEncoderSetIntPinLaw", "at", "([BIIIIIII)Z"⟩ : MethodName)) hown (mvT hZ (hw _ (List.mem_of_getElem? (i := 62) rfl))) (mvT hZ (hw _ (List.mem_of_getElem? (i := 63) rfl))) (mvT hZ (hw _ (List.mem_of_getElem? (i := 64) rfl))) (mvT hZ (hw _ (List.mem_of_getElem? (i := 65) rfl))) (by decide) (backOf (W := 0) (rm15 l Z a0 hw [] r37 (0 : Int32) (6 : Int32) of i3 i0 i1 i2 (fun j => (own_put (own_put (own_put (own_put (fun _ : Nat => (0 : Int32)) 0 i0) 4 i1) 8 i2) (0 + O) i3) (0 + j)) 12 0 6 O T37.heap n0 Z37 fA37 rfl rfl hOf (by decide) hO (by decide) (by decide) (show (own_put (own_put (own_put (own_put (fun _ : Nat => (0 : Int32)) 0 i0) 4 i1) 8 i2) (0 + O) i3) (0 + (0 + 6)) = own_xp 6 O i3 i0 i1 i2 from own_rd (B := 0) (I := 6) (fun _ => (show (own_put (own_put (own_put (fun _ : Nat => (0 : Int32)) 0 i0) 4 i1) 8 i2) (0 + 6) = own_by i1 2 from ((own_put_out (by decide)).trans ((own_put_in (by decide) (by decide)).trans (congrArg (own_by i1) (show _ = 2 from by decide))))).trans (show own_by i1 2 = own_xp0 6 i0 i1 i2 from rfl)))) hZ (hw _ (List.mem_of_getElem? (i := 65) rfl)) (hw _ (List.mem_of_getElem? (i := 64) rfl)) (by decide) (by decide)) (g := (mkF m 329 #[iv i0, iv i1, iv i2, iv i3, iv i4, iv i5, iv of, iv (0 : Int32), rv b5, iv (0 : Int32), iv (12 : Int32), rv r37, iv (0 : Int32), iv (1 : Int32)] [(.int i2), (.int i1), (.int i0), (.int i3), (.int of), (.int (6 : Int32)), (.int (0 : Int32)), (.ref r37)])) rfl (by rw [hml]; rfl) (argsL := [(.ref r37), (.int (0 : Int32)), (.int (6 : Int32)), (.int of), (.int i3), (.int i0), (.int i1), (.int i2)]) (rest := []) (lenOf pd0_5 rfl) rfl (by show 2 * 0 + _ ≤ _; exact Nat.le_of_eq rfl) (hb hby at_329) (fun _ _ => ⟨rfl, e70, (by decide : 3 + 0 ≤ _), (by decide : 132 + 0 ≤ _)⟩)
    dsimp only [Pt.U, Pt.locs, Pt.cells, Pt.slots] at X74 l74 y74 z74 st74 hQ74
    subst l74 y74 z74
    obtain ⟨rfl, Nq74, e74⟩ := hQ74
    have N74 := Fr.app N71 Nq74
    obtain ⟨LL75, X75, N75⟩ : ∃ LL, Stand p l e room_1 s m #[(.int i0), (.int i1), (.int i2), (.int i3), (.int i4), (.int i5)] below meth c T74 LL 3 132 ∧ Fr n0 LL := ⟨_, X74, N74⟩
    have pre76 : ∀ t, own_s p e below T74 m 332 #[iv i0, iv i1, iv i2, iv i3, iv i4, iv i5, iv of, iv (0 : Int32), rv b5, iv (0 : Int32), iv (12 : Int32), rv r37, iv (0 : Int32), iv (1 : Int32)] [(.int (1 : Int32))] t → Steps p.tables e below S0 t := fun tX kX => pre73 _ (st74 _ kX)
    have pre77 : ∀ t, own_s p e below T74 m 347 #[iv i0, iv i1, iv i2, iv i3, iv i4, iv i5, iv of, iv (0 : Int32), rv b5, iv (0 : Int32), iv (12 : Int32), rv r37, iv (0 : Int32), iv (1 : Int32)] [(.int i2), (.int i1), (.int i0), (.int i3), (.int of), (.int (7 : Int32)), (.int (0 : Int32)), (.ref r37)] t → Steps p.tables e below S0 t := by
      intro tX kX
      refine pre76 _ ?_
      show own_s p e below T74 m 332 #[iv i0, iv i1, iv i2, iv i3, iv i4, iv i5, iv of, iv (0 : Int32), rv b5, iv (0 : Int32), iv (12 : Int32), rv r37, iv (0 : Int32), iv (1 : Int32)] [(.int (1 : Int32))] _
      refine XS.ifNo X75.here hx rfl (hb hby at_332) rfl ((if0 _ _).trans (feq (by decide : ¬ ((1 : Int32) = (0 : Int32)))).1) ?_
      show own_s p e below T74 m 335 #[iv i0, iv i1, iv i2, iv i3, iv i4, iv i5, iv of, iv (0 : Int32), rv b5, iv (0 : Int32), iv (12 : Int32), rv r37, iv (0 : Int32), iv (1 : Int32)] [] _
      refine XS.aload X75.here hx rfl (hb hby at_335) rfl rfl ?_
      show own_s p e below T74 m 337 #[iv i0, iv i1, iv i2, iv i3, iv i4, iv i5, iv of, iv (0 : Int32), rv b5, iv (0 : Int32), iv (12 : Int32), rv r37, iv (0 : Int32), iv (1 : Int32)] [(.ref r37)] _
      refine XS.iload X75.here hx rfl (hb hby at_337) rfl ?_
      show own_s p e below T74 m 339 #[iv i0, iv i1, iv i2, iv i3, iv i4, iv i5, iv of, iv (0 : Int32), rv b5, iv (0 : Int32), iv (12 : Int32), rv r37, iv (0 : Int32), iv (1 : Int32)] [(.int (0 : Int32)), (.ref r37)] _
      refine XS.bipush X75.here hx rfl (hb hby at_339) ?_
      show own_s p e below T74 m 341 #[iv i0, iv i1, iv i2, iv i3, iv i4, iv i5, iv of, iv (0 : Int32), rv b5, iv (0 : Int32), iv (12 : Int32), rv r37, iv (0 : Int32), iv (1 : Int32)] [(.int (7 : Int32)), (.int (0 : Int32)), (.ref r37)] _
      refine XS.iload X75.here hx rfl (hb hby at_341) rfl ?_
      show own_s p e below T74 m 343 #[iv i0, iv i1, iv i2, iv i3, iv i4, iv i5, iv of, iv (0 : Int32), rv b5, iv (0 : Int32), iv (12 : Int32), rv r37, iv (0 : Int32), iv (1 : Int32)] [(.int of), (.int (7 : Int32)), (.int (0 : Int32)), (.ref r37)] _
      refine XS.iloadN X75.here hx rfl (hb hby at_343) rfl ?_
      show own_s p e below T74 m 344 #[iv i0, iv i1, iv i2, iv i3, iv i4, iv i5, iv of, iv (0 : Int32), rv b5, iv (0 : Int32), iv (12 : Int32), rv r37, iv (0 : Int32), iv (1 : Int32)] [(.int i3), (.int of), (.int (7 : Int32)), (.int (0 : Int32)), (.ref r37)] _
      refine XS.iloadN X75.here hx rfl (hb hby at_344) rfl ?_
      show own_s p e below T74 m 345 #[iv i0, iv i1, iv i2, iv i3, iv i4, iv i5, iv of, iv (0 : Int32), rv b5, iv (0 : Int32), iv (12 : Int32), rv r37, iv (0 : Int32), iv (1 : Int32)] [(.int i0), (.int i3), (.int of), (.int (7 : Int32)), (.int (0 : Int32)), (.ref r37)] _
      refine XS.iloadN X75.here hx rfl (hb hby at_345) rfl ?_
      show own_s p e below T74 m 346 #[iv i0, iv i1, iv i2, iv i3, iv i4, iv i5, iv of, iv (0 : Int32), rv b5, iv (0 : Int32), iv (12 : Int32), rv r37, iv (0 : Int32), iv (1 : Int32)] [(.int i1), (.int i0), (.int i3), (.int of), (.int (7 : Int32)), (.int (0 : Int32)), (.ref r37)] _
      refine XS.iloadN X75.here hx rfl (hb hby at_346) rfl ?_
      exact kX
    obtain ⟨_, _, ⟨T78, L78, k78, n78⟩, -, X78, ⟨Lc78, hQ78, l78, y78, z78⟩, st78⟩ := Jvm.LawKit.callS X75 hx (y := (⟨"com/example/farcall/farcall/io/XdrEncoderSetIntPinLaw", "at", "([BIIIIIII)Z"⟩ : MethodName)) hown (mvT hZ (hw _ (List.mem_of_getElem? (i := 62) rfl))) (mvT hZ (hw _ (List.mem_of_getElem? (i := 63) rfl))) (mvT hZ (hw _ (List.mem_of_getElem? (i := 64) rfl))) (mvT hZ (hw _ (List.mem_of_getElem? (i := 65) rfl))) (by decide) (backOf (W := 0) (rm15 l Z a0 hw [] r37 (0 : Int32) (7 : Int32) of i3 i0 i1 i2 (fun j => (own_put (own_put (own_put (own_put (fun _ : Nat => (0 : Int32)) 0 i0) 4 i1) 8 i2) (0 + O) i3) (0 + j)) 12 0 7 O T37.heap n0 Z37 fA37 rfl rfl hOf (by decide) hO (by decide) (by decide) (show (own_put (own_put (own_put (own_put (fun _ : Nat => (0 : Int32)) 0 i0) 4 i1) 8 i2) (0 + O) i3) (0 + (0 + 7)) = own_xp 7 O i3 i0 i1 i2 from own_rd (B := 0) (I := 7) (fun _ => (show (own_put (own_put (own_put (fun _ : Nat => (0 : Int32)) 0 i0) 4 i1) 8 i2) (0 + 7) = own_by i1 3 from ((own_put_out (by decide)).trans ((own_put_in (by decide) (by decide)).trans (congrArg (own_by i1) (show _ = 3 from by decide))))).trans (show own_by i1 3 = own_xp0 7 i0 i1 i2 from rfl)))) hZ (hw _ (List.mem_of_getElem? (i := 65) rfl)) (hw _ (List.mem_of_getElem? (i := 64) rfl)) (by decide) (by decide)) (g := (mkF m 347 #[iv i0, iv i1, iv i2, iv i3, iv i4, iv i5, iv of, iv (0 : Int32), rv b5, iv (0 : Int32), iv (12 : Int32), rv r37, iv (0 : Int32), iv (1 : Int32)] [(.int i2), (.int i1), (.int i0), (.int i3), (.int of), (.int (7 : Int32)), (.int (0 : Int32)), (.ref r37)])) rfl (by rw [hml]; rfl) (argsL := [(.ref r37), (.int (0 : Int32)), (.int (7 : Int32)), (.int of), (.int i3), (.int i0), (.int i1), (.int i2)]) (rest := []) (lenOf pd0_5 rfl) rfl (by show 2 * 0 + _ ≤ _; exact Nat.le_of_eq rfl) (hb hby at_347) (fun _ _ => ⟨rfl, e74, (by decide : 3 + 0 ≤ _), (by decide : 132 + 0 ≤ _)⟩)
    dsimp only [Pt.U, Pt.locs, Pt.cells, Pt.slots] at X78 l78 y78 z78 st78 hQ78
    subst l78 y78 z78
    obtain ⟨rfl, Nq78, e78⟩ := hQ78
    have N78 := Fr.app N75 Nq78
    obtain ⟨LL79, X79, N79⟩ : ∃ LL, Stand p l e room_1 s m #[(.int i0), (.int i1), (.int i2), (.int i3), (.int i4), (.int i5)] below meth c T78 LL 3 132 ∧ Fr n0 LL := ⟨_, X78, N78⟩
    have pre80 : ∀ t, own_s p e below T78 m 350 #[iv i0, iv i1, iv i2, iv i3, iv i4, iv i5, iv of, iv (0 : Int32), rv b5, iv (0 : Int32), iv (12 : Int32), rv r37, iv (0 : Int32), iv (1 : Int32)] [(.int (1 : Int32))] t → Steps p.tables e below S0 t := fun tX kX => pre77 _ (st78 _ kX)
    have pre81 : ∀ t, own_s p e below T78 m 365 #[iv i0, iv i1, iv i2, iv i3, iv i4, iv i5, iv of, iv (0 : Int32), rv b5, iv (0 : Int32), iv (12 : Int32), rv r37, iv (0 : Int32), iv (1 : Int32)] [(.int i2), (.int i1), (.int i0), (.int i3), (.int of), (.int (8 : Int32)), (.int (0 : Int32)), (.ref r37)] t → Steps p.tables e below S0 t := by
      intro tX kX
      refine pre80 _ ?_
      show own_s p e below T78 m 350 #[iv i0, iv i1, iv i2, iv i3, iv i4, iv i5, iv of, iv (0 : Int32), rv b5, iv (0 : Int32), iv (12 : Int32), rv r37, iv (0 : Int32), iv (1 : Int32)] [(.int (1 : Int32))] _
      refine XS.ifNo X79.here hx rfl (hb hby at_350) rfl ((if0 _ _).trans (feq (by decide : ¬ ((1 : Int32) = (0 : Int32)))).1) ?_
      show own_s p e below T78 m 353 #[iv i0, iv i1, iv i2, iv i3, iv i4, iv i5, iv of, iv (0 : Int32), rv b5, iv (0 : Int32), iv (12 : Int32), rv r37, iv (0 : Int32), iv (1 : Int32)] [] _
      refine XS.aload X79.here hx rfl (hb hby at_353) rfl rfl ?_
      show own_s p e below T78 m 355 #[iv i0, iv i1, iv i2, iv i3, iv i4, iv i5, iv of, iv (0 : Int32), rv b5, iv (0 : Int32), iv (12 : Int32), rv r37, iv (0 : Int32), iv (1 : Int32)] [(.ref r37)] _
      refine XS.iload X79.here hx rfl (hb hby at_355) rfl ?_
      show own_s p e below T78 m 357 #[iv i0, iv i1, iv i2, iv i3, iv i4, iv i5, iv of, iv (0 : Int32), rv b5, iv (0 : Int32), iv (12 : Int32), rv r37, iv (0 : Int32), iv (1 : Int32)] [(.int (0 : Int32)), (.ref r37)] _
      refine XS.bipush X79.here hx rfl (hb hby at_357) ?_
      show own_s p e below T78 m 359 #[iv i0, iv i1, iv i2, iv i3, iv i4, iv i5, iv of, iv (0 : Int32), rv b5, iv (0 : Int32), iv (12 : Int32), rv r37, iv (0 : Int32), iv (1 : Int32)] [(.int (8 : Int32)), (.int (0 : Int32)), (.ref r37)] _
      refine XS.iload X79.here hx rfl (hb hby at_359) rfl ?_
      show own_s p e below T78 m 361 #[iv i0, iv i1, iv i2, iv i3, iv i4, iv i5, iv of, iv (0 : Int32), rv b5, iv (0 : Int32), iv (12 : Int32), rv r37, iv (0 : Int32), iv (1 : Int32)] [(.int of), (.int (8 : Int32)), (.int (0 : Int32)), (.ref r37)] _
      refine XS.iloadN X79.here hx rfl (hb hby at_361) rfl ?_
      show own_s p e below T78 m 362 #[iv i0, iv i1, iv i2, iv i3, iv i4, iv i5, iv of, iv (0 : Int32), rv b5, iv (0 : Int32), iv (12 : Int32), rv r37, iv (0 : Int32), iv (1 : Int32)] [(.int i3), (.int of), (.int (8 : Int32)), (.int (0 : Int32)), (.ref r37)] _
      refine XS.iloadN X79.here hx rfl (hb hby at_362) rfl ?_
      show own_s p e below T78 m 363 #[iv i0, iv i1, iv i2, iv i3, iv i4, iv i5, iv of, iv (0 : Int32), rv b5, iv (0 : Int32), iv (12 : Int32), rv r37, iv (0 : Int32), iv (1 : Int32)] [(.int i0), (.int i3), (.int of), (.int (8 : Int32)), (.int (0 : Int32)), (.ref r37)] _
      refine XS.iloadN X79.here hx rfl (hb hby at_363) rfl ?_
      show own_s p e below T78 m 364 #[iv i0, iv i1, iv i2, iv i3, iv i4, iv i5, iv of, iv (0 : Int32), rv b5, iv (0 : Int32), iv (12 : Int32), rv r37, iv (0 : Int32), iv (1 : Int32)] [(.int i1), (.int i0), (.int i3), (.int of), (.int (8 : Int32)), (.int (0 : Int32)), (.ref r37)] _
      refine XS.iloadN X79.here hx rfl (hb hby at_364) rfl ?_
      exact kX
    obtain ⟨_, _, ⟨T82, L82, k82, n82⟩, -, X82, ⟨Lc82, hQ82, l82, y82, z82⟩, st82⟩ := Jvm.LawKit.callS X79 hx (y := (⟨"com/example/farcall/farcall/io/XdrEncoderSetIntPinLaw", "at", "([BIIIIIII)Z"⟩ : MethodName)) hown (mvT hZ (hw _ (List.mem_of_getElem? (i := 62) rfl))) (mvT hZ (hw _ (List.mem_of_getElem? (i := 63) rfl))) (mvT hZ (hw _ (List.mem_of_getElem? (i := 64) rfl))) (mvT hZ (hw _ (List.mem_of_getElem? (i := 65) rfl))) (by decide) (backOf (W := 0) (rm15 l Z a0 hw [] r37 (0 : Int32) (8 : Int32) of i3 i0 i1 i2 (fun j => (own_put (own_put (own_put (own_put (fun _ : Nat => (0 : Int32)) 0 i0) 4 i1) 8 i2) (0 + O) i3) (0 + j)) 12 0 8 O T37.heap n0 Z37 fA37 rfl rfl hOf (by decide) hO (by decide) (by decide) (show (own_put (own_put (own_put (own_put (fun _ : Nat => (0 : Int32)) 0 i0) 4 i1) 8 i2) (0 + O) i3) (0 + (0 + 8)) = own_xp 8 O i3 i0 i1 i2 from own_rd (B := 0) (I := 8) (fun _ => (show (own_put (own_put (own_put (fun _ : Nat => (0 : Int32)) 0 i0) 4 i1) 8 i2) (0 + 8) = own_by i2 0 from ((own_put_in (by decide) (by decide)).trans (congrArg (own_by i2) (show _ = 0 from by decide)))).trans (show own_by i2 0 = own_xp0 8 i0 i1 i2 from rfl)))) hZ (hw _ (List.mem_of_getElem? (i := 65) rfl)) (hw _ (List.mem_of_getElem? (i := 64) rfl)) (by decide) (by decide)) (g := (mkF m 365 #[iv i0, iv i1, iv i2, iv i3, iv i4, iv i5, iv of, iv (0 : Int32), rv b5, iv (0 : Int32), iv (12 : Int32), rv r37, iv (0 : Int32), iv (1 : Int32)] [(.int i2), (.int i1), (.int i0), (.int i3), (.int of), (.int (8 : Int32)), (.int (0 : Int32)), (.ref r37)])) rfl (by rw [hml]; rfl) (argsL := [(.ref r37), (.int (0 : Int32)), (.int (8 : Int32)), (.int of), (.int i3), (.int i0), (.int i1), (.int i2)]) (rest := []) (lenOf pd0_5 rfl) rfl (by show 2 * 0 + _ ≤ _; exact Nat.le_of_eq rfl) (hb hby at_365) (fun _ _ => ⟨rfl, e78, (by decide : 3 + 0 ≤ _), (by decide : 132 + 0 ≤ _)⟩)
    dsimp only [Pt.U, Pt.locs, Pt.cells, Pt.slots] at X82 l82 y82 z82 st82 hQ82
    subst l82 y82 z82
    obtain ⟨rfl, Nq82, e82⟩ := hQ82
    have N82 := Fr.app N79 Nq82
    obtain ⟨LL83, X83, N83⟩ : ∃ LL, Stand p l e room_1 s m #[(.int i0), (.int i1), (.int i2), (.int i3), (.int i4), (.int i5)] below meth c T82 LL 3 132 ∧ Fr n0 LL := ⟨_, X82, N82⟩
    have pre84 : ∀ t, own_s p e below T82 m 368 #[iv i0, iv i1, iv i2, iv i3, iv i4, iv i5, iv of, iv (0 : Int32), rv b5, iv (0 : Int32), iv (12 : Int32), rv r37, iv (0 : Int32), iv (1 : Int32)] [(.int (1 : Int32))] t → Steps p.tables e below S0 t := fun tX kX => pre81 _ (st82 _ kX)
    have pre85 : ∀ t, own_s p e below T82 m 383 #[iv i0, iv i1, iv i2, iv i3, iv i4, iv i5, iv of, iv (0 : Int32), rv b5, iv (0 : Int32), iv (12 : Int32), rv r37, iv (0 : Int32), iv (1 : Int32)] [(.int i2), (.int i1), (.int i0), (.int i3), (.int of), (.int (9 : Int32)), (.int (0 : Int32)), (.ref r37)] t → Steps p.tables e below S0 t := by
      intro tX kX
      refine pre84 _ ?_
      show own_s p e below T82 m 368 #[iv i0, iv i1, iv i2, iv i3, iv i4, iv i5, iv of, iv (0 : Int32), rv b5, iv (0 : Int32), iv (12 : Int32), rv r37, iv (0 : Int32), iv (1 : Int32)] [(.int (1 : Int32))] _
      refine XS.ifNo X83.here hx rfl (hb hby at_368) rfl ((if0 _ _).trans (feq (by decide : ¬ ((1 : Int32) = (0 : Int32)))).1) ?_
      show own_s p e below T82 m 371 #[iv i0, iv i1, iv i2, iv i3, iv i4, iv i5, iv of, iv (0 : Int32), rv b5, iv (0 : Int32), iv (12 : Int32), rv r37, iv (0 : Int32), iv (1 : Int32)] [] _
      refine XS.aload X83.here hx rfl (hb hby at_371) rfl rfl ?_
      show own_s p e below T82 m 373 #[iv i0, iv i1, iv i2, iv i3, iv i4, iv i5, iv of, iv (0 : Int32), rv b5, iv (0 : Int32), iv (12 : Int32), rv r37, iv (0 : Int32), iv (1 : Int32)] [(.ref r37)] _
      refine XS.iload X83.here hx rfl (hb hby at_373) rfl ?_
      show own_s p e below T82 m 375 #[iv i0, iv i1, iv i2, iv i3, iv i4, iv i5, iv of, iv (0 : Int32), rv b5, iv (0 : Int32), iv (12 : Int32), rv r37, iv (0 : Int32), iv (1 : Int32)] [(.int (0 : Int32)), (.ref r37)] _
      refine XS.bipush X83.here hx rfl (hb hby at_375) ?_
      show own_s p e below T82 m 377 #[iv i0, iv i1, iv i2, iv i3, iv i4, iv i5, iv of, iv (0 : Int32), rv b5, iv (0 : Int32), iv (12 : Int32), rv r37, iv (0 : Int32), iv (1 : Int32)] [(.int (9 : Int32)), (.int (0 : Int32)), (.ref r37)] _
      refine XS.iload X83.here hx rfl (hb hby at_377) rfl ?_
      show own_s p e below T82 m 379 #[iv i0, iv i1, iv i2, iv i3, iv i4, iv i5, iv of, iv (0 : Int32), rv b5, iv (0 : Int32), iv (12 : Int32), rv r37, iv (0 : Int32), iv (1 : Int32)] [(.int of), (.int (9 : Int32)), (.int (0 : Int32)), (.ref r37)] _
      refine XS.iloadN X83.here hx rfl (hb hby at_379) rfl ?_
      show own_s p e below T82 m 380 #[iv i0, iv i1, iv i2, iv i3, iv i4, iv i5, iv of, iv (0 : Int32), rv b5, iv (0 : Int32), iv (12 : Int32), rv r37, iv (0 : Int32), iv (1 : Int32)] [(.int i3), (.int of), (.int (9 : Int32)), (.int (0 : Int32)), (.ref r37)] _
      refine XS.iloadN X83.here hx rfl (hb hby at_380) rfl ?_
      show own_s p e below T82 m 381 #[iv i0, iv i1, iv i2, iv i3, iv i4, iv i5, iv of, iv (0 : Int32), rv b5, iv (0 : Int32), iv (12 : Int32), rv r37, iv (0 : Int32), iv (1 : Int32)] [(.int i0), (.int i3), (.int of), (.int (9 : Int32)), (.int (0 : Int32)), (.ref r37)] _
      refine XS.iloadN X83.here hx rfl (hb hby at_381) rfl ?_
      show own_s p e below T82 m 382 #[iv i0, iv i1, iv i2, iv i3, iv i4, iv i5, iv of, iv (0 : Int32), rv b5, iv (0 : Int32), iv (12 : Int32), rv r37, iv (0 : Int32), iv (1 : Int32)] [(.int i1), (.int i0), (.int i3), (.int of), (.int (9 : Int32)), (.int (0 : Int32)), (.ref r37)] _
      refine XS.iloadN X83.here hx rfl (hb hby at_382) rfl ?_
      exact kX
    obtain ⟨_, _, ⟨T86, L86, k86, n86⟩, -, X86, ⟨Lc86, hQ86, l86, y86, z86⟩, st86⟩ := Jvm.LawKit.callS X83 hx (y := (⟨"com/example/farcall/farcall/io/XdrEncoderSetIntPinLaw", "at", "([BIIIIIII)Z"⟩ : MethodName)) hown (mvT hZ (hw _ (List.mem_of_getElem? (i := 62) rfl))) (mvT hZ (hw _ (List.mem_of_getElem? (i := 63) rfl))) (mvT hZ (hw _ (List.mem_of_getElem? (i := 64) rfl))) (mvT hZ (hw _ (List.mem_of_getElem? (i := 65) rfl))) (by decide) (backOf (W := 0) (rm15 l Z a0 hw [] r37 (0 : Int32) (9 : Int32) of i3 i0 i1 i2 (fun j => (own_put (own_put (own_put (own_put (fun _ : Nat => (0 : Int32)) 0 i0) 4 i1) 8 i2) (0 + O) i3) (0 + j)) 12 0 9 O T37.heap n0 Z37 fA37 rfl rfl hOf (by decide) hO (by decide) (by decide) (show (own_put (own_put (own_put (own_put (fun _ : Nat => (0 : Int32)) 0 i0) 4 i1) 8 i2) (0 + O) i3) (0 + (0 + 9)) = own_xp 9 O i3 i0 i1 i2 from own_rd (B := 0) (I := 9) (fun _ => (show (own_put (own_put (own_put (fun _ : Nat => (0 : Int32)) 0 i0) 4 i1) 8 i2) (0 + 9) = own_by i2 1 from ((own_put_in (by decide) (by decide)).trans (congrArg (own_by i2) (show _ = 1 from by decide)))).trans (show own_by i2 1 = own_xp0 9 i0 i1 i2 from rfl)))) hZ (hw _ (List.mem_of_getElem? (i := 65) rfl)) (hw _ (List.mem_of_getElem? (i := 64) rfl)) (by decide) (by decide)) (g := (mkF m 383 #[iv i0, iv i1, iv i2, iv i3, iv i4, iv i5, iv of, iv (0 : Int32), rv b5, iv (0 : Int32), iv (12 : Int32), rv r37, iv (0 : Int32), iv (1 : Int32)] [(.int i2), (.int i1), (.int i0), (.int i3), (.int of), (.int (9 : Int32)), (.int (0 : Int32)), (.ref r37)])) rfl (by rw [hml]; rfl) (argsL := [(.ref r37), (.int (0 : Int32)), (.int (9 : Int32)), (.int of), (.int i3), (.int i0), (.int i1), (.int i2)]) (rest := []) (lenOf pd0_5 rfl) rfl (by show 2 * 0 + _ ≤ _; exact Nat.le_of_eq rfl) (hb hby at_383) (fun _ _ => ⟨rfl, e82, (by decide : 3 + 0 ≤ _), (by decide : 132 + 0 ≤ _)⟩)
    dsimp only [Pt.U, Pt.locs, Pt.cells, Pt.slots] at X86 l86 y86 z86 st86 hQ86
    subst l86 y86 z86
    obtain ⟨rfl, Nq86, e86⟩ := hQ86
    have N86 := Fr.app N83 Nq86
    obtain ⟨LL87, X87, N87⟩ : ∃ LL, Stand p l e room_1 s m #[(.int i0), (.int i1), (.int i2), (.int i3), (.int i4), (.int i5)] below meth c T86 LL 3 132 ∧ Fr n0 LL := ⟨_, X86, N86⟩
    have pre88 : ∀ t, own_s p e below T86 m 386 #[iv i0, iv i1, iv i2, iv i3, iv i4, iv i5, iv of, iv (0 : Int32), rv b5, iv (0 : Int32), iv (12 : Int32), rv r37, iv (0 : Int32), iv (1 : Int32)] [(.int (1 : Int32))] t → Steps p.tables e below S0 t := fun tX kX => pre85 _ (st86 _ kX)
    have pre89 : ∀ t, own_s p e below T86 m 401 #[iv i0, iv i1, iv i2, iv i3, iv i4, iv i5, iv of, iv (0 : Int32), rv b5, iv (0 : Int32), iv (12 : Int32), rv r37, iv (0 : Int32), iv (1 : Int32)] [(.int i2), (.int i1), (.int i0), (.int i3), (.int of), (.int (10 : Int32)), (.int (0 : Int32)), (.ref r37)] t → Steps p.tables e below S0 t := by
      intro tX kX
      refine pre88 _ ?_
      show own_s p e below T86 m 386 #[iv i0, iv i1, iv i2, iv i3, iv i4, iv i5, iv of, iv (0 : Int32), rv b5, iv (0 : Int32), iv (12 : Int32), rv r37, iv (0 : Int32), iv (1 : Int32)] [(.int (1 : Int32))] _
      refine XS.ifNo X87.here hx rfl (hb hby at_386) rfl ((if0 _ _).trans (feq (by decide : ¬ ((1 : Int32) = (0 : Int32)))).1) ?_
      show own_s p e below T86 m 389 #[iv i0, iv i1, iv i2, iv i3, iv i4, iv i5, iv of, iv (0 : Int32), rv b5, iv (0 : Int32), iv (12 : Int32), rv r37, iv (0 : Int32), iv (1 : Int32)] [] _
      refine XS.aload X87.here hx rfl (hb hby at_389) rfl rfl ?_
      show own_s p e below T86 m 391 #[iv i0, iv i1, iv i2, iv i3, iv i4, iv i5, iv of, iv (0 : Int32), rv b5, iv (0 : Int32), iv (12 : Int32), rv r37, iv (0 : Int32), iv (1 : Int32)] [(.ref r37)] _
      refine XS.iload X87.here hx rfl (hb hby at_391) rfl ?_
      show own_s p e below T86 m 393 #[iv i0, iv i1, iv i2, iv i3, iv i4, iv i5, iv of, iv (0 : Int32), rv b5, iv (0 : Int32), iv (12 : Int32), rv r37, iv (0 : Int32), iv (1 : Int32)] [(.int (0 : Int32)), (.ref r37)] _
      refine XS.bipush X87.here hx rfl (hb hby at_393) ?_
      show own_s p e below T86 m 395 #[iv i0, iv i1, iv i2, iv i3, iv i4, iv i5, iv of, iv (0 : Int32), rv b5, iv (0 : Int32), iv (12 : Int32), rv r37, iv (0 : Int32), iv (1 : Int32)] [(.int (10 : Int32)), (.int (0 : Int32)), (.ref r37)] _
      refine XS.iload X87.here hx rfl (hb hby at_395) rfl ?_
      show own_s p e below T86 m 397 #[iv i0, iv i1, iv i2, iv i3, iv i4, iv i5, iv of, iv (0 : Int32), rv b5, iv (0 : Int32), iv (12 : Int32), rv r37, iv (0 : Int32), iv (1 : Int32)] [(.int of), (.int (10 : Int32)), (.int (0 : Int32)), (.ref r37)] _
      refine XS.iloadN X87.here hx rfl (hb hby at_397) rfl ?_
      show own_s p e below T86 m 398 #[iv i0, iv i1, iv i2, iv i3, iv i4, iv i5, iv of, iv (0 : Int32), rv b5, iv (0 : Int32), iv (12 : Int32), rv r37, iv (0 : Int32), iv (1 : Int32)] [(.int i3), (.int of), (.int (10 : Int32)), (.int (0 : Int32)), (.ref r37)] _
      refine XS.iloadN X87.here hx rfl (hb hby at_398) rfl ?_
      show own_s p e below T86 m 399 #[iv i0, iv i1, iv i2, iv i3, iv i4, iv i5, iv of, iv (0 : Int32), rv b5, iv (0 : Int32), iv (12 : Int32), rv r37, iv (0 : Int32), iv (1 : Int32)] [(.int i0), (.int i3), (.int of), (.int (10 : Int32)), (.int (0 : Int32)), (.ref r37)] _
      refine XS.iloadN X87.here hx rfl (hb hby at_399) rfl ?_
      show own_s p e below T86 m 400 #[iv i0, iv i1, iv i2, iv i3, iv i4, iv i5, iv of, iv (0 : Int32), rv b5, iv (0 : Int32), iv (12 : Int32), rv r37, iv (0 : Int32), iv (1 : Int32)] [(.int i1), (.int i0), (.int i3), (.int of), (.int (10 : Int32)), (.int (0 : Int32)), (.ref r37)] _
      refine XS.iloadN X87.here hx rfl (hb hby at_400) rfl ?_
      exact kX
    obtain ⟨_, _, ⟨T90, L90, k90, n90⟩, -, X90, ⟨Lc90, hQ90, l90, y90, z90⟩, st90⟩ := Jvm.LawKit.callS X87 hx (y := (⟨"com/example/farcall/farcall/io/XdrEncoderSetIntPinLaw", "at", "([BIIIIIII)Z"⟩ : MethodName)) hown (mvT hZ (hw _ (List.mem_of_getElem? (i := 62) rfl))) (mvT hZ (hw _ (List.mem_of_getElem? (i := 63) rfl))) (mvT hZ (hw _ (List.mem_of_getElem? (i := 64) rfl))) (mvT hZ (hw _ (List.mem_of_getElem? (i := 65) rfl))) (by decide) (backOf (W := 0) (rm15 l Z a0 hw [] r37 (0 : Int32) (10 : Int32) of i3 i0 i1 i2 (fun j => (own_put (own_put (own_put (own_put (fun _ : Nat => (0 : Int32)) 0 i0) 4 i1) 8 i2) (0 + O) i3) (0 + j)) 12 0 10 O T37.heap n0 Z37 fA37 rfl rfl hOf (by decide) hO (by decide) (by decide) (show (own_put (own_put (own_put (own_put (fun _ : Nat => (0 : Int32)) 0 i0) 4 i1) 8 i2) (0 + O) i3) (0 + (0 + 10)) = own_xp 10 O i3 i0 i1 i2 from own_rd (B := 0) (I := 10) (fun _ => (show (own_put (own_put (own_put (fun _ : Nat => (0 : Int32)) 0 i0) 4 i1) 8 i2) (0 + 10) = own_by i2 2 from ((own_put_in (by decide) (by decide)).trans (congrArg (own_by i2) (show _ = 2 from by decide)))).trans (show own_by i2 2 = own_xp0 10 i0 i1 i2 from rfl)))) hZ (hw _ (List.mem_of_getElem? (i := 65) rfl)) (hw _ (List.mem_of_getElem? (i := 64) rfl)) (by decide) (by decide)) (g := (mkF m 401 #[iv i0, iv i1, iv i2, iv i3, iv i4, iv i5, iv of, iv (0 : Int32), rv b5, iv (0 : Int32), iv (12 : Int32), rv r37, iv (0 : Int32), iv (1 : Int32)] [(.int i2), (.int i1), (.int i0), (.int i3), (.int of), (.int (10 : Int32)), (.int (0 : Int32)), (.ref r37)])) rfl (by rw [hml]; rfl) (argsL := [(.ref r37), (.int (0 : Int32)), (.int (10 : Int32)), (.int of), (.int i3), (.int i0), (.int i1), (.int i2)]) (rest := []) (lenOf pd0_5 rfl) rfl (by show 2 * 0 + _ ≤ _; exact Nat.le_of_eq rfl) (hb hby at_401) (fun _ _ => ⟨rfl, e86, (by decide : 3 + 0 ≤ _), (by decide : 132 + 0 ≤ _)⟩)
    dsimp only [Pt.U, Pt.locs, Pt.cells, Pt.slots] at X90 l90 y90 z90 st90 hQ90
    subst l90 y90 z90
    obtain ⟨rfl, Nq90, e90⟩ := hQ90
    have N90 := Fr.app N87 Nq90
    obtain ⟨LL91, X91, N91⟩ : ∃ LL, Stand p l e room_1 s m #[(.int i0), (.int i1), (.int i2), (.int i3), (.int i4), (.int i5)] below meth c T90 LL 3 132 ∧ Fr n0 LL := ⟨_, X90, N90⟩
    have pre92 : ∀ t, own_s p e below T90 m 404 #[iv i0, iv i1, iv i2, iv i3, iv i4, iv i5, iv of, iv (0 : Int32), rv b5, iv (0 : Int32), iv (12 : Int32), rv r37, iv (0 : Int32), iv (1 : Int32)] [(.int (1 : Int32))] t → Steps p.tables e below S0 t := fun tX kX => pre89 _ (st90 _ kX)
    have pre93 : ∀ t, own_s p e below T90 m 419 #[iv i0, iv i1, iv i2, iv i3, iv i4, iv i5, iv of, iv (0 : Int32), rv b5, iv (0 : Int32), iv (12 : Int32), rv r37, iv (0 : Int32), iv (1 : Int32)] [(.int i2), (.int i1), (.int i0), (.int i3), (.int of), (.int (11 : Int32)), (.int (0 : Int32)), (.ref r37)] t → Steps p.tables e below S0 t := by
      intro tX kX
      refine pre92 _ ?_
      show own_s p e below T90 m 404 #[iv i0, iv i1, iv i2, iv i3, iv i4, iv i5, iv of, iv (0 : Int32), rv b5, iv (0 : Int32), iv (12 : Int32), rv r37, iv (0 : Int32), iv (1 : Int32)] [(.int (1 : Int32))] _
      refine XS.ifNo X91.here hx rfl (hb hby at_404) rfl ((if0 _ _).trans (feq (by decide : ¬ ((1 : Int32) = (0 : Int32)))).1) ?_
      show own_s p e below T90 m 407 #[iv i0, iv i1, iv i2, iv i3, iv i4, iv i5, iv of, iv (0 : Int32), rv b5, iv (0 : Int32), iv (12 : Int32), rv r37, iv (0 : Int32), iv (1 : Int32)] [] _
      refine XS.aload X91.here hx rfl (hb hby at_407) rfl rfl ?_
      show own_s p e below T90 m 409 #[iv i0, iv i1, iv i2, iv i3, iv i4, iv i5, iv of, iv (0 : Int32), rv b5, iv (0 : Int32), iv (12 : Int32), rv r37, iv (0 : Int32), iv (1 : Int32)] [(.ref r37)] _
      refine XS.iload X91.here hx rfl (hb hby at_409) rfl ?_
      show own_s p e below T90 m 411 #[iv i0, iv i1, iv i2, iv i3, iv i4, iv i5, iv of, iv (0 : Int32), rv b5, iv (0 : Int32), iv (12 : Int32), rv r37, iv (0 : Int32), iv (1 : Int32)] [(.int (0 : Int32)), (.ref r37)] _
      refine XS.bipush X91.here hx rfl (hb hby at_411) ?_
      show own_s p e below T90 m 413 #[iv i0, iv i1, iv i2, iv i3, iv i4, iv i5, iv of, iv (0 : Int32), rv b5, iv (0 : Int32), iv (12 : Int32), rv r37, iv (0 : Int32), iv (1 : Int32)] [(.int (11 : Int32)), (.int (0 : Int32)), (.ref r37)] _
      refine XS.iload X91.here hx rfl (hb hby at_413) rfl ?_
      show own_s p e below T90 m 415 #[iv i0, iv i1, iv i2, iv i3, iv i4, iv i5, iv of, iv (0 : Int32), rv b5, iv (0 : Int32), iv (12 : Int32), rv r37, iv (0 : Int32), iv (1 : Int32)] [(.int of), (.int (11 : Int32)), (.int (0 : Int32)), (.ref r37)] _
      refine XS.iloadN X91.here hx rfl (hb hby at_415) rfl ?_
      show own_s p e below T90 m 416 #[iv i0, iv i1, iv i2, iv i3, iv i4, iv i5, iv of, iv (0 : Int32), rv b5, iv (0 : Int32), iv (12 : Int32), rv r37, iv (0 : Int32), iv (1 : Int32)] [(.int i3), (.int of), (.int (11 : Int32)), (.int (0 : Int32)), (.ref r37)] _
      refine XS.iloadN X91.here hx rfl (hb hby at_416) rfl ?_
      show own_s p e below T90 m 417 #[iv i0, iv i1, iv i2, iv i3, iv i4, iv i5, iv of, iv (0 : Int32), rv b5, iv (0 : Int32), iv (12 : Int32), rv r37, iv (0 : Int32), iv (1 : Int32)] [(.int i0), (.int i3), (.int of), (.int (11 : Int32)), (.int (0 : Int32)), (.ref r37)] _
      refine XS.iloadN X91.here hx rfl (hb hby at_417) rfl ?_
      show own_s p e below T90 m 418 #[iv i0, iv i1, iv i2, iv i3, iv i4, iv i5, iv of, iv (0 : Int32), rv b5, iv (0 : Int32), iv (12 : Int32), rv r37, iv (0 : Int32), iv (1 : Int32)] [(.int i1), (.int i0), (.int i3), (.int of), (.int (11 : Int32)), (.int (0 : Int32)), (.ref r37)] _
      refine XS.iloadN X91.here hx rfl (hb hby at_418) rfl ?_
      exact kX
    obtain ⟨_, _, ⟨T94, L94, k94, n94⟩, -, X94, ⟨Lc94, hQ94, l94, y94, z94⟩, st94⟩ := Jvm.LawKit.callS X91 hx (y := (⟨"com/example/farcall/farcall/io/XdrEncoderSetIntPinLaw", "at", "([BIIIIIII)Z"⟩ : MethodName)) hown (mvT hZ (hw _ (List.mem_of_getElem? (i := 62) rfl))) (mvT hZ (hw _ (List.mem_of_getElem? (i := 63) rfl))) (mvT hZ (hw _ (List.mem_of_getElem? (i := 64) rfl))) (mvT hZ (hw _ (List.mem_of_getElem? (i := 65) rfl))) (by decide) (backOf (W := 0) (rm15 l Z a0 hw [] r37 (0 : Int32) (11 : Int32) of i3 i0 i1 i2 (fun j => (own_put (own_put (own_put (own_put (fun _ : Nat => (0 : Int32)) 0 i0) 4 i1) 8 i2) (0 + O) i3) (0 + j)) 12 0 11 O T37.heap n0 Z37 fA37 rfl rfl hOf (by decide) hO (by decide) (by decide) (show (own_put (own_put (own_put (own_put (fun _ : Nat => (0 : Int32)) 0 i0) 4 i1) 8 i2) (0 + O) i3) (0 + (0 + 11)) = own_xp 11 O i3 i0 i1 i2 from own_rd (B := 0) (I := 11) (fun _ => (show (own_put (own_put (own_put (fun _ : Nat => (0 : Int32)) 0 i0) 4 i1) 8 i2) (0 + 11) = own_by i2 3 from ((own_put_in (by decide) (by decide)).trans (congrArg (own_by i2) (show _ = 3 from by decide)))).trans (show own_by i2 3 = own_xp0 11 i0 i1 i2 from rfl)))) hZ (hw _ (List.mem_of_getElem? (i := 65) rfl)) (hw _ (List.mem_of_getElem? (i := 64) rfl)) (by decide) (by decide)) (g := (mkF m 419 #[iv i0, iv i1, iv i2, iv i3, iv i4, iv i5, iv of, iv (0 : Int32), rv b5, iv (0 : Int32), iv (12 : Int32), rv r37, iv (0 : Int32), iv (1 : Int32)] [(.int i2), (.int i1), (.int i0), (.int i3), (.int of), (.int (11 : Int32)), (.int (0 : Int32)), (.ref r37)])) rfl (by rw [hml]; rfl) (argsL := [(.ref r37), (.int (0 : Int32)), (.int (11 : Int32)), (.int of), (.int i3), (.int i0), (.int i1), (.int i2)]) (rest := []) (lenOf pd0_5 rfl) rfl (by show 2 * 0 + _ ≤ _; exact Nat.le_of_eq rfl) (hb hby at_419) (fun _ _ => ⟨rfl, e90, (by decide : 3 + 0 ≤ _), (by decide : 132 + 0 ≤ _)⟩)
    dsimp only [Pt.U, Pt.locs, Pt.cells, Pt.slots] at X94 l94 y94 z94 st94 hQ94
    subst l94 y94 z94
    obtain ⟨rfl, Nq94, e94⟩ := hQ94
    have N94 := Fr.app N91 Nq94
    obtain ⟨LL95, X95, N95⟩ : ∃ LL, Stand p l e room_1 s m #[(.int i0), (.int i1), (.int i2), (.int i3), (.int i4), (.int i5)] below meth c T94 LL 3 132 ∧ Fr n0 LL := ⟨_, X94, N94⟩
    have pre96 : ∀ t, own_s p e below T94 m 422 #[iv i0, iv i1, iv i2, iv i3, iv i4, iv i5, iv of, iv (0 : Int32), rv b5, iv (0 : Int32), iv (12 : Int32), rv r37, iv (0 : Int32), iv (1 : Int32)] [(.int (1 : Int32))] t → Steps p.tables e below S0 t := fun tX kX => pre93 _ (st94 _ kX)
    have pre97 : ∀ t, own_s p e below T94 m 430 #[iv i0, iv i1, iv i2, iv i3, iv i4, iv i5, iv of, iv (0 : Int32), rv b5, iv (0 : Int32), iv (12 : Int32), rv r37, iv (0 : Int32), iv (1 : Int32)] [(.int (1 : Int32))] t → Steps p.tables e below S0 t := by
      intro tX kX
      refine pre96 _ ?_
      show own_s p e below T94 m 422 #[iv i0, iv i1, iv i2, iv i3, iv i4, iv i5, iv of, iv (0 : Int32), rv b5, iv (0 : Int32), iv (12 : Int32), rv r37, iv (0 : Int32), iv (1 : Int32)] [(.int (1 : Int32))] _
      refine XS.ifNo X95.here hx rfl (hb hby at_422) rfl ((if0 _ _).trans (feq (by decide : ¬ ((1 : Int32) = (0 : Int32)))).1) ?_
      show own_s p e below T94 m 425 #[iv i0, iv i1, iv i2, iv i3, iv i4, iv i5, iv of, iv (0 : Int32), rv b5, iv (0 : Int32), iv (12 : Int32), rv r37, iv (0 : Int32), iv (1 : Int32)] [] _
      refine XS.iconst X95.here hx rfl (hb hby at_425) ?_
      show own_s p e below T94 m 426 #[iv i0, iv i1, iv i2, iv i3, iv i4, iv i5, iv of, iv (0 : Int32), rv b5, iv (0 : Int32), iv (12 : Int32), rv r37, iv (0 : Int32), iv (1 : Int32)] [(.int (1 : Int32))] _
      refine XS.goto X95.here hx rfl (pc0 := 426) (pc' := 430) rfl (hb hby at_426) (by decide) (by decide) ?_
      exact kX
    subst hS0
    obtain ⟨fs, hr, hrun, hended, hW, hsame⟩ := X95.leave (v := (some (.int (1 : Int32)))) (fun h => by rw [Bd.returns] at h; cases h)
    refine ⟨_, _, pre97 _ (retN X95 hx (t := .boolean) Bd.returns (by simp) (hb hby at_430) hr), hrun, hended, _, _, rfl, ?_, ⟨_, rfl⟩, hW, hsame.mono (by decide) (by decide)⟩
    show Q0 Z i0 i1 i2 i3 i4 i5 h0 n0 (some (.int (1 : Int32))) T94.heap _
    exact ⟨rfl, N95⟩
  · skip
    have pre98 : ∀ t, own_s p e below s₁ m 25 #[iv i0, iv i1, iv i2, iv i3, iv i4, iv i5, iv of, iv (1 : Int32), .unset, .unset, .unset, .unset, .unset, .unset] [] t → Steps p.tables e below S0 t := by
      intro tX kX
      refine pre2 _ ?_
      show own_s p e below s₁ m 15 #[iv i0, iv i1, iv i2, iv i3, iv i4, iv i5, iv of, .unset, .unset, .unset, .unset, .unset, .unset, .unset] [(.int (i5 &&& (65536 : Int32)))] _
      refine XS.ifNo X0.here hx rfl (hb hby at_15) rfl ((if0 _ _).trans (feq hc3).1) ?_
      show own_s p e below s₁ m 18 #[iv i0, iv i1, iv i2, iv i3, iv i4, iv i5, iv of, .unset, .unset, .unset, .unset, .unset, .unset, .unset] [] _
      refine XS.iconst X0.here hx rfl (hb hby at_18) ?_
      show own_s p e below s₁ m 19 #[iv i0, iv i1, iv i2, iv i3, iv i4, iv i5, iv of, .unset, .unset, .unset, .unset, .unset, .unset, .unset] [(.int (1 : Int32))] _
      refine XS.goto X0.here hx rfl (pc0 := 19) (pc' := 23) rfl (hb hby at_19) (by decide) (by decide) ?_
      show own_s p e below s₁ m 23 #[iv i0, iv i1, iv i2, iv i3, iv i4, iv i5, iv of, .unset, .unset, .unset, .unset, .unset, .unset, .unset] [(.int (1 : Int32))] _
      refine XS.istore X0.here hx rfl (hb hby at_23) rfl (l' := #[iv i0, iv i1, iv i2, iv i3, iv i4, iv i5, iv of, iv (1 : Int32), .unset, .unset, .unset, .unset, .unset, .unset]) rfl ?_
      exact kX
    obtain ⟨T99, h99, X99, e99, E99, A99, D99, -, st99⟩ := newO X0 hx hZ hown (hw _ (List.mem_of_getElem? (i := 2) rfl)) (hw _ (List.mem_of_getElem? (i := 3) rfl)) (hw _ (List.mem_of_getElem? (i := 4) rfl)) e0 (g := (mkF m 25 #[iv i0, iv i1, iv i2, iv i3, iv i4, iv i5, iv of, iv (1 : Int32), .unset, .unset, .unset, .unset, .unset, .unset] [])) rfl (hb hby at_25) (by decide) (by decide)
    obtain ⟨b99, g99⟩ : ∃ z, z = h0.size := ⟨_, rfl⟩
    rw [← g99] at A99 D99 st99
    have g_b99 : n0 ≤ b99 := Nat.le_trans Z0 (Nat.le_of_eq g99.symm)
    have pre100 : ∀ t, own_s p e below T99 m 28 #[iv i0, iv i1, iv i2, iv i3, iv i4, iv i5, iv of, iv (1 : Int32), .unset, .unset, .unset, .unset, .unset, .unset] [(.ref b99)] t → Steps p.tables e below S0 t := fun tX kX => pre98 _ (st99 _ kX)
    have Z101 : n0 ≤ h99.size := Nat.le_trans Z0 E99.1
    have f102_E : Exa Z h99 b99 "com/example/farcall/farcall/io/XdrEncoder" := A99
    have f103_F : Fld Z h99 b99 "com/example/farcall/farcall/io/XdrEncoder" "buffer" "[B" .null := D99 (Or.inl (hw _ (List.mem_of_getElem? (i := 13) rfl))) (ty := (.array .byte)) (by decide)
    have f104_F : Fld Z h99 b99 "com/example/farcall/farcall/io/XdrEncoder" "end" "I" (.int (0 : Int32)) := D99 (Or.inl (hw _ (List.mem_of_getElem? (i := 24) rfl))) (ty := .int) (by decide)
    have f105_F : Fld Z h99 b99 "com/example/farcall/farcall/io/XdrEncoder" "start" "I" (.int (0 : Int32)) := D99 (Or.inl (hw _ (List.mem_of_getElem? (i := 31) rfl))) (ty := .int) (by decide)
    have pre106 : ∀ t, own_s p e below T99 m 29 #[iv i0, iv i1, iv i2, iv i3, iv i4, iv i5, iv of, iv (1 : Int32), .unset, .unset, .unset, .unset, .unset, .unset] [(.ref b99), (.ref b99)] t → Steps p.tables e below S0 t := by
      intro tX kX
      refine pre100 _ ?_
      show own_s p e below T99 m 28 #[iv i0, iv i1, iv i2, iv i3, iv i4, iv i5, iv of, iv (1 : Int32), .unset, .unset, .unset, .unset, .unset, .unset] [(.ref b99)] _
      refine XS.dup X99.here hx rfl (hb hby at_28) rfl rfl ?_
      exact kX
    obtain ⟨_, _, ⟨T107, L107, k107, n107⟩, -, X107, ⟨Lc107, hQ107, l107, y107, z107⟩, st107⟩ := X99.specialBack hx (y := (⟨"com/example/farcall/farcall/io/XdrEncoder", "<init>", "()V"⟩ : MethodName)) rfl hown (mvT hZ (hw _ (List.mem_of_getElem? (i := 5) rfl))) (mvT hZ (hw _ (List.mem_of_getElem? (i := 6) rfl))) (mvT hZ (hw _ (List.mem_of_getElem? (i := 7) rfl))) (by decide) (backOf (W := 1) (rm12 l Z a0 hw [] b99  h99 n0 Z101 f102_E f103_F f105_F f104_F g_b99) hZ (hw _ (List.mem_of_getElem? (i := 7) rfl)) (hw _ (List.mem_of_getElem? (i := 4) rfl)) (by decide) (by decide)) (g := (mkF m 29 #[iv i0, iv i1, iv i2, iv i3, iv i4, iv i5, iv of, iv (1 : Int32), .unset, .unset, .unset, .unset, .unset, .unset] [(.ref b99), (.ref b99)])) rfl (by rw [hml]; rfl) (Steps.refl _) (a := b99) (argsL := []) (rest := [(.ref b99)]) (lenOf pd0_0 rfl) rfl (by show 2 * 0 + _ ≤ _; exact Nat.le_of_eq rfl) (hb hby at_29) (fun _ _ => ⟨rfl, e99, (by decide : 1 + 1 ≤ _), (by decide : 4 + 64 ≤ _)⟩)
    dsimp only [Pt.U, Pt.locs, Pt.cells, Pt.slots] at X107 l107 y107 z107 st107 hQ107
    subst l107 y107 z107
    obtain ⟨rfl, Nq107, Kq107, bb107, szq107, E_a107, F_buf107, F_sta107, F_end107, A_b107, ne_ab107, fg107, g_a107, g_b107⟩ := hQ107
    have N107 := Fr.app N0 Nq107
    have e107 : T107.heap = T107.heap := rfl
    have Z107 : n0 ≤ T107.heap.size := Nat.le_trans Z101 Kq107.1
    obtain ⟨LL108, X108, N108⟩ : ∃ LL, Stand p l e room_1 s m #[(.int i0), (.int i1), (.int i2), (.int i3), (.int i4), (.int i5)] below meth c T107 LL 2 68 ∧ Fr n0 LL := ⟨_, X107, N107⟩
    have pre109 : ∀ t, own_s p e below T107 m 32 #[iv i0, iv i1, iv i2, iv i3, iv i4, iv i5, iv of, iv (1 : Int32), .unset, .unset, .unset, .unset, .unset, .unset] [(.ref b99)] t → Steps p.tables e below S0 t := fun tX kX => pre106 _ (st107.trans kX)
    have pre110 : ∀ t, own_s p e below T107 m 46 #[iv i0, iv i1, iv i2, iv i3, iv i4, iv i5, iv of, iv (1 : Int32), rv b99, iv (0 : Int32), .unset, .unset, .unset, .unset] [(.int i4), (.ref b99)] t → Steps p.tables e below S0 t := by
      intro tX kX
      refine pre109 _ ?_
      show own_s p e below T107 m 32 #[iv i0, iv i1, iv i2, iv i3, iv i4, iv i5, iv of, iv (1 : Int32), .unset, .unset, .unset, .unset, .unset, .unset] [(.ref b99)] _
      refine XS.astore X108.here hx rfl (hb hby at_32) rfl rfl (l' := #[iv i0, iv i1, iv i2, iv i3, iv i4, iv i5, iv of, iv (1 : Int32), rv b99, .unset, .unset, .unset, .unset, .unset]) rfl ?_
      show own_s p e below T107 m 34 #[iv i0, iv i1, iv i2, iv i3, iv i4, iv i5, iv of, iv (1 : Int32), rv b99, .unset, .unset, .unset, .unset, .unset] [] _
      refine XS.iconst X108.here hx rfl (hb hby at_34) ?_
      show own_s p e below T107 m 35 #[iv i0, iv i1, iv i2, iv i3, iv i4, iv i5, iv of, iv (1 : Int32), rv b99, .unset, .unset, .unset, .unset, .unset] [(.int (0 : Int32))] _
      refine XS.istore X108.here hx rfl (hb hby at_35) rfl (l' := #[iv i0, iv i1, iv i2, iv i3, iv i4, iv i5, iv of, iv (1 : Int32), rv b99, iv (0 : Int32), .unset, .unset, .unset, .unset]) rfl ?_
      show own_s p e below T107 m 37 #[iv i0, iv i1, iv i2, iv i3, iv i4, iv i5, iv of, iv (1 : Int32), rv b99, iv (0 : Int32), .unset, .unset, .unset, .unset] [] _
      refine XS.iload X108.here hx rfl (hb hby at_37) rfl ?_
      show own_s p e below T107 m 39 #[iv i0, iv i1, iv i2, iv i3, iv i4, iv i5, iv of, iv (1 : Int32), rv b99, iv (0 : Int32), .unset, .unset, .unset, .unset] [(.int (1 : Int32))] _
      refine XS.ifNo X108.here hx rfl (hb hby at_39) rfl ((if0 _ _).trans (feq (by decide : ¬ ((1 : Int32) = (0 : Int32)))).1) ?_
      show own_s p e below T107 m 42 #[iv i0, iv i1, iv i2, iv i3, iv i4, iv i5, iv of, iv (1 : Int32), rv b99, iv (0 : Int32), .unset, .unset, .unset, .unset] [] _
      refine XS.aload X108.here hx rfl (hb hby at_42) rfl rfl ?_
      show own_s p e below T107 m 44 #[iv i0, iv i1, iv i2, iv i3, iv i4, iv i5, iv of, iv (1 : Int32), rv b99, iv (0 : Int32), .unset, .unset, .unset, .unset] [(.ref b99)] _
      refine XS.iload X108.here hx rfl (hb hby at_44) rfl ?_
      exact kX
    obtain ⟨cq111, kq111, q111a, q111b, q111c⟩ := isOf hZ e107 E_a107
    obtain ⟨_, _, ⟨T111, L111, k111, n111⟩, -, X111, ⟨Lc111, hQ111, l111, y111, z111⟩, st111⟩ := X108.virtualBack hx (y := (⟨"com/example/farcall/farcall/io/XdrEncoder", "writeInt", "(I)Lcom/example/farcall/farcall/io/XdrEncoder;"⟩ : MethodName)) (z := (⟨"com/example/farcall/farcall/io/XdrEncoder", "writeInt", "(I)Lcom/example/farcall/farcall/io/XdrEncoder;"⟩ : MethodName)) hown (mvT hZ (hw _ (List.mem_of_getElem? (i := 14) rfl))) (mvT hZ (hw _ (List.mem_of_getElem? (i := 15) rfl))) (notFace_of_selects (args := #[]) (mvT hZ (hw _ (List.mem_of_getElem? (i := 17) rfl)))) (mvT hZ (hw _ (List.mem_of_getElem? (i := 17) rfl))) (mvT hZ (hw _ (List.mem_of_getElem? (i := 16) rfl))) (by decide) (backOf (W := 0) (rm9 l Z a0 hw [] b99 i4 bb107 ((fun _ : Nat => (0 : Int32))) 0 0 T107.heap n0 Z107 E_a107 F_buf107 F_sta107 F_end107 A_b107 ne_ab107 fg107 g_a107 g_b107 (by decide) (by decide)) hZ (hw _ (List.mem_of_getElem? (i := 18) rfl)) (hw _ (List.mem_of_getElem? (i := 4) rfl)) (by decide) (by decide)) q111a q111c (g := (mkF m 46 #[iv i0, iv i1, iv i2, iv i3, iv i4, iv i5, iv of, iv (1 : Int32), rv b99, iv (0 : Int32), .unset, .unset, .unset, .unset] [(.int i4), (.ref b99)])) rfl (by rw [hml]; rfl) (Steps.refl _) (argsL := [(.int i4)]) (rest := []) (lenOf pd0_1 rfl) rfl (by show 2 * 0 + _ ≤ _; exact Nat.le_of_eq rfl) (hb hby at_46) (fun _ _ => ⟨rfl, e107, (by decide : 2 + 0 ≤ _), (by decide : 68 + 0 ≤ _)⟩)
    dsimp only [Pt.U, Pt.locs, Pt.cells, Pt.slots] at X111 l111 y111 z111 st111 hQ111
    subst l111 y111 z111
    obtain ⟨rfl, Nq111, Kq111, E_a111, F_buf111, F_sta111, F_end111, A_b111, ne_ab111, fg111, g_a111, g_b111⟩ := hQ111
    have N111 := Fr.app N108 Nq111
    have e111 : T111.heap = T111.heap := rfl
    have Z111 : n0 ≤ T111.heap.size := Nat.le_trans Z107 Kq111.1
    obtain ⟨LL112, X112, N112⟩ : ∃ LL, Stand p l e room_1 s m #[(.int i0), (.int i1), (.int i2), (.int i3), (.int i4), (.int i5)] below meth c T111 LL 2 68 ∧ Fr n0 LL := ⟨_, X111, N111⟩
    have pre113 : ∀ t, own_s p e below T111 m 49 #[iv i0, iv i1, iv i2, iv i3, iv i4, iv i5, iv of, iv (1 : Int32), rv b99, iv (0 : Int32), .unset, .unset, .unset, .unset] [(.ref b99)] t → Steps p.tables e below S0 t := fun tX kX => pre110 _ (st111.trans kX)
    have pre114 : ∀ t, own_s p e below T111 m 52 #[iv i0, iv i1, iv i2, iv i3, iv i4, iv i5, iv of, iv (1 : Int32), rv b99, iv (0 : Int32), .unset, .unset, .unset, .unset] [(.ref b99)] t → Steps p.tables e below S0 t := by
      intro tX kX
      refine pre113 _ ?_
      show own_s p e below T111 m 49 #[iv i0, iv i1, iv i2, iv i3, iv i4, iv i5, iv of, iv (1 : Int32), rv b99, iv (0 : Int32), .unset, .unset, .unset, .unset] [(.ref b99)] _
      refine XS.pop X112.here hx rfl (hb hby at_49) rfl rfl ?_
      show own_s p e below T111 m 50 #[iv i0, iv i1, iv i2, iv i3, iv i4, iv i5, iv of, iv (1 : Int32), rv b99, iv (0 : Int32), .unset, .unset, .unset, .unset] [] _
      refine XS.aload X112.here hx rfl (hb hby at_50) rfl rfl ?_
      exact kX
    obtain ⟨cq115, kq115, q115a, q115b, q115c⟩ := isOf hZ e111 E_a111
    obtain ⟨_, _, ⟨T115, L115, k115, n115⟩, -, X115, ⟨Lc115, hQ115, l115, y115, z115⟩, st115⟩ := X112.virtualBack hx (y := (⟨"com/example/farcall/farcall/io/XdrEncoder", "beginPart", "()I"⟩ : MethodName)) (z := (⟨"com/example/farcall/farcall/io/XdrEncoder", "beginPart", "()I"⟩ : MethodName)) hown (mvT hZ (hw _ (List.mem_of_getElem? (i := 72) rfl))) (mvT hZ (hw _ (List.mem_of_getElem? (i := 73) rfl))) (notFace_of_selects (args := #[]) (mvT hZ (hw _ (List.mem_of_getElem? (i := 75) rfl)))) (mvT hZ (hw _ (List.mem_of_getElem? (i := 75) rfl))) (mvT hZ (hw _ (List.mem_of_getElem? (i := 74) rfl))) (by decide) (backOf (W := 0) (rm10 l Z a0 hw [] b99 bb107 ((own_put (fun _ : Nat => (0 : Int32)) 0 i4)) 0 4 T111.heap n0 Z111 E_a111 F_buf111 F_sta111 F_end111 A_b111 ne_ab111 fg111 g_a111 g_b111) hZ (hw _ (List.mem_of_getElem? (i := 76) rfl)) (hw _ (List.mem_of_getElem? (i := 4) rfl)) (by decide) (by decide)) q115a q115c (g := (mkF m 52 #[iv i0, iv i1, iv i2, iv i3, iv i4, iv i5, iv of, iv (1 : Int32), rv b99, iv (0 : Int32), .unset, .unset, .unset, .unset] [(.ref b99)])) rfl (by rw [hml]; rfl) (Steps.refl _) (argsL := []) (rest := []) (lenOf pd0_3 rfl) rfl (by show 2 * 0 + _ ≤ _; exact Nat.le_of_eq rfl) (hb hby at_52) (fun _ _ => ⟨rfl, e111, (by decide : 2 + 0 ≤ _), (by decide : 68 + 0 ≤ _)⟩)
    dsimp only [Pt.U, Pt.locs, Pt.cells, Pt.slots] at X115 l115 y115 z115 st115 hQ115
    subst l115 y115 z115
    obtain ⟨rfl, Nq115, Kq115, E_a115, F_buf115, F_sta115, F_end115, A_b115, ne_ab115, fg115, g_a115, g_b115⟩ := hQ115
    have N115 := Fr.app N112 Nq115
    have e115 : T115.heap = T115.heap := rfl
    have Z115 : n0 ≤ T115.heap.size := Nat.le_trans Z111 Kq115.1
    obtain ⟨LL116, X116, N116⟩ : ∃ LL, Stand p l e room_1 s m #[(.int i0), (.int i1), (.int i2), (.int i3), (.int i4), (.int i5)] below meth c T115 LL 2 68 ∧ Fr n0 LL := ⟨_, X115, N115⟩
    have pre117 : ∀ t, own_s p e below T115 m 55 #[iv i0, iv i1, iv i2, iv i3, iv i4, iv i5, iv of, iv (1 : Int32), rv b99, iv (0 : Int32), .unset, .unset, .unset, .unset] [(.int (0 : Int32))] t → Steps p.tables e below S0 t := fun tX kX => pre114 _ (st115.trans kX)
    have pre118 : ∀ t, own_s p e below T115 m 60 #[iv i0, iv i1, iv i2, iv i3, iv i4, iv i5, iv of, iv (1 : Int32), rv b99, iv (0 : Int32), .unset, .unset, .unset, .unset] [(.int i0), (.ref b99)] t → Steps p.tables e below S0 t := by
      intro tX kX
      refine pre117 _ ?_
      show own_s p e below T115 m 55 #[iv i0, iv i1, iv i2, iv i3, iv i4, iv i5, iv of, iv (1 : Int32), rv b99, iv (0 : Int32), .unset, .unset, .unset, .unset] [(.int (0 : Int32))] _
      refine XS.istore X116.here hx rfl (hb hby at_55) rfl (l' := #[iv i0, iv i1, iv i2, iv i3, iv i4, iv i5, iv of, iv (1 : Int32), rv b99, iv (0 : Int32), .unset, .unset, .unset, .unset]) rfl ?_
      show own_s p e below T115 m 57 #[iv i0, iv i1, iv i2, iv i3, iv i4, iv i5, iv of, iv (1 : Int32), rv b99, iv (0 : Int32), .unset, .unset, .unset, .unset] [] _
      refine XS.aload X116.here hx rfl (hb hby at_57) rfl rfl ?_
      show own_s p e below T115 m 59 #[iv i0, iv i1, iv i2, iv i3, iv i4, iv i5, iv of, iv (1 : Int32), rv b99, iv (0 : Int32), .unset, .unset, .unset, .unset] [(.ref b99)] _
      refine XS.iloadN X116.here hx rfl (hb hby at_59) rfl ?_
      exact kX
    obtain ⟨cq119, kq119, q119a, q119b, q119c⟩ := isOf hZ e115 E_a115
    obtain ⟨_, _, ⟨T119, L119, k119, n119⟩, -, X119, ⟨Lc119, hQ119, l119, y119, z119⟩, st119⟩ := X116.virtualBack hx (y := (⟨"com/example/farcall/farcall/io/XdrEncoder", "writeInt", "(I)Lcom/example/farcall/farcall/io/XdrEncoder;"⟩ : MethodName)) (z := (⟨"com/example/farcall/farcall/io/XdrEncoder", "writeInt", "(I)Lcom/example/farcall/farcall/io/XdrEncoder;"⟩ : MethodName)) hown (mvT hZ (hw _ (List.mem_of_getElem? (i := 14) rfl))) (mvT hZ (hw _ (List.mem_of_getElem? (i := 15) rfl))) (notFace_of_selects (args := #[]) (mvT hZ (hw _ (List.mem_of_getElem? (i := 17) rfl)))) (mvT hZ (hw _ (List.mem_of_getElem? (i := 17) rfl))) (mvT hZ (hw _ (List.mem_of_getElem? (i := 16) rfl))) (by decide) (backOf (W := 0) (rm9 l Z a0 hw [] b99 i0 bb107 ((own_put (fun _ : Nat => (0 : Int32)) 0 i4)) 4 4 T115.heap n0 Z115 E_a115 F_buf115 F_sta115 F_end115 A_b115 ne_ab115 fg115 g_a115 g_b115 (by decide) (by decide)) hZ (hw _ (List.mem_of_getElem? (i := 18) rfl)) (hw _ (List.mem_of_getElem? (i := 4) rfl)) (by decide) (by decide)) q119a q119c (g := (mkF m 60 #[iv i0, iv i1, iv i2, iv i3, iv i4, iv i5, iv of, iv (1 : Int32), rv b99, iv (0 : Int32), .unset, .unset, .unset, .unset] [(.int i0), (.ref b99)])) rfl (by rw [hml]; rfl) (Steps.refl _) (argsL := [(.int i0)]) (rest := []) (lenOf pd0_1 rfl) rfl (by show 2 * 0 + _ ≤ _; exact Nat.le_of_eq rfl) (hb hby at_60) (fun _ _ => ⟨rfl, e115, (by decide : 2 + 0 ≤ _), (by decide : 68 + 0 ≤ _)⟩)
    dsimp only [Pt.U, Pt.locs, Pt.cells, Pt.slots] at X119 l119 y119 z119 st119 hQ119
    subst l119 y119 z119
    obtain ⟨rfl, Nq119, Kq119, E_a119, F_buf119, F_sta119, F_end119, A_b119, ne_ab119, fg119, g_a119, g_b119⟩ := hQ119
    have N119 := Fr.app N116 Nq119
    have e119 : T119.heap = T119.heap := rfl
    have Z119 : n0 ≤ T119.heap.size := Nat.le_trans Z115 Kq119.1
    obtain ⟨LL120, X120, N120⟩ : ∃ LL, Stand p l e room_1 s m #[(.int i0), (.int i1), (.int i2), (.int i3), (.int i4), (.int i5)] below meth c T119 LL 2 68 ∧ Fr n0 LL := ⟨_, X119, N119⟩
    have pre121 : ∀ t, own_s p e below T119 m 63 #[iv i0, iv i1, iv i2, iv i3, iv i4, iv i5, iv of, iv (1 : Int32), rv b99, iv (0 : Int32), .unset, .unset, .unset, .unset] [(.ref b99)] t → Steps p.tables e below S0 t := fun tX kX => pre118 _ (st119.trans kX)
    have pre122 : ∀ t, own_s p e below T119 m 67 #[iv i0, iv i1, iv i2, iv i3, iv i4, iv i5, iv of, iv (1 : Int32), rv b99, iv (0 : Int32), .unset, .unset, .unset, .unset] [(.int i1), (.ref b99)] t → Steps p.tables e below S0 t := by
      intro tX kX
      refine pre121 _ ?_
      show own_s p e below T119 m 63 #[iv i0, iv i1, iv i2, iv i3, iv i4, iv i5, iv of, iv (1 : Int32), rv b99, iv (0 : Int32), .unset, .unset, .unset, .unset] [(.ref b99)] _
      refine XS.pop X120.here hx rfl (hb hby at_63) rfl rfl ?_
      show own_s p e below T119 m 64 #[iv i0, iv i1, iv i2, iv i3, iv i4, iv i5, iv of, iv (1 : Int32), rv b99, iv (0 : Int32), .unset, .unset, .unset, .unset] [] _
      refine XS.aload X120.here hx rfl (hb hby at_64) rfl rfl ?_
      show own_s p e below T119 m 66 #[iv i0, iv i1, iv i2, iv i3, iv i4, iv i5, iv of, iv (1 : Int32), rv b99, iv (0 : Int32), .unset, .unset, .unset, .unset] [(.ref b99)] _
      refine XS.iloadN X120.here hx rfl (hb hby at_66) rfl ?_
      exact kX
    obtain ⟨cq123, kq123, q123a, q123b, q123c⟩ := isOf hZ e119 E_a119
    obtain ⟨_, _, ⟨T123, L123, k123, n123⟩, -, X123, ⟨Lc123, hQ123, l123, y123, z123⟩, st123⟩ := X120.virtualBack hx (y := (⟨"com/example/farcall/farcall/io/XdrEncoder", "writeInt", "(I)Lcom/example/farcall/farcall/io/XdrEncoder;"⟩ : MethodName)) (z := (⟨"com/example/farcall/farcall/io/XdrEncoder", "writeInt", "(I)Lcom/example/farcall/farcall/io/XdrEncoder;"⟩ : MethodName)) hown (mvT hZ (hw _ (List.mem_of_getElem? (i := 14) rfl))) (mvT hZ (hw _ (List.mem_of_getElem? (i := 15) rfl))) (notFace_of_selects (args := #[]) (mvT hZ (hw _ (List.mem_of_getElem? (i := 17) rfl)))) (mvT hZ (hw _ (List.mem_of_getElem? (i := 17) rfl))) (mvT hZ (hw _ (List.mem_of_getElem? (i := 16) rfl))) (by decide) (backOf (W := 0) (rm9 l Z a0 hw [] b99 i1 bb107 ((own_put (own_put (fun _ : Nat => (0 : Int32)) 0 i4) 4 i0)) 4 8 T119.heap n0 Z119 E_a119 F_buf119 F_sta119 F_end119 A_b119 ne_ab119 fg119 g_a119 g_b119 (by decide) (by decide)) hZ (hw _ (List.mem_of_getElem? (i := 18) rfl)) (hw _ (List.mem_of_getElem? (i := 4) rfl)) (by decide) (by decide)) q123a q123c (g := (mkF m 67 #[iv i0, iv i1, iv i2, iv i3, iv i4, iv i5, iv of, iv (1 : Int32), rv b99, iv (0 : Int32), .unset, .unset, .unset, .unset] [(.int i1), (.ref b99)])) rfl (by rw [hml]; rfl) (Steps.refl _) (argsL := [(.int i1)]) (rest := []) (lenOf pd0_1 rfl) rfl (by show 2 * 0 + _ ≤ _; exact Nat.le_of_eq rfl) (hb hby at_67) (fun _ _ => ⟨rfl, e119, (by decide : 2 + 0 ≤ _), (by decide : 68 + 0 ≤ _)⟩)
    dsimp only [Pt.U, Pt.locs, Pt.cells, Pt.slots] at X123 l123 y123 z123 st123 hQ123
    subst l123 y123 z123
    obtain ⟨rfl, Nq123, Kq123, E_a123, F_buf123, F_sta123, F_end123, A_b123, ne_ab123, fg123, g_a123, g_b123⟩ := hQ123
    have N123 := Fr.app N120 Nq123
    have e123 : T123.heap = T123.heap := rfl
    have Z123 : n0 ≤ T123.heap.size := Nat.le_trans Z119 Kq123.1
    obtain ⟨LL124, X124, N124⟩ : ∃ LL, Stand p l e room_1 s m #[(.int i0), (.int i1), (.int i2), (.int i3), (.int i4), (.int i5)] below meth c T123 LL 2 68 ∧ Fr n0 LL := ⟨_, X123, N123⟩
    have pre125 : ∀ t, own_s p e below T123 m 70 #[iv i0, iv i1, iv i2, iv i3, iv i4, iv i5, iv of, iv (1 : Int32), rv b99, iv (0 : Int32), .unset, .unset, .unset, .unset] [(.ref b99)] t → Steps p.tables e below S0 t := fun tX kX => pre122 _ (st123.trans kX)
    have pre126 : ∀ t, own_s p e below T123 m 74 #[iv i0, iv i1, iv i2, iv i3, iv i4, iv i5, iv of, iv (1 : Int32), rv b99, iv (0 : Int32), .unset, .unset, .unset, .unset] [(.int i2), (.ref b99)] t → Steps p.tables e below S0 t := by
      intro tX kX
      refine pre125 _ ?_
      show own_s p e below T123 m 70 #[iv i0, iv i1, iv i2, iv i3, iv i4, iv i5, iv of, iv (1 : Int32), rv b99, iv (0 : Int32), .unset, .unset, .unset, .unset] [(.ref b99)] _
      refine XS.pop X124.here hx rfl (hb hby at_70) rfl rfl ?_
      show own_s p e below T123 m 71 #[iv i0, iv i1, iv i2, iv i3, iv i4, iv i5, iv of, iv (1 : Int32), rv b99, iv (0 : Int32), .unset, .unset, .unset, .unset] [] _
      refine XS.aload X124.here hx rfl (hb hby at_71) rfl rfl ?_
      show own_s p e below T123 m 73 #[iv i0, iv i1, iv i2, iv i3, iv i4, iv i5, iv of, iv (1 : Int32), rv b99, iv (0 : Int32), .unset, .unset, .unset, .unset] [(.ref b99)] _
      refine XS.iloadN X124.here hx rfl (hb hby at_73) rfl ?_
      exact kX
    obtain ⟨cq127, kq127, q127a, q127b, q127c⟩ := isOf hZ e123 E_a123
    obtain ⟨_, _, ⟨T127, L127, k127, n127⟩, -, X127, ⟨Lc127, hQ127, l127, y127, z127⟩, st127⟩ := X124.virtualBack hx (y := (⟨"com/example/farcall/farcall/io/XdrEncoder", "writeInt", "(I)Lcom/example/farcall/farcall/io/XdrEncoder;"⟩ : MethodName)) (z := (⟨"com/example/farcall/farcall/io/XdrEncoder", "writeInt", "(I)Lcom/example/farcall/farcall/io/XdrEncoder;"⟩ : MethodName)) hown (mvT hZ (hw _ (List.mem_of_getElem? (i := 14) rfl))) (mvT hZ (hw _ (List.mem_of_getElem? (i := 15) rfl))) (notFace_of_selects (args := #[]) (mvT hZ (hw _ (List.mem_of_getElem? (i := 17) rfl)))) (mvT hZ (hw _ (List.mem_of_getElem? (i := 17) rfl))) (mvT hZ (hw _ (List.mem_of_getElem? (i := 16) rfl))) (by decide) (backOf (W := 0) (rm9 l Z a0 hw [] b99 i2 bb107 ((own_put (own_put (own_put (fun _ : Nat => (0 : Int32)) 0 i4) 4 i0) 8 i1)) 4 12 T123.heap n0 Z123 E_a123 F_buf123 F_sta123 F_end123 A_b123 ne_ab123 fg123 g_a123 g_b123 (by decide) (by decide)) hZ (hw _ (List.mem_of_getElem? (i := 18) rfl)) (hw _ (List.mem_of_getElem? (i := 4) rfl)) (by decide) (by decide)) q127a q127c (g := (mkF m 74 #[iv i0, iv i1, iv i2, iv i3, iv i4, iv i5, iv of, iv (1 : Int32), rv b99, iv (0 : Int32), .unset, .unset, .unset, .unset] [(.int i2), (.ref b99)])) rfl (by rw [hml]; rfl) (Steps.refl _) (argsL := [(.int i2)]) (rest := []) (lenOf pd0_1 rfl) rfl (by show 2 * 0 + _ ≤ _; exact Nat.le_of_eq rfl) (hb hby at_74) (fun _ _ => ⟨rfl, e123, (by decide : 2 + 0 ≤ _), (by decide : 68 + 0 ≤ _)⟩)
    dsimp only [Pt.U, Pt.locs, Pt.cells, Pt.slots] at X127 l127 y127 z127 st127 hQ127
    subst l127 y127 z127
    obtain ⟨rfl, Nq127, Kq127, E_a127, F_buf127, F_sta127, F_end127, A_b127, ne_ab127, fg127, g_a127, g_b127⟩ := hQ127
    have N127 := Fr.app N124 Nq127
    have e127 : T127.heap = T127.heap := rfl
    have Z127 : n0 ≤ T127.heap.size := Nat.le_trans Z123 Kq127.1
    obtain ⟨LL128, X128, N128⟩ : ∃ LL, Stand p l e room_1 s m #[(.int i0), (.int i1), (.int i2), (.int i3), (.int i4), (.int i5)] below meth c T127 LL 2 68 ∧ Fr n0 LL := ⟨_, X127, N127⟩
    have pre129 : ∀ t, own_s p e below T127 m 77 #[iv i0, iv i1, iv i2, iv i3, iv i4, iv i5, iv of, iv (1 : Int32), rv b99, iv (0 : Int32), .unset, .unset, .unset, .unset] [(.ref b99)] t → Steps p.tables e below S0 t := fun tX kX => pre126 _ (st127.trans kX)
    have pre130 : ∀ t, own_s p e below T127 m 83 #[iv i0, iv i1, iv i2, iv i3, iv i4, iv i5, iv of, iv (1 : Int32), rv b99, iv (0 : Int32), .unset, .unset, .unset, .unset] [(.int i3), (.int of), (.ref b99)] t → Steps p.tables e below S0 t := by
      intro tX kX
      refine pre129 _ ?_
      show own_s p e below T127 m 77 #[iv i0, iv i1, iv i2, iv i3, iv i4, iv i5, iv of, iv (1 : Int32), rv b99, iv (0 : Int32), .unset, .unset, .unset, .unset] [(.ref b99)] _
      refine XS.pop X128.here hx rfl (hb hby at_77) rfl rfl ?_
      show own_s p e below T127 m 78 #[iv i0, iv i1, iv i2, iv i3, iv i4, iv i5, iv of, iv (1 : Int32), rv b99, iv (0 : Int32), .unset, .unset, .unset, .unset] [] _
      refine XS.aload X128.here hx rfl (hb hby at_78) rfl rfl ?_
      show own_s p e below T127 m 80 #[iv i0, iv i1, iv i2, iv i3, iv i4, iv i5, iv of, iv (1 : Int32), rv b99, iv (0 : Int32), .unset, .unset, .unset, .unset] [(.ref b99)] _
      refine XS.iload X128.here hx rfl (hb hby at_80) rfl ?_
      show own_s p e below T127 m 82 #[iv i0, iv i1, iv i2, iv i3, iv i4, iv i5, iv of, iv (1 : Int32), rv b99, iv (0 : Int32), .unset, .unset, .unset, .unset] [(.int of), (.ref b99)] _
      refine XS.iloadN X128.here hx rfl (hb hby at_82) rfl ?_
      exact kX
    obtain ⟨cq131, kq131, q131a, q131b, q131c⟩ := isOf hZ e127 E_a127
    obtain ⟨_, _, ⟨T131, L131, k131, n131⟩, -, X131, ⟨Lc131, hQ131, l131, y131, z131⟩, st131⟩ := X128.virtualBack hx (y := (⟨"com/example/farcall/farcall/io/XdrEncoder", "setInt", "(II)V"⟩ : MethodName)) (z := (⟨"com/example/farcall/farcall/io/XdrEncoder", "setInt", "(II)V"⟩ : MethodName)) hown (mvT hZ (hw _ (List.mem_of_getElem? (i := 37) rfl))) (mvT hZ (hw _ (List.mem_of_getElem? (i := 33) rfl))) (notFace_of_selects (args := #[]) (mvT hZ (hw _ (List.mem_of_getElem? (i := 35) rfl)))) (mvT hZ (hw _ (List.mem_of_getElem? (i := 35) rfl))) (mvT hZ (hw _ (List.mem_of_getElem? (i := 34) rfl))) (by decide) (backOf (W := 0) (rm8 l Z a0 hw [] b99 of i3 bb107 ((own_put (own_put (own_put (own_put (fun _ : Nat => (0 : Int32)) 0 i4) 4 i0) 8 i1) 12 i2)) 4 16 O T127.heap n0 Z127 E_a127 F_buf127 F_sta127 F_end127 A_b127 ne_ab127 fg127 g_a127 g_b127 hOf (by omega)) hZ (hw _ (List.mem_of_getElem? (i := 36) rfl)) (hw _ (List.mem_of_getElem? (i := 4) rfl)) (by decide) (by decide)) q131a q131c (g := (mkF m 83 #[iv i0, iv i1, iv i2, iv i3, iv i4, iv i5, iv of, iv (1 : Int32), rv b99, iv (0 : Int32), .unset, .unset, .unset, .unset] [(.int i3), (.int of), (.ref b99)])) rfl (by rw [hml]; rfl) (Steps.refl _) (argsL := [(.int of), (.int i3)]) (rest := []) (lenOf pd0_2 rfl) rfl (by show 2 * 0 + _ ≤ _; exact Nat.le_of_eq rfl) (hb hby at_83) (fun _ _ => ⟨rfl, e127, (by decide : 2 + 0 ≤ _), (by decide : 68 + 0 ≤ _)⟩)
    dsimp only [Pt.U, Pt.locs, Pt.cells, Pt.slots] at X131 l131 y131 z131 st131 hQ131
    subst l131 y131 z131
    obtain ⟨rfl, Nq131, Kq131, E_a131, F_buf131, F_sta131, F_end131, A_b131, ne_ab131, fg131, g_a131, g_b131⟩ := hQ131
    have N131 := Fr.app N128 Nq131
    have e131 : T131.heap = T131.heap := rfl
    have Z131 : n0 ≤ T131.heap.size := Nat.le_trans Z127 Kq131.1
    obtain ⟨LL132, X132, N132⟩ : ∃ LL, Stand p l e room_1 s m #[(.int i0), (.int i1), (.int i2), (.int i3), (.int i4), (.int i5)] below meth c T131 LL 2 68 ∧ Fr n0 LL := ⟨_, X131, N131⟩
    have pre133 : ∀ t, own_s p e below T131 m 86 #[iv i0, iv i1, iv i2, iv i3, iv i4, iv i5, iv of, iv (1 : Int32), rv b99, iv (0 : Int32), .unset, .unset, .unset, .unset] [] t → Steps p.tables e below S0 t := fun tX kX => pre130 _ (st131.trans kX)
    have pre134 : ∀ t, own_s p e below T131 m 88 #[iv i0, iv i1, iv i2, iv i3, iv i4, iv i5, iv of, iv (1 : Int32), rv b99, iv (0 : Int32), .unset, .unset, .unset, .unset] [(.ref b99)] t → Steps p.tables e below S0 t := by
      intro tX kX
      refine pre133 _ ?_
      show own_s p e below T131 m 86 #[iv i0, iv i1, iv i2, iv i3, iv i4, iv i5, iv of, iv (1 : Int32), rv b99, iv (0 : Int32), .unset, .unset, .unset, .unset] [] _
      refine XS.aload X132.here hx rfl (hb hby at_86) rfl rfl ?_
      exact kX
    obtain ⟨cq135, kq135, q135a, q135b, q135c⟩ := isOf hZ e131 E_a131
    obtain ⟨_, _, ⟨T135, L135, k135, n135⟩, -, X135, ⟨Lc135, hQ135, l135, y135, z135⟩, st135⟩ := X132.virtualBack hx (y := (⟨"com/example/farcall/farcall/io/XdrEncoder", "size", "()I"⟩ : MethodName)) (z := (⟨"com/example/farcall/farcall/io/XdrEncoder", "size", "()I"⟩ : MethodName)) hown (mvT hZ (hw _ (List.mem_of_getElem? (i := 38) rfl))) (mvT hZ (hw _ (List.mem_of_getElem? (i := 26) rfl))) (notFace_of_selects (args := #[]) (mvT hZ (hw _ (List.mem_of_getElem? (i := 28) rfl)))) (mvT hZ (hw _ (List.mem_of_getElem? (i := 28) rfl))) (mvT hZ (hw _ (List.mem_of_getElem? (i := 27) rfl))) (by decide) (backOf (W := 0) (rm6 l Z a0 hw [] b99 bb107 ((own_put (own_put (own_put (own_put (own_put (fun _ : Nat => (0 : Int32)) 0 i4) 4 i0) 8 i1) 12 i2) (4 + O) i3)) 4 16 T131.heap n0 Z131 E_a131 F_buf131 F_sta131 F_end131 A_b131 ne_ab131 fg131 g_a131 g_b131 (by decide) (by decide)) hZ (hw _ (List.mem_of_getElem? (i := 29) rfl)) (hw _ (List.mem_of_getElem? (i := 4) rfl)) (by decide) (by decide)) q135a q135c (g := (mkF m 88 #[iv i0, iv i1, iv i2, iv i3, iv i4, iv i5, iv of, iv (1 : Int32), rv b99, iv (0 : Int32), .unset, .unset, .unset, .unset] [(.ref b99)])) rfl (by rw [hml]; rfl) (Steps.refl _) (argsL := []) (rest := []) (lenOf pd0_3 rfl) rfl (by show 2 * 0 + _ ≤ _; exact Nat.le_of_eq rfl) (hb hby at_88) (fun _ _ => ⟨rfl, e131, (by decide : 2 + 0 ≤ _), (by decide : 68 + 0 ≤ _)⟩)
    dsimp only [Pt.U, Pt.locs, Pt.cells, Pt.slots] at X135 l135 y135 z135 st135 hQ135
    subst l135 y135 z135
    obtain ⟨rfl, Nq135, e135⟩ := hQ135
    have N135 := Fr.app N132 Nq135
    obtain ⟨LL136, X136, N136⟩ : ∃ LL, Stand p l e room_1 s m #[(.int i0), (.int i1), (.int i2), (.int i3), (.int i4), (.int i5)] below meth c T135 LL 2 68 ∧ Fr n0 LL := ⟨_, X135, N135⟩
    have pre137 : ∀ t, own_s p e below T135 m 91 #[iv i0, iv i1, iv i2, iv i3, iv i4, iv i5, iv of, iv (1 : Int32), rv b99, iv (0 : Int32), .unset, .unset, .unset, .unset] [(.int (12 : Int32))] t → Steps p.tables e below S0 t := fun tX kX => pre134 _ (st135.trans kX)
    have pre138 : ∀ t, own_s p e below T135 m 102 #[iv i0, iv i1, iv i2, iv i3, iv i4, iv i5, iv of, iv (1 : Int32), rv b99, iv (0 : Int32), iv (12 : Int32), .unset, .unset, .unset] [(.int (0 : Int32)), (.ref b99)] t → Steps p.tables e below S0 t := by
      intro tX kX
      refine pre137 _ ?_
      show own_s p e below T135 m 91 #[iv i0, iv i1, iv i2, iv i3, iv i4, iv i5, iv of, iv (1 : Int32), rv b99, iv (0 : Int32), .unset, .unset, .unset, .unset] [(.int (12 : Int32))] _
      refine XS.istore X136.here hx rfl (hb hby at_91) rfl (l' := #[iv i0, iv i1, iv i2, iv i3, iv i4, iv i5, iv of, iv (1 : Int32), rv b99, iv (0 : Int32), iv (12 : Int32), .unset, .unset, .unset]) rfl ?_
      show own_s p e below T135 m 93 #[iv i0, iv i1, iv i2, iv i3, iv i4, iv i5, iv of, iv (1 : Int32), rv b99, iv (0 : Int32), iv (12 : Int32), .unset, .unset, .unset] [] _
      refine XS.iload X136.here hx rfl (hb hby at_93) rfl ?_
      show own_s p e below T135 m 95 #[iv i0, iv i1, iv i2, iv i3, iv i4, iv i5, iv of, iv (1 : Int32), rv b99, iv (0 : Int32), iv (12 : Int32), .unset, .unset, .unset] [(.int (1 : Int32))] _
      refine XS.ifNo X136.here hx rfl (hb hby at_95) rfl ((if0 _ _).trans (feq (by decide : ¬ ((1 : Int32) = (0 : Int32)))).1) ?_
      show own_s p e below T135 m 98 #[iv i0, iv i1, iv i2, iv i3, iv i4, iv i5, iv of, iv (1 : Int32), rv b99, iv (0 : Int32), iv (12 : Int32), .unset, .unset, .unset] [] _
      refine XS.aload X136.here hx rfl (hb hby at_98) rfl rfl ?_
      show own_s p e below T135 m 100 #[iv i0, iv i1, iv i2, iv i3, iv i4, iv i5, iv of, iv (1 : Int32), rv b99, iv (0 : Int32), iv (12 : Int32), .unset, .unset, .unset] [(.ref b99)] _
      refine XS.iload X136.here hx rfl (hb hby at_100) rfl ?_
      exact kX
    obtain ⟨cq139, kq139, q139a, q139b, q139c⟩ := isOf hZ e135 E_a131
    obtain ⟨_, _, ⟨T139, L139, k139, n139⟩, -, X139, ⟨Lc139, hQ139, l139, y139, z139⟩, st139⟩ := X136.virtualBack hx (y := (⟨"com/example/farcall/farcall/io/XdrEncoder", "endPart", "(I)V"⟩ : MethodName)) (z := (⟨"com/example/farcall/farcall/io/XdrEncoder", "endPart", "(I)V"⟩ : MethodName)) hown (mvT hZ (hw _ (List.mem_of_getElem? (i := 77) rfl))) (mvT hZ (hw _ (List.mem_of_getElem? (i := 78) rfl))) (notFace_of_selects (args := #[]) (mvT hZ (hw _ (List.mem_of_getElem? (i := 80) rfl)))) (mvT hZ (hw _ (List.mem_of_getElem? (i := 80) rfl))) (mvT hZ (hw _ (List.mem_of_getElem? (i := 79) rfl))) (by decide) (backOf (W := 0) (rm11 l Z a0 hw [] b99 (0 : Int32) bb107 ((own_put (own_put (own_put (own_put (own_put (fun _ : Nat => (0 : Int32)) 0 i4) 4 i0) 8 i1) 12 i2) (4 + O) i3)) 4 16 0 T131.heap n0 Z131 E_a131 F_buf131 F_sta131 F_end131 A_b131 ne_ab131 fg131 g_a131 g_b131 rfl (by decide) (by decide)) hZ (hw _ (List.mem_of_getElem? (i := 81) rfl)) (hw _ (List.mem_of_getElem? (i := 4) rfl)) (by decide) (by decide)) q139a q139c (g := (mkF m 102 #[iv i0, iv i1, iv i2, iv i3, iv i4, iv i5, iv of, iv (1 : Int32), rv b99, iv (0 : Int32), iv (12 : Int32), .unset, .unset, .unset] [(.int (0 : Int32)), (.ref b99)])) rfl (by rw [hml]; rfl) (Steps.refl _) (argsL := [(.int (0 : Int32))]) (rest := []) (lenOf pd0_6 rfl) rfl (by show 2 * 0 + _ ≤ _; exact Nat.le_of_eq rfl) (hb hby at_102) (fun _ _ => ⟨rfl, e135, (by decide : 2 + 0 ≤ _), (by decide : 68 + 0 ≤ _)⟩)
    dsimp only [Pt.U, Pt.locs, Pt.cells, Pt.slots] at X139 l139 y139 z139 st139 hQ139
    subst l139 y139 z139
    obtain ⟨rfl, Nq139, Kq139, E_a139, F_buf139, F_sta139, F_end139, A_b139, ne_ab139, fg139, g_a139, g_b139⟩ := hQ139
    have N139 := Fr.app N136 Nq139
    have e139 : T139.heap = T139.heap := rfl
    have Z139 : n0 ≤ T139.heap.size := Nat.le_trans Z131 Kq139.1
    obtain ⟨LL140, X140, N140⟩ : ∃ LL, Stand p l e room_1 s m #[(.int i0), (.int i1), (.int i2), (.int i3), (.int i4), (.int i5)] below meth c T139 LL 2 68 ∧ Fr n0 LL := ⟨_, X139, N139⟩
    have pre141 : ∀ t, own_s p e below T139 m 105 #[iv i0, iv i1, iv i2, iv i3, iv i4, iv i5, iv of, iv (1 : Int32), rv b99, iv (0 : Int32), iv (12 : Int32), .unset, .unset, .unset] [] t → Steps p.tables e below S0 t := fun tX kX => pre138 _ (st139.trans kX)
    have pre142 : ∀ t, own_s p e below T139 m 107 #[iv i0, iv i1, iv i2, iv i3, iv i4, iv i5, iv of, iv (1 : Int32), rv b99, iv (0 : Int32), iv (12 : Int32), .unset, .unset, .unset] [(.ref b99)] t → Steps p.tables e below S0 t := by
      intro tX kX
      refine pre141 _ ?_
      show own_s p e below T139 m 105 #[iv i0, iv i1, iv i2, iv i3, iv i4, iv i5, iv of, iv (1 : Int32), rv b99, iv (0 : Int32), iv (12 : Int32), .unset, .unset, .unset] [] _
      refine XS.aload X140.here hx rfl (hb hby at_105) rfl rfl ?_
      exact kX
    obtain ⟨cq143, kq143, q143a, q143b, q143c⟩ := isOf hZ e139 E_a139
    obtain ⟨_, _, ⟨T143, L143, k143, n143⟩, -, X143, ⟨Lc143, hQ143, l143, y143, z143⟩, st143⟩ := X140.virtualBack hx (y := (⟨"com/example/farcall/farcall/io/XdrEncoder", "toByteArray", "()[B"⟩ : MethodName)) (z := (⟨"com/example/farcall/farcall/io/XdrEncoder", "toByteArray", "()[B"⟩ : MethodName)) hown (mvT hZ (hw _ (List.mem_of_getElem? (i := 39) rfl))) (mvT hZ (hw _ (List.mem_of_getElem? (i := 40) rfl))) (notFace_of_selects (args := #[]) (mvT hZ (hw _ (List.mem_of_getElem? (i := 42) rfl)))) (mvT hZ (hw _ (List.mem_of_getElem? (i := 42) rfl))) (mvT hZ (hw _ (List.mem_of_getElem? (i := 41) rfl))) (by decide) (backOf (W := 0) (rm5 l Z a0 hw [] b99 bb107 ((own_put (own_put (own_put (own_put (own_put (fun _ : Nat => (0 : Int32)) 0 i4) 4 i0) 8 i1) 12 i2) (4 + O) i3)) 0 16 T139.heap n0 Z139 E_a139 F_buf139 F_sta139 F_end139 A_b139 ne_ab139 fg139 g_a139 g_b139 (by decide) (by decide) (by decide)) hZ (hw _ (List.mem_of_getElem? (i := 43) rfl)) (hw _ (List.mem_of_getElem? (i := 4) rfl)) (by decide) (by decide)) q143a q143c (g := (mkF m 107 #[iv i0, iv i1, iv i2, iv i3, iv i4, iv i5, iv of, iv (1 : Int32), rv b99, iv (0 : Int32), iv (12 : Int32), .unset, .unset, .unset] [(.ref b99)])) rfl (by rw [hml]; rfl) (Steps.refl _) (argsL := []) (rest := []) (lenOf pd0_4 rfl) rfl (by show 2 * 0 + _ ≤ _; exact Nat.le_of_eq rfl) (hb hby at_107) (fun _ _ => ⟨rfl, e139, (by decide : 2 + 1 ≤ _), (by decide : 68 + 64 ≤ _)⟩)
    dsimp only [Pt.U, Pt.locs, Pt.cells, Pt.slots] at X143 l143 y143 z143 st143 hQ143
    subst l143 y143 z143
    obtain ⟨r143, rfl, Nq143, Kq143, sz_r143, g_r143, fA143⟩ := hQ143
    have N143 := Fr.app N140 Nq143
    have e143 : T143.heap = T143.heap := rfl
    have Z143 : n0 ≤ T143.heap.size := Nat.le_trans Z139 Kq143.1
    have ne144 : b99 ≠ r143 := Nat.ne_of_lt (Nat.lt_of_lt_of_le E_a139.lt sz_r143)
    have ne145 : bb107 ≠ r143 := Nat.ne_of_lt (Nat.lt_of_lt_of_le A_b139.lt sz_r143)
    have f146_E : Exa Z T143.heap b99 "com/example/farcall/farcall/io/XdrEncoder" := E_a139.keep Kq143
    have f147_F : Fld Z T143.heap b99 "com/example/farcall/farcall/io/XdrEncoder" "buffer" "[B" (.ref bb107) := F_buf139.keep Kq143 nin0
    have f148_F : Fld Z T143.heap b99 "com/example/farcall/farcall/io/XdrEncoder" "start" "I" (.int (Int32.ofNat 0)) := F_sta139.keep Kq143 nin0
    have f149_F : Fld Z T143.heap b99 "com/example/farcall/farcall/io/XdrEncoder" "end" "I" (.int (Int32.ofNat 16)) := F_end139.keep Kq143 nin0
    have f150_A : own_Af Z T143.heap bb107 .byte 64 (fun j => .int ((own_put (own_put (own_put (own_put (own_put (fun _ : Nat => (0 : Int32)) 0 i4) 4 i0) 8 i1) 12 i2) (4 + O) i3) j)) := A_b139.keep Kq143 nin0
    obtain ⟨LL151, X151, N151⟩ : ∃ LL, Stand p l e room_1 s m #[(.int i0), (.int i1), (.int i2), (.int i3), (.int i4), (.int i5)] below meth c T143 LL 3 132 ∧ Fr n0 LL := ⟨_, X143, N143⟩
    have pre152 : ∀ t, own_s p e below T143 m 110 #[iv i0, iv i1, iv i2, iv i3, iv i4, iv i5, iv of, iv (1 : Int32), rv b99, iv (0 : Int32), iv (12 : Int32), .unset, .unset, .unset] [(.ref r143)] t → Steps p.tables e below S0 t := fun tX kX => pre142 _ (st143.trans kX)
    have pre154 : ∀ t, own_s p e below T143 m 135 #[iv i0, iv i1, iv i2, iv i3, iv i4, iv i5, iv of, iv (1 : Int32), rv b99, iv (0 : Int32), iv (12 : Int32), rv r143, iv (4 : Int32), .unset] [(.ref r143)] t → Steps p.tables e below S0 t := by
      intro tX kX
      refine pre152 _ ?_
      show own_s p e below T143 m 110 #[iv i0, iv i1, iv i2, iv i3, iv i4, iv i5, iv of, iv (1 : Int32), rv b99, iv (0 : Int32), iv (12 : Int32), .unset, .unset, .unset] [(.ref r143)] _
      refine XS.astore X151.here hx rfl (hb hby at_110) rfl rfl (l' := #[iv i0, iv i1, iv i2, iv i3, iv i4, iv i5, iv of, iv (1 : Int32), rv b99, iv (0 : Int32), iv (12 : Int32), rv r143, .unset, .unset]) rfl ?_
      show own_s p e below T143 m 112 #[iv i0, iv i1, iv i2, iv i3, iv i4, iv i5, iv of, iv (1 : Int32), rv b99, iv (0 : Int32), iv (12 : Int32), rv r143, .unset, .unset] [] _
      refine XS.iload X151.here hx rfl (hb hby at_112) rfl ?_
      show own_s p e below T143 m 114 #[iv i0, iv i1, iv i2, iv i3, iv i4, iv i5, iv of, iv (1 : Int32), rv b99, iv (0 : Int32), iv (12 : Int32), rv r143, .unset, .unset] [(.int (1 : Int32))] _
      refine XS.ifNo X151.here hx rfl (hb hby at_114) rfl ((if0 _ _).trans (feq (by decide : ¬ ((1 : Int32) = (0 : Int32)))).1) ?_
      show own_s p e below T143 m 117 #[iv i0, iv i1, iv i2, iv i3, iv i4, iv i5, iv of, iv (1 : Int32), rv b99, iv (0 : Int32), iv (12 : Int32), rv r143, .unset, .unset] [] _
      refine XS.iconst X151.here hx rfl (hb hby at_117) ?_
      show own_s p e below T143 m 118 #[iv i0, iv i1, iv i2, iv i3, iv i4, iv i5, iv of, iv (1 : Int32), rv b99, iv (0 : Int32), iv (12 : Int32), rv r143, .unset, .unset] [(.int (4 : Int32))] _
      refine XS.goto X151.here hx rfl (pc0 := 118) (pc' := 122) rfl (hb hby at_118) (by decide) (by decide) ?_
      show own_s p e below T143 m 122 #[iv i0, iv i1, iv i2, iv i3, iv i4, iv i5, iv of, iv (1 : Int32), rv b99, iv (0 : Int32), iv (12 : Int32), rv r143, .unset, .unset] [(.int (4 : Int32))] _
      refine XS.istore X151.here hx rfl (hb hby at_122) rfl (l' := #[iv i0, iv i1, iv i2, iv i3, iv i4, iv i5, iv of, iv (1 : Int32), rv b99, iv (0 : Int32), iv (12 : Int32), rv r143, iv (4 : Int32), .unset]) rfl ?_
      show own_s p e below T143 m 124 #[iv i0, iv i1, iv i2, iv i3, iv i4, iv i5, iv of, iv (1 : Int32), rv b99, iv (0 : Int32), iv (12 : Int32), rv r143, iv (4 : Int32), .unset] [] _
      refine XS.iload X151.here hx rfl (hb hby at_124) rfl ?_
      show own_s p e below T143 m 126 #[iv i0, iv i1, iv i2, iv i3, iv i4, iv i5, iv of, iv (1 : Int32), rv b99, iv (0 : Int32), iv (12 : Int32), rv r143, iv (4 : Int32), .unset] [(.int (12 : Int32))] _
      refine XS.bipush X151.here hx rfl (hb hby at_126) ?_
      show own_s p e below T143 m 128 #[iv i0, iv i1, iv i2, iv i3, iv i4, iv i5, iv of, iv (1 : Int32), rv b99, iv (0 : Int32), iv (12 : Int32), rv r143, iv (4 : Int32), .unset] [(.int (12 : Int32)), (.int (12 : Int32))] _
      refine XS.icmpYes X151.here hx rfl (pc0 := 128) (pc' := 133) rfl (hb hby at_128) rfl (teq (by decide : (12 : Int32) = (12 : Int32))).1 (by decide) (by decide) ?_
      show own_s p e below T143 m 133 #[iv i0, iv i1, iv i2, iv i3, iv i4, iv i5, iv of, iv (1 : Int32), rv b99, iv (0 : Int32), iv (12 : Int32), rv r143, iv (4 : Int32), .unset] [] _
      refine XS.aload X151.here hx rfl (hb hby at_133) rfl rfl ?_
      exact kX
    obtain ⟨cl153, Ar153, S153, M153, H153⟩ := id fA143
    have pre156 : ∀ t, own_s p e below T143 m 154 #[iv i0, iv i1, iv i2, iv i3, iv i4, iv i5, iv of, iv (1 : Int32), rv b99, iv (0 : Int32), iv (12 : Int32), rv r143, iv (4 : Int32), .unset] [(.int (0 : Int32)), (.ref r143)] t → Steps p.tables e below S0 t := by
      intro tX kX
      refine pre154 _ ?_
      show own_s p e below T143 m 135 #[iv i0, iv i1, iv i2, iv i3, iv i4, iv i5, iv of, iv (1 : Int32), rv b99, iv (0 : Int32), iv (12 : Int32), rv r143, iv (4 : Int32), .unset] [(.ref r143)] _
      refine X151.arraylength hx (by rw [e143]; exact Ar153.1) (State.isArrayOf_alike hZ.alike Ar153.2.1) (g := (mkF m 135 #[iv i0, iv i1, iv i2, iv i3, iv i4, iv i5, iv of, iv (1 : Int32), rv b99, iv (0 : Int32), iv (12 : Int32), rv r143, iv (4 : Int32), .unset] [(.ref r143)])) rfl rfl (hb hby at_135) _ ?_
      rw [show cl153.slots.size.toInt32 = (16 : Int32) from by rw [S153]; exact rfl]
      show own_s p e below T143 m 136 #[iv i0, iv i1, iv i2, iv i3, iv i4, iv i5, iv of, iv (1 : Int32), rv b99, iv (0 : Int32), iv (12 : Int32), rv r143, iv (4 : Int32), .unset] [(.int (16 : Int32))] _
      refine XS.iload X151.here hx rfl (hb hby at_136) rfl ?_
      show own_s p e below T143 m 138 #[iv i0, iv i1, iv i2, iv i3, iv i4, iv i5, iv of, iv (1 : Int32), rv b99, iv (0 : Int32), iv (12 : Int32), rv r143, iv (4 : Int32), .unset] [(.int (4 : Int32)), (.int (16 : Int32))] _
      refine XS.bipush X151.here hx rfl (hb hby at_138) ?_
      show own_s p e below T143 m 140 #[iv i0, iv i1, iv i2, iv i3, iv i4, iv i5, iv of, iv (1 : Int32), rv b99, iv (0 : Int32), iv (12 : Int32), rv r143, iv (4 : Int32), .unset] [(.int (12 : Int32)), (.int (4 : Int32)), (.int (16 : Int32))] _
      refine XS.iadd X151.here hx rfl (hb hby at_140) rfl ?_
      show own_s p e below T143 m 141 #[iv i0, iv i1, iv i2, iv i3, iv i4, iv i5, iv of, iv (1 : Int32), rv b99, iv (0 : Int32), iv (12 : Int32), rv r143, iv (4 : Int32), .unset] [(.int (16 : Int32)), (.int (16 : Int32))] _
      refine XS.icmpYes X151.here hx rfl (pc0 := 141) (pc' := 146) rfl (hb hby at_141) rfl (teq (by decide : (16 : Int32) = (16 : Int32))).1 (by decide) (by decide) ?_
      show own_s p e below T143 m 146 #[iv i0, iv i1, iv i2, iv i3, iv i4, iv i5, iv of, iv (1 : Int32), rv b99, iv (0 : Int32), iv (12 : Int32), rv r143, iv (4 : Int32), .unset] [] _
      refine XS.iload X151.here hx rfl (hb hby at_146) rfl ?_
      show own_s p e below T143 m 148 #[iv i0, iv i1, iv i2, iv i3, iv i4, iv i5, iv of, iv (1 : Int32), rv b99, iv (0 : Int32), iv (12 : Int32), rv r143, iv (4 : Int32), .unset] [(.int (1 : Int32))] _
      refine XS.ifNo X151.here hx rfl (hb hby at_148) rfl ((if0 _ _).trans (feq (by decide : ¬ ((1 : Int32) = (0 : Int32)))).1) ?_
      show own_s p e below T143 m 151 #[iv i0, iv i1, iv i2, iv i3, iv i4, iv i5, iv of, iv (1 : Int32), rv b99, iv (0 : Int32), iv (12 : Int32), rv r143, iv (4 : Int32), .unset] [] _
      refine XS.aload X151.here hx rfl (hb hby at_151) rfl rfl ?_
      show own_s p e below T143 m 153 #[iv i0, iv i1, iv i2, iv i3, iv i4, iv i5, iv of, iv (1 : Int32), rv b99, iv (0 : Int32), iv (12 : Int32), rv r143, iv (4 : Int32), .unset] [(.ref r143)] _
      refine XS.iconst X151.here hx rfl (hb hby at_153) ?_
      exact kX
    obtain ⟨cl155, Ar155, S155, M155, H155⟩ := id fA143
    have pre157 : ∀ t, own_s p e below T143 m 158 #[iv i0, iv i1, iv i2, iv i3, iv i4, iv i5, iv of, iv (1 : Int32), rv b99, iv (0 : Int32), iv (12 : Int32), rv r143, iv (4 : Int32), .unset] [(.int (0 : Int32)), (.int i4), (.int (own_by i4 0))] t → Steps p.tables e below S0 t := by
      intro tX kX
      refine pre156 _ ?_
      show own_s p e below T143 m 154 #[iv i0, iv i1, iv i2, iv i3, iv i4, iv i5, iv of, iv (1 : Int32), rv b99, iv (0 : Int32), iv (12 : Int32), rv r143, iv (4 : Int32), .unset] [(.int (0 : Int32)), (.ref r143)] _
      refine X151.baloadBytes hx (j := (0 : Int32)) (v := (.int (own_by i4 0))) (by rw [e143]; exact Ar155.1) (State.isArrayOf_alike hZ.alike Ar155.2.1) Ar155.2.2 (own_inb S155 M155 (by decide)) (own_get H155 S155 (by decide) (show Value.int ((own_put (own_put (own_put (own_put (own_put (fun _ : Nat => (0 : Int32)) 0 i4) 4 i0) 8 i1) 12 i2) (4 + O) i3) (0 + 0)) = Value.int (own_by i4 0) from congrArg Value.int ((own_put_out (by omega)).trans ((own_put_out (by decide)).trans ((own_put_out (by decide)).trans ((own_put_out (by decide)).trans ((own_put_in (by decide) (by decide)).trans (congrArg (own_by i4) (show _ = 0 from by decide))))))))) (g := (mkF m 154 #[iv i0, iv i1, iv i2, iv i3, iv i4, iv i5, iv of, iv (1 : Int32), rv b99, iv (0 : Int32), iv (12 : Int32), rv r143, iv (4 : Int32), .unset] [(.int (0 : Int32)), (.ref r143)])) rfl rfl (hb hby at_154) _ ?_
      show own_s p e below T143 m 155 #[iv i0, iv i1, iv i2, iv i3, iv i4, iv i5, iv of, iv (1 : Int32), rv b99, iv (0 : Int32), iv (12 : Int32), rv r143, iv (4 : Int32), .unset] [(.int (own_by i4 0))] _
      refine XS.iload X151.here hx rfl (hb hby at_155) rfl ?_
      show own_s p e below T143 m 157 #[iv i0, iv i1, iv i2, iv i3, iv i4, iv i5, iv of, iv (1 : Int32), rv b99, iv (0 : Int32), iv (12 : Int32), rv r143, iv (4 : Int32), .unset] [(.int i4), (.int (own_by i4 0))] _
      refine XS.iconst X151.here hx rfl (hb hby at_157) ?_
      exact kX
    obtain ⟨_, _, ⟨T158, L158, k158, n158⟩, -, X158, ⟨Lc158, hQ158, l158, y158, z158⟩, st158⟩ := Jvm.LawKit.callS X151 hx (y := (⟨"com/example/farcall/farcall/io/XdrEncoderSetIntPinLaw", "intByte", "(II)B"⟩ : MethodName)) hown (mvT hZ (hw _ (List.mem_of_getElem? (i := 69) rfl))) (mvT hZ (hw _ (List.mem_of_getElem? (i := 70) rfl))) (mvT hZ (hw _ (List.mem_of_getElem? (i := 64) rfl))) (mvT hZ (hw _ (List.mem_of_getElem? (i := 71) rfl))) (by decide) (backOf (W := 1) (rm13 l Z a0 hw [] i4 (0 : Int32) 0 T143.heap n0 Z143 rfl (by decide)) hZ (hw _ (List.mem_of_getElem? (i := 71) rfl)) (hw _ (List.mem_of_getElem? (i := 64) rfl)) (by decide) (by decide)) (g := (mkF m 158 #[iv i0, iv i1, iv i2, iv i3, iv i4, iv i5, iv of, iv (1 : Int32), rv b99, iv (0 : Int32), iv (12 : Int32), rv r143, iv (4 : Int32), .unset] [(.int (0 : Int32)), (.int i4), (.int (own_by i4 0))])) rfl (by rw [hml]; rfl) (argsL := [(.int i4), (.int (0 : Int32))]) (rest := [(.int (own_by i4 0))]) (lenOf pd0_7 rfl) rfl (by show 2 * 0 + _ ≤ _; exact Nat.le_of_eq rfl) (hb hby at_158) (fun _ _ => ⟨rfl, e143, (by decide : 3 + 0 ≤ _), (by decide : 132 + 0 ≤ _)⟩)
    dsimp only [Pt.U, Pt.locs, Pt.cells, Pt.slots] at X158 l158 y158 z158 st158 hQ158
    subst l158 y158 z158
    obtain ⟨rfl, Nq158, e158⟩ := hQ158
    have N158 := Fr.app N151 Nq158
    obtain ⟨LL159, X159, N159⟩ : ∃ LL, Stand p l e room_1 s m #[(.int i0), (.int i1), (.int i2), (.int i3), (.int i4), (.int i5)] below meth c T158 LL 3 132 ∧ Fr n0 LL := ⟨_, X158, N158⟩
    have pre160 : ∀ t, own_s p e below T158 m 161 #[iv i0, iv i1, iv i2, iv i3, iv i4, iv i5, iv of, iv (1 : Int32), rv b99, iv (0 : Int32), iv (12 : Int32), rv r143, iv (4 : Int32), .unset] [(.int (own_by i4 0)), (.int (own_by i4 0))] t → Steps p.tables e below S0 t := fun tX kX => pre157 _ (st158 _ kX)
    have pre162 : ∀ t, own_s p e below T158 m 167 #[iv i0, iv i1, iv i2, iv i3, iv i4, iv i5, iv of, iv (1 : Int32), rv b99, iv (0 : Int32), iv (12 : Int32), rv r143, iv (4 : Int32), .unset] [(.int (1 : Int32)), (.ref r143)] t → Steps p.tables e below S0 t := by
      intro tX kX
      refine pre160 _ ?_
      show own_s p e below T158 m 161 #[iv i0, iv i1, iv i2, iv i3, iv i4, iv i5, iv of, iv (1 : Int32), rv b99, iv (0 : Int32), iv (12 : Int32), rv r143, iv (4 : Int32), .unset] [(.int (own_by i4 0)), (.int (own_by i4 0))] _
      refine XS.icmpNo X159.here hx rfl (hb hby at_161) rfl (teq (rfl : (own_by i4 0) = (own_by i4 0))).2 ?_
      show own_s p e below T158 m 164 #[iv i0, iv i1, iv i2, iv i3, iv i4, iv i5, iv of, iv (1 : Int32), rv b99, iv (0 : Int32), iv (12 : Int32), rv r143, iv (4 : Int32), .unset] [] _
      refine XS.aload X159.here hx rfl (hb hby at_164) rfl rfl ?_
      show own_s p e below T158 m 166 #[iv i0, iv i1, iv i2, iv i3, iv i4, iv i5, iv of, iv (1 : Int32), rv b99, iv (0 : Int32), iv (12 : Int32), rv r143, iv (4 : Int32), .unset] [(.ref r143)] _
      refine XS.iconst X159.here hx rfl (hb hby at_166) ?_
      exact kX
    obtain ⟨cl161, Ar161, S161, M161, H161⟩ := id fA143
    have pre163 : ∀ t, own_s p e below T158 m 171 #[iv i0, iv i1, iv i2, iv i3, iv i4, iv i5, iv of, iv (1 : Int32), rv b99, iv (0 : Int32), iv (12 : Int32), rv r143, iv (4 : Int32), .unset] [(.int (1 : Int32)), (.int i4), (.int (own_by i4 1))] t → Steps p.tables e below S0 t := by
      intro tX kX
      refine pre162 _ ?_
      show own_s p e below T158 m 167 #[iv i0, iv i1, iv i2, iv i3, iv i4, iv i5, iv of, iv (1 : Int32), rv b99, iv (0 : Int32), iv (12 : Int32), rv r143, iv (4 : Int32), .unset] [(.int (1 : Int32)), (.ref r143)] _
      refine X159.baloadBytes hx (j := (1 : Int32)) (v := (.int (own_by i4 1))) (by rw [e158]; exact Ar161.1) (State.isArrayOf_alike hZ.alike Ar161.2.1) Ar161.2.2 (own_inb S161 M161 (by decide)) (own_get H161 S161 (by decide) (show Value.int ((own_put (own_put (own_put (own_put (own_put (fun _ : Nat => (0 : Int32)) 0 i4) 4 i0) 8 i1) 12 i2) (4 + O) i3) (0 + 1)) = Value.int (own_by i4 1) from congrArg Value.int ((own_put_out (by omega)).trans ((own_put_out (by decide)).trans ((own_put_out (by decide)).trans ((own_put_out (by decide)).trans ((own_put_in (by decide) (by decide)).trans (congrArg (own_by i4) (show _ = 1 from by decide))))))))) (g := (mkF m 167 #[iv i0, iv i1, iv i2, iv i3, iv i4, iv i5, iv of, iv (1 : Int32), rv b99, iv (0 : Int32), iv (12 : Int32), rv r143, iv (4 : Int32), .unset] [(.int (1 : Int32)), (.ref r143)])) rfl rfl (hb hby at_167) _ ?_
      show own_s p e below T158 m 168 #[iv i0, iv i1, iv i2, iv i3, iv i4, iv i5, iv of, iv (1 : Int32), rv b99, iv (0 : Int32), iv (12 : Int32), rv r143, iv (4 : Int32), .unset] [(.int (own_by i4 1))] _
      refine XS.iload X159.here hx rfl (hb hby at_168) rfl ?_
      show own_s p e below T158 m 170 #[iv i0, iv i1, iv i2, iv i3, iv i4, iv i5, iv of, iv (1 : Int32), rv b99, iv (0 : Int32), iv (12 : Int32), rv r143, iv (4 : Int32), .unset] [(.int i4), (.int (own_by i4 1))] _
      refine XS.iconst X159.here hx rfl (hb hby at_170) ?_
      exact kX
    obtain ⟨_, _, ⟨T164, L164, k164, n164⟩, -, X164, ⟨Lc164, hQ164, l164, y164, z164⟩, st164⟩ := Jvm.LawKit.callS X159 hx (y := (⟨"com/example/farcall/farcall/io/XdrEncoderSetIntPinLaw", "intByte", "(II)B"⟩ : MethodName)) hown (mvT hZ (hw _ (List.mem_of_getElem? (i := 69) rfl))) (mvT hZ (hw _ (List.mem_of_getElem? (i := 70) rfl))) (mvT hZ (hw _ (List.mem_of_getElem? (i := 64) rfl))) (mvT hZ (hw _ (List.mem_of_getElem? (i := 71) rfl))) (by decide) (backOf (W := 1) (rm13 l Z a0 hw [] i4 (1 : Int32) 1 T143.heap n0 Z143 rfl (by decide)) hZ (hw _ (List.mem_of_getElem? (i := 71) rfl)) (hw _ (List.mem_of_getElem? (i := 64) rfl)) (by decide) (by decide)) (g := (mkF m 171 #[iv i0, iv i1, iv i2, iv i3, iv i4, iv i5, iv of, iv (1 : Int32), rv b99, iv (0 : Int32), iv (12 : Int32), rv r143, iv (4 : Int32), .unset] [(.int (1 : Int32)), (.int i4), (.int (own_by i4 1))])) rfl (by rw [hml]; rfl) (argsL := [(.int i4), (.int (1 : Int32))]) (rest := [(.int (own_by i4 1))]) (lenOf pd0_7 rfl) rfl (by show 2 * 0 + _ ≤ _; exact Nat.le_of_eq rfl) (hb hby at_171) (fun _ _ => ⟨rfl, e158, (by decide : 3 + 0 ≤ _), (by decide : 132 + 0 ≤ _)⟩)
    dsimp only [Pt.U, Pt.locs, Pt.cells, Pt.slots] at X164 l164 y164 z164 st164 hQ164
    subst l164 y164 z164
    obtain ⟨rfl, Nq164, e164⟩ := hQ164
    have N164 := Fr.app N159 Nq164
    obtain ⟨LL165, X165, N165⟩ : ∃ LL, Stand p l e room_1 s m #[(.int i0), (.int i1), (.int i2), (.int i3), (.int i4), (.int i5)] below meth c T164 LL 3 132 ∧ Fr n0 LL := ⟨_, X164, N164⟩
    have pre166 : ∀ t, own_s p e below T164 m 174 #[iv i0, iv i1, iv i2, iv i3, iv i4, iv i5, iv of, iv (1 : Int32), rv b99, iv (0 : Int32), iv (12 : Int32), rv r143, iv (4 : Int32), .unset] [(.int (own_by i4 1)), (.int (own_by i4 1))] t → Steps p.tables e below S0 t := fun tX kX => pre163 _ (st164 _ kX)
    have pre168 : ∀ t, own_s p e below T164 m 180 #[iv i0, iv i1, iv i2, iv i3, iv i4, iv i5, iv of, iv (1 : Int32), rv b99, iv (0 : Int32), iv (12 : Int32), rv r143, iv (4 : Int32), .unset] [(.int (2 : Int32)), (.ref r143)] t → Steps p.tables e below S0 t := by
      intro tX kX
      refine pre166 _ ?_
      show own_s p e below T164 m 174 #[iv i0, iv i1, iv i2, iv i3, iv i4, iv i5, iv of, iv (1 : Int32), rv b99, iv (0 : Int32), iv (12 : Int32), rv r143, iv (4 : Int32), .unset] [(.int (own_by i4 1)), (.int (own_by i4 1))] _
      refine XS.icmpNo X165.here hx rfl (hb hby at_174) rfl (teq (rfl : (own_by i4 1) = (own_by i4 1))).2 ?_
      show own_s p e below T164 m 177 #[iv i0, iv i1, iv i2, iv i3, iv i4, iv i5, iv of, iv (1 : Int32), rv b99, iv (0 : Int32), iv (12 : Int32), rv r143, iv (4 : Int32), .unset] [] _
      refine XS.aload X165.here hx rfl (hb hby at_177) rfl rfl ?_
      show own_s p e below T164 m 179 #[iv i0, iv i1, iv i2, iv i3, iv i4, iv i5, iv of, iv (1 : Int32), rv b99, iv (0 : Int32), iv (12 : Int32), rv r143, iv (4 : Int32), .unset] [(.ref r143)] _
      refine XS.iconst X165.here hx rfl (hb hby at_179) ?_
      exact kX
    obtain ⟨cl167, Ar167, S167, M167, H167⟩ := id fA143
    have pre169 : ∀ t, own_s p e below T164 m 184 #[iv i0, iv i1, iv i2, iv i3, iv i4, iv i5, iv of, iv (1 : Int32), rv b99, iv (0 : Int32), iv (12 : Int32), rv r143, iv (4 : Int32), .unset] [(.int (2 : Int32)), (.int i4), (.int (own_by i4 2))] t → Steps p.tables e below S0 t := by
      intro tX kX
      refine pre168 _ ?_
      show own_s p e below T164 m 180 #[iv i0, iv i1, iv i2, iv i3, iv i4, iv i5, iv of, iv (1 : Int32), rv b99, iv (0 : Int32), iv (12 : Int32), rv r143, iv (4 : Int32), .unset] [(.int (2 : Int32)), (.ref r143)] _
      refine X165.baloadBytes hx (j := (2 : Int32)) (v := (.int (own_by i4 2))) (by rw [e164]; exact Ar167.1) (State.isArrayOf_alike hZ.alike Ar167.2.1) Ar167.2.2 (own_inb S167 M167 (by decide)) (own_get H167 S167 (by decide) (show Value.int ((own_put (own_put (own_put (own_put (own_put (fun _ : Nat => (0 : Int32)) 0 i4) 4 i0) 8 i1) 12 i2) (4 + O) i3) (0 + 2)) = Value.int (own_by i4 2) from congrArg Value.int ((own_put_out (by omega)).trans ((own_put_out (by decide)).trans ((own_put_out (by decide)).trans ((own_put_out (by decide)).trans ((own_put_in (by decide) (by decide)).trans (congrArg (own_by i4) (show _ = 2 from by decide))))))))) (g := (mkF m 180 #[iv i0, iv i1, iv i2, iv i3, iv i4, iv i5, iv of, iv (1 : Int32), rv b99, iv (0 : Int32), iv (12 : Int32), rv r143, iv (4 : Int32), .unset] [(.int (2 : Int32)), (.ref r143)])) rfl rfl (hb hby at_180) _ ?_
      show own_s p e below T164 m 181 #[iv i0, iv i1, iv i2, iv i3, iv i4, iv i5, iv of, iv (1 : Int32), rv b99, iv (0 : Int32), iv (12 : Int32), rv r143, iv (4 : Int32), .unset] [(.int (own_by i4 2))] _
      refine XS.iload X165.here hx rfl (hb hby at_181) rfl ?_
      show own_s p e below T164 m 183 #[iv i0, iv i1, iv i2, iv i3, iv i4, iv i5, iv of, iv (1 : Int32), rv b99, iv (0 : Int32), iv (12 : Int32), rv r143, iv (4 : Int32), .unset] [(.int i4), (.int (own_by i4 2))] _
      refine XS.iconst X165.here hx rfl (hb hby at_183) ?_
      exact kX
    obtain ⟨_, _, ⟨T170, L170, k170, n170⟩, -, X170, ⟨Lc170, hQ170, l170, y170, z170⟩, st170⟩ := Jvm.LawKit.callS X165 hx (y := (⟨"com/example/farcall/farcall/io/XdrEncoderSetIntPinLaw", "intByte", "(II)B"⟩ : MethodName)) hown (mvT hZ (hw _ (List.mem_of_getElem? (i := 69) rfl))) (mvT hZ (hw _ (List.mem_of_getElem? (i := 70) rfl))) (mvT hZ (hw _ (List.mem_of_getElem? (i := 64) rfl))) (mvT hZ (hw _ (List.mem_of_getElem? (i := 71) rfl))) (by decide) (backOf (W := 1) (rm13 l Z a0 hw [] i4 (2 : Int32) 2 T143.heap n0 Z143 rfl (by decide)) hZ (hw _ (List.mem_of_getElem? (i := 71) rfl)) (hw _ (List.mem_of_getElem? (i := 64) rfl)) (by decide) (by decide)) (g := (mkF m 184 #[iv i0, iv i1, iv i2, iv i3, iv i4, iv i5, iv of, iv (1 : Int32), rv b99, iv (0 : Int32), iv (12 : Int32), rv r143, iv (4 : Int32), .unset] [(.int (2 : Int32)), (.int i4), (.int (own_by i4 2))])) rfl (by rw [hml]; rfl) (argsL := [(.int i4), (.int (2 : Int32))]) (rest := [(.int (own_by i4 2))]) (lenOf pd0_7 rfl) rfl (by show 2 * 0 + _ ≤ _; exact Nat.le_of_eq rfl) (hb hby at_184) (fun _ _ => ⟨rfl, e164, (by decide : 3 + 0 ≤ _), (by decide : 132 + 0 ≤ _)⟩)
    dsimp only [Pt.U, Pt.locs, Pt.cells, Pt.slots] at X170 l170 y170 z170 st170 hQ170
    subst l170 y170 z170
    obtain ⟨rfl, Nq170, e170⟩ := hQ170
    have N170 := Fr.app N165 Nq170
    obtain ⟨LL171, X171, N171⟩ : ∃ LL, Stand p l e room_1 s m #[(.int i0), (.int i1), (.int i2), (.int i3), (.int i4), (.int i5)] below meth c T170 LL 3 132 ∧ Fr n0 LL := ⟨_, X170, N170⟩
    have pre172 : ∀ t, own_s p e below T170 m 187 #[iv i0, iv i1, iv i2, iv i3, iv i4, iv i5, iv of, iv (1 : Int32), rv b99, iv (0 : Int32), iv (12 : Int32), rv r143, iv (4 : Int32), .unset] [(.int (own_by i4 2)), (.int (own_by i4 2))] t → Steps p.tables e below S0 t := fun tX kX => pre169 _ (st170 _ kX)
    have pre174 : ∀ t, own_s p e below T170 m 193 #[iv i0, iv i1, iv i2, iv i3, iv i4, iv i5, iv of, iv (1 : Int32), rv b99, iv (0 : Int32), iv (12 : Int32), rv r143, iv (4 : Int32), .unset] [(.int (3 : Int32)), (.ref r143)] t → Steps p.tables e below S0 t := by
      intro tX kX
      refine pre172 _ ?_
      show own_s p e below T170 m 187 #[iv i0, iv i1, iv i2, iv i3, iv i4, iv i5, iv of, iv (1 : Int32), rv b99, iv (0 : Int32), iv (12 : Int32), rv r143, iv (4 : Int32), .unset] [(.int (own_by i4 2)), (.int (own_by i4 2))] _
      refine XS.icmpNo X171.here hx rfl (hb hby at_187) rfl (teq (rfl : (own_by i4 2) = (own_by i4 2))).2 ?_
      show own_s p e below T170 m 190 #[iv i0, iv i1, iv i2, iv i3, iv i4, iv i5, iv of, iv (1 : Int32), rv b99, iv (0 : Int32), iv (12 : Int32), rv r143, iv (4 : Int32), .unset] [] _
      refine XS.aload X171.here hx rfl (hb hby at_190) rfl rfl ?_
      show own_s p e below T170 m 192 #[iv i0, iv i1, iv i2, iv i3, iv i4, iv i5, iv of, iv (1 : Int32), rv b99, iv (0 : Int32), iv (12 : Int32), rv r143, iv (4 : Int32), .unset] [(.ref r143)] _
      refine XS.iconst X171.here hx rfl (hb hby at_192) ?_
      exact kX
    obtain ⟨cl173, Ar173, S173, M173, H173⟩ := id fA143
    have pre175 : ∀ t, own_s p e below T170 m 197 #[iv i0, iv i1, iv i2, iv i3, iv i4, iv i5, iv of, iv (1 : Int32), rv b99, iv (0 : Int32), iv (12 : Int32), rv r143, iv (4 : Int32), .unset] [(.int (3 : Int32)), (.int i4), (.int (own_by i4 3))] t → Steps p.tables e below S0 t := by
      intro tX kX
      refine pre174 _ ?_
      show own_s p e below T170 m 193 #[iv i0, iv i1, iv i2, iv i3, iv i4, iv i5, iv of, iv (1 : Int32), rv b99, iv (0 : Int32), iv (12 : Int32), rv r143, iv (4 : Int32), .unset] [(.int (3 : Int32)), (.ref r143)] _
      refine X171.baloadBytes hx (j := (3 : Int32)) (v := (.int (own_by i4 3))) (by rw [e170]; exact Ar173.1) (State.isArrayOf_alike hZ.alike Ar173.2.1) Ar173.2.2 (own_inb S173 M173 (by decide)) (own_get H173 S173 (by decide) (show Value.int ((own_put (own_put (own_put (own_put (own_put (fun _ : Nat => (0 : Int32)) 0 i4) 4 i0) 8 i1) 12 i2) (4 + O) i3) (0 + 3)) = Value.int (own_by i4 3) from congrArg Value.int ((own_put_out (by omega)).trans ((own_put_out (by decide)).trans ((own_put_out (by decide)).trans ((own_put_out (by decide)).trans ((own_put_in (by decide) (by decide)).trans (congrArg (own_by i4) (show _ = 3 from by decide))))))))) (g := (mkF m 193 #[iv i0, iv i1, iv i2, iv i3, iv i4, iv i5, iv of, iv (1 : Int32), rv b99, iv (0 : Int32), iv (12 : Int32), rv r143, iv (4 : Int32), .unset] [(.int (3 : Int32)), (.ref r143)])) rfl rfl (hb hby at_193) _ ?_
      show own_s p e below T170 m 194 #[iv i0, iv i1, iv i2, iv i3, iv i4, iv i5, iv of, iv (1 : Int32), rv b99, iv (0 : Int32), iv (12 : Int32), rv r143, iv (4 : Int32), .unset] [(.int (own_by i4 3))] _
      refine XS.iload X171.here hx rfl (hb hby at_194) rfl ?_
      show own_s p e below T170 m 196 #[iv i0, iv i1, iv i2, iv i3, iv i4, iv i5, iv of, iv (1 : Int32), rv b99, iv (0 : Int32), iv (12 : Int32), rv r143, iv (4 : Int32), .unset] [(.int i4), (.int (own_by i4 3))] _
      refine XS.iconst X171.here hx rfl (hb hby at_196) ?_
      exact kX
    obtain ⟨_, _, ⟨T176, L176, k176, n176⟩, -, X176, ⟨Lc176, hQ176, l176, y176, z176⟩, st176⟩ := Jvm.LawKit.callS X171 hx (y := (⟨"com/example/farcall/farcall/io/XdrEncoderSetIntPinLaw", "intByte", "(II)B"⟩ : MethodName)) hown (mvT hZ (hw _ (List.mem_of_getElem? (i := 69) rfl))) (mvT hZ (hw _ (List.mem_of_getElem? (i := 70) rfl))) (mvT hZ (hw _ (List.mem_of_getElem? (i := 64) rfl))) (mvT hZ (hw _ (List.mem_of_getElem? (i := 71) rfl))) (by decide) (backOf (W := 1) (rm13 l Z a0 hw [] i4 (3 : Int32) 3 T143.heap n0 Z143 rfl (by decide)) hZ (hw _ (List.mem_of_getElem? (i := 71) rfl)) (hw _ (List.mem_of_getElem? (i := 64) rfl)) (by decide) (by decide)) (g := (mkF m 197 #[iv i0, iv i1, iv i2, iv i3, iv i4, iv i5, iv of, iv (1 : Int32), rv b99, iv (0 : Int32), iv (12 : Int32), rv r143, iv (4 : Int32), .unset] [(.int (3 : Int32)), (.int i4), (.int (own_by i4 3))])) rfl (by rw [hml]; rfl) (argsL := [(.int i4), (.int (3 : Int32))]) (rest := [(.int (own_by i4 3))]) (lenOf pd0_7 rfl) rfl (by show 2 * 0 + _ ≤ _; exact Nat.le_of_eq rfl) (hb hby at_197) (fun _ _ => ⟨rfl, e170, (by decide : 3 + 0 ≤ _), (by decide : 132 + 0 ≤ _)⟩)
    dsimp only [Pt.U, Pt.locs, Pt.cells, Pt.slots] at X176 l176 y176 z176 st176 hQ176
    subst l176 y176 z176
    obtain ⟨rfl, Nq176, e176⟩ := hQ176
    have N176 := Fr.app N171 Nq176
    obtain ⟨LL177, X177, N177⟩ : ∃ LL, Stand p l e room_1 s m #[(.int i0), (.int i1), (.int i2), (.int i3), (.int i4), (.int i5)] below meth c T176 LL 3 132 ∧ Fr n0 LL := ⟨_, X176, N176⟩
    have pre178 : ∀ t, own_s p e below T176 m 200 #[iv i0, iv i1, iv i2, iv i3, iv i4, iv i5, iv of, iv (1 : Int32), rv b99, iv (0 : Int32), iv (12 : Int32), rv r143, iv (4 : Int32), .unset] [(.int (own_by i4 3)), (.int (own_by i4 3))] t → Steps p.tables e below S0 t := fun tX kX => pre175 _ (st176 _ kX)
    have pre179 : ∀ t, own_s p e below T176 m 226 #[iv i0, iv i1, iv i2, iv i3, iv i4, iv i5, iv of, iv (1 : Int32), rv b99, iv (0 : Int32), iv (12 : Int32), rv r143, iv (4 : Int32), iv (1 : Int32)] [(.int i2), (.int i1), (.int i0), (.int i3), (.int of), (.int (0 : Int32)), (.int (4 : Int32)), (.ref r143)] t → Steps p.tables e below S0 t := by
      intro tX kX
      refine pre178 _ ?_
      show own_s p e below T176 m 200 #[iv i0, iv i1, iv i2, iv i3, iv i4, iv i5, iv of, iv (1 : Int32), rv b99, iv (0 : Int32), iv (12 : Int32), rv r143, iv (4 : Int32), .unset] [(.int (own_by i4 3)), (.int (own_by i4 3))] _
      refine XS.icmpNo X177.here hx rfl (hb hby at_200) rfl (teq (rfl : (own_by i4 3) = (own_by i4 3))).2 ?_
      show own_s p e below T176 m 203 #[iv i0, iv i1, iv i2, iv i3, iv i4, iv i5, iv of, iv (1 : Int32), rv b99, iv (0 : Int32), iv (12 : Int32), rv r143, iv (4 : Int32), .unset] [] _
      refine XS.iconst X177.here hx rfl (hb hby at_203) ?_
      show own_s p e below T176 m 204 #[iv i0, iv i1, iv i2, iv i3, iv i4, iv i5, iv of, iv (1 : Int32), rv b99, iv (0 : Int32), iv (12 : Int32), rv r143, iv (4 : Int32), .unset] [(.int (1 : Int32))] _
      refine XS.goto X177.here hx rfl (pc0 := 204) (pc' := 208) rfl (hb hby at_204) (by decide) (by decide) ?_
      show own_s p e below T176 m 208 #[iv i0, iv i1, iv i2, iv i3, iv i4, iv i5, iv of, iv (1 : Int32), rv b99, iv (0 : Int32), iv (12 : Int32), rv r143, iv (4 : Int32), .unset] [(.int (1 : Int32))] _
      refine XS.istore X177.here hx rfl (hb hby at_208) rfl (l' := #[iv i0, iv i1, iv i2, iv i3, iv i4, iv i5, iv of, iv (1 : Int32), rv b99, iv (0 : Int32), iv (12 : Int32), rv r143, iv (4 : Int32), iv (1 : Int32)]) rfl ?_
      show own_s p e below T176 m 210 #[iv i0, iv i1, iv i2, iv i3, iv i4, iv i5, iv of, iv (1 : Int32), rv b99, iv (0 : Int32), iv (12 : Int32), rv r143, iv (4 : Int32), iv (1 : Int32)] [] _
      refine XS.iload X177.here hx rfl (hb hby at_210) rfl ?_
      show own_s p e below T176 m 212 #[iv i0, iv i1, iv i2, iv i3, iv i4, iv i5, iv of, iv (1 : Int32), rv b99, iv (0 : Int32), iv (12 : Int32), rv r143, iv (4 : Int32), iv (1 : Int32)] [(.int (1 : Int32))] _
      refine XS.ifNo X177.here hx rfl (hb hby at_212) rfl ((if0 _ _).trans (feq (by decide : ¬ ((1 : Int32) = (0 : Int32)))).1) ?_
      show own_s p e below T176 m 215 #[iv i0, iv i1, iv i2, iv i3, iv i4, iv i5, iv of, iv (1 : Int32), rv b99, iv (0 : Int32), iv (12 : Int32), rv r143, iv (4 : Int32), iv (1 : Int32)] [] _
      refine XS.aload X177.here hx rfl (hb hby at_215) rfl rfl ?_
      show own_s p e below T176 m 217 #[iv i0, iv i1, iv i2, iv i3, iv i4, iv i5, iv of, iv (1 : Int32), rv b99, iv (0 : Int32), iv (12 : Int32), rv r143, iv (4 : Int32), iv (1 : Int32)] [(.ref r143)] _
      refine XS.iload X177.here hx rfl (hb hby at_217) rfl ?_
      show own_s p e below T176 m 219 #[iv i0, iv i1, iv i2, iv i3, iv i4, iv i5, iv of, iv (1 : Int32), rv b99, iv (0 : Int32), iv (12 : Int32), rv r143, iv (4 : Int32), iv (1 : Int32)] [(.int (4 : Int32)), (.ref r143)] _
      refine XS.iconst X177.here hx rfl (hb hby at_219) ?_
      show own_s p e below T176 m 220 #[iv i0, iv i1, iv i2, iv i3, iv i4, iv i5, iv of, iv (1 : Int32), rv b99, iv (0 : Int32), iv (12 : Int32), rv r143, iv (4 : Int32), iv (1 : Int32)] [(.int (0 : Int32)), (.int (4 : Int32)), (.ref r143)] _
      refine XS.iload X177.here hx rfl (hb hby at_220) rfl ?_
      show own_s p e below T176 m 222 #[iv i0, iv i1, iv i2, iv i3, iv i4, iv i5, iv of, iv (1 : Int32), rv b99, iv (0 : Int32), iv (12 : Int32), rv r143, iv (4 : Int32), iv (1 : Int32)] [(.int of), (.int (0 : Int32)), (.int (4 : Int32)), (.ref r143)] _
      refine XS.iloadN X177.here hx rfl (hb hby at_222) rfl ?_
      show own_s p e below T176 m 223 #[iv i0, iv i1, iv i2, iv i3, iv i4, iv i5, iv of, iv (1 : Int32), rv b99, iv (0 : Int32), iv (12 : Int32), rv r143, iv (4 : Int32), iv (1 : Int32)] [(.int i3), (.int of), (.int (0 : Int32)), (.int (4 : Int32)), (.ref r143)] _
      refine XS.iloadN X177.here hx rfl (hb hby at_223) rfl ?_
      show own_s p e below T176 m 224 #[iv i0, iv i1, iv i2, iv i3, iv i4, iv i5, iv of, iv (1 : Int32), rv b99, iv (0 : Int32), iv (12 : Int32), rv r143, iv (4 : Int32), iv (1 : Int32)] [(.int i0), (.int i3), (.int of), (.int (0 : Int32)), (.int (4 : Int32)), (.ref r143)] _
      refine XS.iloadN X177.here hx rfl (hb hby at_224) rfl ?_
      show own_s p e below T176 m 225 #[iv i0, iv i1, iv i2, iv i3, iv i4, iv i5, iv of, iv (1 : Int32), rv b99, iv (0 : Int32), iv (12 : Int32), rv r143, iv (4 : Int32), iv (1 : Int32)] [(.int i1), (.int i0), (.int i3), (.int of), (.int (0 : Int32)), (.int (4 : Int32)), (.ref r143)] _
      refine XS.iloadN X177.here hx rfl (hb hby at_225) rfl ?_
      exact kX
    obtain ⟨_, _, ⟨T180, L180, k180, n180⟩, -, X180, ⟨Lc180, hQ180, l180, y180, z180⟩, st180⟩ := Jvm.LawKit.callS X177 hx (y := (⟨"com/example/farcall/farcall/io/XdrEncoderSetIntPinLaw", "at", "([BIIIIIII)Z"⟩ : MethodName)) hown (mvT hZ (hw _ (List.mem_of_getElem? (i := 62) rfl))) (mvT hZ (hw _ (List.mem_of_getElem? (i := 63) rfl))) (mvT hZ (hw _ (List.mem_of_getElem? (i := 64) rfl))) (mvT hZ (hw _ (List.mem_of_getElem? (i := 65) rfl))) (by decide) (backOf (W := 0) (rm15 l Z a0 hw [] r143 (4 : Int32) (0 : Int32) of i3 i0 i1 i2 (fun j => (own_put (own_put (own_put (own_put (own_put (fun _ : Nat => (0 : Int32)) 0 i4) 4 i0) 8 i1) 12 i2) (4 + O) i3) (0 + j)) 16 4 0 O T143.heap n0 Z143 fA143 rfl rfl hOf (by decide) hO (by decide) (by decide) (show (own_put (own_put (own_put (own_put (own_put (fun _ : Nat => (0 : Int32)) 0 i4) 4 i0) 8 i1) 12 i2) (4 + O) i3) (0 + (4 + 0)) = own_xp 0 O i3 i0 i1 i2 from own_rd (B := 4) (I := 0) (fun _ => (show (own_put (own_put (own_put (own_put (fun _ : Nat => (0 : Int32)) 0 i4) 4 i0) 8 i1) 12 i2) (4 + 0) = own_by i0 0 from ((own_put_out (by decide)).trans ((own_put_out (by decide)).trans ((own_put_in (by decide) (by decide)).trans (congrArg (own_by i0) (show _ = 0 from by decide)))))).trans (show own_by i0 0 = own_xp0 0 i0 i1 i2 from rfl)))) hZ (hw _ (List.mem_of_getElem? (i := 65) rfl)) (hw _ (List.mem_of_getElem? (i := 64) rfl)) (by decide) (by decide)) (g := (mkF m 226 #[iv i0, iv i1, iv i2, iv i3, iv i4, iv i5, iv of, iv (1 : Int32), rv b99, iv (0 : Int32), iv (12 : Int32), rv r143, iv (4 : Int32), iv (1 : Int32)] [(.int i2), (.int i1), (.int i0), (.int i3), (.int of), (.int (0 : Int32)), (.int (4 : Int32)), (.ref r143)])) rfl (by rw [hml]; rfl) (argsL := [(.ref r143), (.int (4 : Int32)), (.int (0 : Int32)), (.int of), (.int i3), (.int i0), (.int i1), (.int i2)]) (rest := []) (lenOf pd0_5 rfl) rfl (by show 2 * 0 + _ ≤ _; exact Nat.le_of_eq rfl) (hb hby at_226) (fun _ _ => ⟨rfl, e176, (by decide : 3 + 0 ≤ _), (by decide : 132 + 0 ≤ _)⟩)
    dsimp only [Pt.U, Pt.locs, Pt.cells, Pt.slots] at X180 l180 y180 z180 st180 hQ180
    subst l180 y180 z180
    obtain ⟨rfl, Nq180, e180⟩ := hQ180
    have N180 := Fr.app N177 Nq180
    obtain ⟨LL181, X181, N181⟩ : ∃ LL, Stand p l e room_1 s m #[(.int i0), (.int i1), (.int i2), (.int i3), (.int i4), (.int i5)] below meth c T180 LL 3 132 ∧ Fr n0 LL := ⟨_, X180, N180⟩
    have pre182 : ∀ t, own_s p e below T180 m 229 #[iv i0, iv i1, iv i2, iv i3, iv i4, iv i5, iv of, iv (1 : Int32), rv b99, iv (0 : Int32), iv (12 : Int32), rv r143, iv (4 : Int32), iv (1 : Int32)] [(.int (1 : Int32))] t → Steps p.tables e below S0 t := fun tX kX => pre179 _ (st180 _ kX)
    have pre183 : ∀ t, own_s p e below T180 m 243 #[iv i0, iv i1, iv i2, iv i3, iv i4, iv i5, iv of, iv (1 : Int32), rv b99, iv (0 : Int32), iv (12 : Int32), rv r143, iv (4 : Int32), iv (1 : Int32)] [(.int i2), (.int i1), (.int i0), (.int i3), (.int of), (.int (1 : Int32)), (.int (4 : Int32)), (.ref r143)] t → Steps p.tables e below S0 t := by
      intro tX kX
      refine pre182 _ ?_
      show own_s p e below T180 m 229 #[iv i0, iv i1, iv i2, iv i3, iv i4, iv i5, iv of, iv (1 : Int32), rv b99, iv (0 : Int32), iv (12 : Int32), rv r143, iv (4 : Int32), iv (1 : Int32)] [(.int (1 : Int32))] _
      refine XS.ifNo X181.here hx rfl (hb hby at_229) rfl ((if0 _ _).trans (feq (by decide : ¬ ((1 : Int32) = (0 : Int32)))).1) ?_
      show own_s p e below T180 m 232 #[iv i0, iv i1, iv i2, iv i3, iv i4, iv i5, iv of, iv (1 : Int32), rv b99, iv (0 : Int32), iv (12 : Int32), rv r143, iv (4 : Int32), iv (1 : Int32)] [] _
      refine XS.aload X181.here hx rfl (hb hby at_232) rfl rfl ?_
      show own_s p e below T180 m 234 #[iv i0, iv i1, iv i2, iv i3, iv i4, iv i5, iv of, iv (1 : Int32), rv b99, iv (0 : Int32), iv (12 : Int32), rv r143, iv (4 : Int32), iv (1 : Int32)] [(.ref r143)] _
      refine XS.iload X181.here hx rfl (hb hby at_234) rfl ?_
      show own_s p e below T180 m 236 #[iv i0, iv i1, iv i2, iv i3, iv i4, iv i5, iv of, iv (1 : Int32), rv b99, iv (0 : Int32), iv (12 : Int32), rv r143, iv (4 : Int32), iv (1 : Int32)] [(.int (4 : Int32)), (.ref r143)] _
      refine XS.iconst X181.here hx rfl (hb hby at_236) ?_
      show own_s p e below T180 m 237 #[iv i0, iv i1, iv i2, iv i3, iv i4, iv i5, iv of, iv (1 : Int32), rv b99, iv (0 : Int32), iv (12 : Int32), rv r143, iv (4 : Int32), iv (1 : Int32)] [(.int (1 : Int32)), (.int (4 : Int32)), (.ref r143)] _
      refine XS.iload X181.here hx rfl (hb hby at_237) rfl ?_
      show own_s p e below T180 m 239 #[iv i0, iv i1, iv i2, iv i3, iv i4, iv i5, iv of, iv (1 : Int32), rv b99, iv (0 : Int32), iv (12 : Int32), rv r143, iv (4 : Int32), iv (1 : Int32)] [(.int of), (.int (1 : Int32)), (.int (4 : Int32)), (.ref r143)] _
      refine XS.iloadN X181.here hx rfl (hb hby at_239) rfl ?_
      show own_s p e below T180 m 240 #[iv i0, iv i1, iv i2, iv i3, iv i4, iv i5, iv of, iv (1 : Int32), rv b99, iv (0 : Int32), iv (12 : Int32), rv r143, iv (4 : Int32), iv (1 : Int32)] [(.int i3), (.int of), (.int (1 : Int32)), (.int (4 : Int32)), (.ref r143)] _
      refine XS.iloadN X181.here hx rfl (hb hby at_240) rfl ?_
      show own_s p e below T180 m 241 #[iv i0, iv i1, iv i2, iv i3, iv i4, iv i5, iv of, iv (1 : Int32), rv b99, iv (0 : Int32), iv (12 : Int32), rv r143, iv (4 : Int32), iv (1 : Int32)] [(.int i0), (.int i3), (.int of), (.int (1 : Int32)), (.int (4 : Int32)), (.ref r143)] _
      refine XS.iloadN X181.here hx rfl (hb hby at_241) rfl ?_
      show own_s p e below T180 m 242 #[iv i0, iv i1, iv i2, iv i3, iv i4, iv i5, iv of, iv (1 : Int32), rv b99, iv (0 : Int32), iv (12 : Int32), rv r143, iv (4 : Int32), iv (1 : Int32)] [(.int i1), (.int i0), (.int i3), (.int of), (.int (1 : Int32)), (.int (4 : Int32)), (.ref r143)] _
      refine XS.iloadN X181.here hx rfl (hb hby at_242) rfl ?_
      exact kX
    obtain ⟨_, _, ⟨T184, L184, k184, n184⟩, -, X184, ⟨Lc184, hQ184, l184, y184, z184⟩, st184⟩ := Jvm.LawKit.callS X181 hx (y := (⟨"com/example/farcall/farcall/io/XdrEncoderSetIntPinLaw", "at", "([BIIIIIII)Z"⟩ : MethodName)) hown (mvT hZ (hw _ (List.mem_of_getElem? (i := 62) rfl))) (mvT hZ (hw _ (List.mem_of_getElem? (i := 63) rfl))) (mvT hZ (hw _ (List.mem_of_getElem? (i := 64) rfl))) (mvT hZ (hw _ (List.mem_of_getElem? (i := 65) rfl))) (by decide) (backOf (W := 0) (rm15 l Z a0 hw [] r143 (4 : Int32) (1 : Int32) of i3 i0 i1 i2 (fun j => (own_put (own_put (own_put (own_put (own_put (fun _ : Nat => (0 : Int32)) 0 i4) 4 i0) 8 i1) 12 i2) (4 + O) i3) (0 + j)) 16 4 1 O T143.heap n0 Z143 fA143 rfl rfl hOf (by decide) hO (by decide) (by decide) (show (own_put (own_put (own_put (own_put (own_put (fun _ : Nat => (0 : Int32)) 0 i4) 4 i0) 8 i1) 12 i2) (4 + O) i3) (0 + (4 + 1)) = own_xp 1 O i3 i0 i1 i2 from own_rd (B := 4) (I := 1) (fun _ => (show (own_put (own_put (own_put (own_put (fun _ : Nat => (0 : Int32)) 0 i4) 4 i0) 8 i1) 12 i2) (4 + 1) = own_by i0 1 from ((own_put_out (by decide)).trans ((own_put_out (by decide)).trans ((own_put_in (by decide) (by decide)).trans (congrArg (own_by i0) (show _ = 1 from by decide)))))).trans (show own_by i0 1 = own_xp0 1 i0 i1 i2 from rfl)))) hZ (hw _ (List.mem_of_getElem? (i := 65) rfl)) (hw _ (List.mem_of_getElem? (i := 64) rfl)) (by decide) (by decide)) (g := (mkF m 243 #[iv i0, iv i1, iv i2, iv i3, iv i4, iv i5, iv of, iv (1 : Int32), rv b99, iv (0 : Int32), iv (12 : Int32), rv r143, iv (4 : Int32), iv (1 : Int32)] [(.int i2), (.int i1), (.int i0), (.int i3), (.int of), (.int (1 : Int32)), (.int (4 : Int32)), (.ref r143)])) rfl (by rw [hml]; rfl) (argsL := [(.ref r143), (.int (4 : Int32)), (.int (1 : Int32)), (.int of), (.int i3), (.int i0), (.int i1), (.int i2)]) (rest := []) (lenOf pd0_5 rfl) rfl (by show 2 * 0 + _ ≤ _; exact Nat.le_of_eq rfl) (hb hby at_243) (fun _ _ => ⟨rfl, e180, (by decide : 3 + 0 ≤ _), (by decide : 132 + 0 ≤ _)⟩)
    dsimp only [Pt.U, Pt.locs, Pt.cells, Pt.slots] at X184 l184 y184 z184 st184 hQ184
    subst l184 y184 z184
    obtain ⟨rfl, Nq184, e184⟩ := hQ184
    have N184 := Fr.app N181 Nq184
    obtain ⟨LL185, X185, N185⟩ : ∃ LL, Stand p l e room_1 s m #[(.int i0), (.int i1), (.int i2), (.int i3), (.int i4), (.int i5)] below meth c T184 LL 3 132 ∧ Fr n0 LL := ⟨_, X184, N184⟩
    have pre186 : ∀ t, own_s p e below T184 m 246 #[iv i0, iv i1, iv i2, iv i3, iv i4, iv i5, iv of, iv (1 : Int32), rv b99, iv (0 : Int32), iv (12 : Int32), rv r143, iv (4 : Int32), iv (1 : Int32)] [(.int (1 : Int32))] t → Steps p.tables e below S0 t := fun tX kX => pre183 _ (st184 _ kX)
    have pre187 : ∀ t, own_s p e below T184 m 260 #[iv i0, iv i1, iv i2, iv i3, iv i4, iv i5, iv of, iv (1 : Int32), rv b99, iv (0 : Int32), iv (12 : Int32), rv r143, iv (4 : Int32), iv (1 : Int32)] [(.int i2), (.int i1), (.int i0), (.int i3), (.int of), (.int (2 : Int32)), (.int (4 : Int32)), (.ref r143)] t → Steps p.tables e below S0 t := by
      intro tX kX
      refine pre186 _ ?_
      show own_s p e below T184 m 246 #[iv i0, iv i1, iv i2, iv i3, iv i4, iv i5, iv of, iv (1 : Int32), rv b99, iv (0 : Int32), iv (12 : Int32), rv r143, iv (4 : Int32), iv (1 : Int32)] [(.int (1 : Int32))] _
      refine XS.ifNo X185.here hx rfl (hb hby at_246) rfl ((if0 _ _).trans (feq (by decide : ¬ ((1 : Int32) = (0 : Int32)))).1) ?_
      show own_s p e below T184 m 249 #[iv i0, iv i1, iv i2, iv i3, iv i4, iv i5, iv of, iv (1 : Int32), rv b99, iv (0 : Int32), iv (12 : Int32), rv r143, iv (4 : Int32), iv (1 : Int32)] [] _
      refine XS.aload X185.here hx rfl (hb hby at_249) rfl rfl ?_
      show own_s p e below T184 m 251 #[iv i0, iv i1, iv i2, iv i3, iv i4, iv i5, iv of, iv (1 : Int32), rv b99, iv (0 : Int32), iv (12 : Int32), rv r143, iv (4 : Int32), iv (1 : Int32)] [(.ref r143)] _
      refine XS.iload X185.here hx rfl (hb hby at_251) rfl ?_
      show own_s p e below T184 m 253 #[iv i0, iv i1, iv i2, iv i3, iv i4, iv i5, iv of, iv (1 : Int32), rv b99, iv (0 : Int32), iv (12 : Int32), rv r143, iv (4 : Int32), iv (1 : Int32)] [(.int (4 : Int32)), (.ref r143)] _
      refine XS.iconst X185.here hx rfl (hb hby at_253) ?_
      show own_s p e below T184 m 254 #[iv i0, iv i1, iv i2, iv i3, iv i4, iv i5, iv of, iv (1 : Int32), rv b99, iv (0 : Int32), iv (12 : Int32), rv r143, iv (4 : Int32), iv (1 : Int32)] [(.int (2 : Int32)), (.int (4 : Int32)), (.ref r143)] _
      refine XS.iload X185.here hx rfl (hb hby at_254) rfl ?_
      show own_s p e below T184 m 256 #[iv i0, iv i1, iv i2, iv i3, iv i4, iv i5, iv of, iv (1 : Int32), rv b99, iv (0 : Int32), iv (12 : Int32), rv r143, iv (4 : Int32), iv (1 : Int32)] [(.int of), (.int (2 : Int32)), (.int (4 : Int32)), (.ref r143)] _
      refine XS.iloadN X185.here hx rfl (hb hby at_256) rfl ?_
      show own_s p e below T184 m 257 #[iv i0, iv i1, iv i2, iv i3, iv i4, iv i5, iv of, iv (1 : Int32), rv b99, iv (0 : Int32), iv (12 : Int32), rv r143, iv (4 : Int32), iv (1 : Int32)] [(.int i3), (.int of), (.int (2 : Int32)), (.int (4 : Int32)), (.ref r143)] _
      refine XS.iloadN X185.here hx rfl (hb hby at_257) rfl ?_
      show own_s p e below T184 m 258 #[iv i0, iv i1, iv i2, iv i3, iv i4, iv i5, iv of, iv (1 : Int32), rv b99, iv (0 : Int32), iv (12 : Int32), rv r143, iv (4 : Int32), iv (1 : Int32)] [(.int i0), (.int i3), (.int of), (.int (2 : Int32)), (.int (4 : Int32)), (.ref r143)] _
      refine XS.iloadN X185.here hx rfl (hb hby at_258) rfl ?_
      show own_s p e below T184 m 259 #[iv i0, iv i1, iv i2, iv i3, iv i4, iv i5, iv of, iv (1 : Int32), rv b99, iv (0 : Int32), iv (12 : Int32), rv r143, iv (4 : Int32), iv (1 : Int32)] [(.int i1), (.int i0), (.int i3), (.int of), (.int (2 : Int32)), (.int (4 : Int32)), (.ref r143)] _
      refine XS.iloadN X185.here hx rfl (hb hby at_259) rfl ?_
      exact kX
    obtain ⟨_, _, ⟨T188, L188, k188, n188⟩, -, X188, ⟨Lc188, hQ188, l188, y188, z188⟩, st188⟩ := Jvm.LawKit.callS X185 hx (y := (⟨"com/example/farcall/farcall/io/XdrEncoderSetIntPinLaw", "at", "([BIIIIIII)Z"⟩ : MethodName)) hown (mvT hZ (hw _ (List.mem_of_getElem? (i := 62) rfl))) (mvT hZ (hw _ (List.mem_of_getElem? (i := 63) rfl))) (mvT hZ (hw _ (List.mem_of_getElem? (i := 64) rfl))) (mvT hZ (hw _ (List.mem_of_getElem? (i := 65) rfl))) (by decide) (backOf (W := 0) (rm15 l Z a0 hw [] r143 (4 : Int32) (2 : Int32) of i3 i0 i1 i2 (fun j => (own_put (own_put (own_put (own_put (own_put (fun _ : Nat => (0 : Int32)) 0 i4) 4 i0) 8 i1) 12 i2) (4 + O) i3) (0 + j)) 16 4 2 O T143.heap n0 Z143 fA143 rfl rfl hOf (by decide) hO (by decide) (by decide) (show (own_put (own_put (own_put (own_put (own_put (fun _ : Nat => (0 : Int32)) 0 i4) 4 i0) 8 i1) 12 i2) (4 + O) i3) (0 + (4 + 2)) = own_xp 2 O i3 i0 i1 i2 from own_rd (B := 4) (I := 2) (fun _ => (show (own_put (own_put (own_put (own_put (fun _ : Nat => (0 : Int32)) 0 i4) 4 i0) 8 i1) 12 i2) (4 + 2) = own_by i0 2 from ((own_put_out (by decide)).trans ((own_put_out (by decide)).trans ((own_put_in (by decide) (by decide)).trans (congrArg (own_by i0) (show _ = 2 from by decide)))))).trans (show own_by i0 2 = own_xp0 2 i0 i1 i2 from rfl)))) hZ (hw _ (List.mem_of_getElem? (i := 65) rfl)) (hw _ (List.mem_of_getElem? (i := 64) rfl)) (by decide) (by decide)) (g := (mkF m 260 #[iv i0, iv i1, iv i2, iv i3, iv i4, iv i5, iv of, iv (1 : Int32), rv b99, iv (0 : Int32), iv (12 : Int32), rv r143, iv (4 : Int32), iv (1 : Int32)] [(.int i2), (.int i1), (.int i0), (.int i3), (.int of), (.int (2 : Int32)), (.int (4 : Int32)), (.ref r143)])) rfl (by rw [hml]; rfl) (argsL := [(.ref r143), (.int (4 : Int32)), (.int (2 : Int32)), (.int of), (.int i3), (.int i0), (.int i1), (.int i2)]) (rest := []) (lenOf pd0_5 rfl) rfl (by show 2 * 0 + _ ≤ _; exact Nat.le_of_eq rfl) (hb hby at_260) (fun _ _ => ⟨rfl, e184, (by decide : 3 + 0 ≤ _), (by decide : 132 + 0 ≤ _)⟩)
    dsimp only [Pt.U, Pt.locs, Pt.cells, Pt.slots] at X188 l188 y188 z188 st188 hQ188
    subst l188 y188 z188
    obtain ⟨rfl, Nq188, e188⟩ := hQ188
    have N188 := Fr.app N185 Nq188
    obtain ⟨LL189, X189, N189⟩ : ∃ LL, Stand p l e room_1 s m #[(.int i0), (.int i1), (.int i2), (.int i3), (.int i4), (.int i5)] below meth c T188 LL 3 132 ∧ Fr n0 LL := ⟨_, X188, N188⟩
    have pre190 : ∀ t, own_s p e below T188 m 263 #[iv i0, iv i1, iv i2, iv i3, iv i4, iv i5, iv of, iv (1 : Int32), rv b99, iv (0 : Int32), iv (12 : Int32), rv r143, iv (4 : Int32), iv (1 : Int32)] [(.int (1 : Int32))] t → Steps p.tables e below S0 t := fun tX kX => pre187 _ (st188 _ kX)
    have pre191 : ∀ t, own_s p e below T188 m 277 #[iv i0, iv i1, iv i2, iv i3, iv i4, iv i5, iv of, iv (1 : Int32), rv b99, iv (0 : Int32), iv (12 : Int32), rv r143, iv (4 : Int32), iv (1 : Int32)] [(.int i2), (.int i1), (.int i0), (.int i3), (.int of), (.int (3 : Int32)), (.int (4 : Int32)), (.ref r143)] t → Steps p.tables e below S0 t := by
      intro tX kX
      refine pre190 _ ?_
      show own_s p e below T188 m 263 #[iv i0, iv i1, iv i2, iv i3, iv i4, iv i5, iv of, iv (1 : Int32), rv b99, iv (0 : Int32), iv (12 : Int32), rv r143, iv (4 : Int32), iv (1 : Int32)] [(.int (1 : Int32))] _
      refine XS.ifNo X189.here hx rfl (hb hby at_263) rfl ((if0 _ _).trans (feq (by decide : ¬ ((1 : Int32) = (0 : Int32)))).1) ?_
      show own_s p e below T188 m 266 #[iv i0, iv i1, iv i2, iv i3, iv i4, iv i5, iv of, iv (1 : Int32), rv b99, iv (0 : Int32), iv (12 : Int32), rv r143, iv (4 : Int32), iv (1 : Int32)] [] _
      refine XS.aload X189.here hx rfl (hb hby at_266) rfl rfl ?_
      show own_s p e below T188 m 268 #[iv i0, iv i1, iv i2, iv i3, iv i4, iv i5, iv of, iv (1 : Int32), rv b99, iv (0 : Int32), iv (12 : Int32), rv r143, iv (4 : Int32), iv (1 : Int32)] [(.ref r143)] _
      refine XS.iload X189.here hx rfl (hb hby at_268) rfl ?_
      show own_s p e below T188 m 270 #[iv i0, iv i1, iv i2, iv i3, iv i4, iv i5, iv of, iv (1 : Int32), rv b99, iv (0 : Int32), iv (12 : Int32), rv r143, iv (4 : Int32), iv (1 : Int32)] [(.int (4 : Int32)), (.ref r143)] _
      refine XS.iconst X189.here hx rfl (hb hby at_270) ?_
      show own_s p e below T188 m 271 #[iv i0, iv i1, iv i2, iv i3, iv i4, iv i5, iv of, iv (1 : Int32), rv b99, iv (0 : Int32), iv (12 : Int32), rv r143, iv (4 : Int32), iv (1 : Int32)] [(.int (3 : Int32)), (.int (4 : Int32)), (.ref r143)] _
      refine XS.iload X189.here hx rfl (hb hby at_271) rfl ?_
      show own_s p e below T188 m 273 #[iv i0, iv i1, iv i2, iv i3, iv i4, iv i5, iv of, iv (1 : Int32), rv b99, iv (0 : Int32), iv (12 : Int32), rv r143, iv (4 : Int32), iv (1 : Int32)] [(.int of), (.int (3 : Int32)), (.int (4 : Int32)), (.ref r143)] _
      refine XS.iloadN X189.here hx rfl (hb hby at_273) rfl ?_
      show own_s p e below T188 m 274 #[iv i0, iv i1, iv i2, iv i3, iv i4, iv i5, iv of, iv (1 : Int32), rv b99, iv (0 : Int32), iv (12 : Int32), rv r143, iv (4 : Int32), iv (1 : Int32)] [(.int i3), (.int of), (.int (3 : Int32)), (.int (4 : Int32)), (.ref r143)] _
      refine XS.iloadN X189.here hx rfl (hb hby at_274) rfl ?_
      show own_s p e below T188 m 275 #[iv i0, iv i1, iv i2, iv i3, iv i4, iv i5, iv of, iv (1 : Int32), rv b99, iv (0 : Int32), iv (12 : Int32), rv r143, iv (4 : Int32), iv (1 : Int32)] [(.int i0), (.int i3), (.int of), (.int (3 : Int32)), (.int (4 : Int32)), (.ref r143)] _
      refine XS.iloadN X189.here hx rfl (hb hby at_275) rfl ?_
      show own_s p e below T188 m 276 #[iv i0, iv i1, iv i2, iv i3, iv i4, iv i5, iv of, iv (1 : Int32), rv b99, iv (0 : Int32), iv (12 : Int32), rv r143, iv (4 : Int32), iv (1 : Int32)] [(.int i1), (.int i0), (.int i3), (.int of), (.int (3 : Int32)), (.int (4 : Int32)), (.ref r143)] _
      refine XS.iloadN X189.here hx rfl (hb hby at_276) rfl ?_
      exact kX
    obtain ⟨_, _, ⟨T192, L192, k192, n192⟩, -, X192, ⟨Lc192, hQ192, l192, y192, z192⟩, st192⟩ := Jvm.LawKit.callS X189 hx (y := (⟨"com/example/farcall/farcall/io/XdrEncoderSetIntPinLaw", "at", "([BIIIIIII)Z"⟩ : MethodName)) hown (mvT hZ (hw _ (List.mem_of_getElem? (i := 62) rfl))) (mvT hZ (hw _ (List.mem_of_getElem? (i := 63) rfl))) (mvT hZ (hw _ (List.mem_of_getElem? (i := 64) rfl))) (mvT hZ (hw _ (List.mem_of_getElem? (i := 65) rfl))) (by decide) (backOf (W := 0) (rm15 l Z a0 hw [] r143 (4 : Int32) (3 : Int32) of i3 i0 i1 i2 (fun j => (own_put (own_put (own_put (own_put (own_put (fun _ : Nat => (0 : Int32)) 0 i4) 4 i0) 8 i1) 12 i2) (4 + O) i3) (0 + j)) 16 4 3 O T143.heap n0 Z143 fA143 rfl rfl hOf (by decide) hO (by decide) (by decide) (show (own_put (own_put (own_put (own_put (own_put (fun _ : Nat => (0 : Int32)) 0 i4) 4 i0) 8 i1) 12 i2) (4 + O) i3) (0 + (4 + 3)) = own_xp 3 O i3 i0 i1 i2 from own_rd (B := 4) (I := 3) (fun _ => (show (own_put (own_put (own_put (own_put (fun _ : Nat => (0 : Int32)) 0 i4) 4 i0) 8 i1) 12 i2) (4 + 3) = own_by i0 3 from ((own_put_out (by decide)).trans ((own_put_out (by decide)).trans ((own_put_in (by decide) (by decide)).trans (congrArg (own_by i0) (show _ = 3 from by decide)))))).trans (show own_by i0 3 = own_xp0 3 i0 i1 i2 from rfl)))) hZ (hw _ (List.mem_of_getElem? (i := 65) rfl)) (hw _ (List.mem_of_getElem? (i := 64) rfl)) (by decide) (by decide)) (g := (mkF m 277 #[iv i0, iv i1, iv i2, iv i3, iv i4, iv i5, iv of, iv (1 : Int32), rv b99, iv (0 : Int32), iv (12 : Int32), rv r143, iv (4 : Int32), iv (1 : Int32)] [(.int i2), (.int i1), (.int i0), (.int i3), (.int of), (.int (3 : Int32)), (.int (4 : Int32)), (.ref r143)])) rfl (by rw [hml]; rfl) (argsL := [(.ref r143), (.int (4 : Int32)), (.int (3 : Int32)), (.int of), (.int i3), (.int i0), (.int i1), (.int i2)]) (rest := []) (lenOf pd0_5 rfl) rfl (by show 2 * 0 + _ ≤ _; exact Nat.le_of_eq rfl) (hb hby at_277) (fun _ _ => ⟨rfl, e188, (by decide : 3 + 0 ≤ _), (by decide : 132 + 0 ≤ _)⟩)
    dsimp only [Pt.U, Pt.locs, Pt.cells, Pt.slots] at X192 l192 y192 z192 st192 hQ192
    subst l192 y192 z192
    obtain ⟨rfl, Nq192, e192⟩ := hQ192
    have N192 := Fr.app N189 Nq192
    obtain ⟨LL193, X193, N193⟩ : ∃ LL, Stand p l e room_1 s m #[(.int i0), (.int i1), (.int i2), (.int i3), (.int i4), (.int i5)] below meth c T192 LL 3 132 ∧ Fr n0 LL := ⟨_, X192, N192⟩
    have pre194 : ∀ t, own_s p e below T192 m 280 #[iv i0, iv i1, iv i2, iv i3, iv i4, iv i5, iv of, iv (1 : Int32), rv b99, iv (0 : Int32), iv (12 : Int32), rv r143, iv (4 : Int32), iv (1 : Int32)] [(.int (1 : Int32))] t → Steps p.tables e below S0 t := fun tX kX => pre191 _ (st192 _ kX)
    have pre195 : ∀ t, own_s p e below T192 m 294 #[iv i0, iv i1, iv i2, iv i3, iv i4, iv i5, iv of, iv (1 : Int32), rv b99, iv (0 : Int32), iv (12 : Int32), rv r143, iv (4 : Int32), iv (1 : Int32)] [(.int i2), (.int i1), (.int i0), (.int i3), (.int of), (.int (4 : Int32)), (.int (4 : Int32)), (.ref r143)] t → Steps p.tables e below S0 t := by
      intro tX kX
      refine pre194 _ ?_
      show own_s p e below T192 m 280 #[iv i0, iv i1, iv i2, iv i3, iv i4, iv i5, iv of, iv (1 : Int32), rv b99, iv (0 : Int32), iv (12 : Int32), rv r143, iv (4 : Int32), iv (1 : Int32)] [(.int (1 : Int32))] _
      refine XS.ifNo X193.here hx rfl (hb hby at_280) rfl ((if0 _ _).trans (feq (by decide : ¬ ((1 : Int32) = (0 : Int32)))).1) ?_
      show own_s p e below T192 m 283 #[iv i0, iv i1, iv i2, iv i3, iv i4, iv i5, iv of, iv (1 : Int32), rv b99, iv (0 : Int32), iv (12 : Int32), rv r143, iv (4 : Int32), iv (1 : Int32)] [] _
      refine XS.aload X193.here hx rfl (hb hby at_283) rfl rfl ?_
      show own_s p e below T192 m 285 #[iv i0, iv i1, iv i2, iv i3, iv i4, iv i5, iv of, iv (1 : Int32), rv b99, iv (0 : Int32), iv (12 : Int32), rv r143, iv (4 : Int32), iv (1 : Int32)] [(.ref r143)] _
      refine XS.iload X193.here hx rfl (hb hby at_285) rfl ?_
      show own_s p e below T192 m 287 #[iv i0, iv i1, iv i2, iv i3, iv i4, iv i5, iv of, iv (1 : Int32), rv b99, iv (0 : Int32), iv (12 : Int32), rv r143, iv (4 : Int32), iv (1 : Int32)] [(.int (4 : Int32)), (.ref r143)] _
      refine XS.iconst X193.here hx rfl (hb hby at_287) ?_
      show own_s p e below T192 m 288 #[iv i0, iv i1, iv i2, iv i3, iv i4, iv i5, iv of, iv (1 : Int32), rv b99, iv (0 : Int32), iv (12 : Int32), rv r143, iv (4 : Int32), iv (1 : Int32)] [(.int (4 : Int32)), (.int (4 : Int32)), (.ref r143)] _
      refine XS.iload X193.here hx rfl (hb hby at_288) rfl ?_
      show own_s p e below T192 m 290 #[iv i0, iv i1, iv i2, iv i3, iv i4, iv i5, iv of, iv (1 : Int32), rv b99, iv (0 : Int32), iv (12 : Int32), rv r143, iv (4 : Int32), iv (1 : Int32)] [(.int of), (.int (4 : Int32)), (.int (4 : Int32)), (.ref r143)] _
      refine XS.iloadN X193.here hx rfl (hb hby at_290) rfl ?_
      show own_s p e below T192 m 291 #[iv i0, iv i1, iv i2, iv i3, iv i4, iv i5, iv of, iv (1 : Int32), rv b99, iv (0 : Int32), iv (12 : Int32), rv r143, iv (4 : Int32), iv (1 : Int32)] [(.int i3), (.int of), (.int (4 : Int32)), (.int (4 : Int32)), (.ref r143)] _
      refine XS.iloadN X193.here hx rfl (hb hby at_291) rfl ?_
      show own_s p e below T192 m 292 #[iv i0, iv i1, iv i2, iv i3, iv i4, iv i5, iv of, iv (1 : Int32), rv b99, iv (0 : Int32), iv (12 : Int32), rv r143, iv (4 : Int32), iv (1 : Int32)] [(.int i0), (.int i3), (.int of), (.int (4 : Int32)), (.int (4 : Int32)), (.ref r143)] _
      refine XS.iloadN X193.here hx rfl (hb hby at_292) rfl ?_
      show own_s p e below T192 m 293 #[iv i0, iv i1, iv i2, iv i3, iv i4, iv i5, iv of, iv (1 : Int32), rv b99, iv (0 : Int32), iv (12 : Int32), rv r143, iv (4 : Int32), iv (1 : Int32)] [(.int i1), (.int i0), (.int i3), (.int of), (.int (4 : Int32)), (.int (4 : Int32)), (.ref r143)] _
      refine XS.iloadN X193.here hx rfl (hb hby at_293) rfl ?_
      exact kX
    obtain ⟨_, _, ⟨T196, L196, k196, n196⟩, -, X196, ⟨Lc196, hQ196, l196, y196, z196⟩, st196⟩ := Jvm.LawKit.callS X193 hx (y := (⟨"com/example/farcall/farcall/io/XdrEncoderSetIntPinLaw", "at", "([BIIIIIII)Z"⟩ : MethodName)) hown (mvT hZ (hw _ (List.mem_of_getElem? (i := 62) rfl))) (mvT hZ (hw _ (List.mem_of_getElem? (i := 63) rfl))) (mvT hZ (hw _ (List.mem_of_getElem? (i := 64) rfl))) (mvT hZ (hw _ (List.mem_of_getElem? (i := 65) rfl))) (by decide) (backOf (W := 0) (rm15 l Z a0 hw [] r143 (4 : Int32) (4 : Int32) of i3 i0 i1 i2 (fun j => (own_put (own_put (own_put (own_put (own_put (fun _ : Nat => (0 : Int32)) 0 i4) 4 i0) 8 i1) 12 i2) (4 + O) i3) (0 + j)) 16 4 4 O T143.heap n0 Z143 fA143 rfl rfl hOf (by decide) hO (by decide) (by decide) (show (own_put (own_put (own_put (own_put (own_put (fun _ : Nat => (0 : Int32)) 0 i4) 4 i0) 8 i1) 12 i2) (4 + O) i3) (0 + (4 + 4)) = own_xp 4 O i3 i0 i1 i2 from own_rd (B := 4) (I := 4) (fun _ => (show (own_put (own_put (own_put (own_put (fun _ : Nat => (0 : Int32)) 0 i4) 4 i0) 8 i1) 12 i2) (4 + 4) = own_by i1 0 from ((own_put_out (by decide)).trans ((own_put_in (by decide) (by decide)).trans (congrArg (own_by i1) (show _ = 0 from by decide))))).trans (show own_by i1 0 = own_xp0 4 i0 i1 i2 from rfl)))) hZ (hw _ (List.mem_of_getElem? (i := 65) rfl)) (hw _ (List.mem_of_getElem? (i := 64) rfl)) (by decide) (by decide)) (g := (mkF m 294 #[iv i0, iv i1, iv i2, iv i3, iv i4, iv i5, iv of, iv (1 : Int32), rv b99, iv (0 : Int32), iv (12 : Int32), rv r143, iv (4 : Int32), iv (1 : Int32)] [(.int i2), (.int i1), (.int i0), (.int i3), (.int of), (.int (4 : Int32)), (.int (4 : Int32)), (.ref r143)])) rfl (by rw [hml]; rfl) (argsL := [(.ref r143), (.int (4 : Int32)), (.int (4 : Int32)), (.int of), (.int i3), (.int i0), (.int i1), (.int i2)]) (rest := []) (lenOf pd0_5 rfl) rfl (by show 2 * 0 + _ ≤ _; exact Nat.le_of_eq rfl) (hb hby at_294) (fun _ _ => ⟨rfl, e192, (by decide : 3 + 0 ≤ _), (by decide : 132 + 0 ≤ _)⟩)
    dsimp only [Pt.U, Pt.locs, Pt.cells, Pt.slots] at X196 l196 y196 z196 st196 hQ196
    subst l196 y196 z196
    obtain ⟨rfl, Nq196, e196⟩ := hQ196
    have N196 := Fr.app N193 Nq196
    obtain ⟨LL197, X197, N197⟩ : ∃ LL, Stand p l e room_1 s m #[(.int i0), (.int i1), (.int i2), (.int i3), (.int i4), (.int i5)] below meth c T196 LL 3 132 ∧ Fr n0 LL := ⟨_, X196, N196⟩
    have pre198 : ∀ t, own_s p e below T196 m 297 #[iv i0, iv i1, iv i2, iv i3, iv i4, iv i5, iv of, iv (1 : Int32), rv b99, iv (0 : Int32), iv (12 : Int32), rv r143, iv (4 : Int32), iv (1 : Int32)] [(.int (1 : Int32))] t → Steps p.tables e below S0 t := fun tX kX => pre195 _ (st196 _ kX)
    have pre199 : ∀ t, own_s p e below T196 m 311 #[iv i0, iv i1, iv i2, iv i3, iv i4, iv i5, iv of, iv (1 : Int32), rv b99, iv (0 : Int32), iv (12 : Int32), rv r143, iv (4 : Int32), iv (1 : Int32)] [(.int i2), (.int i1), (.int i0), (.int i3), (.int of), (.int (5 : Int32)), (.int (4 : Int32)), (.ref r143)] t → Steps p.tables e below S0 t := by
      intro tX kX
      refine pre198 _ ?_
      show own_s p e below T196 m 297 #[iv i0, iv i1, iv i2, iv i3, iv i4, iv i5, iv of, iv (1 : Int32), rv b99, iv (0 : Int32), iv (12 : Int32), rv r143, iv (4 : Int32), iv (1 : Int32)] [(.int (1 : Int32))] _
      refine XS.ifNo X197.here hx rfl (hb hby at_297) rfl ((if0 _ _).trans (feq (by decide : ¬ ((1 : Int32) = (0 : Int32)))).1) ?_
      show own_s p e below T196 m 300 #[iv i0, iv i1, iv i2, iv i3, iv i4, iv i5, iv of, iv (1 : Int32), rv b99, iv (0 : Int32), iv (12 : Int32), rv r143, iv (4 : Int32), iv (1 : Int32)] [] _
      refine XS.aload X197.here hx rfl (hb hby at_300) rfl rfl ?_
      show own_s p e below T196 m 302 #[iv i0, iv i1, iv i2, iv i3, iv i4, iv i5, iv of, iv (1 : Int32), rv b99, iv (0 : Int32), iv (12 : Int32), rv r143, iv (4 : Int32), iv (1 : Int32)] [(.ref r143)] _
      refine XS.iload X197.here hx rfl (hb hby at_302) rfl ?_
      show own_s p e below T196 m 304 #[iv i0, iv i1, iv i2, iv i3, iv i4, iv i5, iv of, iv (1 : Int32), rv b99, iv (0 : Int32), iv (12 : Int32), rv r143, iv (4 : Int32), iv (1 : Int32)] [(.int (4 : Int32)), (.ref r143)] _
      refine XS.iconst X197.here hx rfl (hb hby at_304) ?_
      show own_s p e below T196 m 305 #[iv i0, iv i1, iv i2, iv i3, iv i4, iv i5, iv of, iv (1 : Int32), rv b99, iv (0 : Int32), iv (12 : Int32), rv r143, iv (4 : Int32), iv (1 : Int32)] [(.int (5 : Int32)), (.int (4 : Int32)), (.ref r143)] _
      refine XS.iload X197.here hx rfl (hb hby at_305) rfl ?_
      show own_s p e below T196 m 307 #[iv i0, iv i1, iv i2, iv i3, iv i4, iv i5, iv of, iv (1 : Int32), rv b99, iv (0 : Int32), iv (12 : Int32), rv r143, iv (4 : Int32), iv (1 : Int32)] [(.int of), (.int (5 : Int32)), (.int (4 : Int32)), (.ref r143)] _
      refine XS.iloadN X197.here hx rfl (hb hby at_307) rfl ?_
      show own_s p e below T196 m 308 #[iv i0, iv i1, iv i2, iv i3, iv i4, iv i5, iv of, iv (1 : Int32), rv b99, iv (0 : Int32), iv (12 : Int32), rv r143, iv (4 : Int32), iv (1 : Int32)] [(.int i3), (.int of), (.int (5 : Int32)), (.int (4 : Int32)), (.ref r143)] _
      refine XS.iloadN X197.here hx rfl (hb hby at_308) rfl ?_
      show own_s p e below T196 m 309 #[iv i0, iv i1, iv i2, iv i3, iv i4, iv i5, iv of, iv (1 : Int32), rv b99, iv (0 : Int32), iv (12 : Int32), rv r143, iv (4 : Int32), iv (1 : Int32)] [(.int i0), (.int i3), (.int of), (.int (5 : Int32)), (.int (4 : Int32)), (.ref r143)] _
      refine XS.iloadN X197.here hx rfl (hb hby at_309) rfl ?_
      show own_s p e below T196 m 310 #[iv i0, iv i1, iv i2, iv i3, iv i4, iv i5, iv of, iv (1 : Int32), rv b99, iv (0 : Int32), iv (12 : Int32), rv r143, iv (4 : Int32), iv (1 : Int32)] [(.int i1), (.int i0), (.int i3), (.int of), (.int (5 : Int32)), (.int (4 : Int32)), (.ref r143)] _
      refine XS.iloadN X197.here hx rfl (hb hby at_310) rfl ?_
      exact kX
    obtain ⟨_, _, ⟨T200, L200, k200, n200⟩, -, X200, ⟨Lc200, hQ200, l200, y200, z200⟩, st200⟩ := Jvm.LawKit.callS X197 hx (y := (⟨"com/example/farcall/farcall/io/XdrEncoderSetIntPinLaw", "at", "([BIIIIIII)Z"⟩ : MethodName)) hown (mvT hZ (hw _ (List.mem_of_getElem? (i := 62) rfl))) (mvT hZ (hw _ (List.mem_of_getElem? (i := 63) rfl))) (mvT hZ (hw _ (List.mem_of_getElem? (i := 64) rfl))) (mvT hZ (hw _ (List.mem_of_getElem? (i := 65) rfl))) (by decide) (backOf (W := 0) (rm15 l Z a0 hw [] r143 (4 : Int32) (5 : Int32) of i3 i0 i1 i2 (fun j => (own_put (own_put (own_put (own_put (own_put (fun _ : Nat => (0 : Int32)) 0 i4) 4 i0) 8 i1) 12 i2) (4 + O) i3) (0 + j)) 16 4 5 O T143.heap n0 Z143 fA143 rfl rfl hOf (by decide) hO (by decide) (by decide) (show (own_put (own_put (own_put (own_put (own_put (fun _ : Nat => (0 : Int32)) 0 i4) 4 i0) 8 i1) 12 i2) (4 + O) i3) (0 + (4 + 5)) = own_xp 5 O i3 i0 i1 i2 from own_rd (B := 4) (I := 5) (fun _ => (show (own_put (own_put (own_put (own_put (fun _ : Nat => (0 : Int32)) 0 i4) 4 i0) 8 i1) 12 i2) (4 + 5) = own_by i1 1 from ((own_put_out (by decide)).trans ((own_put_in (by decide) (by decide)).trans (congrArg (own_by i1) (show _ = 1 from by decide))))).trans (show own_by i1 1 = own_xp0 5 i0 i1 i2 from rfl)))) hZ (hw _ (List.mem_of_getElem? (i := 65) rfl)) (hw _ (List.mem_of_getElem? (i := 64) rfl)) (by decide) (by decide)) (g := (mkF m 311 #[iv i0, iv i1, iv i2, iv i3, iv i4, iv i5, iv of, iv (1 : Int32), rv b99, iv (0 : Int32), iv (12 : Int32), rv r143, iv (4 : Int32), iv (1 : Int32)] [(.int i2), (.int i1), (.int i0), (.int i3), (.int of), (.int (5 : Int32)), (.int (4 : Int32)), (.ref r143)])) rfl (by rw [hml]; rfl) (argsL := [(.ref r143), (.int (4 : Int32)), (.int (5 : Int32)), (.int of), (.int i3), (.int i0), (.int i1), (.int i2)]) (rest := []) (lenOf pd0_5 rfl) rfl (by show 2 * 0 + _ ≤ _; exact Nat.le_of_eq rfl) (hb hby at_311) (fun _ _ => ⟨rfl, e196, (by decide : 3 + 0 ≤ _), (by decide : 132 + 0 ≤ _)⟩)
    dsimp only [Pt.U, Pt.locs, Pt.cells, Pt.slots] at X200 l200 y200 z200 st200 hQ200
    subst l200 y200 z200
    obtain ⟨rfl, Nq200, e200⟩ := hQ200
    have N200 := Fr.app N197 Nq200
    obtain ⟨LL201, X201, N201⟩ : ∃ LL, Stand p l e room_1 s m #[(.int i0), (.int i1), (.int i2), (.int i3), (.int i4), (.int i5)] below meth c T200 LL 3 132 ∧ Fr n0 LL := ⟨_, X200, N200⟩
    have pre202 : ∀ t, own_s p e below T200 m 314 #[iv i0, iv i1, iv i2, iv i3, iv i4, iv i5, iv of, iv (1 : Int32), rv b99, iv (0 : Int32), iv (12 : Int32), rv r143, iv (4 : Int32), iv (1 : Int32)] [(.int (1 : Int32))] t → Steps p.tables e below S0 t := fun tX kX => pre199 _ (st200 _ kX)
    have pre203 : ∀ t, own_s p e below T200 m 329 #[iv i0, iv i1, iv i2, iv i3, iv i4, iv i5, iv of, iv (1 : Int32), rv b99, iv (0 : Int32), iv (12 : Int32), rv r143, iv (4 : Int32), iv (1 : Int32)] [(.int i2), (.int i1), (.int i0), (.int i3), (.int of), (.int (6 : Int32)), (.int (4 : Int32)), (.ref r143)] t → Steps p.tables e below S0 t := by
      intro tX kX
      refine pre202 _ ?_
      show own_s p e below T200 m 314 #[iv i0, iv i1, iv i2, iv i3, iv i4, iv i5, iv of, iv (1 : Int32), rv b99, iv (0 : Int32), iv (12 : Int32), rv r143, iv (4 : Int32), iv (1 : Int32)] [(.int (1 : Int32))] _
      refine XS.ifNo X201.here hx rfl (hb hby at_314) rfl ((if0 _ _).trans (feq (by decide : ¬ ((1 : Int32) = (0 : Int32)))).1) ?_
      show own_s p e below T200 m 317 #[iv i0, iv i1, iv i2, iv i3, iv i4, iv i5, iv of, iv (1 : Int32), rv b99, iv (0 : Int32), iv (12 : Int32), rv r143, iv (4 : Int32), iv (1 : Int32)] [] _
      refine XS.aload X201.here hx rfl (hb hby at_317) rfl rfl ?_
      show own_s p e below T200 m 319 #[iv i0, iv i1, iv i2, iv i3, iv i4, iv i5, iv of, iv (1 : Int32), rv b99, iv (0 : Int32), iv (12 : Int32), rv r143, iv (4 : Int32), iv (1 : Int32)] [(.ref r143)] _
      refine XS.iload X201.here hx rfl (hb hby at_319) rfl ?_
      show own_s p e below T200 m 321 #[iv i0, iv i1, iv i2, iv i3, iv i4, iv i5, iv of, iv (1 : Int32), rv b99, iv (0 : Int32), iv (12 : Int32), rv r143, iv (4 : Int32), iv (1 : Int32)] [(.int (4 : Int32)), (.ref r143)] _
      refine XS.bipush X201.here hx rfl (hb hby at_321) ?_
      show own_s p e below T200 m 323 #[iv i0, iv i1, iv i2, iv i3, iv i4, iv i5, iv of, iv (1 : Int32), rv b99, iv (0 : Int32), iv (12 : Int32), rv r143, iv (4 : Int32), iv (1 : Int32)] [(.int (6 : Int32)), (.int (4 : Int32)), (.ref r143)] _
      refine XS.iload X201.here hx rfl (hb hby at_323) rfl ?_
      show own_s p e below T200 m 325 #[iv i0, iv i1, iv i2, iv i3, iv i4, iv i5, iv of, iv (1 : Int32), rv b99, iv (0 : Int32), iv (12 : Int32), rv r143, iv (4 : Int32), iv (1 : Int32)] [(.int of), (.int (6 : Int32)), (.int (4 : Int32)), (.ref r143)] _
      refine XS.iloadN X201.here hx rfl (hb hby at_325) rfl ?_
      show own_s p e below T200 m 326 #[iv i0, iv i1, iv i2, iv i3, iv i4, iv i5, iv of, iv (1 : Int32), rv b99, iv (0 : Int32), iv (12 : Int32), rv r143, iv (4 : Int32), iv (1 : Int32)] [(.int i3), (.int of), (.int (6 : Int32)), (.int (4 : Int32)), (.ref r143)] _
      refine XS.iloadN X201.here hx rfl (hb hby at_326) rfl ?_
      show own_s p e below T200 m 327 #[iv i0, iv i1, iv i2, iv i3, iv i4, iv i5, iv of, iv (1 : Int32), rv b99, iv (0 : Int32), iv (12 : Int32), rv r143, iv (4 : Int32), iv (1 : Int32)] [(.int i0), (.int i3), (.int of), (.int (6 : Int32)), (.int (4 : Int32)), (.ref r143)] _
      refine XS.iloadN X201.here hx rfl (hb hby at_327) rfl ?_
      show own_s p e below T200 m 328 #[iv i0, iv i1, iv i2, iv i3, iv i4, iv i5, iv of, iv (1 : Int32), rv b99, iv (0 : Int32), iv (12 : Int32), rv r143, iv (4 : Int32), iv (1 : Int32)] [(.int i1), (.int i0), (.int i3), (.int of), (.int (6 : Int32)), (.int (4 : Int32)), (.ref r143)] _
      refine XS.iloadN X201.here hx rfl (hb hby at_328) rfl ?_
      exact kX
    obtain ⟨_, _, ⟨T204, L204, k204, n204⟩, -, X204, ⟨Lc204, hQ204, l204, y204, z204⟩, st204⟩ := Jvm.LawKit.callS X201 hx (y := (⟨"com/example/farcall/farcall/io/XdrEncoderSetIntPinLaw", "at", "([BIIIIIII)Z"⟩ : MethodName)) hown (mvT hZ (hw _ (List.mem_of_getElem? (i := 62) rfl))) (mvT hZ (hw _ (List.mem_of_getElem? (i := 63) rfl))) (mvT hZ (hw _ (List.mem_of_getElem? (i := 64) rfl))) (mvT hZ (hw _ (List.mem_of_getElem? (i := 65) rfl))) (by decide) (backOf (W := 0) (rm15 l Z a0 hw [] r143 (4 : Int32) (6 : Int32) of i3 i0 i1 i2 (fun j => (own_put (own_put (own_put (own_put (own_put (fun _ : Nat => (0 : Int32)) 0 i4) 4 i0) 8 i1) 12 i2) (4 + O) i3) (0 + j)) 16 4 6 O T143.heap n0 Z143 fA143 rfl rfl hOf (by decide) hO (by decide) (by decide) (show (own_put (own_put (own_put (own_put (own_put (fun _ : Nat => (0 : Int32)) 0 i4) 4 i0) 8 i1) 12 i2) (4 + O) i3) (0 + (4 + 6)) = own_xp 6 O i3 i0 i1 i2 from own_rd (B := 4) (I := 6) (fun _ => (show (own_put (own_put (own_put (own_put (fun _ : Nat => (0 : Int32)) 0 i4) 4 i0) 8 i1) 12 i2) (4 + 6) = own_by i1 2 from ((own_put_out (by decide)).trans ((own_put_in (by decide) (by decide)).trans (congrArg (own_by i1) (show _ = 2 from by decide))))).trans (show own_by i1 2 = own_xp0 6 i0 i1 i2 from rfl)))) hZ (hw _ (List.mem_of_getElem? (i := 65) rfl)) (hw _ (List.mem_of_getElem? (i := 64) rfl)) (by decide) (by decide)) (g := (mkF m 329 #[iv i0, iv i1, iv i2, iv i3, iv i4, iv i5, iv of, iv (1 : Int32), rv b99, iv (0 : Int32), iv (12 : Int32), rv r143, iv (4 : Int32), iv (1 : Int32)] [(.int i2), (.int i1), (.int i0), (.int i3), (.int of), (.int (6 : Int32)), (.int (4 : Int32)), (.ref r143)])) rfl (by rw [hml]; rfl) (argsL := [(.ref r143), (.int (4 : Int32)), (.int (6 : Int32)), (.int of), (.int i3), (.int i0), (.int i1), (.int i2)]) (rest := []) (lenOf pd0_5 rfl) rfl (by show 2 * 0 + _ ≤ _; exact Nat.le_of_eq rfl) (hb hby at_329) (fun _ _ => ⟨rfl, e200, (by decide : 3 + 0 ≤ _), (by decide : 132 + 0 ≤ _)⟩)
    dsimp only [Pt.U, Pt.locs, Pt.cells, Pt.slots] at X204 l204 y204 z204 st204 hQ204
    subst l204 y204 z204
    obtain ⟨rfl, Nq204, e204⟩ := hQ204
    have N204 := Fr.app N201 Nq204
    obtain ⟨LL205, X205, N205⟩ : ∃ LL, Stand p l e room_1 s m #[(.int i0), (.int i1), (.int i2), (.int i3), (.int i4), (.int i5)] below meth c T204 LL 3 132 ∧ Fr n0 LL := ⟨_, X204, N204⟩
    have pre206 : ∀ t, own_s p e below T204 m 332 #[iv i0, iv i1, iv i2, iv i3, iv i4, iv i5, iv of, iv (1 : Int32), rv b99, iv (0 : Int32), iv (12 : Int32), rv r143, iv (4 : Int32), iv (1 : Int32)] [(.int (1 : Int32))] t → Steps p.tables e below S0 t := fun tX kX => pre203 _ (st204 _ kX)
    have pre207 : ∀ t, own_s p e below T204 m 347 #[iv i0, iv i1, iv i2, iv i3, iv i4, iv i5, iv of, iv (1 : Int32), rv b99, iv (0 : Int32), iv (12 : Int32), rv r143, iv (4 : Int32), iv (1 : Int32)] [(.int i2), (.int i1), (.int i0), (.int i3), (.int of), (.int (7 : Int32)), (.int (4 : Int32)), (.ref r143)] t → Steps p.tables e below S0 t := by
      intro tX kX
      refine pre206 _ ?_
      show own_s p e below T204 m 332 #[iv i0, iv i1, iv i2, iv i3, iv i4, iv i5, iv of, iv (1 : Int32), rv b99, iv (0 : Int32), iv (12 : Int32), rv r143, iv (4 : Int32), iv (1 : Int32)] [(.int (1 : Int32))] _
      refine XS.ifNo X205.here hx rfl (hb hby at_332) rfl ((if0 _ _).trans (feq (by decide : ¬ ((1 : Int32) = (0 : Int32)))).1) ?_
      show own_s p e below T204 m 335 #[iv i0, iv i1, iv i2, iv i3, iv i4, iv i5, iv of, iv (1 : Int32), rv b99, iv (0 : Int32), iv (12 : Int32), rv r143, iv (4 : Int32), iv (1 : Int32)] [] _
      refine XS.aload X205.here hx rfl (hb hby at_335) rfl rfl ?_
      show own_s p e below T204 m 337 #[iv i0, iv i1, iv i2, iv i3, iv i4, iv i5, iv of, iv (1 : Int32), rv b99, iv (0 : Int32), iv (12 : Int32), rv r143, iv (4 : Int32), iv (1 : Int32)] [(.ref r143)] _
      refine XS.iload X205.here hx rfl (hb hby at_337) rfl ?_
      show own_s p e below T204 m 339 #[iv i0, iv i1, iv i2, iv i3, iv i4, iv i5, iv of, iv (1 : Int32), rv b99, iv (0 : Int32), iv (12 : Int32), rv r143, iv (4 : Int32), iv (1 : Int32)] [(.int (4 : Int32)), (.ref r143)] _
      refine XS.bipush X205.here hx rfl (hb hby at_339) ?_
      show own_s p e below T204 m 341 #[iv i0, iv i1, iv i2, iv i3, iv i4, iv i5, iv of, iv (1 : Int32), rv b99, iv (0 : Int32), iv (12 : Int32), rv r143, iv (4 : Int32), iv (1 : Int32)] [(.int (7 : Int32)), (.int (4 : Int32)), (.ref r143)] _
      refine XS.iload X205.here hx rfl (hb hby at_341) rfl ?_
      show own_s p e below T204 m 343 #[iv i0, iv i1, iv i2, iv i3, iv i4, iv i5, iv of, iv (1 : Int32), rv b99, iv (0 : Int32), iv (12 : Int32), rv r143, iv (4 : Int32), iv (1 : Int32)] [(.int of), (.int (7 : Int32)), (.int (4 : Int32)), (.ref r143)] _
      refine XS.iloadN X205.here hx rfl (hb hby at_343) rfl ?_
      show own_s p e below T204 m 344 #[iv i0, iv i1, iv i2, iv i3, iv i4, iv i5, iv of, iv (1 : Int32), rv b99, iv (0 : Int32), iv (12 : Int32), rv r143, iv (4 : Int32), iv (1 : Int32)] [(.int i3), (.int of), (.int (7 : Int32)), (.int (4 : Int32)), (.ref r143)] _
      refine XS.iloadN X205.here hx rfl (hb hby at_344) rfl ?_
      show own_s p e below T204 m 345 #[iv i0, iv i1, iv i2, iv i3, iv i4, iv i5, iv of, iv (1 : Int32), rv b99, iv (0 : Int32), iv (12 : Int32), rv r143, iv (4 : Int32), iv (1 : Int32)] [(.int i0), (.int i3), (.int of), (.int (7 : Int32)), (.int (4 : Int32)), (.ref r143)] _
      refine XS.iloadN X205.here hx rfl (hb hby at_345) rfl ?_
      show own_s p e below T204 m 346 #[iv i0, iv i1, iv i2, iv i3, iv i4, iv i5, iv of, iv (1 : Int32), rv b99, iv (0 : Int32), iv (12 : Int32), rv r143, iv (4 : Int32), iv (1 : Int32)] [(.int i1), (.int i0), (.int i3), (.int of), (.int (7 : Int32)), (.int (4 : Int32)), (.ref r143)] _
      refine XS.iloadN X205.here hx rfl (hb hby at_346) rfl ?_
      exact kX
    obtain ⟨_, _, ⟨T208, L208, k208, n208⟩, -, X208, ⟨Lc208, hQ208, l208, y208, z208⟩, st208⟩ := Jvm.LawKit.callS X205 hx (y := (⟨"com/example/farcall/farcall/io/XdrEncoderSetIntPinLaw", "at", "([BIIIIIII)Z"⟩ : MethodName)) hown (mvT hZ (hw _ (List.mem_of_getElem? (i := 62) rfl))) (mvT hZ (hw _ (List.mem_of_getElem? (i := 63) rfl))) (mvT hZ (hw _ (List.mem_of_getElem? (i := 64) rfl))) (mvT hZ (hw _ (List.mem_of_getElem? (i := 65) rfl))) (by decide) (backOf (W := 0) (rm15 l Z a0 hw [] r143 (4 : Int32) (7 : Int32) of i3 i0 i1 i2 (fun j => (own_put (own_put (own_put (own_put (own_put (fun _ : Nat => (0 : Int32)) 0 i4) 4 i0) 8 i1) 12 i2) (4 + O) i3) (0 + j)) 16 4 7 O T143.heap n0 Z143 fA143 rfl rfl hOf (by decide) hO (by decide) (by decide) (show (own_put (own_put (own_put (own_put (own_put (fun _ : Nat => (0 : Int32)) 0 i4) 4 i0) 8 i1) 12 i2) (4 + O) i3) (0 + (4 + 7)) = own_xp 7 O i3 i0 i1 i2 from own_rd (B := 4) (I := 7) (fun _ => (show (own_put (own_put (own_put (own_put (fun _ : Nat => (0 : Int32)) 0 i4) 4 i0) 8 i1) 12 i2) (4 + 7) = own_by i1 3 from ((own_put_out (by decide)).trans ((own_put_in (by decide) (by decide)).trans (congrArg (own_by i1) (show _ = 3 from by decide))))).trans (show own_by i1 3 = own_xp0 7 i0 i1 i2 from rfl)))) hZ (hw _ (List.mem_of_getElem? (i := 65) rfl)) (hw _ (List.mem_of_getElem? (i := 64) rfl)) (by decide) (by decide)) (g := (mkF m 347 #[iv i0, iv i1, iv i2, iv i3, iv i4, iv i5, iv of, iv (1 : Int32), rv b99, iv (0 : Int32), iv (12 : Int32), rv r143, iv (4 : Int32), iv (1 : Int32)] [(.int i2), (.int i1), (.int i0), (.int i3), (.int of), (.int (7 : Int32)), (.int (4 : Int32)), (.ref r143)])) rfl (by rw [hml]; rfl) (argsL := [(.ref r143), (.int (4 : Int32)), (.int (7 : Int32)), (.int of), (.int i3), (.int i0), (.int i1), (.int i2)]) (rest := []) (lenOf pd0_5 rfl) rfl (by show 2 * 0 + _ ≤ _; exact Nat.le_of_eq rfl) (hb hby at_347) (fun _ _ => ⟨rfl, e204, (by decide : 3 + 0 ≤ _), (by decide : 132 + 0 ≤ _)⟩)
    dsimp only [Pt.U, Pt.locs, Pt.cells, Pt.slots] at X208 l208 y208 z208 st208 hQ208
    subst l208 y208 z208
    obtain ⟨rfl, Nq208, e208⟩ := hQ208
    have N208 := Fr.app N205 Nq208
    obtain ⟨LL209, X209, N209⟩ : ∃ LL, Stand p l e room_1 s m #[(.int i0), (.int i1), (.int i2), (.int i3), (.int i4), (.int i5)] below meth c T208 LL 3 132 ∧ Fr n0 LL := ⟨_, X208, N208⟩
    have pre210 : ∀ t, own_s p e below T208 m 350 #[iv i0, iv i1, iv i2, iv i3, iv i4, iv i5, iv of, iv (1 : Int32), rv b99, iv (0 : Int32), iv (12 : Int32), rv r143, iv (4 : Int32), iv (1 : Int32)] [(.int (1 : Int32))] t → Steps p.tables e below S0 t := fun tX kX => pre207 _ (st208 _ kX)
    have pre211 : ∀ t, own_s p e below T208 m 365 #[iv i0, iv i1, iv i2, iv i3, iv i4, iv i5, iv of, iv (1 : Int32), rv b99, iv (0 : Int32), iv (12 : Int32), rv r143, iv (4 : Int32), iv (1 : Int32)] [(.int i2), (.int i1), (.int i0), (.int i3), (.int of), (.int (8 : Int32)), (.int (4 : Int32)), (.ref r143)] t → Steps p.tables e below S0 t := by
      intro tX kX
      refine pre210 _ ?_
      show own_s p e below T208 m 350 #[iv i0, iv i1, iv i2, iv i3, iv i4, iv i5, iv of, iv (1 : Int32), rv b99, iv (0 : Int32), iv (12 : Int32), rv r143, iv (4 : Int32), iv (1 : Int32)] [(.int (1 : Int32))] _
      refine XS.ifNo X209.here hx rfl (hb hby at_350) rfl ((if0 _ _).trans (feq (by decide : ¬ ((1 : Int32) = (0 : Int32)))).1) ?_
      show own_s p e below T208 m 353 #[iv i0, iv i1, iv i2, iv i3, iv i4, iv i5, iv of, iv (1 : Int32), rv b99, iv (0 : Int32), iv (12 : Int32), rv r143, iv (4 : Int32), iv (1 : Int32)] [] _
      refine XS.aload X209.here hx rfl (hb hby at_353) rfl rfl ?_
      show own_s p e below T208 m 355 #[iv i0, iv i1, iv i2, iv i3, iv i4, iv i5, iv of, iv (1 : Int32), rv b99, iv (0 : Int32), iv (12 : Int32), rv r143, iv (4 : Int32), iv (1 : Int32)] [(.ref r143)] _
      refine XS.iload X209.here hx rfl (hb hby at_355) rfl ?_
      show own_s p e below T208 m 357 #[iv i0, iv i1, iv i2, iv i3, iv i4, iv i5, iv of, iv (1 : Int32), rv b99, iv (0 : Int32), iv (12 : Int32), rv r143, iv (4 : Int32), iv (1 : Int32)] [(.int (4 : Int32)), (.ref r143)] _
      refine XS.bipush X209.here hx rfl (hb hby at_357) ?_
      show own_s p e below T208 m 359 #[iv i0, iv i1, iv i2, iv i3, iv i4, iv i5, iv of, iv (1 : Int32), rv b99, iv (0 : Int32), iv (12 : Int32), rv r143, iv (4 : Int32), iv (1 : Int32)] [(.int (8 : Int32)), (.int (4 : Int32)), (.ref r143)] _
      refine XS.iload X209.here hx rfl (hb hby at_359) rfl ?_
      show own_s p e below T208 m 361 #[iv i0, iv i1, iv i2, iv i3, iv i4, iv i5, iv of, iv (1 : Int32), rv b99, iv (0 : Int32), iv (12 : Int32), rv r143, iv (4 : Int32), iv (1 : Int32)] [(.int of), (.int (8 : Int32)), (.int (4 : Int32)), (.ref r143)] _
      refine XS.iloadN X209.here hx rfl (hb hby at_361) rfl ?_
      show own_s p e below T208 m 362 #[iv i0, iv i1, iv i2, iv i3, iv i4, iv i5, iv of, iv (1 : Int32), rv b99, iv (0 : Int32), iv (12 : Int32), rv r143, iv (4 : Int32), iv (1 : Int32)] [(.int i3), (.int of), (.int (8 : Int32)), (.int (4 : Int32)), (.ref r143)] _
      refine XS.iloadN X209.here hx rfl (hb hby at_362) rfl ?_
      show own_s p e below T208 m 363 #[iv i0, iv i1, iv i2, iv i3, iv i4, iv i5, iv of, iv (1 : Int32), rv b99, iv (0 : Int32), iv (12 : Int32), rv r143, iv (4 : Int32), iv (1 : Int32)] [(.int i0), (.int i3), (.int of), (.int (8 : Int32)), (.int (4 : Int32)), (.ref r143)] _
      refine XS.iloadN X209.here hx rfl (hb hby at_363) rfl ?_
      show own_s p e below T208 m 364 #[iv i0, iv i1, iv i2, iv i3, iv i4, iv i5, iv of, iv (1 : Int32), rv b99, iv (0 : Int32), iv (12 : Int32), rv r143, iv (4 : Int32), iv (1 : Int32)] [(.int i1), (.int i0), (.int i3), (.int of), (.int (8 : Int32)), (.int (4 : Int32)), (.ref r143)] _
      refine XS.iloadN X209.here hx rfl (hb hby at_364) rfl ?_
      exact kX
    obtain ⟨_, _, ⟨T212, L212, k212, n212⟩, -, X212, ⟨Lc212, hQ212, l212, y212, z212⟩, st212⟩ := Jvm.LawKit.callS X209 hx (y := (⟨"com/example/farcall/farcall/io/XdrEncoderSetIntPinLaw", "at", "([BIIIIIII)Z"⟩ : MethodName)) hown (mvT hZ (hw _ (List.mem_of_getElem? (i := 62) rfl))) (mvT hZ (hw _ (List.mem_of_getElem? (i := 63) rfl))) (mvT hZ (hw _ (List.mem_of_getElem? (i := 64) rfl))) (mvT hZ (hw _ (List.mem_of_getElem? (i := 65) rfl))) (by decide) (backOf (W := 0) (rm15 l Z a0 hw [] r143 (4 : Int32) (8 : Int32) of i3 i0 i1 i2 (fun j => (own_put (own_put (own_put (own_put (own_put (fun _ : Nat => (0 : Int32)) 0 i4) 4 i0) 8 i1) 12 i2) (4 + O) i3) (0 + j)) 16 4 8 O T143.heap n0 Z143 fA143 rfl rfl hOf (by decide) hO (by decide) (by decide) (show (own_put (own_put (own_put (own_put (own_put (fun _ : Nat => (0 : Int32)) 0 i4) 4 i0) 8 i1) 12 i2) (4 + O) i3) (0 + (4 + 8)) = own_xp 8 O i3 i0 i1 i2 from own_rd (B := 4) (I := 8) (fun _ => (show (own_put (own_put (own_put (own_put (fun _ : Nat => (0 : Int32)) 0 i4) 4 i0) 8 i1) 12 i2) (4 + 8) = own_by i2 0 from ((own_put_in (by decide) (by decide)).trans (congrArg (own_by i2) (show _ = 0 from by decide)))).trans (show own_by i2 0 = own_xp0 8 i0 i1 i2 from rfl)))) hZ (hw _ (List.mem_of_getElem? (i := 65) rfl)) (hw _ (List.mem_of_getElem? (i := 64) rfl)) (by decide) (by decide)) (g := (mkF m 365 #[iv i0, iv i1, iv i2, iv i3, iv i4, iv i5, iv of, iv (1 : Int32), rv b99, iv (0 : Int32), iv (12 : Int32), rv r143, iv (4 : Int32), iv (1 : Int32)] [(.int i2), (.int i1), (.int i0), (.int i3), (.int of), (.int (8 : Int32)), (.int (4 : Int32)), (.ref r143)])) rfl (by rw [hml]; rfl) (argsL := [(.ref r143), (.int (4 : Int32)), (.int (8 : Int32)), (.int of), (.int i3), (.int i0), (.int i1), (.int i2)]) (rest := []) (lenOf pd0_5 rfl) rfl (by show 2 * 0 + _ ≤ _; exact Nat.le_of_eq rfl) (hb hby at_365) (fun _ _ => ⟨rfl, e208, (by decide : 3 + 0 ≤ _), (by decide : 132 + 0 ≤ _)⟩)
    dsimp only [Pt.U, Pt.locs, Pt.cells, Pt.slots] at X212 l212 y212 z212 st212 hQ212
    subst l212 y212 z212
    obtain ⟨rfl, Nq212, e212⟩ := hQ212
    have N212 := Fr.app N209 Nq212
    obtain ⟨LL213, X213, N213⟩ : ∃ LL, Stand p l e room_1 s m #[(.int i0), (.int i1), (.int i2), (.int i3), (.int i4), (.int i5)] below meth c T212 LL 3 132 ∧ Fr n0 LL := ⟨_, X212, N212⟩
    have pre214 : ∀ t, own_s p e below T212 m 368 #[iv i0, iv i1, iv i2, iv i3, iv i4, iv i5, iv of, iv (1 : Int32), rv b99, iv (0 : Int32), iv (12 : Int32), rv r143, iv (4 : Int32), iv (1 : Int32)] [(.int (1 : Int32))] t → Steps p.tables e below S0 t := fun tX kX => pre211 _ (st212 _ kX)
    have pre215 : ∀ t, own_s p e below T212 m 383 #[iv i0, iv i1, iv i2, iv i3, iv i4, iv i5, iv of, iv (1 : Int32), rv b99, iv (0 : Int32), iv (12 : Int32), rv r143, iv (4 : Int32), iv (1 : Int32)] [(.int i2), (.int i1), (.int i0), (.int i3), (.int of), (.int (9 : Int32)), (.int (4 : Int32)), (.ref r143)] t → Steps p.tables e below S0 t := by
      intro tX kX
      refine pre214 _ ?_
      show own_s p e below T212 m 368 #[iv i0, iv i1, iv i2, iv i3, iv i4, iv i5, iv of, iv (1 : Int32), rv b99, iv (0 : Int32), iv (12 : Int32), rv r143, iv (4 : Int32), iv (1 : Int32)] [(.int (1 : Int32))] _
      refine XS.ifNo X213.here hx rfl (hb hby at_368) rfl ((if0 _ _).trans (feq (by decide : ¬ ((1 : Int32) = (0 : Int32)))).1) ?_
      show own_s p e below T212 m 371 #[iv i0, iv i1, iv i2, iv i3, iv i4, iv i5, iv of, iv (1 : Int32), rv b99, iv (0 : Int32), iv (12 : Int32), rv r143, iv (4 : Int32), iv (1 : Int32)] [] _
      refine XS.aload X213.here hx rfl (hb hby at_371) rfl rfl ?_
      show own_s p e below T212 m 373 #[iv i0, iv i1, iv i2, iv i3, iv i4, iv i5, iv of, iv (1 : Int32), rv b99, iv (0 : Int32), iv (12 : Int32), rv r143, iv (4 : Int32), iv (1 : Int32)] [(.ref r143)] _
      refine XS.iload X213.here hx rfl (hb hby at_373) rfl ?_
      show own_s p e below T212 m 375 #[iv i0, iv i1, iv i2, iv i3, iv i4, iv i5, iv of, iv (1 : Int32), rv b99, iv (0 : Int32), iv (12 : Int32), rv r143, iv (4 : Int32), iv (1 : Int32)] [(.int (4 : Int32)), (.ref r143)] _
      refine XS.bipush X213.here hx rfl (hb hby at_375) ?_
      show own_s p e below T212 m 377 #[iv i0, iv i1, iv i2, iv i3, iv i4, iv i5, iv of, iv (1 : Int32), rv b99, iv (0 : Int32), iv (12 : Int32), rv r143, iv (4 : Int32), iv (1 : Int32)] [(.int (9 : Int32)), (.int (4 : Int32)), (.ref r143)] _
      refine XS.iload X213.here hx rfl (hb hby at_377) rfl ?_
      show own_s p e below T212 m 379 #[iv i0, iv i1, iv i2, iv i3, iv i4, iv i5, iv of, iv (1 : Int32), rv b99, iv (0 : Int32), iv (12 : Int32), rv r143, iv (4 : Int32), iv (1 : Int32)] [(.int of), (.int (9 : Int32)), (.int (4 : Int32)), (.ref r143)] _
      refine XS.iloadN X213.here hx rfl (hb hby at_379) rfl ?_
      show own_s p e below T212 m 380 #[iv i0, iv i1, iv i2, iv i3, iv i4, iv i5, iv of, iv (1 : Int32), rv b99, iv (0 : Int32), iv (12 : Int32), rv r143, iv (4 : Int32), iv (1 : Int32)] [(.int i3), (.int of), (.int (9 : Int32)), (.int (4 : Int32)), (.ref r143)] _
      refine XS.iloadN X213.here hx rfl (hb hby at_380) rfl ?_
      show own_s p e below T212 m 381 #[iv i0, iv i1, iv i2, iv i3, iv i4, iv i5, iv of, iv (1 : Int32), rv b99, iv (0 : Int32), iv (12 : Int32), rv r143, iv (4 : Int32), iv (1 : Int32)] [(.int i0), (.int i3), (.int of), (.int (9 : Int32)), (.int (4 : Int32)), (.ref r143)] _
      refine XS.iloadN X213.here hx rfl (hb hby at_381) rfl ?_
      show own_s p e below T212 m 382 #[iv i0, iv i1, iv i2, iv i3, iv i4, iv i5, iv of, iv (1 : Int32), rv b99, iv (0 : Int32), iv (12 : Int32), rv r143, iv (4 : Int32), iv (1 : Int32)] [(.int i1), (.int i0), (.int i3), (.int of), (.int (9 : Int32)), (.int (4 : Int32)), (.ref r143)] _
      refine XS.iloadN X213.here hx rfl (hb hby at_382) rfl ?_
      exact kX
    obtain ⟨_, _, ⟨T216, L216, k216, n216⟩, -, X216, ⟨Lc216, hQ216, l216, y216, z216⟩, st216⟩ := Jvm.LawKit.callS X213 hx (y := (⟨"com/example/farcall/farcall/io/XdrEncoderSetIntPinLaw", "at", "([BIIIIIII)Z"⟩ : MethodName)) hown (mvT hZ (hw _ (List.mem_of_getElem? (i := 62) rfl))) (mvT hZ (hw _ (List.mem_of_getElem? (i := 63) rfl))) (mvT hZ (hw _ (List.mem_of_getElem? (i := 64) rfl))) (mvT hZ (hw _ (List.mem_of_getElem? (i := 65) rfl))) (by decide) (backOf (W := 0) (rm15 l Z a0 hw [] r143 (4 : Int32) (9 : Int32) of i3 i0 i1 i2 (fun j => (own_put (own_put (own_put (own_put (own_put (fun _ : Nat => (0 : Int32)) 0 i4) 4 i0) 8 i1) 12 i2) (4 + O) i3) (0 + j)) 16 4 9 O T143.heap n0 Z143 fA143 rfl rfl hOf (by decide) hO (by decide) (by decide) (show (own_put (own_put (own_put (own_put (own_put (fun _ : Nat => (0 : Int32)) 0 i4) 4 i0) 8 i1) 12 i2) (4 + O) i3) (0 + (4 + 9)) = own_xp 9 O i3 i0 i1 i2 from own_rd (B := 4) (I := 9) (fun _ => (show (own_put (own_put (own_put (own_put (fun _ : Nat => (0 : Int32)) 0 i4) 4 i0) 8 i1) 12 i2) (4 + 9) = own_by i2 1 from ((own_put_in (by decide) (by decide)).trans (congrArg (own_by i2) (show _ = 1 from by decide)))).trans (show own_by i2 1 = own_xp0 9 i0 i1 i2 from rfl)))) hZ (hw _ (List.mem_of_getElem? (i := 65) rfl)) (hw _ (List.mem_of_getElem? (i := 64) rfl)) (by decide) (by decide)) (g := (mkF m 383 #[iv i0, iv i1, iv i2, iv i3, iv i4, iv i5, iv of, iv (1 : Int32), rv b99, iv (0 : Int32), iv (12 : Int32), rv r143, iv (4 : Int32), iv (1 : Int32)] [(.int i2), (.int i1), (.int i0), (.int i3), (.int of), (.int (9 : Int32)), (.int (4 : Int32)), (.ref r143)])) rfl (by rw [hml]; rfl) (argsL := [(.ref r143), (.int (4 : Int32)), (.int (9 : Int32)), (.int of), (.int i3), (.int i0), (.int i1), (.int i2)]) (rest := []) (lenOf pd0_5 rfl) rfl (by show 2 * 0 + _ ≤ _; exact Nat.le_of_eq rfl) (hb hby at_383) (fun _ _ => ⟨rfl, e212, (by decide : 3 + 0 ≤ _), (by decide : 132 + 0 ≤ _)⟩)
    dsimp only [Pt.U, Pt.locs, Pt.cells, Pt.slots] at X216 l216 y216 z216 st216 hQ216
    subst l216 y216 z216
    obtain ⟨rfl, Nq216, e216⟩ := hQ216
    have N216 := Fr.app N213 Nq216
    obtain ⟨LL217, X217, N217⟩ : ∃ LL, Stand p l e room_1 s m #[(.int i0), (.int i1), (.int i2), (.int i3), (.int i4), (.int i5)] below meth c T216 LL 3 132 ∧ Fr n0 LL := ⟨_, X216, N216⟩
    have pre218 : ∀ t, own_s p e below T216 m 386 #[iv i0, iv i1, iv i2, iv i3, iv i4, iv i5, iv of, iv (1 : Int32), rv b99, iv (0 : Int32), iv (12 : Int32), rv r143, iv (4 : Int32), iv (1 : Int32)] [(.int (1 : Int32))] t → Steps p.tables e below S0 t := fun tX kX => pre215 _ (st216 _ kX)
    have pre219 : ∀ t, own_s p e below T216 m 401 #[iv i0, iv i1, iv i2, iv i3, iv i4, iv i5, iv of, iv (1 : Int32), rv b99, iv (0 : Int32), iv (12 : Int32), rv r143, iv (4 : Int32), iv (1 : Int32)] [(.int i2), (.int i1), (.int i0), (.int i3), (.int of), (.int (10 : Int32)), (.int (4 : Int32)), (.ref r143)] t → Steps p.tables e below S0 t := by
      intro tX kX
      refine pre218 _ ?_
      show own_s p e below T216 m 386 #[iv i0, iv i1, iv i2, iv i3, iv i4, iv i5, iv of, iv (1 : Int32), rv b99, iv (0 : Int32), iv (12 : Int32), rv r143, iv (4 : Int32), iv (1 : Int32)] [(.int (1 : Int32))] _
      refine XS.ifNo X217.here hx rfl (hb hby at_386) rfl ((if0 _ _).trans (feq (by decide : ¬ ((1 : Int32) = (0 : Int32)))).1) ?_
      show own_s p e below T216 m 389 #[iv i0, iv i1, iv i2, iv i3, iv i4, iv i5, iv of, iv (1 : Int32), rv b99, iv (0 : Int32), iv (12 : Int32), rv r143, iv (4 : Int32), iv (1 : Int32)] [] _
      refine XS.aload X217.here hx rfl (hb hby at_389) rfl rfl ?_
      show own_s p e below T216 m 391 #[iv i0, iv i1, iv i2, iv i3, iv i4, iv i5, iv of, iv (1 : Int32), rv b99, iv (0 : Int32), iv (12 : Int32), rv r143, iv (4 : Int32), iv (1 : Int32)] [(.ref r143)] _
      refine XS.iload X217.here hx rfl (hb hby at_391) rfl ?_
      show own_s p e below T216 m 393 #[iv i0, iv i1, iv i2, iv i3, iv i4, iv i5, iv of, iv (1 : Int32), rv b99, iv (0 : Int32), iv (12 : Int32), rv r143, iv (4 : Int32), iv (1 : Int32)] [(.int (4 : Int32)), (.ref r143)] _
      refine XS.bipush X217.here hx rfl (hb hby at_393) ?_
      show own_s p e below T216 m 395 #[iv i0, iv i1, iv i2, iv i3, iv i4, iv i5, iv of, iv (1 : Int32), rv b99, iv (0 : Int32), iv (12 : Int32), rv r143, iv (4 : Int32), iv (1 : Int32)] [(.int (10 : Int32)), (.int (4 : Int32)), (.ref r143)] _
      refine XS.iload X217.here hx rfl (hb hby at_395) rfl ?_
      show own_s p e below T216 m 397 #[iv i0, iv i1, iv i2, iv i3, iv i4, iv i5, iv of, iv (1 : Int32), rv b99, iv (0 : Int32), iv (12 : Int32), rv r143, iv (4 : Int32), iv (1 : Int32)] [(.int of), (.int (10 : Int32)), (.int (4 : Int32)), (.ref r143)] _
      refine XS.iloadN X217.here hx rfl (hb hby at_397) rfl ?_
      show own_s p e below T216 m 398 #[iv i0, iv i1, iv i2, iv i3, iv i4, iv i5, iv of, iv (1 : Int32), rv b99, iv (0 : Int32), iv (12 : Int32), rv r143, iv (4 : Int32), iv (1 : Int32)] [(.int i3), (.int of), (.int (10 : Int32)), (.int (4 : Int32)), (.ref r143)] _
      refine XS.iloadN X217.here hx rfl (hb hby at_398) rfl ?_
      show own_s p e below T216 m 399 #[iv i0, iv i1, iv i2, iv i3, iv i4, iv i5, iv of, iv (1 : Int32), rv b99, iv (0 : Int32), iv (12 : Int32), rv r143, iv (4 : Int32), iv (1 : Int32)] [(.int i0), (.int i3), (.int of), (.int (10 : Int32)), (.int (4 : Int32)), (.ref r143)] _
      refine XS.iloadN X217.here hx rfl (hb hby at_399) rfl ?_
      show own_s p e below T216 m 400 #[iv i0, iv i1, iv i2, iv i3, iv i4, iv i5, iv of, iv (1 : Int32), rv b99, iv (0 : Int32), iv (12 : Int32), rv r143, iv (4 : Int32), iv (1 : Int32)] [(.int i1), (.int i0), (.int i3), (.int of), (.int (10 : Int32)), (.int (4 : Int32)), (.ref r143)] _
      refine XS.iloadN X217.here hx rfl (hb hby at_400) rfl ?_
      exact kX
    obtain ⟨_, _, ⟨T220, L220, k220, n220⟩, -, X220, ⟨Lc220, hQ220, l220, y220, z220⟩, st220⟩ := Jvm.LawKit.callS X217 hx (y := (⟨"com/example/farcall/farcall/io/XdrEncoderSetIntPinLaw", "at", "([BIIIIIII)Z"⟩ : MethodName)) hown (mvT hZ (hw _ (List.mem_of_getElem? (i := 62) rfl))) (mvT hZ (hw _ (List.mem_of_getElem? (i := 63) rfl))) (mvT hZ (hw _ (List.mem_of_getElem? (i := 64) rfl))) (mvT hZ (hw _ (List.mem_of_getElem? (i := 65) rfl))) (by decide) (backOf (W := 0) (rm15 l Z a0 hw [] r143 (4 : Int32) (10 : Int32) of i3 i0 i1 i2 (fun j => (own_put (own_put (own_put (own_put (own_put (fun _ : Nat => (0 : Int32)) 0 i4) 4 i0) 8 i1) 12 i2) (4 + O) i3) (0 + j)) 16 4 10 O T143.heap n0 Z143 fA143 rfl rfl hOf (by decide) hO (by decide) (by decide) (show (own_put (own_put (own_put (own_put (own_put (fun _ : Nat => (0 : Int32)) 0 i4) 4 i0) 8 i1) 12 i2) (4 + O) i3) (0 + (4 + 10)) = own_xp 10 O i3 i0 i1 i2 from own_rd (B := 4) (I := 10) (fun _ => (show (own_put (own_put (own_put (own_put (fun _ : Nat => (0 : Int32)) 0 i4) 4 i0) 8 i1) 12 i2) (4 + 10) = own_by i2 2 from ((own_put_in (by decide) (by decide)).trans (congrArg (own_by i2) (show _ = 2 from by decide)))).trans (show own_by i2 2 = own_xp0 10 i0 i1 i2 from rfl)))) hZ (hw _ (List.mem_of_getElem? (i := 65) rfl)) (hw _ (List.mem_of_getElem? (i := 64) rfl)) (by decide) (by decide)) (g := (mkF m 401 #[iv i0, iv i1, iv i2, iv i3, iv i4, iv i5, iv of, iv (1 : Int32), rv b99, iv (0 : Int32), iv (12 : Int32), rv r143, iv (4 : Int32), iv (1 : Int32)] [(.int i2), (.int i1), (.int i0), (.int i3), (.int of), (.int (10 : Int32)), (.int (4 : Int32)), (.ref r143)])) rfl (by rw [hml]; rfl) (argsL := [(.ref r143), (.int (4 : Int32)), (.int (10 : Int32)), (.int of), (.int i3), (.int i0), (.int i1), (.int i2)]) (rest := []) (lenOf pd0_5 rfl) rfl (by show 2 * 0 + _ ≤ _; exact Nat.le_of_eq rfl) (hb hby at_401) (fun _ _ => ⟨rfl, e216, (by decide : 3 + 0 ≤ _), (by decide : 132 + 0 ≤ _)⟩)
    dsimp only [Pt.U, Pt.locs, Pt.cells, Pt.slots] at X220 l220 y220 z220 st220 hQ220
    subst l220 y220 z220
    obtain ⟨rfl, Nq220, e220⟩ := hQ220
    have N220 := Fr.app N217 Nq220
    obtain ⟨LL221, X221, N221⟩ : ∃ LL, Stand p l e room_1 s m #[(.int i0), (.int i1), (.int i2), (.int i3), (.int i4), (.int i5)] below meth c T220 LL 3 132 ∧ Fr n0 LL := ⟨_, X220, N220⟩
    have pre222 : ∀ t, own_s p e below T220 m 404 #[iv i0, iv i1, iv i2, iv i3, iv i4, iv i5, iv of, iv (1 : Int32), rv b99, iv (0 : Int32), iv (12 : Int32), rv r143, iv (4 : Int32), iv (1 : Int32)] [(.int (1 : Int32))] t → Steps p.tables e below S0 t := fun tX kX => pre219 _ (st220 _ kX)
    have pre223 : ∀ t, own_s p e below T220 m 419 #[iv i0, iv i1, iv i2, iv i3, iv i4, iv i5, iv of, iv (1 : Int32), rv b99, iv (0 : Int32), iv (12 : Int32), rv r143, iv (4 : Int32), iv (1 : Int32)] [(.int i2), (.int i1), (.int i0), (.int i3), (.int of), (.int (11 : Int32)), (.int (4 : Int32)), (.ref r143)] t → Steps p.tables e below S0 t := by
      intro tX kX
      refine pre222 _ ?_
      show own_s p e below T220 m 404 #[iv i0, iv i1, iv i2, iv i3, iv i4, iv i5, iv of, iv (1 : Int32), rv b99, iv (0 : Int32), iv (12 : Int32), rv r143, iv (4 : Int32), iv (1 : Int32)] [(.int (1 : Int32))] _
      refine XS.ifNo X221.here hx rfl (hb hby at_404) rfl ((if0 _ _).trans (feq (by decide : ¬ ((1 : Int32) = (0 : Int32)))).1) ?_
      show own_s p e below T220 m 407 #[iv i0, iv i1, iv i2, iv i3, iv i4, iv i5, iv of, iv (1 : Int32), rv b99, iv (0 : Int32), iv (12 : Int32), rv r143, iv (4 : Int32), iv (1 : Int32)] [] _
      refine XS.aload X221.here hx rfl (hb hby at_407) rfl rfl ?_
      show own_s p e below T220 m 409 #[iv i0, iv i1, iv i2, iv i3, iv i4, iv i5, iv of, iv (1 : Int32), rv b99, iv (0 : Int32), iv (12 : Int32), rv r143, iv (4 : Int32), iv (1 : Int32)] [(.ref r143)] _
      refine XS.iload X221.here hx rfl (hb hby at_409) rfl ?_
      show own_s p e below T220 m 411 #[iv i0, iv i1, iv i2, iv i3, iv i4, iv i5, iv of, iv (1 : Int32), rv b99, iv (0 : Int32), iv (12 : Int32), rv r143, iv (4 : Int32), iv (1 : Int32)] [(.int (4 : Int32)), (.ref r143)] _
      refine XS.bipush X221.here hx rfl (hb hby at_411) ?_
      show own_s p e below T220 m 413 #[iv i0, iv i1, iv i2, iv i3, iv i4, iv i5, iv of, iv (1 : Int32), rv b99, iv (0 : Int32), iv (12 : Int32), rv r143, iv (4 : Int32), iv (1 : Int32)] [(.int (11 : Int32)), (.int (4 : Int32)), (.ref r143)] _
      refine XS.iload X221.here hx rfl (hb hby at_413) rfl ?_
      show own_s p e below T220 m 415 #[iv i0, iv i1, iv i2, iv i3, iv i4, iv i5, iv of, iv (1 : Int32), rv b99, iv (0 : Int32), iv (12 : Int32), rv r143, iv (4 : Int32), iv (1 : Int32)] [(.int of), (.int (11 : Int32)), (.int (4 : Int32)), (.ref r143)] _
      refine XS.iloadN X221.here hx rfl (hb hby at_415) rfl ?_
      show own_s p e below T220 m 416 #[iv i0, iv i1, iv i2, iv i3, iv i4, iv i5, iv of, iv (1 : Int32), rv b99, iv (0 : Int32), iv (12 : Int32), rv r143, iv (4 : Int32), iv (1 : Int32)] [(.int i3), (.int of), (.int (11 : Int32)), (.int (4 : Int32)), (.ref r143)] _
      refine XS.iloadN X221.here hx rfl (hb hby at_416) rfl ?_
      show own_s p e below T220 m 417 #[iv i0, iv i1, iv i2, iv i3, iv i4, iv i5, iv of, iv (1 : Int32), rv b99, iv (0 : Int32), iv (12 : Int32), rv r143, iv (4 : Int32), iv (1 : Int32)] [(.int i0), (.int i3), (.int of), (.int (11 : Int32)), (.int (4 : Int32)), (.ref r143)] _
      refine XS.iloadN X221.here hx rfl (hb hby at_417) rfl ?_
      show own_s p e below T220 m 418 #[iv i0, iv i1, iv i2, iv i3, iv i4, iv i5, iv of, iv (1 : Int32), rv b99, iv (0 : Int32), iv (12 : Int32), rv r143, iv (4 : Int32), iv (1 : Int32)] [(.int i1), (.int i0), (.int i3), (.int of), (.int (11 : Int32)), (.int (4 : Int32)), (.ref r143)] _
      refine XS.iloadN X221.here hx rfl (hb hby at_418) rfl ?_
      exact kX
    obtain ⟨_, _, ⟨T224, L224, k224, n224⟩, -, X224, ⟨Lc224, hQ224, l224, y224, z224⟩, st224⟩ := Jvm.LawKit.callS X221 hx (y := (⟨"com/example/farcall/farcall/io/XdrEncoderSetIntPinLaw", "at", "([BIIIIIII)Z"⟩ : MethodName)) hown (mvT hZ (hw _ (List.mem_of_getElem? (i := 62) rfl))) (mvT hZ (hw _ (List.mem_of_getElem? (i := 63) rfl))) (mvT hZ (hw _ (List.mem_of_getElem? (i := 64) rfl))) (mvT hZ (hw _ (List.mem_of_getElem? (i := 65) rfl))) (by decide) (backOf (W := 0) (rm15 l Z a0 hw [] r143 (4 : Int32) (11 : Int32) of i3 i0 i1 i2 (fun j => (own_put (own_put (own_put (own_put (own_put (fun _ : Nat => (0 : Int32)) 0 i4) 4 i0) 8 i1) 12 i2) (4 + O) i3) (0 + j)) 16 4 11 O T143.heap n0 Z143 fA143 rfl rfl hOf (by decide) hO (by decide) (by decide) (show (own_put (own_put (own_put (own_put (own_put (fun _ : Nat => (0 : Int32)) 0 i4) 4 i0) 8 i1) 12 i2) (4 + O) i3) (0 + (4 + 11)) = own_xp 11 O i3 i0 i1 i2 from own_rd (B := 4) (I := 11) (fun _ => (show (own_put (own_put (own_put (own_put (fun _ : Nat => (0 : Int32)) 0 i4) 4 i0) 8 i1) 12 i2) (4 + 11) = own_by i2 3 from ((own_put_in (by decide) (by decide)).trans (congrArg (own_by i2) (show _ = 3 from by decide)))).trans (show own_by i2 3 = own_xp0 11 i0 i1 i2 from rfl)))) hZ (hw _ (List.mem_of_getElem? (i := 65) rfl)) (hw _ (List.mem_of_getElem? (i := 64) rfl)) (by decide) (by decide)) (g := (mkF m 419 #[iv i0, iv i1, iv i2, iv i3, iv i4, iv i5, iv of, iv (1 : Int32), rv b99, iv (0 : Int32), iv (12 : Int32), rv r143, iv (4 : Int32), iv (1 : Int32)] [(.int i2), (.int i1), (.int i0), (.int i3), (.int of), (.int (11 : Int32)), (.int (4 : Int32)), (.ref r143)])) rfl (by rw [hml]; rfl) (argsL := [(.ref r143), (.int (4 : Int32)), (.int (11 : Int32)), (.int of), (.int i3), (.int i0), (.int i1), (.int i2)]) (rest := []) (lenOf pd0_5 rfl) rfl (by show 2 * 0 + _ ≤ _; exact Nat.le_of_eq rfl) (hb hby at_419) (fun _ _ => ⟨rfl, e220, (by decide : 3 + 0 ≤ _), (by decide : 132 + 0 ≤ _)⟩)
    dsimp only [Pt.U, Pt.locs, Pt.cells, Pt.slots] at X224 l224 y224 z224 st224 hQ224
    subst l224 y224 z224
    obtain ⟨rfl, Nq224, e224⟩ := hQ224
    have N224 := Fr.app N221 Nq224
    obtain ⟨LL225, X225, N225⟩ : ∃ LL, Stand p l e room_1 s m #[(.int i0), (.int i1), (.int i2), (.int i3), (.int i4), (.int i5)] below meth c T224 LL 3 132 ∧ Fr n0 LL := ⟨_, X224, N224⟩
    have pre226 : ∀ t, own_s p e below T224 m 422 #[iv i0, iv i1, iv i2, iv i3, iv i4, iv i5, iv of, iv (1 : Int32), rv b99, iv (0 : Int32), iv (12 : Int32), rv r143, iv (4 : Int32), iv (1 : Int32)] [(.int (1 : Int32))] t → Steps p.tables e below S0 t := fun tX kX => pre223 _ (st224 _ kX)
    have pre227 : ∀ t, own_s p e below T224 m 430 #[iv i0, iv i1, iv i2, iv i3, iv i4, iv i5, iv of, iv (1 : Int32), rv b99, iv (0 : Int32), iv (12 : Int32), rv r143, iv (4 : Int32), iv (1 : Int32)] [(.int (1 : Int32))] t → Steps p.tables e below S0 t := by
      intro tX kX
      refine pre226 _ ?_
      show own_s p e below T224 m 422 #[iv i0, iv i1, iv i2, iv i3, iv i4, iv i5, iv of, iv (1 : Int32), rv b99, iv (0 : Int32), iv (12 : Int32), rv r143, iv (4 : Int32), iv (1 : Int32)] [(.int (1 : Int32))] _
      refine XS.ifNo X225.here hx rfl (hb hby at_422) rfl ((if0 _ _).trans (feq (by decide : ¬ ((1 : Int32) = (0 : Int32)))).1) ?_
      show own_s p e below T224 m 425 #[iv i0, iv i1, iv i2, iv i3, iv i4, iv i5, iv of, iv (1 : Int32), rv b99, iv (0 : Int32), iv (12 : Int32), rv r143, iv (4 : Int32), iv (1 : Int32)] [] _
      refine XS.iconst X225.here hx rfl (hb hby at_425) ?_
      show own_s p e below T224 m 426 #[iv i0, iv i1, iv i2, iv i3, iv i4, iv i5, iv of, iv (1 : Int32), rv b99, iv (0 : Int32), iv (12 : Int32), rv r143, iv (4 : Int32), iv (1 : Int32)] [(.int (1 : Int32))] _
      refine XS.goto X225.here hx rfl (pc0 := 426) (pc' := 430) rfl (hb hby at_426) (by decide) (by decide) ?_
      exact kX
    subst hS0
    obtain ⟨fs, hr, hrun, hended, hW, hsame⟩ := X225.leave (v := (some (.int (1 : Int32)))) (fun h => by rw [Bd.returns] at h; cases h)
    refine ⟨_, _, pre227 _ (retN X225 hx (t := .boolean) Bd.returns (by simp) (hb hby at_430) hr), hrun, hended, _, _, rfl, ?_, ⟨_, rfl⟩, hW, hsame.mono (by decide) (by decide)⟩
    show Q0 Z i0 i1 i2 i3 i4 i5 h0 n0 (some (.int (1 : Int32))) T224.heap _
    exact ⟨rfl, N225⟩
set_option maxRecDepth 65536 in
set_option maxHeartbeats 40000000 in
theorem comes_1 {Post : Tables → Env → Array Value → State → Outcome → State → Prop} (hpost : ∀ tb e args s v u, (limb_1_1.after args s (.returned v) u = true ∧ limb_1_2.after args s (.returned v) u = true ∧ True) → FrameEnd s (.returned v) u (Jvm.fieldLocs frame_1_writes args s ++ Jvm.arrayLocs frame_1_arrays args s ++ Jvm.staticLocs frame_1_statics s) 16 256 → Post tb e args s (.returned v) u) :
    ArmFor flags0 classFile x code maxLocals ret World_1 tables_1 room_1 Calls_1 rest_1 Pre_1 Post := by
  intro l hfl _ _ p e ha hc hk s m args below hf hA hF happ hP
  obtain ⟨hcalls, hrest, hpre⟩ := hP
  obtain ⟨-, -, -, hnamed, -, -, -, hat⟩ := (Spec.applies_iff hf).mp happ
  obtain ⟨hg, hn⟩ := and_e (Cond.before_iff.mp (show (Jvm.Cond.and given_1 narrow_1).before args s = true from hpre))
  obtain ⟨hcnt, q0⟩ := and_e hg
  obtain ⟨ha0, q1⟩ := and_e q0
  obtain ⟨ha1, q2⟩ := and_e q1
  obtain ⟨ha2, q3⟩ := and_e q2
  obtain ⟨ha3, q4⟩ := and_e q3
  obtain ⟨ha4, q5⟩ := and_e q4
  have ha5 := q5
  obtain ⟨w0, w1, w2, w3, w4, w5, rfl⟩ : ∃ w0 w1 w2 w3 w4 w5 : Value, args = #[w0, w1, w2, w3, w4, w5] := by
    have hs : args.size = 6 := by simpa [Cond.value, given_1] using hcnt
    obtain ⟨L⟩ := args
    match L, hs with
    | [w0, w1, w2, w3, w4, w5], _ => exact ⟨w0, w1, w2, w3, w4, w5, rfl⟩
  have hw := fun d (hd : d ∈ tables_1) => atoms_spec (ws := Jvm.Cond.code x code maxLocals ret :: tables_1) hat d (List.mem_cons_of_mem _ hd)
  have hfit : Fit s := fun {y c} hc i hi => by
    obtain ⟨ha, rfl⟩ := Array.getElem?_eq_some_iff.mp hc
    have q := List.all_eq_true.mp ((Array.all_eq_true_iff_forall_mem.mp hF) _ (Array.getElem_mem ha)) i (List.mem_range.mpr hi)
    simpa [Array.getElem?_eq_getElem hi] using q
  obtain ⟨i0, ei0⟩ := is_v ha0
  obtain rfl : w0 = (.int i0) := Option.some.inj ei0
  obtain ⟨i1, ei1⟩ := is_v ha1
  obtain rfl : w1 = (.int i1) := Option.some.inj ei1
  obtain ⟨i2, ei2⟩ := is_v ha2
  obtain rfl : w2 = (.int i2) := Option.some.inj ei2
  obtain ⟨i3, ei3⟩ := is_v ha3
  obtain rfl : w3 = (.int i3) := Option.some.inj ei3
  obtain ⟨i4, ei4⟩ := is_v ha4
  obtain rfl : w4 = (.int i4) := Option.some.inj ei4
  obtain ⟨i5, ei5⟩ := is_v ha5
  obtain rfl : w5 = (.int i5) := Option.some.inj ei5
  obtain ⟨n, o, h1, h2, h3, _, L, rfl, ⟨rfl, N⟩, hq⟩ := rm0 l s _ hw tables_1 i0 i1 i2 i3 i4 i5  s.heap s.heap.size (Nat.le_refl _)  p e ha hc hk s m _ below hf ((Spec.applies_iff_loose hf).mp happ).1 ⟨rfl, State.Warmed39.refl s, rfl⟩ trivial
  refine ⟨n, _, h1, h2, h3, hpost _ _ _ _ _ _ ⟨Cond.after_iff.mpr rfl, Cond.after_iff.mpr (eq_i res_at (Term.int_eval (1)) rfl), trivial⟩ ⟨hq.1, hq.2.1, (hq.2.2.sift fun y hy => Or.inr (N y hy)).mono (by decide) (by decide)⟩⟩
theorem main_1_1 : Claimed_1_1 := comes_1 fun _ _ _ _ _ _ h hF => ⟨h.1, hF⟩
theorem main_1_2 : Claimed_1_2 := comes_1 fun _ _ _ _ _ _ h hF => ⟨h.2.1, hF⟩
end Jvm.Pilot.@@N@@
namespace Jvm.Pilot.@@N@@
open Jvm Jvm.ClassFile Sem Op Lib Jvm.Free Jvm.Stand Jvm.Pilot.@@N@@.Jvm.D
/-! MADE BY PROGRAM (witnessworld.py) out of the Statement's table words and the real class files: 12 classes; the members and pool entries that the words name. The judged class is class 1, her method 4. -/
namespace start1
open Jvm.ClassFile
def u (s : String) : CpInfo := .utf8 (stringToUtf16 s)
/-- a pool by its gaps: so many unusable entries, then the entry; so many at the end -/
def gap : Nat → List CpInfo → List CpInfo
  | 0, r => r
  | n + 1, r => .unusable :: gap n r
def poolList (es : List (Nat × CpInfo)) (last : Nat) : List CpInfo := es.foldr (fun e r => gap e.1 (e.2 :: r)) (gap last [])
def pool (es : List (Nat × CpInfo)) (last : Nat) : Array CpInfo := ⟨poolList es last⟩
def fileOf (pool : Array CpInfo) (this : Nat) (attrs : Array Attribute := #[]) (ms : Array MethodInfo := #[]) (fl : Nat := 33) (sup : Nat := 0) (ifs : Array Nat := #[]) (fds : Array FieldInfo := #[]) : ClassFile where
  minorVersion := 0
  majorVersion := 65
  constantPool := pool
  accessFlags := fl
  thisClass := this
  superClass := sup
  interfaces := ifs
  fields := fds
  methods := ms
  attributes := attrs
def plain (name : String) (sup : Option ClassId) : Class where
  name := name
  kind := .ordinary
  loader := none
  accessFlags := 33
  super := sup
  interfaces := #[]
  cf := none
  fields := #[]
  methods := #[]
  instanceTypes := #[]
  staticTypes := #[]
  resolved := #[]
  callSites := []
  init := .initialized
  statics := none
  mirror := none

def pool0 : Array CpInfo := pool [(5, u "<init>"), (0, u "()V"), (1, .class_ 10), (1, u "java/lang/Object")] 113

def k0c0 : Code := { maxStack := 0, maxLocals := 1, code := object_method_1_code, exceptionTable := #[], attributes := #[] }
def k0m0 : Method := { name := "<init>", desc := "()V", sig := { parameters := [], returnType := none }, accessFlags := 1, code := some k0c0 }
/-- java/lang/Object -/
def k0 : Class := { plain "java/lang/Object" none with
  accessFlags := 33
  interfaces := #[]
  cf := some (fileOf pool0 8 #[] #[{ accessFlags := 1, nameIndex := 5, descriptorIndex := 6, attributes := #[] }] 33 0 #[] #[])
  fields := #[]
  methods := #[k0m0]
  instanceTypes := #[]
  staticTypes := #[]
  resolved := Array.replicate 124 none
  statics := none }

def pool1 : Array CpInfo := pool [(2, .class_ 4), (0, .nameAndType 5 6), (0, u "java/lang/Object"), (0, u "<init>"), (0, u "()V"), (0, .methodref 8 9), (0, .class_ 10), (0, .nameAndType 11 12), (0, u "com/example/farcall/farcall/io/XdrEncoderSetIntPinLaw"), (0, u "intByte"), (0, u "(II)B"), (0, .methodref 8 14), (0, .nameAndType 15 16), (0, u "expected"), (0, u "(IIIIII)B"), (0, .integer 65535), (0, .integer 65536), (0, .class_ 20), (0, u "com/example/farcall/farcall/io/XdrEncoder"), (0, .methodref 19 3), (0, .methodref 19 23), (0, .nameAndType 24 25), (0, u "writeInt"), (0, u "(I)Lcom/example/farcall/farcall/io/XdrEncoder;"), (0, .methodref 19 27), (0, .nameAndType 28 29), (0, u "beginPart"), (0, u "()I"), (0, .methodref 19 31), (0, .nameAndType 32 33), (0, u "setInt"), (0, u "(II)V"), (0, .methodref 19 35), (0, .nameAndType 36 29), (0, u "size"), (0, .methodref 19 38), (0, .nameAndType 39 40), (0, u "endPart"), (0, u "(I)V"), (0, .methodref 19 42), (0, .nameAndType 43 44), (0, u "toByteArray"), (0, u "()[B"), (0, .methodref 8 46), (0, .nameAndType 47 48), (0, u "at"), (0, u "([BIIIIIII)Z"), (3, u "law"), (0, u "(IIIIII)Z")] 4

def k1m0 : Method := { name := "<init>", desc := "()V", sig := { parameters := [], returnType := none }, accessFlags := 2, code := none }
def k1c1 : Code := { maxStack := 4, maxLocals := 2, code := method_2_code, exceptionTable := #[], attributes := #[] }
def k1m1 : Method := { name := "intByte", desc := "(II)B", sig := { parameters := [.int, .int], returnType := some .byte }, accessFlags := 10, code := some k1c1 }
def k1c2 : Code := { maxStack := 3, maxLocals := 8, code := method_3_code, exceptionTable := #[], attributes := #[] }
def k1m2 : Method := { name := "expected", desc := "(IIIIII)B", sig := { parameters := [.int, .int, .int, .int, .int, .int], returnType := some .byte }, accessFlags := 10, code := some k1c2 }
def k1c3 : Code := { maxStack := 7, maxLocals := 8, code := method_4_code, exceptionTable := #[], attributes := #[] }
def k1m3 : Method := { name := "at", desc := "([BIIIIIII)Z", sig := { parameters := [(.array .byte), .int, .int, .int, .int, .int, .int, .int], returnType := some .boolean }, accessFlags := 10, code := some k1c3 }
def k1c4 : Code := { maxStack := 8, maxLocals := 14, code := code, exceptionTable := #[], attributes := #[] }
def k1m4 : Method := { name := "law", desc := "(IIIIII)Z", sig := { parameters := [.int, .int, .int, .int, .int, .int], returnType := some .boolean }, accessFlags := 9, code := some k1c4 }
/-- com/example/farcall/farcall/io/XdrEncoderSetIntPinLaw -/
def k1 : Class := { plain "com/example/farcall/farcall/io/XdrEncoderSetIntPinLaw" (some 0) with
  accessFlags := 49
  interfaces := #[]
  cf := some (fileOf pool1 8 #[] #[{ accessFlags := 2, nameIndex := 5, descriptorIndex := 6, attributes := #[] }, { accessFlags := 10, nameIndex := 11, descriptorIndex := 12, attributes := #[] }, { accessFlags := 10, nameIndex := 15, descriptorIndex := 16, attributes := #[] }, { accessFlags := 10, nameIndex := 47, descriptorIndex := 48, attributes := #[] }, { accessFlags := 9, nameIndex := 52, descriptorIndex := 53, attributes := #[] }] 49 2 #[] #[])
  fields := #[]
  methods := #[k1m0, k1m1, k1m2, k1m3, k1m4]
  instanceTypes := #[]
  staticTypes := #[]
  resolved := Array.replicate 58 none
  statics := none }

def pool2 : Array CpInfo := pool [(1, .methodref 2 3), (0, .class_ 4), (0, .nameAndType 5 6), (0, u "java/lang/Object"), (0, u "<init>"), (0, u "()V"), (0, .class_ 8), (0, u "com/example/farcall/farcall/io/XdrEncoder"), (0, .fieldref 7 10), (0, .nameAndType 11 12), (0, u "buffer"), (0, u "[B"), (2, .methodref 7 16), (0, .nameAndType 17 18), (0, u "ensureRoom"), (0, u "(I)V"), (0, .fieldref 7 20), (0, .nameAndType 21 22), (0, u "end"), (0, u "I"), (0, .methodref 7 24), (0, .nameAndType 25 26), (0, u "size"), (0, u "()I"), (0, .methodref 7 28), (0, .nameAndType 29 30), (0, u "setInt"), (0, u "(II)V"), (2, u "writeInt"), (0, u "(I)Lcom/example/farcall/farcall/io/XdrEncoder;"), (93, .fieldref 7 129), (0, .nameAndType 130 22), (0, u "start"), (4, .methodref 136 137), (0, .class_ 138), (0, .nameAndType 139 140), (0, u "java/util/Arrays"), (0, u "copyOfRange"), (0, u "([BII)[B"), (3, u "view"), (0, u "Ljava/nio/ByteBuffer;"), (5, u "()[B"), (34, u "INITIAL_CAPACITY"), (33, u "toByteArray"), (0, u "beginPart"), (0, u "endPart")] 26

def k2c0 : Code := { maxStack := 2, maxLocals := 1, code := prog_43_method_1_code, exceptionTable := #[], attributes := #[] }
def k2m0 : Method := { name := "<init>", desc := "()V", sig := { parameters := [], returnType := none }, accessFlags := 1, code := some k2c0 }
def k2c1 : Code := { maxStack := 3, maxLocals := 2, code := prog_43_method_2_code, exceptionTable := #[], attributes := #[] }
def k2m1 : Method := { name := "writeInt", desc := "(I)Lcom/example/farcall/farcall/io/XdrEncoder;", sig := { parameters := [.int], returnType := some (.object "com/example/farcall/farcall/io/XdrEncoder") }, accessFlags := 1, code := some k2c1 }
def k2c2 : Code := { maxStack := 2, maxLocals := 1, code := prog_43_method_19_code, exceptionTable := #[], attributes := #[] }
def k2m2 : Method := { name := "size", desc := "()I", sig := { parameters := [], returnType := some .int }, accessFlags := 1, code := some k2c2 }
def k2c3 : Code := { maxStack := 3, maxLocals := 1, code := prog_43_method_21_code, exceptionTable := #[], attributes := #[] }
def k2m3 : Method := { name := "toByteArray", desc := "()[B", sig := { parameters := [], returnType := some (.array .byte) }, accessFlags := 1, code := some k2c3 }
def k2c4 : Code := { maxStack := 2, maxLocals := 2, code := prog_43_method_22_code, exceptionTable := #[], attributes := #[] }
def k2m4 : Method := { name := "beginPart", desc := "()I", sig := { parameters := [], returnType := some .int }, accessFlags := 1, code := some k2c4 }
def k2c5 : Code := { maxStack := 4, maxLocals := 2, code := prog_43_method_23_code, exceptionTable := #[], attributes := #[] }
def k2m5 : Method := { name := "endPart", desc := "(I)V", sig := { parameters := [.int], returnType := none }, accessFlags := 1, code := some k2c5 }
def k2c6 : Code := { maxStack := 4, maxLocals := 4, code := prog_43_method_24_code, exceptionTable := #[], attributes := #[] }
def k2m6 : Method := { name := "setInt", desc := "(II)V", sig := { parameters := [.int, .int], returnType := none }, accessFlags := 0, code := some k2c6 }
def k2c7 : Code := { maxStack := 5, maxLocals := 2, code := prog_43_method_28_code, exceptionTable := #[], attributes := #[] }
def k2m7 : Method := { name := "ensureRoom", desc := "(I)V", sig := { parameters := [.int], returnType := none }, accessFlags := 2, code := some k2c7 }
/-- com/example/farcall/farcall/io/XdrEncoder -/
def k2 : Class := { plain "com/example/farcall/farcall/io/XdrEncoder" (some 0) with
  accessFlags := 49
  interfaces := #[]
  cf := some (fileOf pool2 7 #[] #[{ accessFlags := 1, nameIndex := 5, descriptorIndex := 6, attributes := #[] }, { accessFlags := 1, nameIndex := 33, descriptorIndex := 34, attributes := #[] }, { accessFlags := 1, nameIndex := 25, descriptorIndex := 26, attributes := #[] }, { accessFlags := 1, nameIndex := 220, descriptorIndex := 151, attributes := #[] }, { accessFlags := 1, nameIndex := 221, descriptorIndex := 26, attributes := #[] }, { accessFlags := 1, nameIndex := 222, descriptorIndex := 18, attributes := #[] }, { accessFlags := 0, nameIndex := 29, descriptorIndex := 30, attributes := #[] }, { accessFlags := 2, nameIndex := 17, descriptorIndex := 18, attributes := #[] }] 49 2 #[] #[{ accessFlags := 26, nameIndex := 186, descriptorIndex := 22, attributes := #[] }, { accessFlags := 2, nameIndex := 11, descriptorIndex := 12, attributes := #[] }, { accessFlags := 2, nameIndex := 144, descriptorIndex := 145, attributes := #[] }, { accessFlags := 2, nameIndex := 130, descriptorIndex := 22, attributes := #[] }, { accessFlags := 2, nameIndex := 21, descriptorIndex := 22, attributes := #[] }])
  fields := #[{ name := "INITIAL_CAPACITY", type := .int, accessFlags := 26, slot := 0, constantValue := 0 }, { name := "buffer", type := (.array .byte), accessFlags := 2, slot := 0, constantValue := 0 }, { name := "view", type := (.object "java/nio/ByteBuffer"), accessFlags := 2, slot := 1, constantValue := 0 }, { name := "start", type := .int, accessFlags := 2, slot := 2, constantValue := 0 }, { name := "end", type := .int, accessFlags := 2, slot := 3, constantValue := 0 }]
  methods := #[k2m0, k2m1, k2m2, k2m3, k2m4, k2m5, k2m6, k2m7]
  instanceTypes := #[(.array .byte), (.object "java/nio/ByteBuffer"), .int, .int]
  staticTypes := #[.int]
  resolved := Array.replicate 249 none
  statics := none }

def pool3 : Array CpInfo := pool [(2, .class_ 4), (1, u "java/lang/Object"), (0, u "<init>"), (0, u "()V"), (7, .class_ 16), (1, u "java/util/Arrays"), (57, .class_ 76), (1, u "java/util/Arrays$NaturalOrder"), (36, .class_ 115), (1, u "java/util/Arrays$LegacyMergeSort"), (1, u "Z"), (21, u "copyOfRange"), (10, .methodref 151 152), (0, .class_ 153), (0, .nameAndType 154 155), (0, u "java/lang/System"), (0, u "arraycopy"), (0, u "(Ljava/lang/Object;ILjava/lang/Object;II)V"), (148, .methodref 305 306), (0, .class_ 307), (0, .nameAndType 308 309), (0, u "java/lang/Math"), (0, u "min"), (0, u "(II)I"), (29, .methodref 14 340), (0, .nameAndType 341 342), (0, u "copyOfRangeByte"), (0, u "([BII)[B"), (0, .methodref 14 344), (0, .nameAndType 345 346), (0, u "checkLength"), (0, u "(II)V"), (28, .class_ 376), (0, u "java/util/Arrays$ArrayList"), (68, u "$assertionsDisabled"), (269, u "MIN_ARRAY_SORT_GRAN"), (0, u "I"), (2, u "INSERTIONSORT_THRESHOLD"), (255, .class_ 976), (0, u "java/util/Arrays$ArrayItr")] 52

def k3m0 : Method := { name := "<init>", desc := "()V", sig := { parameters := [], returnType := none }, accessFlags := 2, code := none }
def k3c1 : Code := { maxStack := 4, maxLocals := 2, code := jdk_65_method_131_code, exceptionTable := #[], attributes := #[] }
def k3m1 : Method := { name := "checkLength", desc := "(II)V", sig := { parameters := [.int, .int], returnType := none }, accessFlags := 10, code := some k3c1 }
def k3c2 : Code := { maxStack := 3, maxLocals := 3, code := jdk_65_method_132_code, exceptionTable := #[], attributes := #[] }
def k3m2 : Method := { name := "copyOfRange", desc := "([BII)[B", sig := { parameters := [(.array .byte), .int, .int], returnType := some (.array .byte) }, accessFlags := 9, code := some k3c2 }
def k3c3 : Code := { maxStack := 6, maxLocals := 5, code := jdk_65_method_133_code, exceptionTable := #[], attributes := #[] }
def k3m3 : Method := { name := "copyOfRangeByte", desc := "([BII)[B", sig := { parameters := [(.array .byte), .int, .int], returnType := some (.array .byte) }, accessFlags := 10, code := some k3c3 }
/-- java/util/Arrays -/
def k3 : Class := { plain "java/util/Arrays" (some 0) with
  accessFlags := 49
  interfaces := #[]
  cf := some (fileOf pool3 14 #[.nestMembers #[975, 375, 113, 74]] #[{ accessFlags := 2, nameIndex := 5, descriptorIndex := 6, attributes := #[] }, { accessFlags := 10, nameIndex := 345, descriptorIndex := 346, attributes := #[] }, { accessFlags := 9, nameIndex := 139, descriptorIndex := 342, attributes := #[] }, { accessFlags := 10, nameIndex := 341, descriptorIndex := 342, attributes := #[] }] 49 2 #[] #[{ accessFlags := 26, nameIndex := 715, descriptorIndex := 716, attributes := #[] }, { accessFlags := 26, nameIndex := 719, descriptorIndex := 716, attributes := #[] }, { accessFlags := 4120, nameIndex := 445, descriptorIndex := 117, attributes := #[] }])
  fields := #[{ name := "MIN_ARRAY_SORT_GRAN", type := .int, accessFlags := 26, slot := 0, constantValue := 0 }, { name := "INSERTIONSORT_THRESHOLD", type := .int, accessFlags := 26, slot := 1, constantValue := 0 }, { name := "$assertionsDisabled", type := .boolean, accessFlags := 4120, slot := 2, constantValue := 0 }]
  methods := #[k3m0, k3m1, k3m2, k3m3]
  instanceTypes := #[]
  staticTypes := #[.int, .int, .boolean]
  resolved := Array.replicate 1029 none
  statics := none }

def pool4 : Array CpInfo := pool [(1, .class_ 2), (0, u "java/lang/Math"), (1, .class_ 6), (1, u "java/lang/Object"), (0, u "<init>"), (0, u "()V"), (89, .class_ 100), (1, u "java/lang/Math$RandomNumberGeneratorHolder"), (71, u "negativeZeroFloatBits"), (0, u "J"), (2, u "negativeZeroDoubleBits"), (24, u "min"), (43, u "$assertionsDisabled"), (0, u "Z"), (88, u "(II)I"), (2, u "twoToTheDoubleScaleDown"), (0, u "D"), (4, u "twoToTheDoubleScaleUp"), (9, u "E"), (3, u "PI"), (2, u "TAU"), (2, u "DEGREES_TO_RADIANS"), (0, u "RADIANS_TO_DEGREES")] 94

def k4m0 : Method := { name := "<init>", desc := "()V", sig := { parameters := [], returnType := none }, accessFlags := 2, code := none }
def k4c1 : Code := { maxStack := 2, maxLocals := 2, code := jdk_29_method_69_code, exceptionTable := #[], attributes := #[] }
def k4m1 : Method := { name := "min", desc := "(II)I", sig := { parameters := [.int, .int], returnType := some .int }, accessFlags := 9, code := some k4c1 }
/-- java/lang/Math -/
def k4 : Class := { plain "java/lang/Math" (some 0) with
  accessFlags := 49
  interfaces := #[]
  cf := some (fileOf pool4 1 #[.nestMembers #[98]] #[{ accessFlags := 2, nameIndex := 7, descriptorIndex := 8, attributes := #[] }, { accessFlags := 9, nameIndex := 201, descriptorIndex := 335, attributes := #[] }] 49 4 #[] #[{ accessFlags := 25, nameIndex := 354, descriptorIndex := 339, attributes := #[] }, { accessFlags := 25, nameIndex := 358, descriptorIndex := 339, attributes := #[] }, { accessFlags := 25, nameIndex := 361, descriptorIndex := 339, attributes := #[] }, { accessFlags := 26, nameIndex := 364, descriptorIndex := 339, attributes := #[] }, { accessFlags := 26, nameIndex := 365, descriptorIndex := 339, attributes := #[] }, { accessFlags := 26, nameIndex := 172, descriptorIndex := 173, attributes := #[] }, { accessFlags := 26, nameIndex := 176, descriptorIndex := 173, attributes := #[] }, { accessFlags := 8, nameIndex := 344, descriptorIndex := 339, attributes := #[] }, { accessFlags := 8, nameIndex := 338, descriptorIndex := 339, attributes := #[] }, { accessFlags := 4120, nameIndex := 245, descriptorIndex := 246, attributes := #[] }])
  fields := #[{ name := "E", type := .double, accessFlags := 25, slot := 0, constantValue := 0 }, { name := "PI", type := .double, accessFlags := 25, slot := 1, constantValue := 0 }, { name := "TAU", type := .double, accessFlags := 25, slot := 2, constantValue := 0 }, { name := "DEGREES_TO_RADIANS", type := .double, accessFlags := 26, slot := 3, constantValue := 0 }, { name := "RADIANS_TO_DEGREES", type := .double, accessFlags := 26, slot := 4, constantValue := 0 }, { name := "negativeZeroFloatBits", type := .long, accessFlags := 26, slot := 5, constantValue := 0 }, { name := "negativeZeroDoubleBits", type := .long, accessFlags := 26, slot := 6, constantValue := 0 }, { name := "twoToTheDoubleScaleUp", type := .double, accessFlags := 8, slot := 7, constantValue := 0 }, { name := "twoToTheDoubleScaleDown", type := .double, accessFlags := 8, slot := 8, constantValue := 0 }, { name := "$assertionsDisabled", type := .boolean, accessFlags := 4120, slot := 9, constantValue := 0 }]
  methods := #[k4m0, k4m1]
  instanceTypes := #[]
  staticTypes := #[.double, .double, .double, .double, .double, .long, .long, .double, .double, .boolean]
  resolved := Array.replicate 460 none
  statics := none }

def pool5 : Array CpInfo := pool [(2, .class_ 4), (1, u "java/lang/Object"), (0, u "<init>"), (0, u "()V"), (1, .class_ 10), (1, u "java/lang/System"), (0, u "allowSecurityManager"), (0, u "I"), (16, u "cons"), (0, u "Ljava/io/Console;"), (77, .class_ 110), (1, u "java/lang/System$CallersHolder"), (43, u "initialErrStream"), (0, u "Ljava/io/PrintStream;"), (19, u "security"), (0, u "Ljava/lang/SecurityManager;"), (31, .class_ 209), (0, u "java/lang/System$1"), (7, u "props"), (0, u "Ljava/util/Properties;"), (2, u "lineSeparator"), (0, u "Ljava/lang/String;"), (96, .class_ 321), (1, u "java/lang/System$LoggerFinder"), (5, .class_ 328), (0, u "java/lang/System$Logger"), (67, u "err"), (2, u "out"), (91, u "notSupportedJnuEncoding"), (15, u "in"), (17, u "initialIn"), (0, u "Ljava/io/InputStream;"), (35, u "bootLayer"), (0, u "Ljava/lang/ModuleLayer;"), (99, .class_ 664), (0, u "java/lang/System$2"), (9, u "NEVER"), (2, u "MAYBE"), (49, u "arraycopy"), (0, u "(Ljava/lang/Object;ILjava/lang/Object;II)V"), (72, .class_ 802), (0, u "java/lang/System$Logger$Level")] 31

def k5m0 : Method := { name := "<init>", desc := "()V", sig := { parameters := [], returnType := none }, accessFlags := 2, code := none }
def k5m1 : Method := { name := "arraycopy", desc := "(Ljava/lang/Object;ILjava/lang/Object;II)V", sig := { parameters := [(.object "java/lang/Object"), .int, (.object "java/lang/Object"), .int, .int], returnType := none }, accessFlags := 265, code := none }
/-- java/lang/System -/
def k5 : Class := { plain "java/lang/System" (some 0) with
  accessFlags := 49
  interfaces := #[]
  cf := some (fileOf pool5 8 #[.nestMembers #[319, 327, 801, 108, 663, 208]] #[{ accessFlags := 2, nameIndex := 5, descriptorIndex := 6, attributes := #[] }, { accessFlags := 265, nameIndex := 727, descriptorIndex := 728, attributes := #[] }] 49 2 #[] #[{ accessFlags := 25, nameIndex := 507, descriptorIndex := 526, attributes := #[] }, { accessFlags := 25, nameIndex := 399, descriptorIndex := 155, attributes := #[] }, { accessFlags := 25, nameIndex := 396, descriptorIndex := 155, attributes := #[] }, { accessFlags := 10, nameIndex := 525, descriptorIndex := 526, attributes := #[] }, { accessFlags := 26, nameIndex := 674, descriptorIndex := 12, attributes := #[] }, { accessFlags := 26, nameIndex := 677, descriptorIndex := 12, attributes := #[] }, { accessFlags := 10, nameIndex := 11, descriptorIndex := 12, attributes := #[] }, { accessFlags := 74, nameIndex := 175, descriptorIndex := 176, attributes := #[] }, { accessFlags := 10, nameIndex := 491, descriptorIndex := 222, attributes := #[] }, { accessFlags := 74, nameIndex := 29, descriptorIndex := 30, attributes := #[] }, { accessFlags := 74, nameIndex := 154, descriptorIndex := 155, attributes := #[] }, { accessFlags := 10, nameIndex := 217, descriptorIndex := 218, attributes := #[] }, { accessFlags := 10, nameIndex := 221, descriptorIndex := 222, attributes := #[] }, { accessFlags := 8, nameIndex := 562, descriptorIndex := 563, attributes := #[] }])
  fields := #[{ name := "in", type := (.object "java/io/InputStream"), accessFlags := 25, slot := 0, constantValue := 0 }, { name := "out", type := (.object "java/io/PrintStream"), accessFlags := 25, slot := 1, constantValue := 0 }, { name := "err", type := (.object "java/io/PrintStream"), accessFlags := 25, slot := 2, constantValue := 0 }, { name := "initialIn", type := (.object "java/io/InputStream"), accessFlags := 10, slot := 3, constantValue := 0 }, { name := "NEVER", type := .int, accessFlags := 26, slot := 4, constantValue := 0 }, { name := "MAYBE", type := .int, accessFlags := 26, slot := 5, constantValue := 0 }, { name := "allowSecurityManager", type := .int, accessFlags := 10, slot := 6, constantValue := 0 }, { name := "security", type := (.object "java/lang/SecurityManager"), accessFlags := 74, slot := 7, constantValue := 0 }, { name := "notSupportedJnuEncoding", type := (.object "java/lang/String"), accessFlags := 10, slot := 8, constantValue := 0 }, { name := "cons", type := (.object "java/io/Console"), accessFlags := 74, slot := 9, constantValue := 0 }, { name := "initialErrStream", type := (.object "java/io/PrintStream"), accessFlags := 74, slot := 10, constantValue := 0 }, { name := "props", type := (.object "java/util/Properties"), accessFlags := 10, slot := 11, constantValue := 0 }, { name := "lineSeparator", type := (.object "java/lang/String"), accessFlags := 10, slot := 12, constantValue := 0 }, { name := "bootLayer", type := (.object "java/lang/ModuleLayer"), accessFlags := 8, slot := 13, constantValue := 0 }]
  methods := #[k5m0, k5m1]
  instanceTypes := #[]
  staticTypes := #[(.object "java/io/InputStream"), (.object "java/io/PrintStream"), (.object "java/io/PrintStream"), (.object "java/io/InputStream"), .int, .int, .int, (.object "java/lang/SecurityManager"), (.object "java/lang/String"), (.object "java/io/Console"), (.object "java/io/PrintStream"), (.object "java/util/Properties"), (.object "java/lang/String"), (.object "java/lang/ModuleLayer")]
  resolved := Array.replicate 834 none
  statics := none }

def pool6 : Array CpInfo := pool [(1, u "java/lang/Cloneable"), (0, .class_ 1), (0, u "java/lang/Object"), (0, .class_ 3)] 3

/-- java/lang/Cloneable -/
def k6 : Class := { plain "java/lang/Cloneable" (some 0) with
  accessFlags := 1537
  interfaces := #[]
  cf := some (fileOf pool6 2 #[] #[] 1537 4 #[] #[])
  fields := #[]
  methods := #[]
  instanceTypes := #[]
  staticTypes := #[]
  resolved := Array.replicate 8 none
  statics := none }

def pool7 : Array CpInfo := pool [(1, u "java/io/Serializable"), (0, .class_ 1), (0, u "java/lang/Object"), (0, .class_ 3)] 3

/-- java/io/Serializable -/
def k7 : Class := { plain "java/io/Serializable" (some 0) with
  accessFlags := 1537
  interfaces := #[]
  cf := some (fileOf pool7 2 #[] #[] 1537 4 #[] #[])
  fields := #[]
  methods := #[]
  instanceTypes := #[]
  staticTypes := #[]
  resolved := Array.replicate 8 none
  statics := none }

/-- the primitive byte -/
def k8 : Class := { plain "byte" none with kind := .primitive 'B', accessFlags := 0x411 }
/-- [B -/
def k9 : Class := { plain "[B" (some 0) with kind := .array 8 .byte, interfaces := #[6, 7], accessFlags := 1041 }

/-- the primitive int -/
def k10 : Class := { plain "int" none with kind := .primitive 'I', accessFlags := 0x411 }
/-- [I -/
def k11 : Class := { plain "[I" (some 0) with kind := .array 10 .int, interfaces := #[6, 7], accessFlags := 1041 }

def heap : Heap := #[]
def classes : Array Class := #[k0, k1, k2, k3, k4, k5, k6, k7, k8, k9, k10, k11]
def interned : List (Array UInt16 × Addr) := []
def slotsUsed : Nat := 0
def theMethod : MethodId := ⟨1, 4⟩
def args0 : Array Value := #[.int 5, .int 6, .int 7, .int 8, .int 9, .int 65539]
def aboutOver (below : List Frame) : State where
  vm := { classes := classes, interned := interned.toArray }
  heap := heap
  slotsUsed := slotsUsed
  threads := #[{ frames := .invoking theMethod args0 :: below }]
def below0 : List Frame := [.native { method := ⟨0, 0⟩, args := #[] }]
def about1 : State := aboutOver below0
def p0 : Program := .bare "" "" ""
def e0 : Env := launch0.env 0 0 0
theorem w_frames : about1.frames = Frame.invoking theMethod args0 :: below0 := rfl
set_option maxRecDepth 65536 in
theorem w_args : argsFit about1.vm theMethod args0 = true := by decide +kernel
set_option maxRecDepth 65536 in
theorem w_heap : heapFits about1 = true := by decide +kernel
set_option maxRecDepth 65536 in
theorem w_runnable : about1.curStatus? = some .runnable := by decide +kernel
set_option maxRecDepth 65536 in
theorem w_alone : about1.alone = true := by decide +kernel
set_option maxRecDepth 65536 in
theorem w_named : about1.methodNamed? x = some theMethod := by decide +kernel
set_option maxRecDepth 65536 in
theorem w_hears : about1.hears theMethod below0 = true := by decide +kernel
set_option maxRecDepth 65536 in
theorem w_ripe : about1.ripe theMethod args0 below0 = true := by decide +kernel
theorem w_running : about1.status = .running := rfl
set_option maxRecDepth 65536 in
theorem w_room : about1.hasRoom e0.platform room_1 = true :=
  launch0.hasRoom_least _ room_1 (by decide +kernel) (by decide +kernel) (by decide +kernel) (by decide +kernel) (by decide +kernel) (by decide +kernel)
theorem allAtoms_all (ts : List Jvm.Cond) (a : Array Jvm.Value) (st : Jvm.State) : (allAtoms ts).before a st = ts.all (fun c => c.before a st) := by
  induction ts with
  | nil => rfl
  | cons c t ih =>
    show (Jvm.Cond.and c (allAtoms t)).before a st = _
    rw [Jvm.Cond.before_and, ih, List.all_cons]
def words1 : List Jvm.Cond := Jvm.Cond.code x code maxLocals ret :: tables_1
/-- a 'code' word, met by the world's own term for the bytes: nothing is compared byte by byte -/
theorem code_word {y : MethodName} {bytes : ByteArray} {mx : Nat} {rt : Option FieldType} {a : Array Value} {s : State} {m : MethodId} {meth : Method} {c : Code} (h1 : s.methodNamed? y = some m) (h2 : s.vm.method? m = some meth) (h3 : meth.code = some c) (h4 : c.code = bytes)
    (h5 : (c.maxLocals == mx && c.exceptionTable.isEmpty && decide (c.maxStack ≤ mostOperands) && decide (meth.sig.returnType = rt) && !meth.locks && decide (parseMethodDescriptor y.desc = some meth.sig)) = true) : (Jvm.Cond.code y bytes mx rt).before a s = true := by
  simp only [Bool.and_eq_true, beq_iff_eq, Bool.not_eq_true', decide_eq_true_eq] at h5
  obtain ⟨⟨⟨⟨⟨g1, g2⟩, g3⟩, g4⟩, g5⟩, g6⟩ := h5
  simp [Cond.before, Cond.holds, Cond.value, h1, h2, h3, h4, g1, g2, g3, g4, g5, g6]
def isCode : Jvm.Cond → Bool
  | .code _ _ _ _ => true
  | _ => false
theorem all_split {L : List Jvm.Cond} {P : Jvm.Cond → Bool} (h1 : L.all (fun c => isCode c || P c) = true) (h2 : ∀ c ∈ L.filter isCode, P c = true) : L.all P = true := by
  refine List.all_eq_true.mpr fun c hc => ?_
  have h := List.all_eq_true.mp h1 c hc
  rcases Bool.eq_false_or_eq_true (isCode c) with hi | hi
  · exact h2 c (List.mem_filter.mpr ⟨hc, hi⟩)
  · simpa [hi] using h
set_option maxRecDepth 65536 in
theorem w_c0 : (Jvm.Cond.code x code maxLocals ret).before args0 about1 = true := code_word (m := ⟨1, 4⟩) (meth := k1m4) (c := k1c4) (by decide +kernel) rfl rfl rfl (by decide +kernel)
set_option maxRecDepth 65536 in
theorem w_c1 : (Jvm.Cond.code ({ cls := "com/example/farcall/farcall/io/XdrEncoder", name := "<init>", desc := "()V" } : Jvm.MethodName) prog_43_method_1_code (1 : Nat) (Option.none : Option Jvm.ClassFile.FieldType)).before args0 about1 = true := code_word (m := ⟨2, 0⟩) (meth := k2m0) (c := k2c0) (by decide +kernel) rfl rfl rfl (by decide +kernel)
set_option maxRecDepth 65536 in
theorem w_c2 : (Jvm.Cond.code ({ cls := "java/lang/Object", name := "<init>", desc := "()V" } : Jvm.MethodName) object_method_1_code (1 : Nat) (Option.none : Option Jvm.ClassFile.FieldType)).before args0 about1 = true := code_word (m := ⟨0, 0⟩) (meth := k0m0) (c := k0c0) (by decide +kernel) rfl rfl rfl (by decide +kernel)
set_option maxRecDepth 65536 in
theorem w_c3 : (Jvm.Cond.code ({ cls := "com/example/farcall/farcall/io/XdrEncoder", name := "writeInt", desc := "(I)Lcom/example/farcall/farcall/io/XdrEncoder;" } : Jvm.MethodName) prog_43_method_2_code (2 : Nat) (Option.some (Jvm.ClassFile.FieldType.object "com/example/farcall/farcall/io/XdrEncoder"))).before args0 about1 = true := code_word (m := ⟨2, 1⟩) (meth := k2m1) (c := k2c1) (by decide +kernel) rfl rfl rfl (by decide +kernel)
set_option maxRecDepth 65536 in
theorem w_c4 : (Jvm.Cond.code ({ cls := "com/example/farcall/farcall/io/XdrEncoder", name := "ensureRoom", desc := "(I)V" } : Jvm.MethodName) prog_43_method_28_code (2 : Nat) (Option.none : Option Jvm.ClassFile.FieldType)).before args0 about1 = true := code_word (m := ⟨2, 7⟩) (meth := k2m7) (c := k2c7) (by decide +kernel) rfl rfl rfl (by decide +kernel)
set_option maxRecDepth 65536 in
theorem w_c5 : (Jvm.Cond.code ({ cls := "com/example/farcall/farcall/io/XdrEncoder", name := "size", desc := "()I" } : Jvm.MethodName) prog_43_method_19_code (1 : Nat) (Option.some Jvm.ClassFile.FieldType.int)).before args0 about1 = true := code_word (m := ⟨2, 2⟩) (meth := k2m2) (c := k2c2) (by decide +kernel) rfl rfl rfl (by decide +kernel)
set_option maxRecDepth 65536 in
theorem w_c6 : (Jvm.Cond.code ({ cls := "com/example/farcall/farcall/io/XdrEncoder", name := "setInt", desc := "(II)V" } : Jvm.MethodName) prog_43_method_24_code (4 : Nat) (Option.none : Option Jvm.ClassFile.FieldType)).before args0 about1 = true := code_word (m := ⟨2, 6⟩) (meth := k2m6) (c := k2c6) (by decide +kernel) rfl rfl rfl (by decide +kernel)
set_option maxRecDepth 65536 in
theorem w_c7 : (Jvm.Cond.code ({ cls := "com/example/farcall/farcall/io/XdrEncoder", name := "toByteArray", desc := "()[B" } : Jvm.MethodName) prog_43_method_21_code (1 : Nat) (Option.some (Jvm.ClassFile.FieldType.array Jvm.ClassFile.FieldType.byte))).before args0 about1 = true := code_word (m := ⟨2, 3⟩) (meth := k2m3) (c := k2c3) (by decide +kernel) rfl rfl rfl (by decide +kernel)
set_option maxRecDepth 65536 in
theorem w_c8 : (Jvm.Cond.code ({ cls := "java/util/Arrays", name := "copyOfRange", desc := "([BII)[B" } : Jvm.MethodName) jdk_65_method_132_code (3 : Nat) (Option.some (Jvm.ClassFile.FieldType.array Jvm.ClassFile.FieldType.byte))).before args0 about1 = true := code_word (m := ⟨3, 2⟩) (meth := k3m2) (c := k3c2) (by decide +kernel) rfl rfl rfl (by decide +kernel)
set_option maxRecDepth 65536 in
theorem w_c9 : (Jvm.Cond.code ({ cls := "java/util/Arrays", name := "copyOfRangeByte", desc := "([BII)[B" } : Jvm.MethodName) jdk_65_method_133_code (5 : Nat) (Option.some (Jvm.ClassFile.FieldType.array Jvm.ClassFile.FieldType.byte))).before args0 about1 = true := code_word (m := ⟨3, 3⟩) (meth := k3m3) (c := k3c3) (by decide +kernel) rfl rfl rfl (by decide +kernel)
set_option maxRecDepth 65536 in
theorem w_c10 : (Jvm.Cond.code ({ cls := "java/util/Arrays", name := "checkLength", desc := "(II)V" } : Jvm.MethodName) jdk_65_method_131_code (2 : Nat) (Option.none : Option Jvm.ClassFile.FieldType)).before args0 about1 = true := code_word (m := ⟨3, 1⟩) (meth := k3m1) (c := k3c1) (by decide +kernel) rfl rfl rfl (by decide +kernel)
set_option maxRecDepth 65536 in
theorem w_c11 : (Jvm.Cond.code ({ cls := "java/lang/Math", name := "min", desc := "(II)I" } : Jvm.MethodName) jdk_29_method_69_code (2 : Nat) (Option.some Jvm.ClassFile.FieldType.int)).before args0 about1 = true := code_word (m := ⟨4, 1⟩) (meth := k4m1) (c := k4c1) (by decide +kernel) rfl rfl rfl (by decide +kernel)
set_option maxRecDepth 65536 in
theorem w_c12 : (Jvm.Cond.code ({ cls := "com/example/farcall/farcall/io/XdrEncoderSetIntPinLaw", name := "at", desc := "([BIIIIIII)Z" } : Jvm.MethodName) method_4_code (8 : Nat) (Option.some Jvm.ClassFile.FieldType.boolean)).before args0 about1 = true := code_word (m := ⟨1, 3⟩) (meth := k1m3) (c := k1c3) (by decide +kernel) rfl rfl rfl (by decide +kernel)
set_option maxRecDepth 65536 in
theorem w_c13 : (Jvm.Cond.code ({ cls := "com/example/farcall/farcall/io/XdrEncoderSetIntPinLaw", name := "expected", desc := "(IIIIII)B" } : Jvm.MethodName) method_3_code (8 : Nat) (Option.some Jvm.ClassFile.FieldType.byte)).before args0 about1 = true := code_word (m := ⟨1, 2⟩) (meth := k1m2) (c := k1c2) (by decide +kernel) rfl rfl rfl (by decide +kernel)
set_option maxRecDepth 65536 in
theorem w_c14 : (Jvm.Cond.code ({ cls := "com/example/farcall/farcall/io/XdrEncoderSetIntPinLaw", name := "intByte", desc := "(II)B" } : Jvm.MethodName) method_2_code (2 : Nat) (Option.some Jvm.ClassFile.FieldType.byte)).before args0 about1 = true := code_word (m := ⟨1, 1⟩) (meth := k1m1) (c := k1c1) (by decide +kernel) rfl rfl rfl (by decide +kernel)
set_option maxRecDepth 65536 in
theorem w_c15 : (Jvm.Cond.code ({ cls := "com/example/farcall/farcall/io/XdrEncoder", name := "beginPart", desc := "()I" } : Jvm.MethodName) prog_43_method_22_code (2 : Nat) (Option.some Jvm.ClassFile.FieldType.int)).before args0 about1 = true := code_word (m := ⟨2, 4⟩) (meth := k2m4) (c := k2c4) (by decide +kernel) rfl rfl rfl (by decide +kernel)
set_option maxRecDepth 65536 in
theorem w_c16 : (Jvm.Cond.code ({ cls := "com/example/farcall/farcall/io/XdrEncoder", name := "endPart", desc := "(I)V" } : Jvm.MethodName) prog_43_method_23_code (2 : Nat) (Option.none : Option Jvm.ClassFile.FieldType)).before args0 about1 = true := code_word (m := ⟨2, 5⟩) (meth := k2m5) (c := k2c5) (by decide +kernel) rfl rfl rfl (by decide +kernel)
def codes1 : List Jvm.Cond := [Jvm.Cond.code x code maxLocals ret, Jvm.Cond.code ({ cls := "com/example/farcall/farcall/io/XdrEncoder", name := "<init>", desc := "()V" } : Jvm.MethodName) prog_43_method_1_code (1 : Nat) (Option.none : Option Jvm.ClassFile.FieldType), Jvm.Cond.code ({ cls := "java/lang/Object", name := "<init>", desc := "()V" } : Jvm.MethodName) object_method_1_code (1 : Nat) (Option.none : Option Jvm.ClassFile.FieldType), Jvm.Cond.code ({ cls := "com/example/farcall/farcall/io/XdrEncoder", name := "writeInt", desc := "(I)Lcom/example/farcall/farcall/io/XdrEncoder;" } : Jvm.MethodName) prog_43_method_2_code (2 : Nat) (Option.some (Jvm.ClassFile.FieldType.object "com/example/farcall/farcall/io/XdrEncoder")), Jvm.Cond.code ({ cls := "com/example/farcall/farcall/io/XdrEncoder", name := "ensureRoom", desc := "(I)V" } : Jvm.MethodName) prog_43_method_28_code (2 : Nat) (Option.none : Option Jvm.ClassFile.FieldType), Jvm.Cond.code ({ cls := "com/example/farcall/farcall/io/XdrEncoder", name := "size", desc := "()I" } : Jvm.MethodName) prog_43_method_19_code (1 : Nat) (Option.some Jvm.ClassFile.FieldType.int), Jvm.Cond.code ({ cls := "com/example/farcall/farcall/io/XdrEncoder", name := "setInt", desc := "(II)V" } : Jvm.MethodName) prog_43_method_24_code (4 : Nat) (Option.none : Option Jvm.ClassFile.FieldType), Jvm.Cond.code ({ cls := "com/example/farcall/farcall/io/XdrEncoder", name := "toByteArray", desc := "()[B" } : Jvm.MethodName) prog_43_method_21_code (1 : Nat) (Option.some (Jvm.ClassFile.FieldType.array Jvm.ClassFile.FieldType.byte)), Jvm.Cond.code ({ cls := "java/util/Arrays", name := "copyOfRange", desc := "([BII)[B" } : Jvm.MethodName) jdk_65_method_132_code (3 : Nat) (Option.some (Jvm.ClassFile.FieldType.array Jvm.ClassFile.FieldType.byte)), Jvm.Cond.code ({ cls := "java/util/Arrays", name := "copyOfRangeByte", desc := "([BII)[B" } : Jvm.MethodName) jdk_65_method_133_code (5 : Nat) (Option.some (Jvm.ClassFile.FieldType.array Jvm.ClassFile.FieldType.byte)), Jvm.Cond.code ({ cls := "java/util/Arrays", name := "checkLength", desc := "(II)V" } : Jvm.MethodName) jdk_65_method_131_code (2 : Nat) (Option.none : Option Jvm.ClassFile.FieldType), Jvm.Cond.code ({ cls := "java/lang/Math", name := "min", desc := "(II)I" } : Jvm.MethodName) jdk_29_method_69_code (2 : Nat) (Option.some Jvm.ClassFile.FieldType.int), Jvm.Cond.code ({ cls := "com/example/farcall/farcall/io/XdrEncoderSetIntPinLaw", name := "at", desc := "([BIIIIIII)Z" } : Jvm.MethodName) method_4_code (8 : Nat) (Option.some Jvm.ClassFile.FieldType.boolean), Jvm.Cond.code ({ cls := "com/example/farcall/farcall/io/XdrEncoderSetIntPinLaw", name := "expected", desc := "(IIIIII)B" } : Jvm.MethodName) method_3_code (8 : Nat) (Option.some Jvm.ClassFile.FieldType.byte), Jvm.Cond.code ({ cls := "com/example/farcall/farcall/io/XdrEncoderSetIntPinLaw", name := "intByte", desc := "(II)B" } : Jvm.MethodName) method_2_code (2 : Nat) (Option.some Jvm.ClassFile.FieldType.byte), Jvm.Cond.code ({ cls := "com/example/farcall/farcall/io/XdrEncoder", name := "beginPart", desc := "()I" } : Jvm.MethodName) prog_43_method_22_code (2 : Nat) (Option.some Jvm.ClassFile.FieldType.int), Jvm.Cond.code ({ cls := "com/example/farcall/farcall/io/XdrEncoder", name := "endPart", desc := "(I)V" } : Jvm.MethodName) prog_43_method_23_code (2 : Nat) (Option.none : Option Jvm.ClassFile.FieldType)]
set_option maxRecDepth 65536 in
theorem codes_eq : words1.filter isCode = codes1 := rfl
theorem w_codes : ∀ c ∈ words1.filter isCode, c.before args0 about1 = true := by
  rw [codes_eq]
  intro c hc
  simp only [codes1, List.mem_cons, List.not_mem_nil, or_false] at hc
  rcases hc with rfl | rfl | rfl | rfl | rfl | rfl | rfl | rfl | rfl | rfl | rfl | rfl | rfl | rfl | rfl | rfl | rfl
  · exact w_c0
  · exact w_c1
  · exact w_c2
  · exact w_c3
  · exact w_c4
  · exact w_c5
  · exact w_c6
  · exact w_c7
  · exact w_c8
  · exact w_c9
  · exact w_c10
  · exact w_c11
  · exact w_c12
  · exact w_c13
  · exact w_c14
  · exact w_c15
  · exact w_c16
set_option maxRecDepth 65536 in
theorem w_t1 : (words1.take 24).all (fun c => isCode c || c.before args0 about1) = true := by decide +kernel
set_option maxRecDepth 65536 in
theorem w_t2 : ((words1.drop 24).take 24).all (fun c => isCode c || c.before args0 about1) = true := by decide +kernel
set_option maxRecDepth 65536 in
theorem w_t3 : (((words1.drop 24).drop 24).take 24).all (fun c => isCode c || c.before args0 about1) = true := by decide +kernel
set_option maxRecDepth 65536 in
theorem w_t4 : (((words1.drop 24).drop 24).drop 24).all (fun c => isCode c || c.before args0 about1) = true := by decide +kernel
theorem w_tables : (allAtoms (Jvm.Cond.code x code maxLocals ret :: tables_1)).before args0 about1 = true := by
  rw [allAtoms_all]
  show words1.all (fun c => c.before args0 about1) = true
  refine all_split ?_ w_codes
  rw [← List.take_append_drop 24 words1, List.all_append, w_t1, ← List.take_append_drop 24 (words1.drop 24), List.all_append, w_t2, ← List.take_append_drop 24 ((words1.drop 24).drop 24), List.all_append, w_t3, w_t4]
  rfl
set_option maxRecDepth 65536 in
theorem w_case : (Jvm.Cond.and given_1 narrow_1).before args0 about1 = true := by decide +kernel
theorem w_applies : (headSpec (Jvm.Cond.code x code maxLocals ret :: tables_1) room_1).applies x e0.platform about1 = true :=
  (Spec.applies_iff w_frames).mpr ⟨w_running, w_runnable, w_alone, w_named, w_hears, w_ripe, w_room, w_tables⟩
theorem atStart : AtStart classFile x code maxLocals ret World_1 tables_1 room_1 Calls_1 rest_1 Pre_1 launch0 p0 e0 about1 theMethod args0 below0 :=
  ⟨lists_1, trivial, launch0.admits_env _ _ _, launch0.least_env, fairChoices_fair.cas, fairChoices_fair.clock, w_frames, w_args, w_heap, w_applies, trivial, trivial, w_case⟩
end start1
theorem witness_1 : WitnessClaimed_1 := ⟨start1.p0, start1.e0, start1.about1, start1.theMethod, start1.args0, start1.below0, start1.atStart⟩
end Jvm.Pilot.@@N@@
