import JvmDerived
import JvmDerived.Pilot.@@N@@Statement
import JvmDerived.Pilot.@@N@@Code
set_option linter.unusedVariables false
set_option linter.unusedSimpArgs false
namespace Jvm.RoadKit
open Sem ClassFile Op Lib Jvm.Stand Jvm.Free Jvm.LawKit
section New
variable {p : Program} {l : Launch} {e : Env} {R : Room} {s : State} {m : MethodId} {args : Array Value} {below : List Frame} {meth : Method} {c : Code} {T : State} {locs : List Loc} {cells slots : Nat}
theorem retI (X : Stand p l e R s m args below meth c T locs cells slots) (hx : p.tables.exec = Jvm.exec) {pc : Nat} {Ls : Array Slot} {z : Int32} {rest : List Value} (hret : meth.sig.returnType = some .int) (hd : decode c.code pc = .ok (.ireturn, 1)) {fs : List Frame}
    (hl : ∀ (f : JFrame) (acts : List Action), f.method = m → f.locked = none → f.entered = [] → (doReturn e (T.setTop f) acts (some (.int z))).1 = T.setFrames fs) : Steps p.tables e below (T.setTop (mkF m pc Ls (.int z :: rest))) (T.setFrames fs) := by
  have hm' : T.vm.method? m = some meth := X.method'
  have hn : narrow .int (.int z) = .int z := rfl
  show Steps p.tables e below (T.setTop { method := m, pc := pc, locals := Ls, stack := _ :: rest, locked := none }) _
  jvm_step X.here [X.here.top, hx, hd, hm', hret, hn]
  first | (intro acts; rw [hl _ acts rfl rfl rfl]) | rw [hl _ _ rfl rfl rfl]
  exact Steps.refl _
end New
end Jvm.RoadKit
namespace Jvm.Pilot.@@N@@
open Jvm Jvm.ClassFile Sem Op Lib Jvm.Free Jvm.Stand Jvm.LawKit Jvm.RoadKit Bundle Jvm.Pilot.@@N@@.Jvm.D
abbrev own_s (p : Program) (e : Env) (below : List Frame) (T : State) (m : MethodId) (pc : Nat) (L : Array Slot) (S : List Value) (t : State) : Prop := Steps p.tables e below (T.setTop (mkF m pc L S)) t
theorem own_fit {C : String} {v : Value} (h : v.isRef = true) : fits (.object C) v = true := by rcases ref_cases h with rfl | ⟨_, rfl⟩ <;> rfl
theorem own_cat1 {v : Value} (h : v.isRef = true) : v.category = 1 := by rcases ref_cases h with rfl | ⟨_, rfl⟩ <;> rfl
theorem own_narR {t : FieldType} {v : Value} (h : v.isRef = true) : narrow t v = v := by cases v <;> first | (cases t <;> rfl) | (cases h)
def own_up (f : Nat → Value) (i : Nat) (v : Value) : Nat → Value := fun j => if j = i then v else f j
def own_Af (Z : State) (h : Heap) (a : Addr) (ty : FieldType) (n : Nat) (f : Nat → Value) : Prop := ∃ c : Cell, Arr Z h a c ty ∧ c.slots.size = n ∧ n < 2 ^ 31 ∧ ∀ j, j < n → c.slots[j]? = some (f j)
theorem own_Af.lt {Z : State} {h : Heap} {a : Addr} {ty : FieldType} {n : Nat} {f : Nat → Value} (F : own_Af Z h a ty n f) : a < h.size := by obtain ⟨c, A, -⟩ := F; exact A.lt
theorem own_Af.ext {Z : State} {h h' : Heap} {a : Addr} {ty : FieldType} {n : Nat} {f : Nat → Value} (F : own_Af Z h a ty n f) (E : Ext h h') : own_Af Z h' a ty n f := by obtain ⟨c, A, r⟩ := F; exact ⟨c, A.ext E, r⟩
theorem own_Af.other {Z : State} {h h' : Heap} {a b : Addr} {ty : FieldType} {n : Nat} {f : Nat → Value} {sl : Nat} {v : Value} (F : own_Af Z h b ty n f) (W : Wr h h' a sl v) (q : b ≠ a) : own_Af Z h' b ty n f := by obtain ⟨c, A, r⟩ := F; exact ⟨c, A.other W q, r⟩
theorem own_Af.keep {Z : State} {h h' : Heap} {a : Addr} {ty : FieldType} {n : Nat} {f : Nat → Value} {ws : List Addr} (F : own_Af Z h a ty n f) (K : Keep h h' ws) (q : a ∉ ws) : own_Af Z h' a ty n f := by obtain ⟨c, A, r⟩ := F; exact ⟨c, ⟨K.2.1 a c A.1 q, A.2⟩, r⟩
theorem own_Af.new {Z : State} {h : Heap} {a : Addr} {ty : FieldType} {k : ClassId} {z : Int32} {n : Nat} {d : Value} (A : Arr Z h a (newA k ty z) ty) (q : ¬ z < 0) (hn : z.toNatClampNeg = n) (hd : defaultValue ty = d := by rfl) : own_Af Z h a ty n (fun _ => d) := by
  subst hn hd
  refine ⟨_, A, sz_new _ _ _, (back32 q).2, fun j hj => ?_⟩
  simp [newA, hj]
theorem own_Af.set {Z : State} {h h' : Heap} {a : Addr} {ty : FieldType} {n i : Nat} {f : Nat → Value} {v : Value} {c : Cell} (A : Arr Z h a c ty) (S : c.slots.size = n) (M : n < 2 ^ 31) (H : ∀ j, j < n → c.slots[j]? = some (f j)) (W : Wr h h' a i v) : own_Af Z h' a ty n (own_up f i v) := by
  refine ⟨_, A.same W, by rw [sz_set]; exact S, M, fun j hj => ?_⟩
  have := H j hj
  simp only [own_up, Cell.setSlot]
  by_cases e : j = i
  · subst e; simp [Array.getElem?_setIfInBounds, S, hj]
  · rw [if_neg e, Array.getElem?_setIfInBounds, if_neg (fun q => e q.symm)]; exact this
theorem own_inb {c : Cell} {n : Nat} {j : Int32} (S : c.slots.size = n) (M : n < 2 ^ 31) (q : ¬ j < 0 ∧ j.toNatClampNeg < n) : ¬ (j < 0 ∨ c.slots.size ≤ j.toNatClampNeg) := by
  rw [S]; exact fun z => z.elim q.1 (fun w => absurd q.2 (Nat.not_lt.mpr w))
theorem own_get {c : Cell} {n : Nat} {f : Nat → Value} {j : Int32} {v : Value} (H : ∀ j, j < n → c.slots[j]? = some (f j)) (S : c.slots.size = n) (q : ¬ j < 0 ∧ j.toNatClampNeg < n) (e : f j.toNatClampNeg = v) : c.slots[j.toNatClampNeg]? = some v := by
  rw [H _ q.2, e]
theorem own_selP {s : State} {args : Array Value} {y : MethodName} {n : Nat} (hins : (Jvm.Cond.instantiable y.cls n).before args s = true) (hpriv : s.PrivateAt y) (hinst : (Jvm.Cond.instanceMethod y).before args s = true) (hy : y.cls ≠ "java/lang/invoke/MethodHandle" ∧ y.cls ≠ "java/lang/invoke/VarHandle") : (Jvm.Cond.selects y.cls y y).before args s = true := by
  obtain ⟨c, k, hc, hk, -, hniab, -, -⟩ := Cond.instantiable_spec hins
  exact selects_self_of_private hc hk (Bool.or_eq_false_iff.mp hniab).1 hpriv hinst hy
theorem own_nat {j : Int32} {n : Nat} (h : j.toInt = n) : j.toNatClampNeg = n := by simp only [Int32.toNatClampNeg]; omega
theorem own_ofn {n : Nat} (h : n < 2 ^ 31) : (Int32.ofNat n).toInt = n := Int32.toInt_ofNat_of_lt h
theorem own_of {j : Int32} {n : Nat} (hn : n < 2 ^ 31) (h : j.toInt = n) : j = Int32.ofNat n := Int32.toInt_inj.mp (h.trans (own_ofn hn).symm)
theorem own_idx {j : Int32} {n : Nat} (h0 : 0 ≤ j.toInt) (h1 : j.toInt < n) : ¬ j < 0 ∧ j.toNatClampNeg < n := by
  have q : ¬ j < 0 := fun w => by have := Int32.lt_iff_toInt_lt.mp w; have e : (0 : Int32).toInt = 0 := rfl; omega
  exact ⟨q, by have := nat_of q; omega⟩
theorem own_eqI {x y : Int32} (h : x.toInt = y.toInt) : x = y := Int32.toInt_inj.mp h
theorem own_add {x y : Int32} {a b : Int} (hx : x.toInt = a) (hy : y.toInt = b) (h0 : -2147483648 ≤ a + b) (h1 : a + b < 2147483648) : (x + y).toInt = a + b := by have := c_iadd x y; have := rng32 (x + y); omega
theorem own_sub {x y : Int32} {a b : Int} (hx : x.toInt = a) (hy : y.toInt = b) (h0 : -2147483648 ≤ a - b) (h1 : a - b < 2147483648) : (x - y).toInt = a - b := by have := c_isub x y; have := rng32 (x - y); omega
theorem own_since (s : State) (n : Nat) : s.Since s.vm n := ⟨State.Warmed39.refl s, fun j p h q => absurd (Array.getElem?_eq_some_iff.mp q).1 (Nat.not_lt.mpr h)⟩
def own_bi (b : Bool) : Int32 := if b then 1 else 0
theorem own_bi0 {b : Bool} (h : own_bi b = 0) : b = false := by cases b; rfl; exact absurd h (by decide)
theorem own_bi1 {b : Bool} (h : ¬ own_bi b = 0) : b = true := by cases b; exact absurd rfl h; rfl
def own_upi (g : Nat → Int32) (i : Nat) (z : Int32) : Nat → Int32 := fun j => if j = i then z else g j
theorem own_upi_s {g : Nat → Int32} {i : Nat} {z : Int32} : own_upi g i z i = z := if_pos rfl
theorem own_upi_o {g : Nat → Int32} {i j : Nat} {z : Int32} (h : j ≠ i) : own_upi g i z j = g j := if_neg h
abbrev own_B (g : Nat → Int32) : Prop := ∀ j, 0 ≤ (g j).toInt ∧ (g j).toInt < 256
theorem own_B.up {g : Nat → Int32} (H : own_B g) {x : Int32} (h : 0 ≤ x.toInt ∧ x.toInt < 256) (i : Nat) : own_B (own_upi g i x) := fun j => by
  unfold own_upi; by_cases e : j = i
  · rw [if_pos e]; exact h
  · rw [if_neg e]; exact H j
theorem own_B.z : own_B (fun _ => (0 : Int32)) := fun _ => show 0 ≤ (0 : Int32).toInt ∧ (0 : Int32).toInt < 256 by decide
theorem own_up_eq {f : Nat → Value} {g : Nat → Int32} {i k : Nat} {x y : Int32} (hf : f = fun j => .int (g j)) (hi : i = k) (hx : x = y) : own_up f i (.int x) = fun j => .int (own_upi g k y j) := by
  subst hf hi hx; funext j; unfold own_up own_upi; by_cases e : j = i
  · rw [if_pos e, if_pos e]
  · rw [if_neg e, if_neg e]
theorem own_narc {x : Int32} (h : 0 ≤ x.toInt ∧ x.toInt < 256) : nar .char x = x := own_eqI (by have := c_i2c x; show (x.toUInt32.toUInt16.toUInt32.toInt32).toInt = _; omega)
theorem own_nb8 (x : Int32) : nar .byte (x.toInt8.toInt32) = x.toInt8.toInt32 := by show x.toInt8.toInt32.toInt8.toInt32 = _; rw [Int8.toInt8_toInt32]
theorem own_fch {x : Int32} (h : 0 ≤ x.toInt ∧ x.toInt < 256) : fits .char (.int x) = true := own_narc h ▸ fits_nar_char x
section Facts
variable {Z : State} {h h' : Heap} {a : Addr}
theorem own_upA {ty : FieldType} {n : Nat} {f f' : Nat → Value} (F : own_Af Z h a ty n f) (e : f = f') : own_Af Z h a ty n f' := e ▸ F
theorem own_ns {ty : FieldType} {n : Nat} {f : Nat → Value} (F : own_Af Z h a ty n f) : ∀ cell : Cell, h[a]? = some cell → cell.vm.isStatics = false := fun cell q => by
  obtain ⟨c, A, -⟩ := F; cases A.1.symm.trans q; exact A.plain
theorem own_nsE {C : String} (F : Exa Z h a C) : ∀ cell : Cell, h[a]? = some cell → cell.vm.isStatics = false := fun cell q => by
  obtain ⟨c, k, q1, -, -, q4, -⟩ := F; cases q1.symm.trans q; exact q4
theorem own_neT {b : Addr} {t1 t2 : FieldType} {n k : Nat} {f f' : Nat → Value} (A : own_Af Z h a t1 n f) (B : own_Af Z h b t2 k f') (q : t1 ≠ t2) : a ≠ b := fun e => by
  subst e
  obtain ⟨c, A, -⟩ := A
  obtain ⟨d, B, -⟩ := B
  cases A.1.symm.trans B.1
  obtain ⟨-, k1, hk, c1, z1⟩ := A.2.1
  obtain ⟨-, k2, hk2, c2, z2⟩ := B.2.1
  cases hk.symm.trans hk2
  have := z1.symm.trans z2
  injection this with _ e
  exact q e
def own_Ov (Z : State) (h : Heap) (a : Addr) (C : String) : Prop := ∃ cl : Cell, h[a]? = some cl ∧ Ovr Z cl.cls C
theorem own_Ov.new {k : ClassId} {ty : FieldType} {z : Int32} {C : String} (A : Arr Z h a (newA k ty z) ty) (O : Ovr Z k C) : own_Ov Z h a C := ⟨_, A.1, O⟩
theorem own_Ov.ext {C : String} (F : own_Ov Z h a C) (E : Ext h h') : own_Ov Z h' a C := by obtain ⟨c, q, r⟩ := F; exact ⟨c, E.2 _ _ q, r⟩
theorem own_Ov.wr {C : String} {b : Addr} {sl : Nat} {v : Value} (F : own_Ov Z h a C) (W : Wr h h' b sl v) : own_Ov Z h' a C := by obtain ⟨c, q, r⟩ := F; obtain ⟨c', q', e, -⟩ := wr_at W q; exact ⟨c', q', e ▸ r⟩
theorem own_Ov.keep {C : String} {ws : List Addr} (F : own_Ov Z h a C) (K : Keep h h' ws) : own_Ov Z h' a C := by obtain ⟨c, q, r⟩ := F; obtain ⟨c', q', e, -⟩ := K.2.2 _ _ q; exact ⟨c', q', e ▸ r⟩
theorem own_sto {cl : Cell} {ty : FieldType} {C : String} {y : Addr} (A : Arr Z h a cl ty) (O : own_Ov Z h a C) (I : Ins Z h y C true) : Sto Z h a (.ref y) := by
  obtain ⟨c, q, r⟩ := O; cases A.1.symm.trans q; exact Sto.of A r I
theorem own_Sta.keep {C n d : String} {w : Value} {ws : List Addr} (F : Sta Z h C n d w) (K : Keep h h' ws) (hw : ∀ x ∈ ws, ∀ cell : Cell, h[x]? = some cell → cell.vm.isStatics = false) : Sta Z h' C n d w := by
  obtain ⟨cf, i, k, f, st, cell, h1, h2, h3, h4, h5, h6, r⟩ := F
  exact ⟨cf, i, k, f, st, cell, h1, h2, h3, h4, K.2.1 _ _ h5 (fun hm => by have := hw _ hm _ h5; rw [h6] at this; cases this), h6, r⟩
def own_Ss (Z : State) (h : Heap) (w : Value) (cs : Int32) : Prop := Sta Z h "jdk/internal/util/Preconditions" "SIOOBE_FORMATTER" "Ljava/util/function/BiFunction;" w ∧ Sta Z h "java/lang/String" "COMPACT_STRINGS" "Z" (.int cs)
theorem own_Ss.ext {w : Value} {cs : Int32} (F : own_Ss Z h w cs) (E : Ext h h') : own_Ss Z h' w cs := ⟨F.1.ext E, F.2.ext E⟩
theorem own_Ss.wr {w : Value} {cs : Int32} {b : Addr} {sl : Nat} {v : Value} (F : own_Ss Z h w cs) (W : Wr h h' b sl v) : own_Ss Z h' w cs := ⟨F.1.wr W, F.2.wr W⟩
theorem own_Ss.keep {w : Value} {cs : Int32} {ws : List Addr} (F : own_Ss Z h w cs) (K : Keep h h' ws) (hw : ∀ x ∈ ws, ∀ cell : Cell, h[x]? = some cell → cell.vm.isStatics = false) : own_Ss Z h' w cs := ⟨own_Sta.keep F.1 K hw, own_Sta.keep F.2 K hw⟩
theorem own_sfA {EL : List (String × Nat)} {vm : Vm} {ty : FieldType} {n : Nat} {f : Nat → Value} (hal : Z.vm.Alike vm) (F : own_Af Z h a ty n f) (ht : ty ≠ .byte) : Safe Z EL vm h a := by obtain ⟨c, A, -⟩ := F; exact Safe.arr hal A ht
theorem own_sfX {EL : List (String × Nat)} {vm : Vm} {ty : FieldType} {n : Nat} (hal : Z.vm.Alike vm) (F : ∃ f, own_Af Z h a ty n f) (ht : ty ≠ .byte) : Safe Z EL vm h a := by obtain ⟨f, F⟩ := F; exact own_sfA hal F ht
theorem own_nsX {ty : FieldType} {n : Nat} (F : ∃ f, own_Af Z h a ty n f) : ∀ cell : Cell, h[a]? = some cell → cell.vm.isStatics = false := by obtain ⟨f, F⟩ := F; exact own_ns F
theorem own_ofarv {k : ClassId} {ty : FieldType} {z : Int32} {vs : List Value} {d : Value} (F : Arv Z h a k ty z vs d) {n : Nat} (hz : z.toNatClampNeg = n) {f : Nat → Value} (hf : ∀ j, j < n → vs.getD j d = f j) : own_Af Z h a ty n f := by
  obtain ⟨c, A, -, S, N, H, -⟩ := F
  refine ⟨c, A, S.trans hz, hz ▸ (back32 N).2, fun j hj => ?_⟩
  rw [H j (by rw [S, hz]; exact hj), hf j hj]
theorem own_arv {n : Nat} {g : Nat → Int32} (F : own_Af Z h a .char n (fun j => .int (g j))) (hg : own_B g) : ∃ k, Arv Z h a k .char (Int32.ofNat n) ((List.range n).map fun j => .int (g j)) (.int (0 : Int32)) := by
  obtain ⟨c, A, S, M, H⟩ := F
  have hv : ∀ i, i < n → ((List.range n).map fun j => Value.int (g j)).getD i (.int (0 : Int32)) = .int (g i) := fun i hi => by simp [List.getD, hi]
  have e := own_ofn M
  refine ⟨c.cls, c, A, rfl, ?_, ?_, ?_, ?_⟩
  · rw [S, own_nat e]
  · exact fun w => by have := Int32.lt_iff_toInt_lt.mp w; have z : (0 : Int32).toInt = 0 := rfl; omega
  · intro i hi; rw [S] at hi; rw [H i hi, hv i hi]
  · intro i hi; rw [S] at hi; rw [hv i hi]; exact own_fch (hg i)
/-- a String whose array is not laid yet is none of the booked ones -/
theorem own_sfN {EL : List (String × Nat)} {vm : Vm} (hal : Z.vm.Alike vm) (E : Exa Z h a "java/lang/String") (F : Fld Z h a "java/lang/String" "value" "[B" .null) : Safe Z EL vm h a := fun B => by
  obtain ⟨cell, k, e1, e2, e3, -, -⟩ := E
  obtain ⟨cell2, cf, k2, i, f, g1, g2, -, -, -, -, g7⟩ := F
  cases e1.symm.trans g1
  obtain ⟨p, -, u, a', -, q, -, G, rfl | rfl⟩ := B
  · cases (show h[q.sa]? = some q.sC from G.ha).symm.trans e1
    obtain ⟨cS, ⟨⟨-, -, -, ⟨c1, k1, i1, f1, -⟩, -, -, -, v1, -⟩, -⟩, -⟩ := G
    obtain ⟨k3, z4⟩ := ff_back (U := Jvm.RoadKit.Wst Z vm h) hal f1
    cases g2.symm.trans z4
    cases g7.symm.trans v1
  · cases (show h[q.sd]? = some q.SA from G.hd).symm.trans e1
    obtain ⟨cS, -, -, fB, -⟩ := G
    have fB : vm.findClass "[B" = some q.SA.cls := fB
    rw [hal.findClass] at fB
    obtain ⟨k1, q1, q2⟩ := Vm.findClass_spec fB
    obtain ⟨k2, q3, q4⟩ := Vm.findClass_spec e2
    cases q1.symm.trans q3
    exact absurd (q2.symm.trans q4) (by decide)
end Facts
def own_cpf (g : Nat → Int32) (V n : Nat) (gc : Nat → Int32) : Nat → Int32 := fun j => if V ≤ j ∧ j < V + n then gc (j - V) else g j
theorem own_cpf_in {g gc : Nat → Int32} {V n j : Nat} (h : V ≤ j ∧ j < V + n) : own_cpf g V n gc j = gc (j - V) := if_pos h
theorem own_cpf_out {g gc : Nat → Int32} {V n j : Nat} (h : j < V ∨ V + n ≤ j) : own_cpf g V n gc j = g j := if_neg (by omega)
theorem own_B.cpf {g gc : Nat → Int32} (H : own_B g) (H' : own_B gc) (V n : Nat) : own_B (own_cpf g V n gc) := fun j => by
  unfold own_cpf; by_cases e : V ≤ j ∧ j < V + n
  · rw [if_pos e]; exact H' _
  · rw [if_neg e]; exact H j
theorem own_cp {g gc : Nat → Int32} {V n N M : Nat} {sp nn dp : Int32} (hs : sp.toNatClampNeg = 0) (hn : nn.toNatClampNeg = n) (hd : dp.toNatClampNeg = V) (hN : n ≤ N) (hM : V + n ≤ M) : ∀ j, j < M → (((List.range M).map fun j => Value.int (g j)).take dp.toNatClampNeg ++ ((List.range nn.toNatClampNeg).map fun i => ((List.range N).map fun j => Value.int (gc j)).getD (sp.toNatClampNeg + i) (.int (0 : Int32))) ++ ((List.range M).map fun j => Value.int (g j)).drop (dp.toNatClampNeg + nn.toNatClampNeg)).getD j (.int (0 : Int32)) = .int (own_cpf g V n gc j) := by
  intro j hj
  rw [hs, hn, hd, List.getD_eq_getElem?_getD]
  by_cases c1 : j < V
  · rw [own_cpf_out (Or.inl c1), List.append_assoc, List.getElem?_append_left (by simp; omega), List.getElem?_take_of_lt c1]
    simp [hj]
  · by_cases c2 : j < V + n
    · have h3 : j - V < N := by omega
      have h4 : j - V < n := by omega
      rw [own_cpf_in ⟨by omega, c2⟩, List.getElem?_append_left (by simp; omega), List.getElem?_append_right (by simp; omega)]
      simp only [List.length_take, List.length_map, List.length_range, Nat.min_eq_left (by omega : V ≤ M), List.getElem?_map, List.getElem?_range h4, Option.map_some, Option.getD_some, Nat.zero_add]
      simp [List.getD, h3]
    · rw [own_cpf_out (Or.inr (by omega)), List.getElem?_append_right (by simp; omega), List.getElem?_drop]
      have e2 : V + n + (j - (min V M + n)) = j := by omega
      simp only [List.length_append, List.length_take, List.length_map, List.length_range, e2, List.getElem?_map, List.getElem?_range hj, Option.map_some, Option.getD_some]
/-! the two ways of collapsing: by a walk over the places, by a rule for each place -/
def own_loop (S : Nat) : Nat → Nat → Nat → Bool → (Nat → Int32) → Nat × (Nat → Int32)
  | 0, _, P, _, g => (P, g)
  | k + 1, i, P, sp, g => if g (S + i) = 32 ∧ sp = true then own_loop S k (i + 1) P true g else own_loop S k (i + 1) (P + 1) (decide (g (S + i) = 32)) (own_upi g (S + P) (g (S + i)))
def own_end (S : Nat) (r : Nat × (Nat → Int32)) : Nat := if 0 < r.1 ∧ r.2 (S + (r.1 - 1)) = 32 then r.1 - 1 else r.1
def own_ixl (b : Nat → Bool) : Nat → Nat → Bool → List Nat → List Nat
  | 0, _, _, L => L
  | k + 1, i, sp, L => if b i = false ∧ sp = true then own_ixl b k (i + 1) true L else own_ixl b k (i + 1) (!b i) (L ++ [i])
def own_ix (b : Nat → Bool) (n : Nat) : List Nat := let R := own_ixl b n 0 true []; if 0 < R.length ∧ b (R.getD (R.length - 1) 0) = false then R.dropLast else R
def own_nb (b : Nat → Bool) (n j : Nat) : Bool := decide (j < n) && b j
def own_lt (b : Nat → Bool) (n i : Nat) : Bool := own_nb b n (i + 1) || own_nb b n (i + 2) || own_nb b n (i + 3) || own_nb b n (i + 4)
def own_kp (b : Nat → Bool) (n i : Nat) : Bool := decide (i < n) && (b i || (decide (0 < i) && b (i - 1) && own_lt b n i))
def own_kl (b : Nat → Bool) (n : Nat) : List Nat := [0, 1, 2, 3, 4].foldl (fun L i => if own_kp b n i then L ++ [i] else L) []
def own_bits (x : List Bool) : Nat → Bool := fun i => x.getD i false
theorem own_two : ∀ n < 6, ∀ x0 x1 x2 x3 x4 : Bool, own_ix (own_bits [x0, x1, x2, x3, x4]) n = own_kl (own_bits [x0, x1, x2, x3, x4]) n := by decide +kernel
theorem own_ixb : ∀ n < 6, ∀ x0 x1 x2 x3 x4 : Bool, (own_ix (own_bits [x0, x1, x2, x3, x4]) n).length ≤ n := by decide +kernel
theorem own_loop_ix {S n : Nat} {g0 : Nat → Int32} {b : Nat → Bool} (hb : ∀ i, i < n → b i = decide (g0 (S + i) ≠ 32)) : ∀ (k i : Nat) (sp : Bool) (L : List Nat) (g : Nat → Int32), i + k = n → L.length ≤ i → (∀ j, j < L.length → g (S + j) = g0 (S + L.getD j 0) ∧ L.getD j 0 < n) → (∀ j, i ≤ j → g (S + j) = g0 (S + j)) → (∀ j, j < S ∨ S + n ≤ j → g j = g0 j) →
    (own_loop S k i L.length sp g).1 = (own_ixl b k i sp L).length ∧ (∀ j, j < (own_ixl b k i sp L).length → (own_loop S k i L.length sp g).2 (S + j) = g0 (S + (own_ixl b k i sp L).getD j 0) ∧ (own_ixl b k i sp L).getD j 0 < n) ∧ (∀ j, j < S ∨ S + n ≤ j → (own_loop S k i L.length sp g).2 j = g0 j) := by
  intro k
  induction k with
  | zero => intro i sp L g h1 h2 h3 h4 h5; exact ⟨rfl, h3, h5⟩
  | succ k ih =>
    intro i sp L g h1 h2 h3 h4 h5
    have e0 : g (S + i) = g0 (S + i) := h4 i (Nat.le_refl _)
    have eb := hb i (by omega)
    by_cases c : g0 (S + i) = 32 ∧ sp = true
    · have c1 : own_loop S (k + 1) i L.length sp g = own_loop S k (i + 1) L.length true g := by rw [own_loop, if_pos (by rw [e0]; exact c)]
      have c2 : own_ixl b (k + 1) i sp L = own_ixl b k (i + 1) true L := by rw [own_ixl, if_pos ⟨by rw [eb]; simp [c.1], c.2⟩]
      rw [c1, c2]
      exact ih (i + 1) true L g (by omega) (by omega) h3 (fun j hj => h4 j (by omega)) h5
    · have c1 : own_loop S (k + 1) i L.length sp g = own_loop S k (i + 1) (L ++ [i]).length (!b i) (own_upi g (S + L.length) (g0 (S + i))) := by
        rw [own_loop, if_neg (by rw [e0]; exact c), e0, List.length_append, show (!b i) = decide (g0 (S + i) = 32) from by rw [eb]; simp]; rfl
      have c2 : own_ixl b (k + 1) i sp L = own_ixl b k (i + 1) (!b i) (L ++ [i]) := by rw [own_ixl, if_neg (fun q => c ⟨by have := q.1; rw [eb] at this; simpa using this, q.2⟩)]
      rw [c1, c2]
      refine ih (i + 1) (!b i) (L ++ [i]) _ (by omega) (by simp; omega) (fun j hj => ?_) (fun j hj => ?_) (fun j hj => ?_)
      · rw [List.length_append, List.length_singleton] at hj
        by_cases q : j = L.length
        · subst q
          rw [own_upi_s, List.getD_eq_getElem?_getD, List.getElem?_append_right (Nat.le_refl _), Nat.sub_self]; exact ⟨rfl, show i < n by omega⟩
        · have hj' : j < L.length := by omega
          rw [own_upi_o (by omega), (h3 j hj').1, List.getD_eq_getElem?_getD, List.getD_eq_getElem?_getD, List.getElem?_append_left hj', ← List.getD_eq_getElem?_getD]; exact ⟨rfl, (h3 j hj').2⟩
      · rw [own_upi_o (by omega)]; exact h4 j (by omega)
      · rw [own_upi_o (by omega)]; exact h5 j hj
def own_p (k : Bool) (P : Nat) : Nat := if k then P + 1 else P
def own_o (k : Bool) (P : Nat) (x : Int32) (o : Nat → Int32) : Nat → Int32 := if k then own_upi o P x else o
theorem own_p_le (k : Bool) (P : Nat) : P ≤ own_p k P ∧ own_p k P ≤ P + 1 := by cases k <;> simp [own_p]
theorem own_B.o {k : Bool} {P : Nat} {x : Int32} {o : Nat → Int32} (H : own_B o) (h : 0 ≤ x.toInt ∧ x.toInt < 256) : own_B (own_o k P x o) := by cases k; exact H; exact H.up h P
def own_inv (c : Nat → Int32) (L : List Nat) (P : Nat) (o : Nat → Int32) : Prop := P = L.length ∧ ∀ j, j < L.length → o j = c (L.getD j 0)
theorem own_inv.step {c : Nat → Int32} {L : List Nat} {P : Nat} {o : Nat → Int32} (H : own_inv c L P o) (k : Bool) (i : Nat) : own_inv c (if k then L ++ [i] else L) (own_p k P) (own_o k P (c i) o) := by
  obtain ⟨rfl, h⟩ := H
  cases k
  · exact ⟨rfl, h⟩
  · refine ⟨by simp [own_p], fun j hj => ?_⟩
    rw [if_pos rfl, List.length_append, List.length_singleton] at hj
    show own_upi o L.length (c i) j = c ((L ++ [i]).getD j 0)
    by_cases q : j = L.length
    · subst q
      rw [own_upi_s, List.getD_eq_getElem?_getD, List.getElem?_append_right (Nat.le_refl _), Nat.sub_self]; rfl
    · have hj' : j < L.length := by omega
      rw [own_upi_o q, h j hj', List.getD_eq_getElem?_getD, List.getD_eq_getElem?_getD, List.getElem?_append_left hj']
theorem own_inv5 {c : Nat → Int32} {b : Nat → Bool} {n P1 P2 P3 P4 P5 : Nat} {o1 o2 o3 o4 o5 : Nat → Int32} (h1 : P1 = own_p (own_kp b n 0) 0) (h2 : P2 = own_p (own_kp b n 1) P1) (h3 : P3 = own_p (own_kp b n 2) P2) (h4 : P4 = own_p (own_kp b n 3) P3) (h5 : P5 = own_p (own_kp b n 4) P4)
    (e1 : o1 = own_o (own_kp b n 0) 0 (c 0) (fun _ => 0)) (e2 : o2 = own_o (own_kp b n 1) P1 (c 1) o1) (e3 : o3 = own_o (own_kp b n 2) P2 (c 2) o2) (e4 : o4 = own_o (own_kp b n 3) P3 (c 3) o3) (e5 : o5 = own_o (own_kp b n 4) P4 (c 4) o4) : own_inv c (own_kl b n) P5 o5 := by
  subst h1 e1 h2 e2 h3 e3 h4 e4 h5 e5
  have H0 : own_inv c [] 0 (fun _ => (0 : Int32)) := ⟨rfl, fun j hj => absurd hj (Nat.not_lt_zero j)⟩
  exact ((((H0.step _ 0).step _ 1).step _ 2).step _ 3).step _ 4
theorem own_getD_dropLast {R : List Nat} {j : Nat} (h : j < R.length - 1) : R.dropLast.getD j 0 = R.getD j 0 := by
  rw [List.getD_eq_getElem?_getD, List.getD_eq_getElem?_getD, List.getElem?_dropLast, if_pos h]
/-- **the law's plain part**: the collapsed stretch is what the rule keeps, and what lies outside is as it was -/
theorem own_law {S n : Nat} {g0 : Nat → Int32} {r : Nat × (Nat → Int32)} (hn : n < 6) (hr : r = own_loop S n 0 0 true g0) {x0 x1 x2 x3 x4 : Bool} (hb : ∀ i, i < n → own_bits [x0, x1, x2, x3, x4] i = decide (g0 (S + i) ≠ 32)) {P : Nat} {o : Nat → Int32} {c : Nat → Int32} (hc : ∀ j, j < n → c j = g0 (S + j)) (H : own_inv c (own_kl (own_bits [x0, x1, x2, x3, x4]) n) P o) :
    own_end S r = P ∧ P ≤ n ∧ (∀ j, j < P → r.2 (S + j) = o j) ∧ (∀ j, j < S ∨ S + n ≤ j → r.2 j = g0 j) := by
  subst hr
  have two := own_two n hn x0 x1 x2 x3 x4
  have ble := own_ixb n hn x0 x1 x2 x3 x4
  revert two ble H hb
  generalize own_bits [x0, x1, x2, x3, x4] = b
  intro hb H two ble
  obtain ⟨q1, q2, q3⟩ := own_loop_ix (S := S) (n := n) (g0 := g0) hb n 0 true [] g0 (by omega) (Nat.le_refl _) (fun j hj => absurd hj (Nat.not_lt_zero j)) (fun j _ => rfl) (fun j _ => rfl)
  obtain ⟨hP, ho⟩ := H
  rw [← two] at hP ho
  have q1 : (own_loop S n 0 0 true g0).1 = (own_ixl b n 0 true []).length := q1
  have q2 : ∀ j, j < (own_ixl b n 0 true []).length → (own_loop S n 0 0 true g0).2 (S + j) = g0 (S + (own_ixl b n 0 true []).getD j 0) ∧ (own_ixl b n 0 true []).getD j 0 < n := q2
  have q3 : ∀ j, j < S ∨ S + n ≤ j → (own_loop S n 0 0 true g0).2 j = g0 j := q3
  revert q1 q2 q3
  generalize own_loop S n 0 0 true g0 = r
  intro q1 q2 q3
  have hP' : P ≤ n := by rw [hP]; exact ble
  rw [own_ix] at hP ho
  revert hP ho q1 q2
  generalize own_ixl b n 0 true [] = R
  intro hP ho q1 q2
  by_cases cz : 0 < R.length ∧ b (R.getD (R.length - 1) 0) = false
  · have l := q2 (R.length - 1) (by omega)
    have hb' := hb _ l.2
    rw [cz.2] at hb'
    have l2 : r.2 (S + (r.1 - 1)) = 32 := by rw [q1, l.1]; simpa using hb'
    simp only [if_pos cz] at hP ho
    rw [List.length_dropLast] at hP ho
    refine ⟨?_, hP', fun j hj => ?_, q3⟩
    · rw [own_end, if_pos ⟨by omega, l2⟩, q1, hP]
    · rw [(q2 j (by omega)).1, ho j (by omega), own_getD_dropLast (by omega), hc _ (q2 j (by omega)).2]
  · simp only [if_neg cz] at hP ho
    refine ⟨?_, hP', fun j hj => ?_, q3⟩
    · rw [own_end, if_neg (fun w => cz ⟨by omega, by
        have l := q2 (R.length - 1) (by omega)
        rw [hb _ l.2, ← l.1, ← q1, w.2]; rfl⟩), q1, hP]
    · rw [(q2 j (by omega)).1, ho j (by omega), hc _ (q2 j (by omega)).2]
theorem own_bitsE {g : Nat → Int32} {n : Nat} (hn : n < 6) : ∀ i, i < n → own_bits [decide (g 0 ≠ 32), decide (g 1 ≠ 32), decide (g 2 ≠ 32), decide (g 3 ≠ 32), decide (g 4 ≠ 32)] i = decide (g i ≠ 32) := fun i hi => by
  rcases (by omega : i = 0 ∨ i = 1 ∨ i = 2 ∨ i = 3 ∨ i = 4) with rfl | rfl | rfl | rfl | rfl <;> rfl
def own_At (Z : State) (h : Heap) (a nm sr ln ns dc sg vl : Addr) (ct vn : Int32) (fs fl : Nat → Int32) (fg : Nat → Value) (g : Nat → Int32) : Prop :=
  Exa Z h a "com/example/weaverbird/weaverbird/model/xml/Attributes" ∧ Fld Z h a "com/example/weaverbird/weaverbird/model/xml/Attributes" "names" "[Lcom/example/weaverbird/weaverbird/model/xml/NameTable$QualifiedName;" (.ref nm) ∧ Fld Z h a "com/example/weaverbird/weaverbird/model/xml/Attributes" "starts" "[I" (.ref sr) ∧ Fld Z h a "com/example/weaverbird/weaverbird/model/xml/Attributes" "lengths" "[I" (.ref ln) ∧ Fld Z h a "com/example/weaverbird/weaverbird/model/xml/Attributes" "namespaces" "[Ljava/lang/String;" (.ref ns) ∧ Fld Z h a "com/example/weaverbird/weaverbird/model/xml/Attributes" "declarations" "[Z" (.ref dc) ∧ Fld Z h a "com/example/weaverbird/weaverbird/model/xml/Attributes" "strings" "[Ljava/lang/String;" (.ref sg) ∧ Fld Z h a "com/example/weaverbird/weaverbird/model/xml/Attributes" "values" "[C" (.ref vl) ∧ Fld Z h a "com/example/weaverbird/weaverbird/model/xml/Attributes" "count" "I" (.int ct) ∧ Fld Z h a "com/example/weaverbird/weaverbird/model/xml/Attributes" "valuesLength" "I" (.int vn) ∧
  (∃ f, own_Af Z h nm (.object "com/example/weaverbird/weaverbird/model/xml/NameTable$QualifiedName") 8 f) ∧ own_Af Z h sr .int 8 (fun j => .int (fs j)) ∧ own_Af Z h ln .int 8 (fun j => .int (fl j)) ∧ (∃ f, own_Af Z h ns (.object "java/lang/String") 8 f) ∧ (∃ f, own_Af Z h dc .boolean 8 f) ∧ own_Af Z h sg (.object "java/lang/String") 8 fg ∧ own_Af Z h vl .char 256 (fun j => .int (g j)) ∧ own_Ov Z h ns "java/lang/String" ∧ own_Ov Z h sg "java/lang/String"
theorem own_At.kp {Z : State} {h h' : Heap} {a nm sr ln ns dc sg vl : Addr} {ct vn : Int32} {fs fl : Nat → Int32} {fg : Nat → Value} {g : Nat → Int32} (H : own_At Z h a nm sr ln ns dc sg vl ct vn fs fl fg g) (hO : a < nm ∧ nm < sr ∧ sr < ln ∧ ln < ns ∧ ns < dc ∧ dc < sg ∧ sg < vl) {fl' g' : Nat → Int32} (K : Keep h h' [ln, vl]) (A_ln' : own_Af Z h' ln .int 8 (fun j => .int (fl' j))) (A_vl' : own_Af Z h' vl .char 256 (fun j => .int (g' j))) : own_At Z h' a nm sr ln ns dc sg vl ct vn fs fl' fg g' := by
  obtain ⟨o1, o2, o3, o4, o5, o6, o7⟩ := hO
  obtain ⟨E_a, F_nm, F_sr, F_ln, F_ns, F_dc, F_sg, F_vl, F_ct, F_vn, ⟨fnm, A_nm⟩, A_sr, A_ln, ⟨fns, A_ns⟩, ⟨fdc, A_dc⟩, A_sg, A_vl, O_ns, O_sg⟩ := H
  exact ⟨E_a.keep K, F_nm.keep K (ninS (Nat.ne_of_lt (Nat.lt_trans o1 (Nat.lt_trans o2 o3))) (ninS (Nat.ne_of_lt (Nat.lt_trans o1 (Nat.lt_trans o2 (Nat.lt_trans o3 (Nat.lt_trans o4 (Nat.lt_trans o5 (Nat.lt_trans o6 o7))))))) nin0)), F_sr.keep K (ninS (Nat.ne_of_lt (Nat.lt_trans o1 (Nat.lt_trans o2 o3))) (ninS (Nat.ne_of_lt (Nat.lt_trans o1 (Nat.lt_trans o2 (Nat.lt_trans o3 (Nat.lt_trans o4 (Nat.lt_trans o5 (Nat.lt_trans o6 o7))))))) nin0)), F_ln.keep K (ninS (Nat.ne_of_lt (Nat.lt_trans o1 (Nat.lt_trans o2 o3))) (ninS (Nat.ne_of_lt (Nat.lt_trans o1 (Nat.lt_trans o2 (Nat.lt_trans o3 (Nat.lt_trans o4 (Nat.lt_trans o5 (Nat.lt_trans o6 o7))))))) nin0)), F_ns.keep K (ninS (Nat.ne_of_lt (Nat.lt_trans o1 (Nat.lt_trans o2 o3))) (ninS (Nat.ne_of_lt (Nat.lt_trans o1 (Nat.lt_trans o2 (Nat.lt_trans o3 (Nat.lt_trans o4 (Nat.lt_trans o5 (Nat.lt_trans o6 o7))))))) nin0)), F_dc.keep K (ninS (Nat.ne_of_lt (Nat.lt_trans o1 (Nat.lt_trans o2 o3))) (ninS (Nat.ne_of_lt (Nat.lt_trans o1 (Nat.lt_trans o2 (Nat.lt_trans o3 (Nat.lt_trans o4 (Nat.lt_trans o5 (Nat.lt_trans o6 o7))))))) nin0)), F_sg.keep K (ninS (Nat.ne_of_lt (Nat.lt_trans o1 (Nat.lt_trans o2 o3))) (ninS (Nat.ne_of_lt (Nat.lt_trans o1 (Nat.lt_trans o2 (Nat.lt_trans o3 (Nat.lt_trans o4 (Nat.lt_trans o5 (Nat.lt_trans o6 o7))))))) nin0)), F_vl.keep K (ninS (Nat.ne_of_lt (Nat.lt_trans o1 (Nat.lt_trans o2 o3))) (ninS (Nat.ne_of_lt (Nat.lt_trans o1 (Nat.lt_trans o2 (Nat.lt_trans o3 (Nat.lt_trans o4 (Nat.lt_trans o5 (Nat.lt_trans o6 o7))))))) nin0)), F_ct.keep K (ninS (Nat.ne_of_lt (Nat.lt_trans o1 (Nat.lt_trans o2 o3))) (ninS (Nat.ne_of_lt (Nat.lt_trans o1 (Nat.lt_trans o2 (Nat.lt_trans o3 (Nat.lt_trans o4 (Nat.lt_trans o5 (Nat.lt_trans o6 o7))))))) nin0)), F_vn.keep K (ninS (Nat.ne_of_lt (Nat.lt_trans o1 (Nat.lt_trans o2 o3))) (ninS (Nat.ne_of_lt (Nat.lt_trans o1 (Nat.lt_trans o2 (Nat.lt_trans o3 (Nat.lt_trans o4 (Nat.lt_trans o5 (Nat.lt_trans o6 o7))))))) nin0)), ⟨_, A_nm.keep K (ninS (Nat.ne_of_lt (Nat.lt_trans o2 o3)) (ninS (Nat.ne_of_lt (Nat.lt_trans o2 (Nat.lt_trans o3 (Nat.lt_trans o4 (Nat.lt_trans o5 (Nat.lt_trans o6 o7)))))) nin0))⟩, A_sr.keep K (ninS (Nat.ne_of_lt o3) (ninS (Nat.ne_of_lt (Nat.lt_trans o3 (Nat.lt_trans o4 (Nat.lt_trans o5 (Nat.lt_trans o6 o7))))) nin0)), A_ln', ⟨_, A_ns.keep K (ninS (Nat.ne_of_gt o4) (ninS (Nat.ne_of_lt (Nat.lt_trans o5 (Nat.lt_trans o6 o7))) nin0))⟩, ⟨_, A_dc.keep K (ninS (Nat.ne_of_gt (Nat.lt_trans o4 o5)) (ninS (Nat.ne_of_lt (Nat.lt_trans o6 o7)) nin0))⟩, A_sg.keep K (ninS (Nat.ne_of_gt (Nat.lt_trans o4 (Nat.lt_trans o5 o6))) (ninS (Nat.ne_of_lt o7) nin0)), A_vl', O_ns.keep K, O_sg.keep K⟩
theorem own_At.kpS {Z : State} {h h' : Heap} {a nm sr ln ns dc sg vl : Addr} {ct vn : Int32} {fs fl : Nat → Int32} {fg : Nat → Value} {g : Nat → Int32} (H : own_At Z h a nm sr ln ns dc sg vl ct vn fs fl fg g) (hO : a < nm ∧ nm < sr ∧ sr < ln ∧ ln < ns ∧ ns < dc ∧ dc < sg ∧ sg < vl) {fg' : Nat → Value} (K : Keep h h' [sg]) (A_sg' : own_Af Z h' sg (.object "java/lang/String") 8 fg') : own_At Z h' a nm sr ln ns dc sg vl ct vn fs fl fg' g := by
  obtain ⟨o1, o2, o3, o4, o5, o6, o7⟩ := hO
  obtain ⟨E_a, F_nm, F_sr, F_ln, F_ns, F_dc, F_sg, F_vl, F_ct, F_vn, ⟨fnm, A_nm⟩, A_sr, A_ln, ⟨fns, A_ns⟩, ⟨fdc, A_dc⟩, A_sg, A_vl, O_ns, O_sg⟩ := H
  exact ⟨E_a.keep K, F_nm.keep K (ninS (Nat.ne_of_lt (Nat.lt_trans o1 (Nat.lt_trans o2 (Nat.lt_trans o3 (Nat.lt_trans o4 (Nat.lt_trans o5 o6)))))) nin0), F_sr.keep K (ninS (Nat.ne_of_lt (Nat.lt_trans o1 (Nat.lt_trans o2 (Nat.lt_trans o3 (Nat.lt_trans o4 (Nat.lt_trans o5 o6)))))) nin0), F_ln.keep K (ninS (Nat.ne_of_lt (Nat.lt_trans o1 (Nat.lt_trans o2 (Nat.lt_trans o3 (Nat.lt_trans o4 (Nat.lt_trans o5 o6)))))) nin0), F_ns.keep K (ninS (Nat.ne_of_lt (Nat.lt_trans o1 (Nat.lt_trans o2 (Nat.lt_trans o3 (Nat.lt_trans o4 (Nat.lt_trans o5 o6)))))) nin0), F_dc.keep K (ninS (Nat.ne_of_lt (Nat.lt_trans o1 (Nat.lt_trans o2 (Nat.lt_trans o3 (Nat.lt_trans o4 (Nat.lt_trans o5 o6)))))) nin0), F_sg.keep K (ninS (Nat.ne_of_lt (Nat.lt_trans o1 (Nat.lt_trans o2 (Nat.lt_trans o3 (Nat.lt_trans o4 (Nat.lt_trans o5 o6)))))) nin0), F_vl.keep K (ninS (Nat.ne_of_lt (Nat.lt_trans o1 (Nat.lt_trans o2 (Nat.lt_trans o3 (Nat.lt_trans o4 (Nat.lt_trans o5 o6)))))) nin0), F_ct.keep K (ninS (Nat.ne_of_lt (Nat.lt_trans o1 (Nat.lt_trans o2 (Nat.lt_trans o3 (Nat.lt_trans o4 (Nat.lt_trans o5 o6)))))) nin0), F_vn.keep K (ninS (Nat.ne_of_lt (Nat.lt_trans o1 (Nat.lt_trans o2 (Nat.lt_trans o3 (Nat.lt_trans o4 (Nat.lt_trans o5 o6)))))) nin0), ⟨_, A_nm.keep K (ninS (Nat.ne_of_lt (Nat.lt_trans o2 (Nat.lt_trans o3 (Nat.lt_trans o4 (Nat.lt_trans o5 o6))))) nin0)⟩, A_sr.keep K (ninS (Nat.ne_of_lt (Nat.lt_trans o3 (Nat.lt_trans o4 (Nat.lt_trans o5 o6)))) nin0), A_ln.keep K (ninS (Nat.ne_of_lt (Nat.lt_trans o4 (Nat.lt_trans o5 o6))) nin0), ⟨_, A_ns.keep K (ninS (Nat.ne_of_lt (Nat.lt_trans o5 o6)) nin0)⟩, ⟨_, A_dc.keep K (ninS (Nat.ne_of_lt o6) nin0)⟩, A_sg', A_vl.keep K (ninS (Nat.ne_of_gt o7) nin0), O_ns.keep K, O_sg.keep K⟩
theorem own_At.ko {Z : State} {h h' : Heap} {a nm sr ln ns dc sg vl : Addr} {ct vn : Int32} {fs fl : Nat → Int32} {fg : Nat → Value} {g : Nat → Int32} (H : own_At Z h a nm sr ln ns dc sg vl ct vn fs fl fg g) {ws : List Addr} (K : Keep h h' ws) (hn : ∀ x, a ≤ x → x ≤ vl → x ∉ ws) (hO : a < nm ∧ nm < sr ∧ sr < ln ∧ ln < ns ∧ ns < dc ∧ dc < sg ∧ sg < vl) : own_At Z h' a nm sr ln ns dc sg vl ct vn fs fl fg g := by
  obtain ⟨o1, o2, o3, o4, o5, o6, o7⟩ := hO
  obtain ⟨E_a, F_nm, F_sr, F_ln, F_ns, F_dc, F_sg, F_vl, F_ct, F_vn, ⟨fnm, A_nm⟩, A_sr, A_ln, ⟨fns, A_ns⟩, ⟨fdc, A_dc⟩, A_sg, A_vl, O_ns, O_sg⟩ := H
  exact ⟨E_a.keep K, F_nm.keep K (hn _ (Nat.le_refl _) (Nat.le_of_lt (Nat.lt_trans o1 (Nat.lt_trans o2 (Nat.lt_trans o3 (Nat.lt_trans o4 (Nat.lt_trans o5 (Nat.lt_trans o6 o7)))))))), F_sr.keep K (hn _ (Nat.le_refl _) (Nat.le_of_lt (Nat.lt_trans o1 (Nat.lt_trans o2 (Nat.lt_trans o3 (Nat.lt_trans o4 (Nat.lt_trans o5 (Nat.lt_trans o6 o7)))))))), F_ln.keep K (hn _ (Nat.le_refl _) (Nat.le_of_lt (Nat.lt_trans o1 (Nat.lt_trans o2 (Nat.lt_trans o3 (Nat.lt_trans o4 (Nat.lt_trans o5 (Nat.lt_trans o6 o7)))))))), F_ns.keep K (hn _ (Nat.le_refl _) (Nat.le_of_lt (Nat.lt_trans o1 (Nat.lt_trans o2 (Nat.lt_trans o3 (Nat.lt_trans o4 (Nat.lt_trans o5 (Nat.lt_trans o6 o7)))))))), F_dc.keep K (hn _ (Nat.le_refl _) (Nat.le_of_lt (Nat.lt_trans o1 (Nat.lt_trans o2 (Nat.lt_trans o3 (Nat.lt_trans o4 (Nat.lt_trans o5 (Nat.lt_trans o6 o7)))))))), F_sg.keep K (hn _ (Nat.le_refl _) (Nat.le_of_lt (Nat.lt_trans o1 (Nat.lt_trans o2 (Nat.lt_trans o3 (Nat.lt_trans o4 (Nat.lt_trans o5 (Nat.lt_trans o6 o7)))))))), F_vl.keep K (hn _ (Nat.le_refl _) (Nat.le_of_lt (Nat.lt_trans o1 (Nat.lt_trans o2 (Nat.lt_trans o3 (Nat.lt_trans o4 (Nat.lt_trans o5 (Nat.lt_trans o6 o7)))))))), F_ct.keep K (hn _ (Nat.le_refl _) (Nat.le_of_lt (Nat.lt_trans o1 (Nat.lt_trans o2 (Nat.lt_trans o3 (Nat.lt_trans o4 (Nat.lt_trans o5 (Nat.lt_trans o6 o7)))))))), F_vn.keep K (hn _ (Nat.le_refl _) (Nat.le_of_lt (Nat.lt_trans o1 (Nat.lt_trans o2 (Nat.lt_trans o3 (Nat.lt_trans o4 (Nat.lt_trans o5 (Nat.lt_trans o6 o7)))))))), ⟨_, A_nm.keep K (hn _ (Nat.le_of_lt o1) (Nat.le_of_lt (Nat.lt_trans o2 (Nat.lt_trans o3 (Nat.lt_trans o4 (Nat.lt_trans o5 (Nat.lt_trans o6 o7)))))))⟩, A_sr.keep K (hn _ (Nat.le_of_lt (Nat.lt_trans o1 o2)) (Nat.le_of_lt (Nat.lt_trans o3 (Nat.lt_trans o4 (Nat.lt_trans o5 (Nat.lt_trans o6 o7)))))), A_ln.keep K (hn _ (Nat.le_of_lt (Nat.lt_trans o1 (Nat.lt_trans o2 o3))) (Nat.le_of_lt (Nat.lt_trans o4 (Nat.lt_trans o5 (Nat.lt_trans o6 o7))))), ⟨_, A_ns.keep K (hn _ (Nat.le_of_lt (Nat.lt_trans o1 (Nat.lt_trans o2 (Nat.lt_trans o3 o4)))) (Nat.le_of_lt (Nat.lt_trans o5 (Nat.lt_trans o6 o7))))⟩, ⟨_, A_dc.keep K (hn _ (Nat.le_of_lt (Nat.lt_trans o1 (Nat.lt_trans o2 (Nat.lt_trans o3 (Nat.lt_trans o4 o5))))) (Nat.le_of_lt (Nat.lt_trans o6 o7)))⟩, A_sg.keep K (hn _ (Nat.le_of_lt (Nat.lt_trans o1 (Nat.lt_trans o2 (Nat.lt_trans o3 (Nat.lt_trans o4 (Nat.lt_trans o5 o6)))))) (Nat.le_of_lt o7)), A_vl.keep K (hn _ (Nat.le_of_lt (Nat.lt_trans o1 (Nat.lt_trans o2 (Nat.lt_trans o3 (Nat.lt_trans o4 (Nat.lt_trans o5 (Nat.lt_trans o6 o7))))))) (Nat.le_refl _)), O_ns.keep K, O_sg.keep K⟩
theorem own_addN {x y : Int32} {a b : Nat} (hx : x.toInt = a) (hy : y.toInt = b) (h : a + b < 2147483648) : (x + y).toInt = ((a + b : Nat) : Int) := by have := c_iadd x y; have := rng32 (x + y); omega
theorem own_subN {x y : Int32} {a b : Nat} (hx : x.toInt = a) (hy : y.toInt = b) (h : b ≤ a) : (x - y).toInt = ((a - b : Nat) : Int) := by have := c_isub x y; have := rng32 x; have := rng32 (x - y); omega
theorem own_endY {S P : Nat} {g : Nat → Int32} (h0 : 0 < P) (h : g (S + (P - 1)) = 32) : own_end S (P, g) = P - 1 := if_pos ⟨h0, h⟩
theorem own_endN {S P : Nat} {g : Nat → Int32} (h : ¬ g (S + (P - 1)) = 32) : own_end S (P, g) = P := if_neg fun q => h q.2
theorem own_endZ {S P : Nat} {g : Nat → Int32} (h : P = 0) : own_end S (P, g) = P := if_neg fun q => absurd q.1 (by rw [h]; exact Nat.lt_irrefl 0)
theorem own_lz {pv sv : Int32} {S P : Nat} (h1 : pv.toInt = ((S + P : Nat) : Int)) (h2 : sv.toInt = ((S : Nat) : Int)) : (pv - sv).toInt = ((P : Nat) : Int) := (own_subN h1 h2 (Nat.le_add_right _ _)).trans (by omega)
theorem own_lzd {pv sv : Int32} {S P : Nat} (h1 : pv.toInt = ((S + P : Nat) : Int)) (h2 : sv.toInt = ((S : Nat) : Int)) (h : 0 < P) : (pv + (-1 : Int32) - sv).toInt = ((P - 1 : Nat) : Int) := by
  have d1 := c_iadd pv (-1)
  have d2 := rng32 (pv + (-1 : Int32))
  have d3 : (-1 : Int32).toInt = -1 := rfl
  have d4 := rng32 pv
  have d5 : (pv + (-1 : Int32)).toInt = ((S + (P - 1) : Nat) : Int) := by omega
  exact own_lz d5 h2
theorem own_q9 {pv : Int32} {S P : Nat} (h1 : pv.toInt = ((S + P : Nat) : Int)) (h : 0 < P) : (pv - (1 : Int32)).toInt = ((S + (P - 1) : Nat) : Int) := (own_subN (b := 1) h1 rfl (by omega)).trans (by omega)
abbrev own_EL : List (String × Nat) := [("com/example/weaverbird/weaverbird/model/xml/Attributes", 67), ("java/lang/String", 7)]
theorem own_EW {Z : State} {a0 : Array Value} (hw : ∀ d ∈ tables_1, d.before a0 Z = true) : EW Z a0 own_EL := EW.cons (text := "") (hw _ (List.mem_of_getElem? (i := 49) rfl)) (by decide) (EW.cons (text := "") (hw _ (List.mem_of_getElem? (i := 110) rfl)) (by decide) EW.nil)
theorem own_wS {Z : State} {a0 : Array Value} (hw : ∀ d ∈ tables_1, d.before a0 Z = true) : ∀ d ∈ Bundle.stringAtoms, d.before a0 Z = true := fun d hd => by
  simp only [Bundle.stringAtoms, List.mem_cons, List.not_mem_nil, or_false] at hd
  rcases hd with rfl | rfl | rfl | rfl | rfl | rfl | rfl
  · exact hw _ (List.mem_of_getElem? (i := 50) rfl)
  · exact hw _ (List.mem_of_getElem? (i := 51) rfl)
  · exact hw _ (List.mem_of_getElem? (i := 52) rfl)
  · exact hw _ (List.mem_of_getElem? (i := 53) rfl)
  · exact hw _ (List.mem_of_getElem? (i := 54) rfl)
  · exact hw _ (List.mem_of_getElem? (i := 55) rfl)
  · exact hw _ (List.mem_of_getElem? (i := 56) rfl)
theorem d1_0 : decode method_4_code 0 = .ok (.lload_n 0, 1) := by decide +kernel
theorem d1_1 : decode method_4_code 1 = .ok (.bipush 9, 2) := by decide +kernel
theorem d1_3 : decode method_4_code 3 = .ok (.iload_n 2, 1) := by decide +kernel
theorem d1_4 : decode method_4_code 4 = .ok (.imul, 1) := by decide +kernel
theorem d1_5 : decode method_4_code 5 = .ok (.lushr, 1) := by decide +kernel
theorem d1_6 : decode method_4_code 6 = .ok (.l2i, 1) := by decide +kernel
theorem d1_7 : decode method_4_code 7 = .ok (.sipush 511, 3) := by decide +kernel
theorem d1_10 : decode method_4_code 10 = .ok (.iand, 1) := by decide +kernel
theorem d1_11 : decode method_4_code 11 = .ok (.istore_n 3, 1) := by decide +kernel
theorem d1_12 : decode method_4_code 12 = .ok (.iload_n 3, 1) := by decide +kernel
theorem d1_13 : decode method_4_code 13 = .ok (.sipush 256, 3) := by decide +kernel
theorem d1_16 : decode method_4_code 16 = .ok (.iand, 1) := by decide +kernel
theorem d1_17 : decode method_4_code 17 = .ok (.ifCond .eq 8, 3) := by decide +kernel
theorem d1_20 : decode method_4_code 20 = .ok (.bipush 32, 2) := by decide +kernel
theorem d1_22 : decode method_4_code 22 = .ok (.goto 9, 3) := by decide +kernel
theorem d1_25 : decode method_4_code 25 = .ok (.iload_n 3, 1) := by decide +kernel
theorem d1_26 : decode method_4_code 26 = .ok (.sipush 255, 3) := by decide +kernel
theorem d1_29 : decode method_4_code 29 = .ok (.iand, 1) := by decide +kernel
theorem d1_30 : decode method_4_code 30 = .ok (.i2c, 1) := by decide +kernel
theorem d1_31 : decode method_4_code 31 = .ok (.ireturn, 1) := by decide +kernel
theorem pn_1 : plainName "com/example/weaverbird/weaverbird/model/xml/AttributesCollapsePinLaw" = true := by first | (simp [plainName, overriddenIn]; done) | decide +kernel
theorem ef_1 (m : MethodId) (p0 : Int64) (p1 : Int32) : entryFrame m #[(.long p0), (.int p1)] 4 = mkF m 0 #[.val (.long p0), .second, iv p1, .unset] [] := by first | (simp [entryFrame, mkF, argsToLocals, Value.category]; done) | rfl
def Q1 (Z : State) (p0 : Int64) (p1 : Int32) (h0 : Heap) (n0 : Nat) (v : Option Value) (h : Heap) (L : List Loc) : Prop := (∃ v' : Int32, v = some (.int v') ∧ (0 ≤ v'.toInt ∧ v'.toInt < 256)) ∧ Fr n0 L ∧ h = h0
set_option maxRecDepth 65536 in
set_option maxHeartbeats 40000000 in
theorem rm1 (l : Launch) (Z : State) (a0 : Array Value) (hw : ∀ d ∈ tables_1, d.before a0 Z = true) (ws : List Jvm.Cond) (p0 : Int64) (p1 : Int32) (h0 : Heap) (n0 : Nat) (Z0 : n0 ≤ h0.size)  :
    MetFree l (⟨"com/example/weaverbird/weaverbird/model/xml/AttributesCollapsePinLaw", "ch", "(JI)C"⟩ : MethodName) (head1 (Jvm.Cond.code (⟨"com/example/weaverbird/weaverbird/model/xml/AttributesCollapsePinLaw", "ch", "(JI)C"⟩ : MethodName) method_4_code 4 (some .char) :: ws) ({ frames := 0, cells := 0, slots := 0, locals := 0 } : Room)) (fun aX UX => aX = #[(.long p0), (.int p1)] ∧ Z.Warmed39 UX.vm ∧ UX.heap = h0) (fun _ _ _ _ _ => True) (fun _ UX oX UY => ∃ vX LX, oX = .returned vX ∧ Q1 Z p0 p1 h0 n0 vX UY.heap LX ∧ FrameEnd UX oX UY LX ({ frames := 0, cells := 0, slots := 0, locals := 0 } : Room).cells ({ frames := 0, cells := 0, slots := 0, locals := 0 } : Room).slots) := by
  refine MetFree.of_bodySF (plainFor_of_name pn_1) hisR ?_
  intro p e s m args below meth c s₁ Bd hml0 hPX hKX
  obtain ⟨rfl, hZ, hh⟩ := hPX
  have hx := Bd.exec
  have hby := Bd.bytes
  have hml : c.maxLocals = 4 := hml0
  have hown : s.vm.findClass "com/example/weaverbird/weaverbird/model/xml/AttributesCollapsePinLaw" = some m.cls := findClass_of_methodNamed Bd.named
  have hnm := (name_of_methodNamed Bd.named Bd.method).1
  have X0 : Stand p l e ({ frames := 0, cells := 0, slots := 0, locals := 0 } : Room) s m #[(.long p0), (.int p1)] below meth c s₁ [] 0 0 := Stand.of_body Bd
  have e0 : s₁.heap = h0 := by rw [← hh, Bd.state]; rfl
  have N0 := Fr.nil n0
  have pre0 : ∀ t, Steps p.tables e below (s₁.setTop (mkF m 0 #[.val (.long p0), .second, iv p1, .unset] [])) t → Steps p.tables e below (s₁.setTop (entryFrame m #[(.long p0), (.int p1)] 4)) t := fun t k => castTop (ef_1 m p0 p1) k
  obtain ⟨S0, hS0⟩ : ∃ z, z = (s₁.setTop (entryFrame m #[(.long p0), (.int p1)] 4)) := ⟨_, rfl⟩
  rw [← hS0] at pre0
  have pre1 : ∀ t, own_s p e below s₁ m 11 #[.val (.long p0), .second, iv p1, .unset] [(.int ((((p0.toUInt64 >>> (((9 : Int32) * p1) &&& 0x3f).toInt64.toUInt64).toInt64).toInt32) &&& (511 : Int32)))] t → Steps p.tables e below S0 t := by
    intro tX kX
    refine pre0 _ ?_
    show own_s p e below s₁ m 0 #[.val (.long p0), .second, iv p1, .unset] [] _
    refine XS.lloadN X0.here hx rfl (hb hby d1_0) rfl ?_
    refine XS.bipush X0.here hx rfl (hb hby d1_1) ?_
    refine XS.iloadN X0.here hx rfl (hb hby d1_3) rfl ?_
    show own_s p e below s₁ m 4 #[.val (.long p0), .second, iv p1, .unset] [(.int p1), (.int (9 : Int32)), (.long p0)] _
    refine XS.imul X0.here hx rfl (hb hby d1_4) rfl ?_
    refine XS.lushr X0.here hx rfl (hb hby d1_5) rfl ?_
    refine XS.l2i X0.here hx rfl (hb hby d1_6) rfl ?_
    show own_s p e below s₁ m 7 #[.val (.long p0), .second, iv p1, .unset] [(.int (((p0.toUInt64 >>> (((9 : Int32) * p1) &&& 0x3f).toInt64.toUInt64).toInt64).toInt32))] _
    refine XS.sipush X0.here hx rfl (hb hby d1_7) ?_
    refine XS.iand X0.here hx rfl (hb hby d1_10) rfl ?_
    exact kX
  obtain ⟨vv, hvv⟩ : ∃ z : Int32, z = ((((p0.toUInt64 >>> (((9 : Int32) * p1) &&& 0x3f).toInt64.toUInt64).toInt64).toInt32) &&& (511 : Int32)) := ⟨_, rfl⟩
  rw [← hvv] at pre1
  have pre2 : ∀ t, own_s p e below s₁ m 17 #[.val (.long p0), .second, iv p1, iv vv] [(.int (vv &&& (256 : Int32)))] t → Steps p.tables e below S0 t := by
    intro tX kX
    refine pre1 _ ?_
    show own_s p e below s₁ m 11 #[.val (.long p0), .second, iv p1, .unset] [(.int vv)] _
    refine XS.istoreN X0.here hx rfl (hb hby d1_11) rfl (l' := #[.val (.long p0), .second, iv p1, iv vv]) rfl ?_
    refine XS.iloadN X0.here hx rfl (hb hby d1_12) rfl ?_
    refine XS.sipush X0.here hx rfl (hb hby d1_13) ?_
    show own_s p e below s₁ m 16 #[.val (.long p0), .second, iv p1, iv vv] [(.int (256 : Int32)), (.int vv)] _
    refine XS.iand X0.here hx rfl (hb hby d1_16) rfl ?_
    exact kX
  by_cases hc3 : (vv &&& (256 : Int32)) = (0 : Int32)
  · skip
    have pre4 : ∀ t, own_s p e below s₁ m 30 #[.val (.long p0), .second, iv p1, iv vv] [(.int (vv &&& (255 : Int32)))] t → Steps p.tables e below S0 t := by
      intro tX kX
      refine pre2 _ ?_
      show own_s p e below s₁ m 17 #[.val (.long p0), .second, iv p1, iv vv] [(.int (vv &&& (256 : Int32)))] _
      refine XS.ifYes X0.here hx rfl (pc0 := 17) (pc' := 25) rfl (hb hby d1_17) rfl ((if0 _ _).trans (teq hc3).1) (by decide) (by decide) ?_
      refine XS.iloadN X0.here hx rfl (hb hby d1_25) rfl ?_
      refine XS.sipush X0.here hx rfl (hb hby d1_26) ?_
      show own_s p e below s₁ m 29 #[.val (.long p0), .second, iv p1, iv vv] [(.int (255 : Int32)), (.int vv)] _
      refine XS.iand X0.here hx rfl (hb hby d1_29) rfl ?_
      exact kX
    obtain ⟨qq, hqq⟩ : ∃ z : Int32, z = (vv &&& (255 : Int32)) := ⟨_, rfl⟩
    rw [← hqq] at pre4
    have pre5 : ∀ t, own_s p e below s₁ m 31 #[.val (.long p0), .second, iv p1, iv vv] [(.int (qq.toUInt32.toUInt16.toUInt32.toInt32))] t → Steps p.tables e below S0 t := by
      intro tX kX
      refine pre4 _ ?_
      show own_s p e below s₁ m 30 #[.val (.long p0), .second, iv p1, iv vv] [(.int qq)] _
      refine XS.i2c X0.here hx rfl (hb hby d1_30) rfl ?_
      exact kX
    subst hS0
    obtain ⟨fsX, hr, hrun, hended, hW, hsame⟩ := X0.leave (v := (some (.int (nar .char (qq.toUInt32.toUInt16.toUInt32.toInt32))))) (fun h => by rw [Bd.returns] at h; cases h)
    refine ⟨_, _, pre5 _ (retN X0 hx (t := .char) Bd.returns (by simp) (hb hby d1_31) hr), hrun, hended, _, _, rfl, ?_, ⟨_, rfl⟩, hW, hsame.mono (by decide) (by decide)⟩
    show Q1 Z p0 p1 h0 n0 (some (.int (nar .char (qq.toUInt32.toUInt16.toUInt32.toInt32)))) s₁.heap _
    refine ⟨⟨_, rfl, ?_⟩, N0, e0⟩
    have d1 := c_i2c qq
    have d2 := c_i2c (qq.toUInt32.toUInt16.toUInt32.toInt32)
    have d3 := c_mask vv 255 8 (by decide) (by decide)
    rw [← hqq] at d3
    show 0 ≤ ((qq.toUInt32.toUInt16.toUInt32.toInt32).toUInt32.toUInt16.toUInt32.toInt32).toInt ∧ ((qq.toUInt32.toUInt16.toUInt32.toInt32).toUInt32.toUInt16.toUInt32.toInt32).toInt < 256
    omega
  · skip
    have pre6 : ∀ t, own_s p e below s₁ m 31 #[.val (.long p0), .second, iv p1, iv vv] [(.int (32 : Int32))] t → Steps p.tables e below S0 t := by
      intro tX kX
      refine pre2 _ ?_
      show own_s p e below s₁ m 17 #[.val (.long p0), .second, iv p1, iv vv] [(.int (vv &&& (256 : Int32)))] _
      refine XS.ifNo X0.here hx rfl (hb hby d1_17) rfl ((if0 _ _).trans (feq hc3).1) ?_
      refine XS.bipush X0.here hx rfl (hb hby d1_20) ?_
      refine XS.goto X0.here hx rfl (pc0 := 22) (pc' := 31) rfl (hb hby d1_22) (by decide) (by decide) ?_
      exact kX
    subst hS0
    obtain ⟨fsX, hr, hrun, hended, hW, hsame⟩ := X0.leave (v := (some (.int (32 : Int32)))) (fun h => by rw [Bd.returns] at h; cases h)
    refine ⟨_, _, pre6 _ (retN X0 hx (t := .char) Bd.returns (by simp) (hb hby d1_31) hr), hrun, hended, _, _, rfl, ?_, ⟨_, rfl⟩, hW, hsame.mono (by decide) (by decide)⟩
    show Q1 Z p0 p1 h0 n0 (some (.int (32 : Int32))) s₁.heap _
    exact ⟨⟨_, rfl, by decide⟩, N0, e0⟩
theorem d2_0 : decode method_3_code 0 = .ok (.iconst 5, 1) := by decide +kernel
theorem d2_1 : decode method_3_code 1 = .ok (.newarray .char, 2) := by decide +kernel
theorem d2_3 : decode method_3_code 3 = .ok (.astore_n 2, 1) := by decide +kernel
theorem d2_4 : decode method_3_code 4 = .ok (.aload_n 2, 1) := by decide +kernel
theorem d2_5 : decode method_3_code 5 = .ok (.iconst 0, 1) := by decide +kernel
theorem d2_6 : decode method_3_code 6 = .ok (.lload_n 0, 1) := by decide +kernel
theorem d2_7 : decode method_3_code 7 = .ok (.iconst 0, 1) := by decide +kernel
theorem d2_8 : decode method_3_code 8 = .ok (.invokestatic 49, 3) := by decide +kernel
theorem d2_11 : decode method_3_code 11 = .ok (.castore, 1) := by decide +kernel
theorem d2_12 : decode method_3_code 12 = .ok (.aload_n 2, 1) := by decide +kernel
theorem d2_13 : decode method_3_code 13 = .ok (.iconst 1, 1) := by decide +kernel
theorem d2_14 : decode method_3_code 14 = .ok (.lload_n 0, 1) := by decide +kernel
theorem d2_15 : decode method_3_code 15 = .ok (.iconst 1, 1) := by decide +kernel
theorem d2_16 : decode method_3_code 16 = .ok (.invokestatic 49, 3) := by decide +kernel
theorem d2_19 : decode method_3_code 19 = .ok (.castore, 1) := by decide +kernel
theorem d2_20 : decode method_3_code 20 = .ok (.aload_n 2, 1) := by decide +kernel
theorem d2_21 : decode method_3_code 21 = .ok (.iconst 2, 1) := by decide +kernel
theorem d2_22 : decode method_3_code 22 = .ok (.lload_n 0, 1) := by decide +kernel
theorem d2_23 : decode method_3_code 23 = .ok (.iconst 2, 1) := by decide +kernel
theorem d2_24 : decode method_3_code 24 = .ok (.invokestatic 49, 3) := by decide +kernel
theorem d2_27 : decode method_3_code 27 = .ok (.castore, 1) := by decide +kernel
theorem d2_28 : decode method_3_code 28 = .ok (.aload_n 2, 1) := by decide +kernel
theorem d2_29 : decode method_3_code 29 = .ok (.iconst 3, 1) := by decide +kernel
theorem d2_30 : decode method_3_code 30 = .ok (.lload_n 0, 1) := by decide +kernel
theorem d2_31 : decode method_3_code 31 = .ok (.iconst 3, 1) := by decide +kernel
theorem d2_32 : decode method_3_code 32 = .ok (.invokestatic 49, 3) := by decide +kernel
theorem d2_35 : decode method_3_code 35 = .ok (.castore, 1) := by decide +kernel
theorem d2_36 : decode method_3_code 36 = .ok (.aload_n 2, 1) := by decide +kernel
theorem d2_37 : decode method_3_code 37 = .ok (.iconst 4, 1) := by decide +kernel
theorem d2_38 : decode method_3_code 38 = .ok (.lload_n 0, 1) := by decide +kernel
theorem d2_39 : decode method_3_code 39 = .ok (.iconst 4, 1) := by decide +kernel
theorem d2_40 : decode method_3_code 40 = .ok (.invokestatic 49, 3) := by decide +kernel
theorem d2_43 : decode method_3_code 43 = .ok (.castore, 1) := by decide +kernel
theorem d2_44 : decode method_3_code 44 = .ok (.aload_n 2, 1) := by decide +kernel
theorem d2_45 : decode method_3_code 45 = .ok (.areturn, 1) := by decide +kernel
theorem pn_2 : plainName "com/example/weaverbird/weaverbird/model/xml/AttributesCollapsePinLaw" = true := by first | (simp [plainName, overriddenIn]; done) | decide +kernel
theorem pd2_0 : parseMethodDescriptor "(JI)C" = some ⟨[.long, .int], some .char⟩ := by decide +kernel
theorem ef_2 (m : MethodId) (p0 : Int64) : entryFrame m #[(.long p0)] 3 = mkF m 0 #[.val (.long p0), .second, .unset] [] := by first | (simp [entryFrame, mkF, argsToLocals, Value.category]; done) | rfl
def Q2 (Z : State) (p0 : Int64) (h0 : Heap) (n0 : Nat) (v : Option Value) (h : Heap) (L : List Loc) : Prop := ∃ (r : Addr) (g : Nat → Int32), v = some (.ref r) ∧ Fr n0 L ∧ Keep h0 h [] ∧ h0.size ≤ r ∧ n0 ≤ r ∧ own_Af Z h r .char 5 (fun j => .int (g j)) ∧ own_B g
set_option maxRecDepth 65536 in
set_option maxHeartbeats 40000000 in
theorem rm2 (l : Launch) (Z : State) (a0 : Array Value) (hw : ∀ d ∈ tables_1, d.before a0 Z = true) (ws : List Jvm.Cond) (p0 : Int64) (h0 : Heap) (n0 : Nat) (Z0 : n0 ≤ h0.size)  :
    MetFree l (⟨"com/example/weaverbird/weaverbird/model/xml/AttributesCollapsePinLaw", "draw", "(J)[C"⟩ : MethodName) (head1 (Jvm.Cond.code (⟨"com/example/weaverbird/weaverbird/model/xml/AttributesCollapsePinLaw", "draw", "(J)[C"⟩ : MethodName) method_3_code 3 (some (.array .char)) :: ws) ({ frames := 1, cells := 1, slots := 5, locals := 30 } : Room)) (fun aX UX => aX = #[(.long p0)] ∧ Z.Warmed39 UX.vm ∧ UX.heap = h0) (fun _ _ _ _ _ => True) (fun _ UX oX UY => ∃ vX LX, oX = .returned vX ∧ Q2 Z p0 h0 n0 vX UY.heap LX ∧ FrameEnd UX oX UY LX ({ frames := 1, cells := 1, slots := 5, locals := 30 } : Room).cells ({ frames := 1, cells := 1, slots := 5, locals := 30 } : Room).slots) := by
  refine MetFree.of_bodySF (plainFor_of_name pn_2) hisR ?_
  intro p e s m args below meth c s₁ Bd hml0 hPX hKX
  obtain ⟨rfl, hZ, hh⟩ := hPX
  have hx := Bd.exec
  have hby := Bd.bytes
  have hml : c.maxLocals = 3 := hml0
  have hown : s.vm.findClass "com/example/weaverbird/weaverbird/model/xml/AttributesCollapsePinLaw" = some m.cls := findClass_of_methodNamed Bd.named
  have hnm := (name_of_methodNamed Bd.named Bd.method).1
  have X0 : Stand p l e ({ frames := 1, cells := 1, slots := 5, locals := 30 } : Room) s m #[(.long p0)] below meth c s₁ [] 0 0 := Stand.of_body Bd
  have e0 : s₁.heap = h0 := by rw [← hh, Bd.state]; rfl
  have N0 := Fr.nil n0
  have pre0 : ∀ t, Steps p.tables e below (s₁.setTop (mkF m 0 #[.val (.long p0), .second, .unset] [])) t → Steps p.tables e below (s₁.setTop (entryFrame m #[(.long p0)] 3)) t := fun t k => castTop (ef_2 m p0) k
  obtain ⟨S0, hS0⟩ : ∃ z, z = (s₁.setTop (entryFrame m #[(.long p0)] 3)) := ⟨_, rfl⟩
  rw [← hS0] at pre0
  have K0 : Keep h0 h0 [] := Keep.refl h0 _
  have pre1 : ∀ t, own_s p e below s₁ m 1 #[.val (.long p0), .second, .unset] [(.int (5 : Int32))] t → Steps p.tables e below S0 t := by
    intro tX kX
    refine pre0 _ ?_
    show own_s p e below s₁ m 0 #[.val (.long p0), .second, .unset] [] _
    refine XS.iconst X0.here hx rfl (hb hby d2_0) ?_
    exact kX
  obtain ⟨T2, h2, k2, X2, e2, E2, A2, st2⟩ := newP X0 hx hZ (hw _ (List.mem_of_getElem? (i := 4) rfl)) e0 (g := (mkF m 1 #[.val (.long p0), .second, .unset] [(.int (5 : Int32))])) rfl (hb hby d2_1) rfl (by decide) (cap := 5) (by decide) (by decide) (by decide) (by decide)
  obtain ⟨b2, g2⟩ : ∃ z, z = h0.size := ⟨_, rfl⟩
  rw [← g2] at A2 st2
  have g_b2 : n0 ≤ b2 := Nat.le_trans Z0 (Nat.le_of_eq g2.symm)
  have sz_b2 : h0.size ≤ b2 := Nat.le_trans K0.1 (Nat.le_of_eq g2.symm)
  have pre3 : ∀ t, own_s p e below T2 m 3 #[.val (.long p0), .second, .unset] [(.ref b2)] t → Steps p.tables e below S0 t := fun tX kX => pre1 _ (st2 _ kX)
  have Z4 : n0 ≤ h2.size := Nat.le_trans Z0 E2.1
  have K5 : Keep h0 h2 [] := K0.ext E2
  have f6_A : own_Af Z h2 b2 .char 5 (fun _ => (.int (0 : Int32))) := own_Af.new A2 (by decide) rfl
  have pre7 : ∀ t, own_s p e below T2 m 8 #[.val (.long p0), .second, rv b2] [(.int (0 : Int32)), (.long p0), (.int (0 : Int32)), (.ref b2)] t → Steps p.tables e below S0 t := by
    intro tX kX
    refine pre3 _ ?_
    show own_s p e below T2 m 3 #[.val (.long p0), .second, .unset] [(.ref b2)] _
    refine XS.astoreN X2.here hx rfl (hb hby d2_3) rfl rfl (l' := #[.val (.long p0), .second, rv b2]) rfl ?_
    refine XS.aloadN X2.here hx rfl (hb hby d2_4) rfl rfl ?_
    refine XS.iconst X2.here hx rfl (hb hby d2_5) ?_
    show own_s p e below T2 m 6 #[.val (.long p0), .second, rv b2] [(.int (0 : Int32)), (.ref b2)] _
    refine XS.lloadN X2.here hx rfl (hb hby d2_6) rfl ?_
    refine XS.iconst X2.here hx rfl (hb hby d2_7) ?_
    exact kX
  obtain ⟨_, _, ⟨T8, L8, k8, n8⟩, -, X8, ⟨Lc8, hQ8, l8, y8, z8⟩, st8⟩ := Jvm.LawKit.callS X2 hx (y := (⟨"com/example/weaverbird/weaverbird/model/xml/AttributesCollapsePinLaw", "ch", "(JI)C"⟩ : MethodName)) hown (mvT hZ (hw _ (List.mem_of_getElem? (i := 5) rfl))) (mvT hZ (hw _ (List.mem_of_getElem? (i := 6) rfl))) (mvT hZ (hw _ (List.mem_of_getElem? (i := 2) rfl))) (mvT hZ (hw _ (List.mem_of_getElem? (i := 7) rfl))) (by decide) (backOf (W := 2) (rm1 l Z a0 hw [] p0 (0 : Int32)  h2 n0 Z4 ) hZ (hw _ (List.mem_of_getElem? (i := 7) rfl)) (hw _ (List.mem_of_getElem? (i := 2) rfl)) (by decide) (by decide)) (g := (mkF m 8 #[.val (.long p0), .second, rv b2] [(.int (0 : Int32)), (.long p0), (.int (0 : Int32)), (.ref b2)])) rfl (by rw [hml]; rfl) (argsL := [(.long p0), (.int (0 : Int32))]) (rest := [(.int (0 : Int32)), (.ref b2)]) (lenOf pd2_0 rfl) rfl (by show 2 * 0 + _ ≤ _; exact Nat.le_of_eq rfl) (hb hby d2_8) (fun _ _ => ⟨rfl, e2, (by decide : 1 + 0 ≤ _), (by decide : 5 + 0 ≤ _)⟩)
  dsimp only [Pt.U, Pt.locs, Pt.cells, Pt.slots] at X8 l8 y8 z8 st8 hQ8
  subst l8 y8 z8
  obtain ⟨⟨v8, rfl, B8⟩, Nq8, e8⟩ := hQ8
  have N8 := Fr.app N0 Nq8
  obtain ⟨LL9, X9, N9⟩ : ∃ LL, Stand p l e ({ frames := 1, cells := 1, slots := 5, locals := 30 } : Room) s m #[(.long p0)] below meth c T8 LL 1 5 ∧ Fr n0 LL := ⟨_, X8, N8⟩
  have pre10 : ∀ t, own_s p e below T8 m 11 #[.val (.long p0), .second, rv b2] [(.int v8), (.int (0 : Int32)), (.ref b2)] t → Steps p.tables e below S0 t := fun tX kX => pre7 _ (st8 _ kX)
  obtain ⟨cl11, Ar11, S11, M11, H11⟩ := id f6_A
  obtain ⟨T12, h12, X12, e12, W12, st12⟩ := stC X9 hx hZ e8 Ar11 (j := (0 : Int32)) (own_inb S11 M11 (by decide)) (g := (mkF m 11 #[.val (.long p0), .second, rv b2] [(.int v8), (.int (0 : Int32)), (.ref b2)])) rfl rfl (hb hby d2_11)
  have pre13 : ∀ t, own_s p e below T12 m 12 #[.val (.long p0), .second, rv b2] [] t → Steps p.tables e below S0 t := fun tX kX => pre10 _ (st12 _ kX)
  obtain ⟨LL14, X14, N14⟩ : ∃ LL, Stand p l e ({ frames := 1, cells := 1, slots := 5, locals := 30 } : Room) s m #[(.long p0)] below meth c T12 LL 1 5 ∧ Fr n0 LL := ⟨_, X12, Fr.snoc X12 N9 g_b2⟩
  have Z15 : n0 ≤ h12.size := Nat.le_trans Z4 (Keep.of_wr W12).1
  have K16 : Keep h0 h12 [] := K5.wr W12 (Or.inr sz_b2)
  have f17_A : own_Af Z h12 b2 .char 5 (own_up (fun _ => (.int (0 : Int32))) (0 : Int32).toNatClampNeg (.int (nar .char v8))) := own_Af.set Ar11 S11 M11 H11 W12
  have f18_A : own_Af Z h12 b2 .char 5 (fun j => .int ((own_upi (fun _ => (0 : Int32)) 0 v8) j)) := own_upA f17_A (own_up_eq rfl (by decide) (own_narc B8))
  have pre19 : ∀ t, own_s p e below T12 m 16 #[.val (.long p0), .second, rv b2] [(.int (1 : Int32)), (.long p0), (.int (1 : Int32)), (.ref b2)] t → Steps p.tables e below S0 t := by
    intro tX kX
    refine pre13 _ ?_
    show own_s p e below T12 m 12 #[.val (.long p0), .second, rv b2] [] _
    refine XS.aloadN X14.here hx rfl (hb hby d2_12) rfl rfl ?_
    refine XS.iconst X14.here hx rfl (hb hby d2_13) ?_
    refine XS.lloadN X14.here hx rfl (hb hby d2_14) rfl ?_
    show own_s p e below T12 m 15 #[.val (.long p0), .second, rv b2] [(.long p0), (.int (1 : Int32)), (.ref b2)] _
    refine XS.iconst X14.here hx rfl (hb hby d2_15) ?_
    exact kX
  obtain ⟨_, _, ⟨T20, L20, k20, n20⟩, -, X20, ⟨Lc20, hQ20, l20, y20, z20⟩, st20⟩ := Jvm.LawKit.callS X14 hx (y := (⟨"com/example/weaverbird/weaverbird/model/xml/AttributesCollapsePinLaw", "ch", "(JI)C"⟩ : MethodName)) hown (mvT hZ (hw _ (List.mem_of_getElem? (i := 5) rfl))) (mvT hZ (hw _ (List.mem_of_getElem? (i := 6) rfl))) (mvT hZ (hw _ (List.mem_of_getElem? (i := 2) rfl))) (mvT hZ (hw _ (List.mem_of_getElem? (i := 7) rfl))) (by decide) (backOf (W := 2) (rm1 l Z a0 hw [] p0 (1 : Int32)  h12 n0 Z15 ) hZ (hw _ (List.mem_of_getElem? (i := 7) rfl)) (hw _ (List.mem_of_getElem? (i := 2) rfl)) (by decide) (by decide)) (g := (mkF m 16 #[.val (.long p0), .second, rv b2] [(.int (1 : Int32)), (.long p0), (.int (1 : Int32)), (.ref b2)])) rfl (by rw [hml]; rfl) (argsL := [(.long p0), (.int (1 : Int32))]) (rest := [(.int (1 : Int32)), (.ref b2)]) (lenOf pd2_0 rfl) rfl (by show 2 * 0 + _ ≤ _; exact Nat.le_of_eq rfl) (hb hby d2_16) (fun _ _ => ⟨rfl, e12, (by decide : 1 + 0 ≤ _), (by decide : 5 + 0 ≤ _)⟩)
  dsimp only [Pt.U, Pt.locs, Pt.cells, Pt.slots] at X20 l20 y20 z20 st20 hQ20
  subst l20 y20 z20
  obtain ⟨⟨v20, rfl, B20⟩, Nq20, e20⟩ := hQ20
  have N20 := Fr.app N14 Nq20
  obtain ⟨LL21, X21, N21⟩ : ∃ LL, Stand p l e ({ frames := 1, cells := 1, slots := 5, locals := 30 } : Room) s m #[(.long p0)] below meth c T20 LL 1 5 ∧ Fr n0 LL := ⟨_, X20, N20⟩
  have pre22 : ∀ t, own_s p e below T20 m 19 #[.val (.long p0), .second, rv b2] [(.int v20), (.int (1 : Int32)), (.ref b2)] t → Steps p.tables e below S0 t := fun tX kX => pre19 _ (st20 _ kX)
  obtain ⟨cl23, Ar23, S23, M23, H23⟩ := id f18_A
  obtain ⟨T24, h24, X24, e24, W24, st24⟩ := stC X21 hx hZ e20 Ar23 (j := (1 : Int32)) (own_inb S23 M23 (by decide)) (g := (mkF m 19 #[.val (.long p0), .second, rv b2] [(.int v20), (.int (1 : Int32)), (.ref b2)])) rfl rfl (hb hby d2_19)
  have pre25 : ∀ t, own_s p e below T24 m 20 #[.val (.long p0), .second, rv b2] [] t → Steps p.tables e below S0 t := fun tX kX => pre22 _ (st24 _ kX)
  obtain ⟨LL26, X26, N26⟩ : ∃ LL, Stand p l e ({ frames := 1, cells := 1, slots := 5, locals := 30 } : Room) s m #[(.long p0)] below meth c T24 LL 1 5 ∧ Fr n0 LL := ⟨_, X24, Fr.snoc X24 N21 g_b2⟩
  have Z27 : n0 ≤ h24.size := Nat.le_trans Z15 (Keep.of_wr W24).1
  have K28 : Keep h0 h24 [] := K16.wr W24 (Or.inr sz_b2)
  have f29_A : own_Af Z h24 b2 .char 5 (own_up (fun j => .int ((own_upi (fun _ => (0 : Int32)) 0 v8) j)) (1 : Int32).toNatClampNeg (.int (nar .char v20))) := own_Af.set Ar23 S23 M23 H23 W24
  have f30_A : own_Af Z h24 b2 .char 5 (fun j => .int ((own_upi (own_upi (fun _ => (0 : Int32)) 0 v8) 1 v20) j)) := own_upA f29_A (own_up_eq rfl (by decide) (own_narc B20))
  have pre31 : ∀ t, own_s p e below T24 m 24 #[.val (.long p0), .second, rv b2] [(.int (2 : Int32)), (.long p0), (.int (2 : Int32)), (.ref b2)] t → Steps p.tables e below S0 t := by
    intro tX kX
    refine pre25 _ ?_
    show own_s p e below T24 m 20 #[.val (.long p0), .second, rv b2] [] _
    refine XS.aloadN X26.here hx rfl (hb hby d2_20) rfl rfl ?_
    refine XS.iconst X26.here hx rfl (hb hby d2_21) ?_
    refine XS.lloadN X26.here hx rfl (hb hby d2_22) rfl ?_
    show own_s p e below T24 m 23 #[.val (.long p0), .second, rv b2] [(.long p0), (.int (2 : Int32)), (.ref b2)] _
    refine XS.iconst X26.here hx rfl (hb hby d2_23) ?_
    exact kX
  obtain ⟨_, _, ⟨T32, L32, k32, n32⟩, -, X32, ⟨Lc32, hQ32, l32, y32, z32⟩, st32⟩ := Jvm.LawKit.callS X26 hx (y := (⟨"com/example/weaverbird/weaverbird/model/xml/AttributesCollapsePinLaw", "ch", "(JI)C"⟩ : MethodName)) hown (mvT hZ (hw _ (List.mem_of_getElem? (i := 5) rfl))) (mvT hZ (hw _ (List.mem_of_getElem? (i := 6) rfl))) (mvT hZ (hw _ (List.mem_of_getElem? (i := 2) rfl))) (mvT hZ (hw _ (List.mem_of_getElem? (i := 7) rfl))) (by decide) (backOf (W := 2) (rm1 l Z a0 hw [] p0 (2 : Int32)  h24 n0 Z27 ) hZ (hw _ (List.mem_of_getElem? (i := 7) rfl)) (hw _ (List.mem_of_getElem? (i := 2) rfl)) (by decide) (by decide)) (g := (mkF m 24 #[.val (.long p0), .second, rv b2] [(.int (2 : Int32)), (.long p0), (.int (2 : Int32)), (.ref b2)])) rfl (by rw [hml]; rfl) (argsL := [(.long p0), (.int (2 : Int32))]) (rest := [(.int (2 : Int32)), (.ref b2)]) (lenOf pd2_0 rfl) rfl (by show 2 * 0 + _ ≤ _; exact Nat.le_of_eq rfl) (hb hby d2_24) (fun _ _ => ⟨rfl, e24, (by decide : 1 + 0 ≤ _), (by decide : 5 + 0 ≤ _)⟩)
  dsimp only [Pt.U, Pt.locs, Pt.cells, Pt.slots] at X32 l32 y32 z32 st32 hQ32
  subst l32 y32 z32
  obtain ⟨⟨v32, rfl, B32⟩, Nq32, e32⟩ := hQ32
  have N32 := Fr.app N26 Nq32
  obtain ⟨LL33, X33, N33⟩ : ∃ LL, Stand p l e ({ frames := 1, cells := 1, slots := 5, locals := 30 } : Room) s m #[(.long p0)] below meth c T32 LL 1 5 ∧ Fr n0 LL := ⟨_, X32, N32⟩
  have pre34 : ∀ t, own_s p e below T32 m 27 #[.val (.long p0), .second, rv b2] [(.int v32), (.int (2 : Int32)), (.ref b2)] t → Steps p.tables e below S0 t := fun tX kX => pre31 _ (st32 _ kX)
  obtain ⟨cl35, Ar35, S35, M35, H35⟩ := id f30_A
  obtain ⟨T36, h36, X36, e36, W36, st36⟩ := stC X33 hx hZ e32 Ar35 (j := (2 : Int32)) (own_inb S35 M35 (by decide)) (g := (mkF m 27 #[.val (.long p0), .second, rv b2] [(.int v32), (.int (2 : Int32)), (.ref b2)])) rfl rfl (hb hby d2_27)
  have pre37 : ∀ t, own_s p e below T36 m 28 #[.val (.long p0), .second, rv b2] [] t → Steps p.tables e below S0 t := fun tX kX => pre34 _ (st36 _ kX)
  obtain ⟨LL38, X38, N38⟩ : ∃ LL, Stand p l e ({ frames := 1, cells := 1, slots := 5, locals := 30 } : Room) s m #[(.long p0)] below meth c T36 LL 1 5 ∧ Fr n0 LL := ⟨_, X36, Fr.snoc X36 N33 g_b2⟩
  have Z39 : n0 ≤ h36.size := Nat.le_trans Z27 (Keep.of_wr W36).1
  have K40 : Keep h0 h36 [] := K28.wr W36 (Or.inr sz_b2)
  have f41_A : own_Af Z h36 b2 .char 5 (own_up (fun j => .int ((own_upi (own_upi (fun _ => (0 : Int32)) 0 v8) 1 v20) j)) (2 : Int32).toNatClampNeg (.int (nar .char v32))) := own_Af.set Ar35 S35 M35 H35 W36
  have f42_A : own_Af Z h36 b2 .char 5 (fun j => .int ((own_upi (own_upi (own_upi (fun _ => (0 : Int32)) 0 v8) 1 v20) 2 v32) j)) := own_upA f41_A (own_up_eq rfl (by decide) (own_narc B32))
  have pre43 : ∀ t, own_s p e below T36 m 32 #[.val (.long p0), .second, rv b2] [(.int (3 : Int32)), (.long p0), (.int (3 : Int32)), (.ref b2)] t → Steps p.tables e below S0 t := by
    intro tX kX
    refine pre37 _ ?_
    show own_s p e below T36 m 28 #[.val (.long p0), .second, rv b2] [] _
    refine XS.aloadN X38.here hx rfl (hb hby d2_28) rfl rfl ?_
    refine XS.iconst X38.here hx rfl (hb hby d2_29) ?_
    refine XS.lloadN X38.here hx rfl (hb hby d2_30) rfl ?_
    show own_s p e below T36 m 31 #[.val (.long p0), .second, rv b2] [(.long p0), (.int (3 : Int32)), (.ref b2)] _
    refine XS.iconst X38.here hx rfl (hb hby d2_31) ?_
    exact kX
  obtain ⟨_, _, ⟨T44, L44, k44, n44⟩, -, X44, ⟨Lc44, hQ44, l44, y44, z44⟩, st44⟩ := Jvm.LawKit.callS X38 hx (y := (⟨"com/example/weaverbird/weaverbird/model/xml/AttributesCollapsePinLaw", "ch", "(JI)C"⟩ : MethodName)) hown (mvT hZ (hw _ (List.mem_of_getElem? (i := 5) rfl))) (mvT hZ (hw _ (List.mem_of_getElem? (i := 6) rfl))) (mvT hZ (hw _ (List.mem_of_getElem? (i := 2) rfl))) (mvT hZ (hw _ (List.mem_of_getElem? (i := 7) rfl))) (by decide) (backOf (W := 2) (rm1 l Z a0 hw [] p0 (3 : Int32)  h36 n0 Z39 ) hZ (hw _ (List.mem_of_getElem? (i := 7) rfl)) (hw _ (List.mem_of_getElem? (i := 2) rfl)) (by decide) (by decide)) (g := (mkF m 32 #[.val (.long p0), .second, rv b2] [(.int (3 : Int32)), (.long p0), (.int (3 : Int32)), (.ref b2)])) rfl (by rw [hml]; rfl) (argsL := [(.long p0), (.int (3 : Int32))]) (rest := [(.int (3 : Int32)), (.ref b2)]) (lenOf pd2_0 rfl) rfl (by show 2 * 0 + _ ≤ _; exact Nat.le_of_eq rfl) (hb hby d2_32) (fun _ _ => ⟨rfl, e36, (by decide : 1 + 0 ≤ _), (by decide : 5 + 0 ≤ _)⟩)
  dsimp only [Pt.U, Pt.locs, Pt.cells, Pt.slots] at X44 l44 y44 z44 st44 hQ44
  subst l44 y44 z44
  obtain ⟨⟨v44, rfl, B44⟩, Nq44, e44⟩ := hQ44
  have N44 := Fr.app N38 Nq44
  obtain ⟨LL45, X45, N45⟩ : ∃ LL, Stand p l e ({ frames := 1, cells := 1, slots := 5, locals := 30 } : Room) s m #[(.long p0)] below meth c T44 LL 1 5 ∧ Fr n0 LL := ⟨_, X44, N44⟩
  have pre46 : ∀ t, own_s p e below T44 m 35 #[.val (.long p0), .second, rv b2] [(.int v44), (.int (3 : Int32)), (.ref b2)] t → Steps p.tables e below S0 t := fun tX kX => pre43 _ (st44 _ kX)
  obtain ⟨cl47, Ar47, S47, M47, H47⟩ := id f42_A
  obtain ⟨T48, h48, X48, e48, W48, st48⟩ := stC X45 hx hZ e44 Ar47 (j := (3 : Int32)) (own_inb S47 M47 (by decide)) (g := (mkF m 35 #[.val (.long p0), .second, rv b2] [(.int v44), (.int (3 : Int32)), (.ref b2)])) rfl rfl (hb hby d2_35)
  have pre49 : ∀ t, own_s p e below T48 m 36 #[.val (.long p0), .second, rv b2] [] t → Steps p.tables e below S0 t := fun tX kX => pre46 _ (st48 _ kX)
  obtain ⟨LL50, X50, N50⟩ : ∃ LL, Stand p l e ({ frames := 1, cells := 1, slots := 5, locals := 30 } : Room) s m #[(.long p0)] below meth c T48 LL 1 5 ∧ Fr n0 LL := ⟨_, X48, Fr.snoc X48 N45 g_b2⟩
  have Z51 : n0 ≤ h48.size := Nat.le_trans Z39 (Keep.of_wr W48).1
  have K52 : Keep h0 h48 [] := K40.wr W48 (Or.inr sz_b2)
  have f53_A : own_Af Z h48 b2 .char 5 (own_up (fun j => .int ((own_upi (own_upi (own_upi (fun _ => (0 : Int32)) 0 v8) 1 v20) 2 v32) j)) (3 : Int32).toNatClampNeg (.int (nar .char v44))) := own_Af.set Ar47 S47 M47 H47 W48
  have f54_A : own_Af Z h48 b2 .char 5 (fun j => .int ((own_upi (own_upi (own_upi (own_upi (fun _ => (0 : Int32)) 0 v8) 1 v20) 2 v32) 3 v44) j)) := own_upA f53_A (own_up_eq rfl (by decide) (own_narc B44))
  have pre55 : ∀ t, own_s p e below T48 m 40 #[.val (.long p0), .second, rv b2] [(.int (4 : Int32)), (.long p0), (.int (4 : Int32)), (.ref b2)] t → Steps p.tables e below S0 t := by
    intro tX kX
    refine pre49 _ ?_
    show own_s p e below T48 m 36 #[.val (.long p0), .second, rv b2] [] _
    refine XS.aloadN X50.here hx rfl (hb hby d2_36) rfl rfl ?_
    refine XS.iconst X50.here hx rfl (hb hby d2_37) ?_
    refine XS.lloadN X50.here hx rfl (hb hby d2_38) rfl ?_
    show own_s p e below T48 m 39 #[.val (.long p0), .second, rv b2] [(.long p0), (.int (4 : Int32)), (.ref b2)] _
    refine XS.iconst X50.here hx rfl (hb hby d2_39) ?_
    exact kX
  obtain ⟨_, _, ⟨T56, L56, k56, n56⟩, -, X56, ⟨Lc56, hQ56, l56, y56, z56⟩, st56⟩ := Jvm.LawKit.callS X50 hx (y := (⟨"com/example/weaverbird/weaverbird/model/xml/AttributesCollapsePinLaw", "ch", "(JI)C"⟩ : MethodName)) hown (mvT hZ (hw _ (List.mem_of_getElem? (i := 5) rfl))) (mvT hZ (hw _ (List.mem_of_getElem? (i := 6) rfl))) (mvT hZ (hw _ (List.mem_of_getElem? (i := 2) rfl))) (mvT hZ (hw _ (List.mem_of_getElem? (i := 7) rfl))) (by decide) (backOf (W := 2) (rm1 l Z a0 hw [] p0 (4 : Int32)  h48 n0 Z51 ) hZ (hw _ (List.mem_of_getElem? (i := 7) rfl)) (hw _ (List.mem_of_getElem? (i := 2) rfl)) (by decide) (by decide)) (g := (mkF m 40 #[.val (.long p0), .second, rv b2] [(.int (4 : Int32)), (.long p0), (.int (4 : Int32)), (.ref b2)])) rfl (by rw [hml]; rfl) (argsL := [(.long p0), (.int (4 : Int32))]) (rest := [(.int (4 : Int32)), (.ref b2)]) (lenOf pd2_0 rfl) rfl (by show 2 * 0 + _ ≤ _; exact Nat.le_of_eq rfl) (hb hby d2_40) (fun _ _ => ⟨rfl, e48, (by decide : 1 + 0 ≤ _), (by decide : 5 + 0 ≤ _)⟩)
  dsimp only [Pt.U, Pt.locs, Pt.cells, Pt.slots] at X56 l56 y56 z56 st56 hQ56
  subst l56 y56 z56
  obtain ⟨⟨v56, rfl, B56⟩, Nq56, e56⟩ := hQ56
  have N56 := Fr.app N50 Nq56
  obtain ⟨LL57, X57, N57⟩ : ∃ LL, Stand p l e ({ frames := 1, cells := 1, slots := 5, locals := 30 } : Room) s m #[(.long p0)] below meth c T56 LL 1 5 ∧ Fr n0 LL := ⟨_, X56, N56⟩
  have pre58 : ∀ t, own_s p e below T56 m 43 #[.val (.long p0), .second, rv b2] [(.int v56), (.int (4 : Int32)), (.ref b2)] t → Steps p.tables e below S0 t := fun tX kX => pre55 _ (st56 _ kX)
  obtain ⟨cl59, Ar59, S59, M59, H59⟩ := id f54_A
  obtain ⟨T60, h60, X60, e60, W60, st60⟩ := stC X57 hx hZ e56 Ar59 (j := (4 : Int32)) (own_inb S59 M59 (by decide)) (g := (mkF m 43 #[.val (.long p0), .second, rv b2] [(.int v56), (.int (4 : Int32)), (.ref b2)])) rfl rfl (hb hby d2_43)
  have pre61 : ∀ t, own_s p e below T60 m 44 #[.val (.long p0), .second, rv b2] [] t → Steps p.tables e below S0 t := fun tX kX => pre58 _ (st60 _ kX)
  obtain ⟨LL62, X62, N62⟩ : ∃ LL, Stand p l e ({ frames := 1, cells := 1, slots := 5, locals := 30 } : Room) s m #[(.long p0)] below meth c T60 LL 1 5 ∧ Fr n0 LL := ⟨_, X60, Fr.snoc X60 N57 g_b2⟩
  have Z63 : n0 ≤ h60.size := Nat.le_trans Z51 (Keep.of_wr W60).1
  have K64 : Keep h0 h60 [] := K52.wr W60 (Or.inr sz_b2)
  have f65_A : own_Af Z h60 b2 .char 5 (own_up (fun j => .int ((own_upi (own_upi (own_upi (own_upi (fun _ => (0 : Int32)) 0 v8) 1 v20) 2 v32) 3 v44) j)) (4 : Int32).toNatClampNeg (.int (nar .char v56))) := own_Af.set Ar59 S59 M59 H59 W60
  have f66_A : own_Af Z h60 b2 .char 5 (fun j => .int ((own_upi (own_upi (own_upi (own_upi (own_upi (fun _ => (0 : Int32)) 0 v8) 1 v20) 2 v32) 3 v44) 4 v56) j)) := own_upA f65_A (own_up_eq rfl (by decide) (own_narc B56))
  have pre67 : ∀ t, own_s p e below T60 m 45 #[.val (.long p0), .second, rv b2] [(.ref b2)] t → Steps p.tables e below S0 t := by
    intro tX kX
    refine pre61 _ ?_
    show own_s p e below T60 m 44 #[.val (.long p0), .second, rv b2] [] _
    refine XS.aloadN X62.here hx rfl (hb hby d2_44) rfl rfl ?_
    exact kX
  subst hS0
  obtain ⟨fsX, hr, hrun, hended, hW, hsame⟩ := X62.leave (v := (some (.ref b2))) (fun h => by rw [Bd.returns] at h; cases h)
  refine ⟨_, _, pre67 _ (retOut X62 hx Bd.returns (own_narR rfl) (Or.inr (Or.inr (Or.inr (Or.inr ⟨rfl, rfl, rfl⟩)))) (hb hby d2_45) hr), hrun, hended, _, _, rfl, ?_, ⟨_, rfl⟩, hW, hsame.mono (by decide) (by decide)⟩
  show Q2 Z p0 h0 n0 (some (.ref b2)) T60.heap _
  rw [e60]
  exact ⟨b2, (own_upi (own_upi (own_upi (own_upi (own_upi (fun _ => (0 : Int32)) 0 v8) 1 v20) 2 v32) 3 v44) 4 v56), rfl, N62, K64, sz_b2, g_b2, f66_A, (((((own_B.z.up B8 _).up B20 _).up B32 _).up B44 _).up B56 _)⟩
theorem d3_0 : decode method_5_code 0 = .ok (.iload_n 2, 1) := by decide +kernel
theorem d3_1 : decode method_5_code 1 = .ok (.iload_n 1, 1) := by decide +kernel
theorem d3_2 : decode method_5_code 2 = .ok (.if_icmp .ge 15, 3) := by decide +kernel
theorem d3_5 : decode method_5_code 5 = .ok (.aload_n 0, 1) := by decide +kernel
theorem d3_6 : decode method_5_code 6 = .ok (.iload_n 2, 1) := by decide +kernel
theorem d3_7 : decode method_5_code 7 = .ok (.caload, 1) := by decide +kernel
theorem d3_8 : decode method_5_code 8 = .ok (.bipush 32, 2) := by decide +kernel
theorem d3_10 : decode method_5_code 10 = .ok (.if_icmp .eq 7, 3) := by decide +kernel
theorem d3_13 : decode method_5_code 13 = .ok (.iconst 1, 1) := by decide +kernel
theorem d3_14 : decode method_5_code 14 = .ok (.goto 4, 3) := by decide +kernel
theorem d3_17 : decode method_5_code 17 = .ok (.iconst 0, 1) := by decide +kernel
theorem d3_18 : decode method_5_code 18 = .ok (.ireturn, 1) := by decide +kernel
theorem pn_3 : plainName "com/example/weaverbird/weaverbird/model/xml/AttributesCollapsePinLaw" = true := by first | (simp [plainName, overriddenIn]; done) | decide +kernel
theorem ef_3 (m : MethodId) (cc : Addr) (p1 : Int32) (p2 : Int32) : entryFrame m #[(.ref cc), (.int p1), (.int p2)] 3 = mkF m 0 #[rv cc, iv p1, iv p2] [] := by first | (simp [entryFrame, mkF, argsToLocals, Value.category]; done) | rfl
def Q3 (Z : State) (cc : Addr) (p1 : Int32) (p2 : Int32) (gc : Nat → Int32) (b : Nat → Bool) (n : Nat) (j : Nat) (h0 : Heap) (n0 : Nat) (v : Option Value) (h : Heap) (L : List Loc) : Prop := v = some (.int (own_bi (own_nb b n j))) ∧ Fr n0 L ∧ h = h0
set_option maxRecDepth 65536 in
set_option maxHeartbeats 40000000 in
theorem rm3 (l : Launch) (Z : State) (a0 : Array Value) (hw : ∀ d ∈ tables_1, d.before a0 Z = true) (ws : List Jvm.Cond) (cc : Addr) (p1 : Int32) (p2 : Int32) (gc : Nat → Int32) (b : Nat → Bool) (n : Nat) (j : Nat) (h0 : Heap) (n0 : Nat) (Z0 : n0 ≤ h0.size) (A_c : own_Af Z h0 cc .char 5 (fun j => .int (gc j))) (hbt : ∀ i, i < n → b i = decide (gc i ≠ 32)) (hn : p1.toInt = n) (hn5 : n ≤ 5) (hj : p2.toInt = j) :
    MetFree l (⟨"com/example/weaverbird/weaverbird/model/xml/AttributesCollapsePinLaw", "nb", "([CII)Z"⟩ : MethodName) (head1 (Jvm.Cond.code (⟨"com/example/weaverbird/weaverbird/model/xml/AttributesCollapsePinLaw", "nb", "([CII)Z"⟩ : MethodName) method_5_code 3 (some .boolean) :: ws) ({ frames := 0, cells := 0, slots := 0, locals := 0 } : Room)) (fun aX UX => aX = #[(.ref cc), (.int p1), (.int p2)] ∧ Z.Warmed39 UX.vm ∧ UX.heap = h0) (fun _ _ _ _ _ => True) (fun _ UX oX UY => ∃ vX LX, oX = .returned vX ∧ Q3 Z cc p1 p2 gc b n j h0 n0 vX UY.heap LX ∧ FrameEnd UX oX UY LX ({ frames := 0, cells := 0, slots := 0, locals := 0 } : Room).cells ({ frames := 0, cells := 0, slots := 0, locals := 0 } : Room).slots) := by
  refine MetFree.of_bodySF (plainFor_of_name pn_3) hisR ?_
  intro p e s m args below meth c s₁ Bd hml0 hPX hKX
  obtain ⟨rfl, hZ, hh⟩ := hPX
  have hx := Bd.exec
  have hby := Bd.bytes
  have hml : c.maxLocals = 3 := hml0
  have hown : s.vm.findClass "com/example/weaverbird/weaverbird/model/xml/AttributesCollapsePinLaw" = some m.cls := findClass_of_methodNamed Bd.named
  have hnm := (name_of_methodNamed Bd.named Bd.method).1
  have X0 : Stand p l e ({ frames := 0, cells := 0, slots := 0, locals := 0 } : Room) s m #[(.ref cc), (.int p1), (.int p2)] below meth c s₁ [] 0 0 := Stand.of_body Bd
  have e0 : s₁.heap = h0 := by rw [← hh, Bd.state]; rfl
  have N0 := Fr.nil n0
  have pre0 : ∀ t, Steps p.tables e below (s₁.setTop (mkF m 0 #[rv cc, iv p1, iv p2] [])) t → Steps p.tables e below (s₁.setTop (entryFrame m #[(.ref cc), (.int p1), (.int p2)] 3)) t := fun t k => castTop (ef_3 m cc p1 p2) k
  obtain ⟨S0, hS0⟩ : ∃ z, z = (s₁.setTop (entryFrame m #[(.ref cc), (.int p1), (.int p2)] 3)) := ⟨_, rfl⟩
  rw [← hS0] at pre0
  have pre1 : ∀ t, own_s p e below s₁ m 2 #[rv cc, iv p1, iv p2] [(.int p1), (.int p2)] t → Steps p.tables e below S0 t := by
    intro tX kX
    refine pre0 _ ?_
    show own_s p e below s₁ m 0 #[rv cc, iv p1, iv p2] [] _
    refine XS.iloadN X0.here hx rfl (hb hby d3_0) rfl ?_
    refine XS.iloadN X0.here hx rfl (hb hby d3_1) rfl ?_
    exact kX
  by_cases hc2 : p2 < p1
  · skip
    have ihc2 : (p2).toInt < (p1).toInt := Int32.lt_iff_toInt_lt.mp hc2
    have pre4 : ∀ t, own_s p e below s₁ m 7 #[rv cc, iv p1, iv p2] [(.int p2), (.ref cc)] t → Steps p.tables e below S0 t := by
      intro tX kX
      refine pre1 _ ?_
      show own_s p e below s₁ m 2 #[rv cc, iv p1, iv p2] [(.int p1), (.int p2)] _
      refine XS.icmpNo X0.here hx rfl (hb hby d3_2) rfl (tlt hc2).2.1 ?_
      refine XS.aloadN X0.here hx rfl (hb hby d3_5) rfl rfl ?_
      refine XS.iloadN X0.here hx rfl (hb hby d3_6) rfl ?_
      exact kX
    obtain ⟨cl3, Ar3, S3, M3, H3⟩ := id A_c
    have pre5 : ∀ t, own_s p e below s₁ m 10 #[rv cc, iv p1, iv p2] [(.int (32 : Int32)), (.int (gc j))] t → Steps p.tables e below S0 t := by
      intro tX kX
      refine pre4 _ ?_
      show own_s p e below s₁ m 7 #[rv cc, iv p1, iv p2] [(.int p2), (.ref cc)] _
      refine X0.caload hx (j := p2) (v := (.int (gc j))) (by rw [e0]; exact Ar3.1) (State.isArrayOf_alike hZ.alike Ar3.2.1) Ar3.2.2 (own_inb S3 M3 (own_idx (by omega) (by omega))) (own_get H3 S3 (own_idx (by omega) (by omega)) (by show Value.int (gc p2.toNatClampNeg) = _; rw [own_nat hj])) (g := (mkF m 7 #[rv cc, iv p1, iv p2] [(.int p2), (.ref cc)])) rfl rfl (hb hby d3_7) _ ?_
      refine XS.bipush X0.here hx rfl (hb hby d3_8) ?_
      exact kX
    by_cases hc6 : (gc j) = (32 : Int32)
    · skip
      have ihc6 : ((gc j)).toInt = (32 : Int) := congrArg Int32.toInt hc6
      have pre7 : ∀ t, own_s p e below s₁ m 18 #[rv cc, iv p1, iv p2] [(.int (0 : Int32))] t → Steps p.tables e below S0 t := by
        intro tX kX
        refine pre5 _ ?_
        show own_s p e below s₁ m 10 #[rv cc, iv p1, iv p2] [(.int (32 : Int32)), (.int (gc j))] _
        refine XS.icmpYes X0.here hx rfl (pc0 := 10) (pc' := 17) rfl (hb hby d3_10) rfl (teq hc6).1 (by decide) (by decide) ?_
        refine XS.iconst X0.here hx rfl (hb hby d3_17) ?_
        exact kX
      subst hS0
      obtain ⟨fsX, hr, hrun, hended, hW, hsame⟩ := X0.leave (v := (some (.int (0 : Int32)))) (fun h => by rw [Bd.returns] at h; cases h)
      refine ⟨_, _, pre7 _ (retN X0 hx (t := .boolean) Bd.returns (by simp) (hb hby d3_18) hr), hrun, hended, _, _, rfl, ?_, ⟨_, rfl⟩, hW, hsame.mono (by decide) (by decide)⟩
      show Q3 Z cc p1 p2 gc b n j h0 n0 (some (.int (0 : Int32))) s₁.heap _
      exact ⟨congrArg (fun z => some (Value.int z)) (show (0 : Int32) = own_bi (own_nb b n j) from by simp [own_nb, own_bi, hbt j (show j < n by omega), show j < n by omega, hc6]), N0, e0⟩
    · skip
      have ihc6 : ¬ (((gc j)).toInt = (32 : Int)) := fun q => hc6 (Int32.toInt_inj.mp q)
      have pre8 : ∀ t, own_s p e below s₁ m 18 #[rv cc, iv p1, iv p2] [(.int (1 : Int32))] t → Steps p.tables e below S0 t := by
        intro tX kX
        refine pre5 _ ?_
        show own_s p e below s₁ m 10 #[rv cc, iv p1, iv p2] [(.int (32 : Int32)), (.int (gc j))] _
        refine XS.icmpNo X0.here hx rfl (hb hby d3_10) rfl (feq hc6).1 ?_
        refine XS.iconst X0.here hx rfl (hb hby d3_13) ?_
        refine XS.goto X0.here hx rfl (pc0 := 14) (pc' := 18) rfl (hb hby d3_14) (by decide) (by decide) ?_
        exact kX
      subst hS0
      obtain ⟨fsX, hr, hrun, hended, hW, hsame⟩ := X0.leave (v := (some (.int (1 : Int32)))) (fun h => by rw [Bd.returns] at h; cases h)
      refine ⟨_, _, pre8 _ (retN X0 hx (t := .boolean) Bd.returns (by simp) (hb hby d3_18) hr), hrun, hended, _, _, rfl, ?_, ⟨_, rfl⟩, hW, hsame.mono (by decide) (by decide)⟩
      show Q3 Z cc p1 p2 gc b n j h0 n0 (some (.int (1 : Int32))) s₁.heap _
      exact ⟨congrArg (fun z => some (Value.int z)) (show (1 : Int32) = own_bi (own_nb b n j) from by simp [own_nb, own_bi, hbt j (show j < n by omega), show j < n by omega, hc6]), N0, e0⟩
  · skip
    have ihc2 : ¬ ((p2).toInt < (p1).toInt) := fun q => hc2 (Int32.lt_iff_toInt_lt.mpr q)
    have pre9 : ∀ t, own_s p e below s₁ m 18 #[rv cc, iv p1, iv p2] [(.int (0 : Int32))] t → Steps p.tables e below S0 t := by
      intro tX kX
      refine pre1 _ ?_
      show own_s p e below s₁ m 2 #[rv cc, iv p1, iv p2] [(.int p1), (.int p2)] _
      refine XS.icmpYes X0.here hx rfl (pc0 := 2) (pc' := 17) rfl (hb hby d3_2) rfl (flt hc2).2.1 (by decide) (by decide) ?_
      refine XS.iconst X0.here hx rfl (hb hby d3_17) ?_
      exact kX
    subst hS0
    obtain ⟨fsX, hr, hrun, hended, hW, hsame⟩ := X0.leave (v := (some (.int (0 : Int32)))) (fun h => by rw [Bd.returns] at h; cases h)
    refine ⟨_, _, pre9 _ (retN X0 hx (t := .boolean) Bd.returns (by simp) (hb hby d3_18) hr), hrun, hended, _, _, rfl, ?_, ⟨_, rfl⟩, hW, hsame.mono (by decide) (by decide)⟩
    show Q3 Z cc p1 p2 gc b n j h0 n0 (some (.int (0 : Int32))) s₁.heap _
    exact ⟨congrArg (fun z => some (Value.int z)) (show (0 : Int32) = own_bi (own_nb b n j) from by simp [own_nb, own_bi, show ¬ j < n by omega]), N0, e0⟩
theorem d4_0 : decode method_6_code 0 = .ok (.aload_n 0, 1) := by decide +kernel
theorem d4_1 : decode method_6_code 1 = .ok (.iload_n 1, 1) := by decide +kernel
theorem d4_2 : decode method_6_code 2 = .ok (.iload_n 2, 1) := by decide +kernel
theorem d4_3 : decode method_6_code 3 = .ok (.iconst 1, 1) := by decide +kernel
theorem d4_4 : decode method_6_code 4 = .ok (.iadd, 1) := by decide +kernel
theorem d4_5 : decode method_6_code 5 = .ok (.invokestatic 53, 3) := by decide +kernel
theorem d4_8 : decode method_6_code 8 = .ok (.ifCond .ne 36, 3) := by decide +kernel
theorem d4_11 : decode method_6_code 11 = .ok (.aload_n 0, 1) := by decide +kernel
theorem d4_12 : decode method_6_code 12 = .ok (.iload_n 1, 1) := by decide +kernel
theorem d4_13 : decode method_6_code 13 = .ok (.iload_n 2, 1) := by decide +kernel
theorem d4_14 : decode method_6_code 14 = .ok (.iconst 2, 1) := by decide +kernel
theorem d4_15 : decode method_6_code 15 = .ok (.iadd, 1) := by decide +kernel
theorem d4_16 : decode method_6_code 16 = .ok (.invokestatic 53, 3) := by decide +kernel
theorem d4_19 : decode method_6_code 19 = .ok (.ifCond .ne 25, 3) := by decide +kernel
theorem d4_22 : decode method_6_code 22 = .ok (.aload_n 0, 1) := by decide +kernel
theorem d4_23 : decode method_6_code 23 = .ok (.iload_n 1, 1) := by decide +kernel
theorem d4_24 : decode method_6_code 24 = .ok (.iload_n 2, 1) := by decide +kernel
theorem d4_25 : decode method_6_code 25 = .ok (.iconst 3, 1) := by decide +kernel
theorem d4_26 : decode method_6_code 26 = .ok (.iadd, 1) := by decide +kernel
theorem d4_27 : decode method_6_code 27 = .ok (.invokestatic 53, 3) := by decide +kernel
theorem d4_30 : decode method_6_code 30 = .ok (.ifCond .ne 14, 3) := by decide +kernel
theorem d4_33 : decode method_6_code 33 = .ok (.aload_n 0, 1) := by decide +kernel
theorem d4_34 : decode method_6_code 34 = .ok (.iload_n 1, 1) := by decide +kernel
theorem d4_35 : decode method_6_code 35 = .ok (.iload_n 2, 1) := by decide +kernel
theorem d4_36 : decode method_6_code 36 = .ok (.iconst 4, 1) := by decide +kernel
theorem d4_37 : decode method_6_code 37 = .ok (.iadd, 1) := by decide +kernel
theorem d4_38 : decode method_6_code 38 = .ok (.invokestatic 53, 3) := by decide +kernel
theorem d4_41 : decode method_6_code 41 = .ok (.ifCond .eq 7, 3) := by decide +kernel
theorem d4_44 : decode method_6_code 44 = .ok (.iconst 1, 1) := by decide +kernel
theorem d4_45 : decode method_6_code 45 = .ok (.goto 4, 3) := by decide +kernel
theorem d4_48 : decode method_6_code 48 = .ok (.iconst 0, 1) := by decide +kernel
theorem d4_49 : decode method_6_code 49 = .ok (.ireturn, 1) := by decide +kernel
theorem pn_4 : plainName "com/example/weaverbird/weaverbird/model/xml/AttributesCollapsePinLaw" = true := by first | (simp [plainName, overriddenIn]; done) | decide +kernel
theorem pd4_0 : parseMethodDescriptor "([CII)Z" = some ⟨[(.array .char), .int, .int], some .boolean⟩ := by decide +kernel
theorem ef_4 (m : MethodId) (cc : Addr) (p1 : Int32) (p2 : Int32) : entryFrame m #[(.ref cc), (.int p1), (.int p2)] 3 = mkF m 0 #[rv cc, iv p1, iv p2] [] := by first | (simp [entryFrame, mkF, argsToLocals, Value.category]; done) | rfl
def Q4 (Z : State) (cc : Addr) (p1 : Int32) (p2 : Int32) (gc : Nat → Int32) (b : Nat → Bool) (n : Nat) (i : Nat) (h0 : Heap) (n0 : Nat) (v : Option Value) (h : Heap) (L : List Loc) : Prop := v = some (.int (own_bi (own_lt b n i))) ∧ Fr n0 L ∧ h = h0
set_option maxRecDepth 65536 in
set_option maxHeartbeats 40000000 in
theorem rm4 (l : Launch) (Z : State) (a0 : Array Value) (hw : ∀ d ∈ tables_1, d.before a0 Z = true) (ws : List Jvm.Cond) (cc : Addr) (p1 : Int32) (p2 : Int32) (gc : Nat → Int32) (b : Nat → Bool) (n : Nat) (i : Nat) (h0 : Heap) (n0 : Nat) (Z0 : n0 ≤ h0.size) (A_c : own_Af Z h0 cc .char 5 (fun j => .int (gc j))) (hbt : ∀ i, i < n → b i = decide (gc i ≠ 32)) (hn : p1.toInt = n) (hn5 : n ≤ 5) (hi : p2.toInt = i) (hi4 : i ≤ 4) :
    MetFree l (⟨"com/example/weaverbird/weaverbird/model/xml/AttributesCollapsePinLaw", "later", "([CII)Z"⟩ : MethodName) (head1 (Jvm.Cond.code (⟨"com/example/weaverbird/weaverbird/model/xml/AttributesCollapsePinLaw", "later", "([CII)Z"⟩ : MethodName) method_6_code 3 (some .boolean) :: ws) ({ frames := 1, cells := 0, slots := 0, locals := 20 } : Room)) (fun aX UX => aX = #[(.ref cc), (.int p1), (.int p2)] ∧ Z.Warmed39 UX.vm ∧ UX.heap = h0) (fun _ _ _ _ _ => True) (fun _ UX oX UY => ∃ vX LX, oX = .returned vX ∧ Q4 Z cc p1 p2 gc b n i h0 n0 vX UY.heap LX ∧ FrameEnd UX oX UY LX ({ frames := 1, cells := 0, slots := 0, locals := 20 } : Room).cells ({ frames := 1, cells := 0, slots := 0, locals := 20 } : Room).slots) := by
  refine MetFree.of_bodySF (plainFor_of_name pn_4) hisR ?_
  intro p e s m args below meth c s₁ Bd hml0 hPX hKX
  obtain ⟨rfl, hZ, hh⟩ := hPX
  have hx := Bd.exec
  have hby := Bd.bytes
  have hml : c.maxLocals = 3 := hml0
  have hown : s.vm.findClass "com/example/weaverbird/weaverbird/model/xml/AttributesCollapsePinLaw" = some m.cls := findClass_of_methodNamed Bd.named
  have hnm := (name_of_methodNamed Bd.named Bd.method).1
  have X0 : Stand p l e ({ frames := 1, cells := 0, slots := 0, locals := 20 } : Room) s m #[(.ref cc), (.int p1), (.int p2)] below meth c s₁ [] 0 0 := Stand.of_body Bd
  have e0 : s₁.heap = h0 := by rw [← hh, Bd.state]; rfl
  have N0 := Fr.nil n0
  have pre0 : ∀ t, Steps p.tables e below (s₁.setTop (mkF m 0 #[rv cc, iv p1, iv p2] [])) t → Steps p.tables e below (s₁.setTop (entryFrame m #[(.ref cc), (.int p1), (.int p2)] 3)) t := fun t k => castTop (ef_4 m cc p1 p2) k
  obtain ⟨S0, hS0⟩ : ∃ z, z = (s₁.setTop (entryFrame m #[(.ref cc), (.int p1), (.int p2)] 3)) := ⟨_, rfl⟩
  rw [← hS0] at pre0
  have pre1 : ∀ t, own_s p e below s₁ m 5 #[rv cc, iv p1, iv p2] [(.int (p2 + (1 : Int32))), (.int p1), (.ref cc)] t → Steps p.tables e below S0 t := by
    intro tX kX
    refine pre0 _ ?_
    show own_s p e below s₁ m 0 #[rv cc, iv p1, iv p2] [] _
    refine XS.aloadN X0.here hx rfl (hb hby d4_0) rfl rfl ?_
    refine XS.iloadN X0.here hx rfl (hb hby d4_1) rfl ?_
    refine XS.iloadN X0.here hx rfl (hb hby d4_2) rfl ?_
    show own_s p e below s₁ m 3 #[rv cc, iv p1, iv p2] [(.int p2), (.int p1), (.ref cc)] _
    refine XS.iconst X0.here hx rfl (hb hby d4_3) ?_
    refine XS.iadd X0.here hx rfl (hb hby d4_4) rfl ?_
    exact kX
  obtain ⟨_, _, ⟨T2, L2, k2, n2⟩, -, X2, ⟨Lc2, hQ2, l2, y2, z2⟩, st2⟩ := Jvm.LawKit.callS X0 hx (y := (⟨"com/example/weaverbird/weaverbird/model/xml/AttributesCollapsePinLaw", "nb", "([CII)Z"⟩ : MethodName)) hown (mvT hZ (hw _ (List.mem_of_getElem? (i := 163) rfl))) (mvT hZ (hw _ (List.mem_of_getElem? (i := 164) rfl))) (mvT hZ (hw _ (List.mem_of_getElem? (i := 2) rfl))) (mvT hZ (hw _ (List.mem_of_getElem? (i := 165) rfl))) (by decide) (backOf (W := 0) (rm3 l Z a0 hw [] cc p1 (p2 + (1 : Int32)) gc b n (i + 1) h0 n0 Z0 A_c hbt hn hn5 (own_addN hi rfl (by omega))) hZ (hw _ (List.mem_of_getElem? (i := 165) rfl)) (hw _ (List.mem_of_getElem? (i := 2) rfl)) (by decide) (by decide)) (g := (mkF m 5 #[rv cc, iv p1, iv p2] [(.int (p2 + (1 : Int32))), (.int p1), (.ref cc)])) rfl (by rw [hml]; rfl) (argsL := [(.ref cc), (.int p1), (.int (p2 + (1 : Int32)))]) (rest := []) (lenOf pd4_0 rfl) rfl (by show 2 * 0 + _ ≤ _; exact Nat.le_of_eq rfl) (hb hby d4_5) (fun _ _ => ⟨rfl, e0, (by decide : 0 + 0 ≤ _), (by decide : 0 + 0 ≤ _)⟩)
  dsimp only [Pt.U, Pt.locs, Pt.cells, Pt.slots] at X2 l2 y2 z2 st2 hQ2
  subst l2 y2 z2
  obtain ⟨rfl, Nq2, e2⟩ := hQ2
  have N2 := Fr.app N0 Nq2
  obtain ⟨LL3, X3, N3⟩ : ∃ LL, Stand p l e ({ frames := 1, cells := 0, slots := 0, locals := 20 } : Room) s m #[(.ref cc), (.int p1), (.int p2)] below meth c T2 LL 0 0 ∧ Fr n0 LL := ⟨_, X2, N2⟩
  have pre4 : ∀ t, own_s p e below T2 m 8 #[rv cc, iv p1, iv p2] [(.int (own_bi (own_nb b n (i + 1))))] t → Steps p.tables e below S0 t := fun tX kX => pre1 _ (st2 _ kX)
  by_cases hc5 : (own_bi (own_nb b n (i + 1))) = (0 : Int32)
  · skip
    have pre6 : ∀ t, own_s p e below T2 m 16 #[rv cc, iv p1, iv p2] [(.int (p2 + (2 : Int32))), (.int p1), (.ref cc)] t → Steps p.tables e below S0 t := by
      intro tX kX
      refine pre4 _ ?_
      show own_s p e below T2 m 8 #[rv cc, iv p1, iv p2] [(.int (own_bi (own_nb b n (i + 1))))] _
      refine XS.ifNo X3.here hx rfl (hb hby d4_8) rfl ((if0 _ _).trans (teq hc5).2) ?_
      refine XS.aloadN X3.here hx rfl (hb hby d4_11) rfl rfl ?_
      refine XS.iloadN X3.here hx rfl (hb hby d4_12) rfl ?_
      show own_s p e below T2 m 13 #[rv cc, iv p1, iv p2] [(.int p1), (.ref cc)] _
      refine XS.iloadN X3.here hx rfl (hb hby d4_13) rfl ?_
      refine XS.iconst X3.here hx rfl (hb hby d4_14) ?_
      refine XS.iadd X3.here hx rfl (hb hby d4_15) rfl ?_
      exact kX
    obtain ⟨_, _, ⟨T7, L7, k7, n7⟩, -, X7, ⟨Lc7, hQ7, l7, y7, z7⟩, st7⟩ := Jvm.LawKit.callS X3 hx (y := (⟨"com/example/weaverbird/weaverbird/model/xml/AttributesCollapsePinLaw", "nb", "([CII)Z"⟩ : MethodName)) hown (mvT hZ (hw _ (List.mem_of_getElem? (i := 163) rfl))) (mvT hZ (hw _ (List.mem_of_getElem? (i := 164) rfl))) (mvT hZ (hw _ (List.mem_of_getElem? (i := 2) rfl))) (mvT hZ (hw _ (List.mem_of_getElem? (i := 165) rfl))) (by decide) (backOf (W := 0) (rm3 l Z a0 hw [] cc p1 (p2 + (2 : Int32)) gc b n (i + 2) h0 n0 Z0 A_c hbt hn hn5 (own_addN hi rfl (by omega))) hZ (hw _ (List.mem_of_getElem? (i := 165) rfl)) (hw _ (List.mem_of_getElem? (i := 2) rfl)) (by decide) (by decide)) (g := (mkF m 16 #[rv cc, iv p1, iv p2] [(.int (p2 + (2 : Int32))), (.int p1), (.ref cc)])) rfl (by rw [hml]; rfl) (argsL := [(.ref cc), (.int p1), (.int (p2 + (2 : Int32)))]) (rest := []) (lenOf pd4_0 rfl) rfl (by show 2 * 0 + _ ≤ _; exact Nat.le_of_eq rfl) (hb hby d4_16) (fun _ _ => ⟨rfl, e2, (by decide : 0 + 0 ≤ _), (by decide : 0 + 0 ≤ _)⟩)
    dsimp only [Pt.U, Pt.locs, Pt.cells, Pt.slots] at X7 l7 y7 z7 st7 hQ7
    subst l7 y7 z7
    obtain ⟨rfl, Nq7, e7⟩ := hQ7
    have N7 := Fr.app N3 Nq7
    obtain ⟨LL8, X8, N8⟩ : ∃ LL, Stand p l e ({ frames := 1, cells := 0, slots := 0, locals := 20 } : Room) s m #[(.ref cc), (.int p1), (.int p2)] below meth c T7 LL 0 0 ∧ Fr n0 LL := ⟨_, X7, N7⟩
    have pre9 : ∀ t, own_s p e below T7 m 19 #[rv cc, iv p1, iv p2] [(.int (own_bi (own_nb b n (i + 2))))] t → Steps p.tables e below S0 t := fun tX kX => pre6 _ (st7 _ kX)
    by_cases hc10 : (own_bi (own_nb b n (i + 2))) = (0 : Int32)
    · skip
      have pre11 : ∀ t, own_s p e below T7 m 27 #[rv cc, iv p1, iv p2] [(.int (p2 + (3 : Int32))), (.int p1), (.ref cc)] t → Steps p.tables e below S0 t := by
        intro tX kX
        refine pre9 _ ?_
        show own_s p e below T7 m 19 #[rv cc, iv p1, iv p2] [(.int (own_bi (own_nb b n (i + 2))))] _
        refine XS.ifNo X8.here hx rfl (hb hby d4_19) rfl ((if0 _ _).trans (teq hc10).2) ?_
        refine XS.aloadN X8.here hx rfl (hb hby d4_22) rfl rfl ?_
        refine XS.iloadN X8.here hx rfl (hb hby d4_23) rfl ?_
        show own_s p e below T7 m 24 #[rv cc, iv p1, iv p2] [(.int p1), (.ref cc)] _
        refine XS.iloadN X8.here hx rfl (hb hby d4_24) rfl ?_
        refine XS.iconst X8.here hx rfl (hb hby d4_25) ?_
        refine XS.iadd X8.here hx rfl (hb hby d4_26) rfl ?_
        exact kX
      obtain ⟨_, _, ⟨T12, L12, k12, n12⟩, -, X12, ⟨Lc12, hQ12, l12, y12, z12⟩, st12⟩ := Jvm.LawKit.callS X8 hx (y := (⟨"com/example/weaverbird/weaverbird/model/xml/AttributesCollapsePinLaw", "nb", "([CII)Z"⟩ : MethodName)) hown (mvT hZ (hw _ (List.mem_of_getElem? (i := 163) rfl))) (mvT hZ (hw _ (List.mem_of_getElem? (i := 164) rfl))) (mvT hZ (hw _ (List.mem_of_getElem? (i := 2) rfl))) (mvT hZ (hw _ (List.mem_of_getElem? (i := 165) rfl))) (by decide) (backOf (W := 0) (rm3 l Z a0 hw [] cc p1 (p2 + (3 : Int32)) gc b n (i + 3) h0 n0 Z0 A_c hbt hn hn5 (own_addN hi rfl (by omega))) hZ (hw _ (List.mem_of_getElem? (i := 165) rfl)) (hw _ (List.mem_of_getElem? (i := 2) rfl)) (by decide) (by decide)) (g := (mkF m 27 #[rv cc, iv p1, iv p2] [(.int (p2 + (3 : Int32))), (.int p1), (.ref cc)])) rfl (by rw [hml]; rfl) (argsL := [(.ref cc), (.int p1), (.int (p2 + (3 : Int32)))]) (rest := []) (lenOf pd4_0 rfl) rfl (by show 2 * 0 + _ ≤ _; exact Nat.le_of_eq rfl) (hb hby d4_27) (fun _ _ => ⟨rfl, e7, (by decide : 0 + 0 ≤ _), (by decide : 0 + 0 ≤ _)⟩)
      dsimp only [Pt.U, Pt.locs, Pt.cells, Pt.slots] at X12 l12 y12 z12 st12 hQ12
      subst l12 y12 z12
      obtain ⟨rfl, Nq12, e12⟩ := hQ12
      have N12 := Fr.app N8 Nq12
      obtain ⟨LL13, X13, N13⟩ : ∃ LL, Stand p l e ({ frames := 1, cells := 0, slots := 0, locals := 20 } : Room) s m #[(.ref cc), (.int p1), (.int p2)] below meth c T12 LL 0 0 ∧ Fr n0 LL := ⟨_, X12, N12⟩
      have pre14 : ∀ t, own_s p e below T12 m 30 #[rv cc, iv p1, iv p2] [(.int (own_bi (own_nb b n (i + 3))))] t → Steps p.tables e below S0 t := fun tX kX => pre11 _ (st12 _ kX)
      by_cases hc15 : (own_bi (own_nb b n (i + 3))) = (0 : Int32)
      · skip
        have pre16 : ∀ t, own_s p e below T12 m 38 #[rv cc, iv p1, iv p2] [(.int (p2 + (4 : Int32))), (.int p1), (.ref cc)] t → Steps p.tables e below S0 t := by
          intro tX kX
          refine pre14 _ ?_
          show own_s p e below T12 m 30 #[rv cc, iv p1, iv p2] [(.int (own_bi (own_nb b n (i + 3))))] _
          refine XS.ifNo X13.here hx rfl (hb hby d4_30) rfl ((if0 _ _).trans (teq hc15).2) ?_
          refine XS.aloadN X13.here hx rfl (hb hby d4_33) rfl rfl ?_
          refine XS.iloadN X13.here hx rfl (hb hby d4_34) rfl ?_
          show own_s p e below T12 m 35 #[rv cc, iv p1, iv p2] [(.int p1), (.ref cc)] _
          refine XS.iloadN X13.here hx rfl (hb hby d4_35) rfl ?_
          refine XS.iconst X13.here hx rfl (hb hby d4_36) ?_
          refine XS.iadd X13.here hx rfl (hb hby d4_37) rfl ?_
          exact kX
        obtain ⟨_, _, ⟨T17, L17, k17, n17⟩, -, X17, ⟨Lc17, hQ17, l17, y17, z17⟩, st17⟩ := Jvm.LawKit.callS X13 hx (y := (⟨"com/example/weaverbird/weaverbird/model/xml/AttributesCollapsePinLaw", "nb", "([CII)Z"⟩ : MethodName)) hown (mvT hZ (hw _ (List.mem_of_getElem? (i := 163) rfl))) (mvT hZ (hw _ (List.mem_of_getElem? (i := 164) rfl))) (mvT hZ (hw _ (List.mem_of_getElem? (i := 2) rfl))) (mvT hZ (hw _ (List.mem_of_getElem? (i := 165) rfl))) (by decide) (backOf (W := 0) (rm3 l Z a0 hw [] cc p1 (p2 + (4 : Int32)) gc b n (i + 4) h0 n0 Z0 A_c hbt hn hn5 (own_addN hi rfl (by omega))) hZ (hw _ (List.mem_of_getElem? (i := 165) rfl)) (hw _ (List.mem_of_getElem? (i := 2) rfl)) (by decide) (by decide)) (g := (mkF m 38 #[rv cc, iv p1, iv p2] [(.int (p2 + (4 : Int32))), (.int p1), (.ref cc)])) rfl (by rw [hml]; rfl) (argsL := [(.ref cc), (.int p1), (.int (p2 + (4 : Int32)))]) (rest := []) (lenOf pd4_0 rfl) rfl (by show 2 * 0 + _ ≤ _; exact Nat.le_of_eq rfl) (hb hby d4_38) (fun _ _ => ⟨rfl, e12, (by decide : 0 + 0 ≤ _), (by decide : 0 + 0 ≤ _)⟩)
        dsimp only [Pt.U, Pt.locs, Pt.cells, Pt.slots] at X17 l17 y17 z17 st17 hQ17
        subst l17 y17 z17
        obtain ⟨rfl, Nq17, e17⟩ := hQ17
        have N17 := Fr.app N13 Nq17
        obtain ⟨LL18, X18, N18⟩ : ∃ LL, Stand p l e ({ frames := 1, cells := 0, slots := 0, locals := 20 } : Room) s m #[(.ref cc), (.int p1), (.int p2)] below meth c T17 LL 0 0 ∧ Fr n0 LL := ⟨_, X17, N17⟩
        have pre19 : ∀ t, own_s p e below T17 m 41 #[rv cc, iv p1, iv p2] [(.int (own_bi (own_nb b n (i + 4))))] t → Steps p.tables e below S0 t := fun tX kX => pre16 _ (st17 _ kX)
        by_cases hc20 : (own_bi (own_nb b n (i + 4))) = (0 : Int32)
        · skip
          have pre21 : ∀ t, own_s p e below T17 m 49 #[rv cc, iv p1, iv p2] [(.int (0 : Int32))] t → Steps p.tables e below S0 t := by
            intro tX kX
            refine pre19 _ ?_
            show own_s p e below T17 m 41 #[rv cc, iv p1, iv p2] [(.int (own_bi (own_nb b n (i + 4))))] _
            refine XS.ifYes X18.here hx rfl (pc0 := 41) (pc' := 48) rfl (hb hby d4_41) rfl ((if0 _ _).trans (teq hc20).1) (by decide) (by decide) ?_
            refine XS.iconst X18.here hx rfl (hb hby d4_48) ?_
            exact kX
          subst hS0
          obtain ⟨fsX, hr, hrun, hended, hW, hsame⟩ := X18.leave (v := (some (.int (0 : Int32)))) (fun h => by rw [Bd.returns] at h; cases h)
          refine ⟨_, _, pre21 _ (retN X18 hx (t := .boolean) Bd.returns (by simp) (hb hby d4_49) hr), hrun, hended, _, _, rfl, ?_, ⟨_, rfl⟩, hW, hsame.mono (by decide) (by decide)⟩
          show Q4 Z cc p1 p2 gc b n i h0 n0 (some (.int (0 : Int32))) T17.heap _
          exact ⟨congrArg (fun z => some (Value.int z)) (show (0 : Int32) = own_bi (own_lt b n i) from by simp [own_lt, own_bi, own_bi0 hc5, own_bi0 hc10, own_bi0 hc15, own_bi0 hc20]), N18, e17⟩
        · skip
          have pre22 : ∀ t, own_s p e below T17 m 49 #[rv cc, iv p1, iv p2] [(.int (1 : Int32))] t → Steps p.tables e below S0 t := by
            intro tX kX
            refine pre19 _ ?_
            show own_s p e below T17 m 41 #[rv cc, iv p1, iv p2] [(.int (own_bi (own_nb b n (i + 4))))] _
            refine XS.ifNo X18.here hx rfl (hb hby d4_41) rfl ((if0 _ _).trans (feq hc20).1) ?_
            refine XS.iconst X18.here hx rfl (hb hby d4_44) ?_
            refine XS.goto X18.here hx rfl (pc0 := 45) (pc' := 49) rfl (hb hby d4_45) (by decide) (by decide) ?_
            exact kX
          subst hS0
          obtain ⟨fsX, hr, hrun, hended, hW, hsame⟩ := X18.leave (v := (some (.int (1 : Int32)))) (fun h => by rw [Bd.returns] at h; cases h)
          refine ⟨_, _, pre22 _ (retN X18 hx (t := .boolean) Bd.returns (by simp) (hb hby d4_49) hr), hrun, hended, _, _, rfl, ?_, ⟨_, rfl⟩, hW, hsame.mono (by decide) (by decide)⟩
          show Q4 Z cc p1 p2 gc b n i h0 n0 (some (.int (1 : Int32))) T17.heap _
          exact ⟨congrArg (fun z => some (Value.int z)) (show (1 : Int32) = own_bi (own_lt b n i) from by simp [own_lt, own_bi, own_bi0 hc5, own_bi0 hc10, own_bi0 hc15, own_bi1 hc20]), N18, e17⟩
      · skip
        have pre23 : ∀ t, own_s p e below T12 m 49 #[rv cc, iv p1, iv p2] [(.int (1 : Int32))] t → Steps p.tables e below S0 t := by
          intro tX kX
          refine pre14 _ ?_
          show own_s p e below T12 m 30 #[rv cc, iv p1, iv p2] [(.int (own_bi (own_nb b n (i + 3))))] _
          refine XS.ifYes X13.here hx rfl (pc0 := 30) (pc' := 44) rfl (hb hby d4_30) rfl ((if0 _ _).trans (feq hc15).2) (by decide) (by decide) ?_
          refine XS.iconst X13.here hx rfl (hb hby d4_44) ?_
          refine XS.goto X13.here hx rfl (pc0 := 45) (pc' := 49) rfl (hb hby d4_45) (by decide) (by decide) ?_
          exact kX
        subst hS0
        obtain ⟨fsX, hr, hrun, hended, hW, hsame⟩ := X13.leave (v := (some (.int (1 : Int32)))) (fun h => by rw [Bd.returns] at h; cases h)
        refine ⟨_, _, pre23 _ (retN X13 hx (t := .boolean) Bd.returns (by simp) (hb hby d4_49) hr), hrun, hended, _, _, rfl, ?_, ⟨_, rfl⟩, hW, hsame.mono (by decide) (by decide)⟩
        show Q4 Z cc p1 p2 gc b n i h0 n0 (some (.int (1 : Int32))) T12.heap _
        exact ⟨congrArg (fun z => some (Value.int z)) (show (1 : Int32) = own_bi (own_lt b n i) from by simp [own_lt, own_bi, own_bi0 hc5, own_bi0 hc10, own_bi1 hc15]), N13, e12⟩
    · skip
      have pre24 : ∀ t, own_s p e below T7 m 49 #[rv cc, iv p1, iv p2] [(.int (1 : Int32))] t → Steps p.tables e below S0 t := by
        intro tX kX
        refine pre9 _ ?_
        show own_s p e below T7 m 19 #[rv cc, iv p1, iv p2] [(.int (own_bi (own_nb b n (i + 2))))] _
        refine XS.ifYes X8.here hx rfl (pc0 := 19) (pc' := 44) rfl (hb hby d4_19) rfl ((if0 _ _).trans (feq hc10).2) (by decide) (by decide) ?_
        refine XS.iconst X8.here hx rfl (hb hby d4_44) ?_
        refine XS.goto X8.here hx rfl (pc0 := 45) (pc' := 49) rfl (hb hby d4_45) (by decide) (by decide) ?_
        exact kX
      subst hS0
      obtain ⟨fsX, hr, hrun, hended, hW, hsame⟩ := X8.leave (v := (some (.int (1 : Int32)))) (fun h => by rw [Bd.returns] at h; cases h)
      refine ⟨_, _, pre24 _ (retN X8 hx (t := .boolean) Bd.returns (by simp) (hb hby d4_49) hr), hrun, hended, _, _, rfl, ?_, ⟨_, rfl⟩, hW, hsame.mono (by decide) (by decide)⟩
      show Q4 Z cc p1 p2 gc b n i h0 n0 (some (.int (1 : Int32))) T7.heap _
      exact ⟨congrArg (fun z => some (Value.int z)) (show (1 : Int32) = own_bi (own_lt b n i) from by simp [own_lt, own_bi, own_bi0 hc5, own_bi1 hc10]), N8, e7⟩
  · skip
    have pre25 : ∀ t, own_s p e below T2 m 49 #[rv cc, iv p1, iv p2] [(.int (1 : Int32))] t → Steps p.tables e below S0 t := by
      intro tX kX
      refine pre4 _ ?_
      show own_s p e below T2 m 8 #[rv cc, iv p1, iv p2] [(.int (own_bi (own_nb b n (i + 1))))] _
      refine XS.ifYes X3.here hx rfl (pc0 := 8) (pc' := 44) rfl (hb hby d4_8) rfl ((if0 _ _).trans (feq hc5).2) (by decide) (by decide) ?_
      refine XS.iconst X3.here hx rfl (hb hby d4_44) ?_
      refine XS.goto X3.here hx rfl (pc0 := 45) (pc' := 49) rfl (hb hby d4_45) (by decide) (by decide) ?_
      exact kX
    subst hS0
    obtain ⟨fsX, hr, hrun, hended, hW, hsame⟩ := X3.leave (v := (some (.int (1 : Int32)))) (fun h => by rw [Bd.returns] at h; cases h)
    refine ⟨_, _, pre25 _ (retN X3 hx (t := .boolean) Bd.returns (by simp) (hb hby d4_49) hr), hrun, hended, _, _, rfl, ?_, ⟨_, rfl⟩, hW, hsame.mono (by decide) (by decide)⟩
    show Q4 Z cc p1 p2 gc b n i h0 n0 (some (.int (1 : Int32))) T2.heap _
    exact ⟨congrArg (fun z => some (Value.int z)) (show (1 : Int32) = own_bi (own_lt b n i) from by simp [own_lt, own_bi, own_bi1 hc5]), N3, e2⟩
theorem d5_0 : decode method_7_code 0 = .ok (.iload_n 2, 1) := by decide +kernel
theorem d5_1 : decode method_7_code 1 = .ok (.iload_n 1, 1) := by decide +kernel
theorem d5_2 : decode method_7_code 2 = .ok (.if_icmp .ge 38, 3) := by decide +kernel
theorem d5_5 : decode method_7_code 5 = .ok (.aload_n 0, 1) := by decide +kernel
theorem d5_6 : decode method_7_code 6 = .ok (.iload_n 2, 1) := by decide +kernel
theorem d5_7 : decode method_7_code 7 = .ok (.caload, 1) := by decide +kernel
theorem d5_8 : decode method_7_code 8 = .ok (.bipush 32, 2) := by decide +kernel
theorem d5_10 : decode method_7_code 10 = .ok (.if_icmp .ne 26, 3) := by decide +kernel
theorem d5_13 : decode method_7_code 13 = .ok (.iload_n 2, 1) := by decide +kernel
theorem d5_14 : decode method_7_code 14 = .ok (.ifCond .le 26, 3) := by decide +kernel
theorem d5_17 : decode method_7_code 17 = .ok (.aload_n 0, 1) := by decide +kernel
theorem d5_18 : decode method_7_code 18 = .ok (.iload_n 2, 1) := by decide +kernel
theorem d5_19 : decode method_7_code 19 = .ok (.iconst 1, 1) := by decide +kernel
theorem d5_20 : decode method_7_code 20 = .ok (.isub, 1) := by decide +kernel
theorem d5_21 : decode method_7_code 21 = .ok (.caload, 1) := by decide +kernel
theorem d5_22 : decode method_7_code 22 = .ok (.bipush 32, 2) := by decide +kernel
theorem d5_24 : decode method_7_code 24 = .ok (.if_icmp .eq 16, 3) := by decide +kernel
theorem d5_27 : decode method_7_code 27 = .ok (.aload_n 0, 1) := by decide +kernel
theorem d5_28 : decode method_7_code 28 = .ok (.iload_n 1, 1) := by decide +kernel
theorem d5_29 : decode method_7_code 29 = .ok (.iload_n 2, 1) := by decide +kernel
theorem d5_30 : decode method_7_code 30 = .ok (.invokestatic 56, 3) := by decide +kernel
theorem d5_33 : decode method_7_code 33 = .ok (.ifCond .eq 7, 3) := by decide +kernel
theorem d5_36 : decode method_7_code 36 = .ok (.iconst 1, 1) := by decide +kernel
theorem d5_37 : decode method_7_code 37 = .ok (.goto 4, 3) := by decide +kernel
theorem d5_40 : decode method_7_code 40 = .ok (.iconst 0, 1) := by decide +kernel
theorem d5_41 : decode method_7_code 41 = .ok (.ireturn, 1) := by decide +kernel
theorem pn_5 : plainName "com/example/weaverbird/weaverbird/model/xml/AttributesCollapsePinLaw" = true := by first | (simp [plainName, overriddenIn]; done) | decide +kernel
theorem pd5_0 : parseMethodDescriptor "([CII)Z" = some ⟨[(.array .char), .int, .int], some .boolean⟩ := by decide +kernel
theorem ef_5 (m : MethodId) (cc : Addr) (p1 : Int32) (p2 : Int32) : entryFrame m #[(.ref cc), (.int p1), (.int p2)] 3 = mkF m 0 #[rv cc, iv p1, iv p2] [] := by first | (simp [entryFrame, mkF, argsToLocals, Value.category]; done) | rfl
def Q5 (Z : State) (cc : Addr) (p1 : Int32) (p2 : Int32) (gc : Nat → Int32) (b : Nat → Bool) (n : Nat) (i : Nat) (h0 : Heap) (n0 : Nat) (v : Option Value) (h : Heap) (L : List Loc) : Prop := v = some (.int (own_bi (own_kp b n i))) ∧ Fr n0 L ∧ h = h0
set_option maxRecDepth 65536 in
set_option maxHeartbeats 40000000 in
theorem rm5 (l : Launch) (Z : State) (a0 : Array Value) (hw : ∀ d ∈ tables_1, d.before a0 Z = true) (ws : List Jvm.Cond) (cc : Addr) (p1 : Int32) (p2 : Int32) (gc : Nat → Int32) (b : Nat → Bool) (n : Nat) (i : Nat) (h0 : Heap) (n0 : Nat) (Z0 : n0 ≤ h0.size) (A_c : own_Af Z h0 cc .char 5 (fun j => .int (gc j))) (hbt : ∀ i, i < n → b i = decide (gc i ≠ 32)) (hn : p1.toInt = n) (hn5 : n ≤ 5) (hi : p2.toInt = i) (hi4 : i ≤ 4) :
    MetFree l (⟨"com/example/weaverbird/weaverbird/model/xml/AttributesCollapsePinLaw", "keep", "([CII)Z"⟩ : MethodName) (head1 (Jvm.Cond.code (⟨"com/example/weaverbird/weaverbird/model/xml/AttributesCollapsePinLaw", "keep", "([CII)Z"⟩ : MethodName) method_7_code 3 (some .boolean) :: ws) ({ frames := 2, cells := 0, slots := 0, locals := 40 } : Room)) (fun aX UX => aX = #[(.ref cc), (.int p1), (.int p2)] ∧ Z.Warmed39 UX.vm ∧ UX.heap = h0) (fun _ _ _ _ _ => True) (fun _ UX oX UY => ∃ vX LX, oX = .returned vX ∧ Q5 Z cc p1 p2 gc b n i h0 n0 vX UY.heap LX ∧ FrameEnd UX oX UY LX ({ frames := 2, cells := 0, slots := 0, locals := 40 } : Room).cells ({ frames := 2, cells := 0, slots := 0, locals := 40 } : Room).slots) := by
  refine MetFree.of_bodySF (plainFor_of_name pn_5) hisR ?_
  intro p e s m args below meth c s₁ Bd hml0 hPX hKX
  obtain ⟨rfl, hZ, hh⟩ := hPX
  have hx := Bd.exec
  have hby := Bd.bytes
  have hml : c.maxLocals = 3 := hml0
  have hown : s.vm.findClass "com/example/weaverbird/weaverbird/model/xml/AttributesCollapsePinLaw" = some m.cls := findClass_of_methodNamed Bd.named
  have hnm := (name_of_methodNamed Bd.named Bd.method).1
  have X0 : Stand p l e ({ frames := 2, cells := 0, slots := 0, locals := 40 } : Room) s m #[(.ref cc), (.int p1), (.int p2)] below meth c s₁ [] 0 0 := Stand.of_body Bd
  have e0 : s₁.heap = h0 := by rw [← hh, Bd.state]; rfl
  have N0 := Fr.nil n0
  have pre0 : ∀ t, Steps p.tables e below (s₁.setTop (mkF m 0 #[rv cc, iv p1, iv p2] [])) t → Steps p.tables e below (s₁.setTop (entryFrame m #[(.ref cc), (.int p1), (.int p2)] 3)) t := fun t k => castTop (ef_5 m cc p1 p2) k
  obtain ⟨S0, hS0⟩ : ∃ z, z = (s₁.setTop (entryFrame m #[(.ref cc), (.int p1), (.int p2)] 3)) := ⟨_, rfl⟩
  rw [← hS0] at pre0
  have pre1 : ∀ t, own_s p e below s₁ m 2 #[rv cc, iv p1, iv p2] [(.int p1), (.int p2)] t → Steps p.tables e below S0 t := by
    intro tX kX
    refine pre0 _ ?_
    show own_s p e below s₁ m 0 #[rv cc, iv p1, iv p2] [] _
    refine XS.iloadN X0.here hx rfl (hb hby d5_0) rfl ?_
    refine XS.iloadN X0.here hx rfl (hb hby d5_1) rfl ?_
    exact kX
  by_cases hc2 : p2 < p1
  · skip
    have ihc2 : (p2).toInt < (p1).toInt := Int32.lt_iff_toInt_lt.mp hc2
    have pre4 : ∀ t, own_s p e below s₁ m 7 #[rv cc, iv p1, iv p2] [(.int p2), (.ref cc)] t → Steps p.tables e below S0 t := by
      intro tX kX
      refine pre1 _ ?_
      show own_s p e below s₁ m 2 #[rv cc, iv p1, iv p2] [(.int p1), (.int p2)] _
      refine XS.icmpNo X0.here hx rfl (hb hby d5_2) rfl (tlt hc2).2.1 ?_
      refine XS.aloadN X0.here hx rfl (hb hby d5_5) rfl rfl ?_
      refine XS.iloadN X0.here hx rfl (hb hby d5_6) rfl ?_
      exact kX
    obtain ⟨cl3, Ar3, S3, M3, H3⟩ := id A_c
    have pre5 : ∀ t, own_s p e below s₁ m 10 #[rv cc, iv p1, iv p2] [(.int (32 : Int32)), (.int (gc i))] t → Steps p.tables e below S0 t := by
      intro tX kX
      refine pre4 _ ?_
      show own_s p e below s₁ m 7 #[rv cc, iv p1, iv p2] [(.int p2), (.ref cc)] _
      refine X0.caload hx (j := p2) (v := (.int (gc i))) (by rw [e0]; exact Ar3.1) (State.isArrayOf_alike hZ.alike Ar3.2.1) Ar3.2.2 (own_inb S3 M3 (own_idx (by omega) (by omega))) (own_get H3 S3 (own_idx (by omega) (by omega)) (by show Value.int (gc p2.toNatClampNeg) = _; rw [own_nat hi])) (g := (mkF m 7 #[rv cc, iv p1, iv p2] [(.int p2), (.ref cc)])) rfl rfl (hb hby d5_7) _ ?_
      refine XS.bipush X0.here hx rfl (hb hby d5_8) ?_
      exact kX
    by_cases hc6 : (gc i) = (32 : Int32)
    · skip
      have ihc6 : ((gc i)).toInt = (32 : Int) := congrArg Int32.toInt hc6
      have pre7 : ∀ t, own_s p e below s₁ m 14 #[rv cc, iv p1, iv p2] [(.int p2)] t → Steps p.tables e below S0 t := by
        intro tX kX
        refine pre5 _ ?_
        show own_s p e below s₁ m 10 #[rv cc, iv p1, iv p2] [(.int (32 : Int32)), (.int (gc i))] _
        refine XS.icmpNo X0.here hx rfl (hb hby d5_10) rfl (teq hc6).2 ?_
        refine XS.iloadN X0.here hx rfl (hb hby d5_13) rfl ?_
        exact kX
      by_cases hc8 : (0 : Int32) < p2
      · skip
        have ihc8 : (0 : Int) < (p2).toInt := Int32.lt_iff_toInt_lt.mp hc8
        have pre9 : ∀ t, own_s p e below s₁ m 21 #[rv cc, iv p1, iv p2] [(.int (p2 - (1 : Int32))), (.ref cc)] t → Steps p.tables e below S0 t := by
          intro tX kX
          refine pre7 _ ?_
          show own_s p e below s₁ m 14 #[rv cc, iv p1, iv p2] [(.int p2)] _
          refine XS.ifNo X0.here hx rfl (hb hby d5_14) rfl ((if0 _ _).trans (tlt hc8).2.2.2) ?_
          refine XS.aloadN X0.here hx rfl (hb hby d5_17) rfl rfl ?_
          refine XS.iloadN X0.here hx rfl (hb hby d5_18) rfl ?_
          show own_s p e below s₁ m 19 #[rv cc, iv p1, iv p2] [(.int p2), (.ref cc)] _
          refine XS.iconst X0.here hx rfl (hb hby d5_19) ?_
          refine XS.isub X0.here hx rfl (hb hby d5_20) rfl ?_
          exact kX
        obtain ⟨q1, hq1⟩ : ∃ z : Int32, z = (p2 - (1 : Int32)) := ⟨_, rfl⟩
        rw [← hq1] at pre9
        have iq1 : q1.toInt = ((i - 1 : Nat) : Int) := by rw [hq1]; exact own_subN hi rfl (by omega)
        obtain ⟨cl10, Ar10, S10, M10, H10⟩ := id A_c
        have pre11 : ∀ t, own_s p e below s₁ m 24 #[rv cc, iv p1, iv p2] [(.int (32 : Int32)), (.int (gc (i - 1)))] t → Steps p.tables e below S0 t := by
          intro tX kX
          refine pre9 _ ?_
          show own_s p e below s₁ m 21 #[rv cc, iv p1, iv p2] [(.int q1), (.ref cc)] _
          refine X0.caload hx (j := q1) (v := (.int (gc (i - 1)))) (by rw [e0]; exact Ar10.1) (State.isArrayOf_alike hZ.alike Ar10.2.1) Ar10.2.2 (own_inb S10 M10 (own_idx (by omega) (by omega))) (own_get H10 S10 (own_idx (by omega) (by omega)) (by show Value.int (gc q1.toNatClampNeg) = _; rw [own_nat iq1])) (g := (mkF m 21 #[rv cc, iv p1, iv p2] [(.int q1), (.ref cc)])) rfl rfl (hb hby d5_21) _ ?_
          refine XS.bipush X0.here hx rfl (hb hby d5_22) ?_
          exact kX
        by_cases hc12 : (gc (i - 1)) = (32 : Int32)
        · skip
          have ihc12 : ((gc (i - 1))).toInt = (32 : Int) := congrArg Int32.toInt hc12
          have pre13 : ∀ t, own_s p e below s₁ m 41 #[rv cc, iv p1, iv p2] [(.int (0 : Int32))] t → Steps p.tables e below S0 t := by
            intro tX kX
            refine pre11 _ ?_
            show own_s p e below s₁ m 24 #[rv cc, iv p1, iv p2] [(.int (32 : Int32)), (.int (gc (i - 1)))] _
            refine XS.icmpYes X0.here hx rfl (pc0 := 24) (pc' := 40) rfl (hb hby d5_24) rfl (teq hc12).1 (by decide) (by decide) ?_
            refine XS.iconst X0.here hx rfl (hb hby d5_40) ?_
            exact kX
          subst hS0
          obtain ⟨fsX, hr, hrun, hended, hW, hsame⟩ := X0.leave (v := (some (.int (0 : Int32)))) (fun h => by rw [Bd.returns] at h; cases h)
          refine ⟨_, _, pre13 _ (retN X0 hx (t := .boolean) Bd.returns (by simp) (hb hby d5_41) hr), hrun, hended, _, _, rfl, ?_, ⟨_, rfl⟩, hW, hsame.mono (by decide) (by decide)⟩
          show Q5 Z cc p1 p2 gc b n i h0 n0 (some (.int (0 : Int32))) s₁.heap _
          exact ⟨congrArg (fun z => some (Value.int z)) (show (0 : Int32) = own_bi (own_kp b n i) from by simp [own_kp, own_bi, hbt i (show i < n by omega), show i < n by omega, hc6, show 0 < i by omega, hbt (i - 1) (show i - 1 < n by omega), hc12]), N0, e0⟩
        · skip
          have ihc12 : ¬ (((gc (i - 1))).toInt = (32 : Int)) := fun q => hc12 (Int32.toInt_inj.mp q)
          have pre14 : ∀ t, own_s p e below s₁ m 30 #[rv cc, iv p1, iv p2] [(.int p2), (.int p1), (.ref cc)] t → Steps p.tables e below S0 t := by
            intro tX kX
            refine pre11 _ ?_
            show own_s p e below s₁ m 24 #[rv cc, iv p1, iv p2] [(.int (32 : Int32)), (.int (gc (i - 1)))] _
            refine XS.icmpNo X0.here hx rfl (hb hby d5_24) rfl (feq hc12).1 ?_
            refine XS.aloadN X0.here hx rfl (hb hby d5_27) rfl rfl ?_
            refine XS.iloadN X0.here hx rfl (hb hby d5_28) rfl ?_
            show own_s p e below s₁ m 29 #[rv cc, iv p1, iv p2] [(.int p1), (.ref cc)] _
            refine XS.iloadN X0.here hx rfl (hb hby d5_29) rfl ?_
            exact kX
          obtain ⟨_, _, ⟨T15, L15, k15, n15⟩, -, X15, ⟨Lc15, hQ15, l15, y15, z15⟩, st15⟩ := Jvm.LawKit.callS X0 hx (y := (⟨"com/example/weaverbird/weaverbird/model/xml/AttributesCollapsePinLaw", "later", "([CII)Z"⟩ : MethodName)) hown (mvT hZ (hw _ (List.mem_of_getElem? (i := 160) rfl))) (mvT hZ (hw _ (List.mem_of_getElem? (i := 161) rfl))) (mvT hZ (hw _ (List.mem_of_getElem? (i := 2) rfl))) (mvT hZ (hw _ (List.mem_of_getElem? (i := 162) rfl))) (by decide) (backOf (W := 0) (rm4 l Z a0 hw [] cc p1 p2 gc b n i h0 n0 Z0 A_c hbt hn hn5 hi hi4) hZ (hw _ (List.mem_of_getElem? (i := 162) rfl)) (hw _ (List.mem_of_getElem? (i := 2) rfl)) (by decide) (by decide)) (g := (mkF m 30 #[rv cc, iv p1, iv p2] [(.int p2), (.int p1), (.ref cc)])) rfl (by rw [hml]; rfl) (argsL := [(.ref cc), (.int p1), (.int p2)]) (rest := []) (lenOf pd5_0 rfl) rfl (by show 2 * 0 + _ ≤ _; exact Nat.le_of_eq rfl) (hb hby d5_30) (fun _ _ => ⟨rfl, e0, (by decide : 0 + 0 ≤ _), (by decide : 0 + 0 ≤ _)⟩)
          dsimp only [Pt.U, Pt.locs, Pt.cells, Pt.slots] at X15 l15 y15 z15 st15 hQ15
          subst l15 y15 z15
          obtain ⟨rfl, Nq15, e15⟩ := hQ15
          have N15 := Fr.app N0 Nq15
          obtain ⟨LL16, X16, N16⟩ : ∃ LL, Stand p l e ({ frames := 2, cells := 0, slots := 0, locals := 40 } : Room) s m #[(.ref cc), (.int p1), (.int p2)] below meth c T15 LL 0 0 ∧ Fr n0 LL := ⟨_, X15, N15⟩
          have pre17 : ∀ t, own_s p e below T15 m 33 #[rv cc, iv p1, iv p2] [(.int (own_bi (own_lt b n i)))] t → Steps p.tables e below S0 t := fun tX kX => pre14 _ (st15 _ kX)
          by_cases hc18 : (own_bi (own_lt b n i)) = (0 : Int32)
          · skip
            have pre19 : ∀ t, own_s p e below T15 m 41 #[rv cc, iv p1, iv p2] [(.int (0 : Int32))] t → Steps p.tables e below S0 t := by
              intro tX kX
              refine pre17 _ ?_
              show own_s p e below T15 m 33 #[rv cc, iv p1, iv p2] [(.int (own_bi (own_lt b n i)))] _
              refine XS.ifYes X16.here hx rfl (pc0 := 33) (pc' := 40) rfl (hb hby d5_33) rfl ((if0 _ _).trans (teq hc18).1) (by decide) (by decide) ?_
              refine XS.iconst X16.here hx rfl (hb hby d5_40) ?_
              exact kX
            subst hS0
            obtain ⟨fsX, hr, hrun, hended, hW, hsame⟩ := X16.leave (v := (some (.int (0 : Int32)))) (fun h => by rw [Bd.returns] at h; cases h)
            refine ⟨_, _, pre19 _ (retN X16 hx (t := .boolean) Bd.returns (by simp) (hb hby d5_41) hr), hrun, hended, _, _, rfl, ?_, ⟨_, rfl⟩, hW, hsame.mono (by decide) (by decide)⟩
            show Q5 Z cc p1 p2 gc b n i h0 n0 (some (.int (0 : Int32))) T15.heap _
            exact ⟨congrArg (fun z => some (Value.int z)) (show (0 : Int32) = own_bi (own_kp b n i) from by simp [own_kp, own_bi, hbt i (show i < n by omega), show i < n by omega, hc6, show 0 < i by omega, hbt (i - 1) (show i - 1 < n by omega), hc12, own_bi0 hc18]), N16, e15⟩
          · skip
            have pre20 : ∀ t, own_s p e below T15 m 41 #[rv cc, iv p1, iv p2] [(.int (1 : Int32))] t → Steps p.tables e below S0 t := by
              intro tX kX
              refine pre17 _ ?_
              show own_s p e below T15 m 33 #[rv cc, iv p1, iv p2] [(.int (own_bi (own_lt b n i)))] _
              refine XS.ifNo X16.here hx rfl (hb hby d5_33) rfl ((if0 _ _).trans (feq hc18).1) ?_
              refine XS.iconst X16.here hx rfl (hb hby d5_36) ?_
              refine XS.goto X16.here hx rfl (pc0 := 37) (pc' := 41) rfl (hb hby d5_37) (by decide) (by decide) ?_
              exact kX
            subst hS0
            obtain ⟨fsX, hr, hrun, hended, hW, hsame⟩ := X16.leave (v := (some (.int (1 : Int32)))) (fun h => by rw [Bd.returns] at h; cases h)
            refine ⟨_, _, pre20 _ (retN X16 hx (t := .boolean) Bd.returns (by simp) (hb hby d5_41) hr), hrun, hended, _, _, rfl, ?_, ⟨_, rfl⟩, hW, hsame.mono (by decide) (by decide)⟩
            show Q5 Z cc p1 p2 gc b n i h0 n0 (some (.int (1 : Int32))) T15.heap _
            exact ⟨congrArg (fun z => some (Value.int z)) (show (1 : Int32) = own_bi (own_kp b n i) from by simp [own_kp, own_bi, hbt i (show i < n by omega), show i < n by omega, hc6, show 0 < i by omega, hbt (i - 1) (show i - 1 < n by omega), hc12, own_bi1 hc18]), N16, e15⟩
      · skip
        have ihc8 : ¬ ((0 : Int) < (p2).toInt) := fun q => hc8 (Int32.lt_iff_toInt_lt.mpr q)
        have pre21 : ∀ t, own_s p e below s₁ m 41 #[rv cc, iv p1, iv p2] [(.int (0 : Int32))] t → Steps p.tables e below S0 t := by
          intro tX kX
          refine pre7 _ ?_
          show own_s p e below s₁ m 14 #[rv cc, iv p1, iv p2] [(.int p2)] _
          refine XS.ifYes X0.here hx rfl (pc0 := 14) (pc' := 40) rfl (hb hby d5_14) rfl ((if0 _ _).trans (flt hc8).2.2.2) (by decide) (by decide) ?_
          refine XS.iconst X0.here hx rfl (hb hby d5_40) ?_
          exact kX
        subst hS0
        obtain ⟨fsX, hr, hrun, hended, hW, hsame⟩ := X0.leave (v := (some (.int (0 : Int32)))) (fun h => by rw [Bd.returns] at h; cases h)
        refine ⟨_, _, pre21 _ (retN X0 hx (t := .boolean) Bd.returns (by simp) (hb hby d5_41) hr), hrun, hended, _, _, rfl, ?_, ⟨_, rfl⟩, hW, hsame.mono (by decide) (by decide)⟩
        show Q5 Z cc p1 p2 gc b n i h0 n0 (some (.int (0 : Int32))) s₁.heap _
        exact ⟨congrArg (fun z => some (Value.int z)) (show (0 : Int32) = own_bi (own_kp b n i) from by simp [own_kp, own_bi, hbt i (show i < n by omega), show i < n by omega, hc6, show ¬ 0 < i by omega]), N0, e0⟩
    · skip
      have ihc6 : ¬ (((gc i)).toInt = (32 : Int)) := fun q => hc6 (Int32.toInt_inj.mp q)
      have pre22 : ∀ t, own_s p e below s₁ m 41 #[rv cc, iv p1, iv p2] [(.int (1 : Int32))] t → Steps p.tables e below S0 t := by
        intro tX kX
        refine pre5 _ ?_
        show own_s p e below s₁ m 10 #[rv cc, iv p1, iv p2] [(.int (32 : Int32)), (.int (gc i))] _
        refine XS.icmpYes X0.here hx rfl (pc0 := 10) (pc' := 36) rfl (hb hby d5_10) rfl (feq hc6).2 (by decide) (by decide) ?_
        refine XS.iconst X0.here hx rfl (hb hby d5_36) ?_
        refine XS.goto X0.here hx rfl (pc0 := 37) (pc' := 41) rfl (hb hby d5_37) (by decide) (by decide) ?_
        exact kX
      subst hS0
      obtain ⟨fsX, hr, hrun, hended, hW, hsame⟩ := X0.leave (v := (some (.int (1 : Int32)))) (fun h => by rw [Bd.returns] at h; cases h)
      refine ⟨_, _, pre22 _ (retN X0 hx (t := .boolean) Bd.returns (by simp) (hb hby d5_41) hr), hrun, hended, _, _, rfl, ?_, ⟨_, rfl⟩, hW, hsame.mono (by decide) (by decide)⟩
      show Q5 Z cc p1 p2 gc b n i h0 n0 (some (.int (1 : Int32))) s₁.heap _
      exact ⟨congrArg (fun z => some (Value.int z)) (show (1 : Int32) = own_bi (own_kp b n i) from by simp [own_kp, own_bi, hbt i (show i < n by omega), show i < n by omega, hc6]), N0, e0⟩
  · skip
    have ihc2 : ¬ ((p2).toInt < (p1).toInt) := fun q => hc2 (Int32.lt_iff_toInt_lt.mpr q)
    have pre23 : ∀ t, own_s p e below s₁ m 41 #[rv cc, iv p1, iv p2] [(.int (0 : Int32))] t → Steps p.tables e below S0 t := by
      intro tX kX
      refine pre1 _ ?_
      show own_s p e below s₁ m 2 #[rv cc, iv p1, iv p2] [(.int p1), (.int p2)] _
      refine XS.icmpYes X0.here hx rfl (pc0 := 2) (pc' := 40) rfl (hb hby d5_2) rfl (flt hc2).2.1 (by decide) (by decide) ?_
      refine XS.iconst X0.here hx rfl (hb hby d5_40) ?_
      exact kX
    subst hS0
    obtain ⟨fsX, hr, hrun, hended, hW, hsame⟩ := X0.leave (v := (some (.int (0 : Int32)))) (fun h => by rw [Bd.returns] at h; cases h)
    refine ⟨_, _, pre23 _ (retN X0 hx (t := .boolean) Bd.returns (by simp) (hb hby d5_41) hr), hrun, hended, _, _, rfl, ?_, ⟨_, rfl⟩, hW, hsame.mono (by decide) (by decide)⟩
    show Q5 Z cc p1 p2 gc b n i h0 n0 (some (.int (0 : Int32))) s₁.heap _
    exact ⟨congrArg (fun z => some (Value.int z)) (show (0 : Int32) = own_bi (own_kp b n i) from by simp [own_kp, own_bi, show ¬ i < n by omega]), N0, e0⟩
theorem d6_0 : decode method_8_code 0 = .ok (.iload_n 3, 1) := by decide +kernel
theorem d6_1 : decode method_8_code 1 = .ok (.ifCond .eq 14, 3) := by decide +kernel
theorem d6_4 : decode method_8_code 4 = .ok (.aload_n 0, 1) := by decide +kernel
theorem d6_5 : decode method_8_code 5 = .ok (.iload_n 1, 1) := by decide +kernel
theorem d6_6 : decode method_8_code 6 = .ok (.aload_n 2, 1) := by decide +kernel
theorem d6_7 : decode method_8_code 7 = .ok (.iload 4, 2) := by decide +kernel
theorem d6_9 : decode method_8_code 9 = .ok (.caload, 1) := by decide +kernel
theorem d6_10 : decode method_8_code 10 = .ok (.castore, 1) := by decide +kernel
theorem d6_11 : decode method_8_code 11 = .ok (.iload_n 1, 1) := by decide +kernel
theorem d6_12 : decode method_8_code 12 = .ok (.iconst 1, 1) := by decide +kernel
theorem d6_13 : decode method_8_code 13 = .ok (.iadd, 1) := by decide +kernel
theorem d6_14 : decode method_8_code 14 = .ok (.ireturn, 1) := by decide +kernel
theorem d6_15 : decode method_8_code 15 = .ok (.iload_n 1, 1) := by decide +kernel
theorem d6_16 : decode method_8_code 16 = .ok (.ireturn, 1) := by decide +kernel
theorem pn_6 : plainName "com/example/weaverbird/weaverbird/model/xml/AttributesCollapsePinLaw" = true := by first | (simp [plainName, overriddenIn]; done) | decide +kernel
theorem ef_6 (m : MethodId) (o : Addr) (p1 : Int32) (cc : Addr) (p3 : Int32) (p4 : Int32) : entryFrame m #[(.ref o), (.int p1), (.ref cc), (.int p3), (.int p4)] 5 = mkF m 0 #[rv o, iv p1, rv cc, iv p3, iv p4] [] := by first | (simp [entryFrame, mkF, argsToLocals, Value.category]; done) | rfl
def Q6 (Z : State) (o : Addr) (p1 : Int32) (cc : Addr) (p3 : Int32) (p4 : Int32) (go : Nat → Int32) (gc : Nat → Int32) (P : Nat) (kb : Bool) (i : Nat) (h0 : Heap) (n0 : Nat) (v : Option Value) (h : Heap) (L : List Loc) : Prop := (∃ v' : Int32, v = some (.int v') ∧ v'.toInt = own_p kb P) ∧ Fr n0 L ∧ Keep h0 h [o] ∧ own_Af Z h o .char 5 (fun j => .int (own_o kb P (gc i) go j))
set_option maxRecDepth 65536 in
set_option maxHeartbeats 40000000 in
theorem rm6 (l : Launch) (Z : State) (a0 : Array Value) (hw : ∀ d ∈ tables_1, d.before a0 Z = true) (ws : List Jvm.Cond) (o : Addr) (p1 : Int32) (cc : Addr) (p3 : Int32) (p4 : Int32) (go : Nat → Int32) (gc : Nat → Int32) (P : Nat) (kb : Bool) (i : Nat) (h0 : Heap) (n0 : Nat) (Z0 : n0 ≤ h0.size) (A_o : own_Af Z h0 o .char 5 (fun j => .int (go j))) (A_c : own_Af Z h0 cc .char 5 (fun j => .int (gc j))) (B_o : own_B go) (B_c : own_B gc) (hP : p1.toInt = P) (hP5 : P < 5) (hk : p3 = own_bi kb) (hi : p4.toInt = i) (hi5 : i < 5) (ne_oc : o ≠ cc) (g_o : n0 ≤ o) :
    MetFree l (⟨"com/example/weaverbird/weaverbird/model/xml/AttributesCollapsePinLaw", "put", "([CI[CZI)I"⟩ : MethodName) (head1 (Jvm.Cond.code (⟨"com/example/weaverbird/weaverbird/model/xml/AttributesCollapsePinLaw", "put", "([CI[CZI)I"⟩ : MethodName) method_8_code 5 (some .int) :: ws) ({ frames := 0, cells := 0, slots := 0, locals := 0 } : Room)) (fun aX UX => aX = #[(.ref o), (.int p1), (.ref cc), (.int p3), (.int p4)] ∧ Z.Warmed39 UX.vm ∧ UX.heap = h0) (fun _ _ _ _ _ => True) (fun _ UX oX UY => ∃ vX LX, oX = .returned vX ∧ Q6 Z o p1 cc p3 p4 go gc P kb i h0 n0 vX UY.heap LX ∧ FrameEnd UX oX UY LX ({ frames := 0, cells := 0, slots := 0, locals := 0 } : Room).cells ({ frames := 0, cells := 0, slots := 0, locals := 0 } : Room).slots) := by
  refine MetFree.of_bodySF (plainFor_of_name pn_6) hisR ?_
  intro p e s m args below meth c s₁ Bd hml0 hPX hKX
  obtain ⟨rfl, hZ, hh⟩ := hPX
  have hx := Bd.exec
  have hby := Bd.bytes
  have hml : c.maxLocals = 5 := hml0
  have hown : s.vm.findClass "com/example/weaverbird/weaverbird/model/xml/AttributesCollapsePinLaw" = some m.cls := findClass_of_methodNamed Bd.named
  have hnm := (name_of_methodNamed Bd.named Bd.method).1
  have X0 : Stand p l e ({ frames := 0, cells := 0, slots := 0, locals := 0 } : Room) s m #[(.ref o), (.int p1), (.ref cc), (.int p3), (.int p4)] below meth c s₁ [] 0 0 := Stand.of_body Bd
  have e0 : s₁.heap = h0 := by rw [← hh, Bd.state]; rfl
  have N0 := Fr.nil n0
  have pre0 : ∀ t, Steps p.tables e below (s₁.setTop (mkF m 0 #[rv o, iv p1, rv cc, iv p3, iv p4] [])) t → Steps p.tables e below (s₁.setTop (entryFrame m #[(.ref o), (.int p1), (.ref cc), (.int p3), (.int p4)] 5)) t := fun t k => castTop (ef_6 m o p1 cc p3 p4) k
  obtain ⟨S0, hS0⟩ : ∃ z, z = (s₁.setTop (entryFrame m #[(.ref o), (.int p1), (.ref cc), (.int p3), (.int p4)] 5)) := ⟨_, rfl⟩
  rw [← hS0] at pre0
  have K0 : Keep h0 h0 [o] := Keep.refl h0 _
  have pre1 : ∀ t, own_s p e below s₁ m 1 #[rv o, iv p1, rv cc, iv p3, iv p4] [(.int p3)] t → Steps p.tables e below S0 t := by
    intro tX kX
    refine pre0 _ ?_
    show own_s p e below s₁ m 0 #[rv o, iv p1, rv cc, iv p3, iv p4] [] _
    refine XS.iloadN X0.here hx rfl (hb hby d6_0) rfl ?_
    exact kX
  by_cases hc2 : p3 = (0 : Int32)
  · skip
    have pre3 : ∀ t, own_s p e below s₁ m 16 #[rv o, iv p1, rv cc, iv p3, iv p4] [(.int p1)] t → Steps p.tables e below S0 t := by
      intro tX kX
      refine pre1 _ ?_
      show own_s p e below s₁ m 1 #[rv o, iv p1, rv cc, iv p3, iv p4] [(.int p3)] _
      refine XS.ifYes X0.here hx rfl (pc0 := 1) (pc' := 15) rfl (hb hby d6_1) rfl ((if0 _ _).trans (teq hc2).1) (by decide) (by decide) ?_
      refine XS.iloadN X0.here hx rfl (hb hby d6_15) rfl ?_
      exact kX
    subst hS0
    obtain ⟨fsX, hr, hrun, hended, hW, hsame⟩ := X0.leave (v := (some (.int p1))) (fun h => by rw [Bd.returns] at h; cases h)
    refine ⟨_, _, pre3 _ (retI X0 hx Bd.returns (hb hby d6_16) hr), hrun, hended, _, _, rfl, ?_, ⟨_, rfl⟩, hW, hsame.mono (by decide) (by decide)⟩
    show Q6 Z o p1 cc p3 p4 go gc P kb i h0 n0 (some (.int p1)) s₁.heap _
    have kk := own_bi0 (hk ▸ hc2)
    subst kk
    rw [e0]
    exact ⟨⟨_, rfl, hP⟩, N0, Keep.refl h0 _, A_o⟩
  · skip
    have pre5 : ∀ t, own_s p e below s₁ m 9 #[rv o, iv p1, rv cc, iv p3, iv p4] [(.int p4), (.ref cc), (.int p1), (.ref o)] t → Steps p.tables e below S0 t := by
      intro tX kX
      refine pre1 _ ?_
      show own_s p e below s₁ m 1 #[rv o, iv p1, rv cc, iv p3, iv p4] [(.int p3)] _
      refine XS.ifNo X0.here hx rfl (hb hby d6_1) rfl ((if0 _ _).trans (feq hc2).1) ?_
      refine XS.aloadN X0.here hx rfl (hb hby d6_4) rfl rfl ?_
      refine XS.iloadN X0.here hx rfl (hb hby d6_5) rfl ?_
      show own_s p e below s₁ m 6 #[rv o, iv p1, rv cc, iv p3, iv p4] [(.int p1), (.ref o)] _
      refine XS.aloadN X0.here hx rfl (hb hby d6_6) rfl rfl ?_
      refine XS.iload X0.here hx rfl (hb hby d6_7) rfl ?_
      exact kX
    obtain ⟨cl4, Ar4, S4, M4, H4⟩ := id A_c
    have pre6 : ∀ t, own_s p e below s₁ m 10 #[rv o, iv p1, rv cc, iv p3, iv p4] [(.int (gc i)), (.int p1), (.ref o)] t → Steps p.tables e below S0 t := by
      intro tX kX
      refine pre5 _ ?_
      show own_s p e below s₁ m 9 #[rv o, iv p1, rv cc, iv p3, iv p4] [(.int p4), (.ref cc), (.int p1), (.ref o)] _
      refine X0.caload hx (j := p4) (v := (.int (gc i))) (by rw [e0]; exact Ar4.1) (State.isArrayOf_alike hZ.alike Ar4.2.1) Ar4.2.2 (own_inb S4 M4 (own_idx (by omega) (by omega))) (own_get H4 S4 (own_idx (by omega) (by omega)) (by show Value.int (gc p4.toNatClampNeg) = _; rw [own_nat hi])) (g := (mkF m 9 #[rv o, iv p1, rv cc, iv p3, iv p4] [(.int p4), (.ref cc), (.int p1), (.ref o)])) rfl rfl (hb hby d6_9) _ ?_
      exact kX
    obtain ⟨cl7, Ar7, S7, M7, H7⟩ := id A_o
    obtain ⟨T8, h8, X8, e8, W8, st8⟩ := stC X0 hx hZ e0 Ar7 (j := p1) (own_inb S7 M7 (own_idx (by omega) (by omega))) (g := (mkF m 10 #[rv o, iv p1, rv cc, iv p3, iv p4] [(.int (gc i)), (.int p1), (.ref o)])) rfl rfl (hb hby d6_10)
    have pre9 : ∀ t, own_s p e below T8 m 11 #[rv o, iv p1, rv cc, iv p3, iv p4] [] t → Steps p.tables e below S0 t := fun tX kX => pre6 _ (st8 _ kX)
    obtain ⟨LL10, X10, N10⟩ : ∃ LL, Stand p l e ({ frames := 0, cells := 0, slots := 0, locals := 0 } : Room) s m #[(.ref o), (.int p1), (.ref cc), (.int p3), (.int p4)] below meth c T8 LL 0 0 ∧ Fr n0 LL := ⟨_, X8, Fr.snoc X8 N0 g_o⟩
    have f11_A : own_Af Z h8 cc .char 5 (fun j => .int (gc j)) := A_c.other W8 (Ne.symm ne_oc)
    have Z12 : n0 ≤ h8.size := Nat.le_trans Z0 (Keep.of_wr W8).1
    have K13 : Keep h0 h8 [o] := K0.wr W8 (Or.inl (List.mem_of_getElem? (i := 0) rfl))
    have f14_A : own_Af Z h8 o .char 5 (own_up (fun j => .int (go j)) p1.toNatClampNeg (.int (nar .char (gc i)))) := own_Af.set Ar7 S7 M7 H7 W8
    have f15_A : own_Af Z h8 o .char 5 (fun j => .int ((own_upi go P (gc i)) j)) := own_upA f14_A (own_up_eq rfl (own_nat hP) (own_narc (B_c i)))
    have pre16 : ∀ t, own_s p e below T8 m 14 #[rv o, iv p1, rv cc, iv p3, iv p4] [(.int (p1 + (1 : Int32)))] t → Steps p.tables e below S0 t := by
      intro tX kX
      refine pre9 _ ?_
      show own_s p e below T8 m 11 #[rv o, iv p1, rv cc, iv p3, iv p4] [] _
      refine XS.iloadN X10.here hx rfl (hb hby d6_11) rfl ?_
      refine XS.iconst X10.here hx rfl (hb hby d6_12) ?_
      refine XS.iadd X10.here hx rfl (hb hby d6_13) rfl ?_
      exact kX
    subst hS0
    obtain ⟨fsX, hr, hrun, hended, hW, hsame⟩ := X10.leave (v := (some (.int (p1 + (1 : Int32))))) (fun h => by rw [Bd.returns] at h; cases h)
    refine ⟨_, _, pre16 _ (retI X10 hx Bd.returns (hb hby d6_14) hr), hrun, hended, _, _, rfl, ?_, ⟨_, rfl⟩, hW, hsame.mono (by decide) (by decide)⟩
    show Q6 Z o p1 cc p3 p4 go gc P kb i h0 n0 (some (.int (p1 + (1 : Int32)))) T8.heap _
    have kk := own_bi1 (hk ▸ hc2)
    subst kk
    rw [e8]
    exact ⟨⟨_, rfl, own_addN hP rfl (by omega)⟩, N10, K13, f15_A⟩
theorem d7_0 : decode prog_157_method_6_code 0 = .ok (.aload_n 0, 1) := by decide +kernel
theorem d7_1 : decode prog_157_method_6_code 1 = .ok (.getfield 42, 3) := by decide +kernel
theorem d7_4 : decode prog_157_method_6_code 4 = .ok (.ireturn, 1) := by decide +kernel
theorem pn_7 : plainName "com/example/weaverbird/weaverbird/model/xml/Attributes" = true := by first | (simp [plainName, overriddenIn]; done) | decide +kernel
theorem ef_7 (m : MethodId) (a : Addr) : entryFrame m #[(.ref a)] 1 = mkF m 0 #[rv a] [] := by first | (simp [entryFrame, mkF, argsToLocals, Value.category]; done) | rfl
def Q7 (Z : State) (a : Addr) (ct : Int32) (h0 : Heap) (n0 : Nat) (v : Option Value) (h : Heap) (L : List Loc) : Prop := v = some (.int ct) ∧ Fr n0 L ∧ h = h0
set_option maxRecDepth 65536 in
set_option maxHeartbeats 40000000 in
theorem rm7 (l : Launch) (Z : State) (a0 : Array Value) (hw : ∀ d ∈ tables_1, d.before a0 Z = true) (ws : List Jvm.Cond) (a : Addr) (ct : Int32) (h0 : Heap) (n0 : Nat) (Z0 : n0 ≤ h0.size) (F_ct : Fld Z h0 a "com/example/weaverbird/weaverbird/model/xml/Attributes" "count" "I" (.int ct)) :
    MetFree l (⟨"com/example/weaverbird/weaverbird/model/xml/Attributes", "count", "()I"⟩ : MethodName) (head1 (Jvm.Cond.code (⟨"com/example/weaverbird/weaverbird/model/xml/Attributes", "count", "()I"⟩ : MethodName) prog_157_method_6_code 1 (some .int) :: ws) ({ frames := 0, cells := 0, slots := 0, locals := 0 } : Room)) (fun aX UX => aX = #[(.ref a)] ∧ Z.Warmed39 UX.vm ∧ UX.heap = h0) (fun _ _ _ _ _ => True) (fun _ UX oX UY => ∃ vX LX, oX = .returned vX ∧ Q7 Z a ct h0 n0 vX UY.heap LX ∧ FrameEnd UX oX UY LX ({ frames := 0, cells := 0, slots := 0, locals := 0 } : Room).cells ({ frames := 0, cells := 0, slots := 0, locals := 0 } : Room).slots) := by
  refine MetFree.of_bodySF (plainFor_of_name pn_7) hisR ?_
  intro p e s m args below meth c s₁ Bd hml0 hPX hKX
  obtain ⟨rfl, hZ, hh⟩ := hPX
  have hx := Bd.exec
  have hby := Bd.bytes
  have hml : c.maxLocals = 1 := hml0
  have hown : s.vm.findClass "com/example/weaverbird/weaverbird/model/xml/Attributes" = some m.cls := findClass_of_methodNamed Bd.named
  have hnm := (name_of_methodNamed Bd.named Bd.method).1
  have X0 : Stand p l e ({ frames := 0, cells := 0, slots := 0, locals := 0 } : Room) s m #[(.ref a)] below meth c s₁ [] 0 0 := Stand.of_body Bd
  have e0 : s₁.heap = h0 := by rw [← hh, Bd.state]; rfl
  have N0 := Fr.nil n0
  have pre0 : ∀ t, Steps p.tables e below (s₁.setTop (mkF m 0 #[rv a] [])) t → Steps p.tables e below (s₁.setTop (entryFrame m #[(.ref a)] 1)) t := fun t k => castTop (ef_7 m a) k
  obtain ⟨S0, hS0⟩ : ∃ z, z = (s₁.setTop (entryFrame m #[(.ref a)] 1)) := ⟨_, rfl⟩
  rw [← hS0] at pre0
  have pre1 : ∀ t, own_s p e below s₁ m 1 #[rv a] [(.ref a)] t → Steps p.tables e below S0 t := by
    intro tX kX
    refine pre0 _ ?_
    show own_s p e below s₁ m 0 #[rv a] [] _
    refine XS.aloadN X0.here hx rfl (hb hby d7_0) rfl rfl ?_
    exact kX
  obtain ⟨T2, X2, e2, st2⟩ := getF X0 hx hZ hown (host := "") (Or.inl (hw _ (List.mem_of_getElem? (i := 45) rfl))) Via.refl e0 F_ct (g := (mkF m 1 #[rv a] [(.ref a)])) rfl rfl (hb hby d7_1)
  have pre3 : ∀ t, own_s p e below T2 m 4 #[rv a] [(.int ct)] t → Steps p.tables e below S0 t := fun tX kX => pre1 _ (st2 _ kX)
  subst hS0
  obtain ⟨fsX, hr, hrun, hended, hW, hsame⟩ := X2.leave (v := (some (.int ct))) (fun h => by rw [Bd.returns] at h; cases h)
  refine ⟨_, _, pre3 _ (retI X2 hx Bd.returns (hb hby d7_4) hr), hrun, hended, _, _, rfl, ?_, ⟨_, rfl⟩, hW, hsame.mono (by decide) (by decide)⟩
  show Q7 Z a ct h0 n0 (some (.int ct)) T2.heap _
  exact ⟨rfl, N0, e2⟩
theorem d8_0 : decode prog_157_method_23_code 0 = .ok (.aload_n 0, 1) := by decide +kernel
theorem d8_1 : decode prog_157_method_23_code 1 = .ok (.getfield 35, 3) := by decide +kernel
theorem d8_4 : decode prog_157_method_23_code 4 = .ok (.arraylength, 1) := by decide +kernel
theorem d8_5 : decode prog_157_method_23_code 5 = .ok (.aload_n 0, 1) := by decide +kernel
theorem d8_6 : decode prog_157_method_23_code 6 = .ok (.getfield 52, 3) := by decide +kernel
theorem d8_9 : decode prog_157_method_23_code 9 = .ok (.isub, 1) := by decide +kernel
theorem d8_10 : decode prog_157_method_23_code 10 = .ok (.iload_n 1, 1) := by decide +kernel
theorem d8_11 : decode prog_157_method_23_code 11 = .ok (.if_icmp .ge 30, 3) := by decide +kernel
theorem d8_41 : decode prog_157_method_23_code 41 = .ok (.return_, 1) := by decide +kernel
theorem pn_8 : plainName "com/example/weaverbird/weaverbird/model/xml/Attributes" = true := by first | (simp [plainName, overriddenIn]; done) | decide +kernel
theorem ef_8 (m : MethodId) (a : Addr) (p1 : Int32) : entryFrame m #[(.ref a), (.int p1)] 2 = mkF m 0 #[rv a, iv p1] [] := by first | (simp [entryFrame, mkF, argsToLocals, Value.category]; done) | rfl
def Q8 (Z : State) (a : Addr) (p1 : Int32) (vl : Addr) (vn : Int32) (f : Nat → Value) (V : Nat) (n : Nat) (h0 : Heap) (n0 : Nat) (v : Option Value) (h : Heap) (L : List Loc) : Prop := v = none ∧ Fr n0 L ∧ h = h0
set_option maxRecDepth 65536 in
set_option maxHeartbeats 40000000 in
theorem rm8 (l : Launch) (Z : State) (a0 : Array Value) (hw : ∀ d ∈ tables_1, d.before a0 Z = true) (ws : List Jvm.Cond) (a : Addr) (p1 : Int32) (vl : Addr) (vn : Int32) (f : Nat → Value) (V : Nat) (n : Nat) (h0 : Heap) (n0 : Nat) (Z0 : n0 ≤ h0.size) (F_vl : Fld Z h0 a "com/example/weaverbird/weaverbird/model/xml/Attributes" "values" "[C" (.ref vl)) (F_vn : Fld Z h0 a "com/example/weaverbird/weaverbird/model/xml/Attributes" "valuesLength" "I" (.int vn)) (A_vl : own_Af Z h0 vl .char 256 f) (hV : vn.toInt = V) (hn : p1.toInt = n) (hVn : V + n ≤ 256) :
    MetFree l (⟨"com/example/weaverbird/weaverbird/model/xml/Attributes", "room", "(I)V"⟩ : MethodName) (head1 (Jvm.Cond.code (⟨"com/example/weaverbird/weaverbird/model/xml/Attributes", "room", "(I)V"⟩ : MethodName) prog_157_method_23_code 2 none :: ws) ({ frames := 0, cells := 0, slots := 0, locals := 0 } : Room)) (fun aX UX => aX = #[(.ref a), (.int p1)] ∧ Z.Warmed39 UX.vm ∧ UX.heap = h0) (fun _ _ _ _ _ => True) (fun _ UX oX UY => ∃ vX LX, oX = .returned vX ∧ Q8 Z a p1 vl vn f V n h0 n0 vX UY.heap LX ∧ FrameEnd UX oX UY LX ({ frames := 0, cells := 0, slots := 0, locals := 0 } : Room).cells ({ frames := 0, cells := 0, slots := 0, locals := 0 } : Room).slots) := by
  refine MetFree.of_bodySF (plainFor_of_name pn_8) hisR ?_
  intro p e s m args below meth c s₁ Bd hml0 hPX hKX
  obtain ⟨rfl, hZ, hh⟩ := hPX
  have hx := Bd.exec
  have hby := Bd.bytes
  have hml : c.maxLocals = 2 := hml0
  have hown : s.vm.findClass "com/example/weaverbird/weaverbird/model/xml/Attributes" = some m.cls := findClass_of_methodNamed Bd.named
  have hnm := (name_of_methodNamed Bd.named Bd.method).1
  have X0 : Stand p l e ({ frames := 0, cells := 0, slots := 0, locals := 0 } : Room) s m #[(.ref a), (.int p1)] below meth c s₁ [] 0 0 := Stand.of_body Bd
  have e0 : s₁.heap = h0 := by rw [← hh, Bd.state]; rfl
  have N0 := Fr.nil n0
  have pre0 : ∀ t, Steps p.tables e below (s₁.setTop (mkF m 0 #[rv a, iv p1] [])) t → Steps p.tables e below (s₁.setTop (entryFrame m #[(.ref a), (.int p1)] 2)) t := fun t k => castTop (ef_8 m a p1) k
  obtain ⟨S0, hS0⟩ : ∃ z, z = (s₁.setTop (entryFrame m #[(.ref a), (.int p1)] 2)) := ⟨_, rfl⟩
  rw [← hS0] at pre0
  have d1 := c_isub (256 : Int32) vn
  have d2 := rng32 ((256 : Int32) - vn)
  have d3 : (256 : Int32).toInt = 256 := rfl
  have pre1 : ∀ t, own_s p e below s₁ m 1 #[rv a, iv p1] [(.ref a)] t → Steps p.tables e below S0 t := by
    intro tX kX
    refine pre0 _ ?_
    show own_s p e below s₁ m 0 #[rv a, iv p1] [] _
    refine XS.aloadN X0.here hx rfl (hb hby d8_0) rfl rfl ?_
    exact kX
  obtain ⟨T2, X2, e2, st2⟩ := getF X0 hx hZ hown (host := "") (Or.inl (hw _ (List.mem_of_getElem? (i := 36) rfl))) Via.refl e0 F_vl (g := (mkF m 1 #[rv a, iv p1] [(.ref a)])) rfl rfl (hb hby d8_1)
  have pre3 : ∀ t, own_s p e below T2 m 4 #[rv a, iv p1] [(.ref vl)] t → Steps p.tables e below S0 t := fun tX kX => pre1 _ (st2 _ kX)
  obtain ⟨cl4, Ar4, S4, M4, H4⟩ := id A_vl
  have pre5 : ∀ t, own_s p e below T2 m 6 #[rv a, iv p1] [(.ref a), (.int (256 : Int32))] t → Steps p.tables e below S0 t := by
    intro tX kX
    refine pre3 _ ?_
    show own_s p e below T2 m 4 #[rv a, iv p1] [(.ref vl)] _
    refine X2.arraylength hx (by rw [e2]; exact Ar4.1) (State.isArrayOf_alike hZ.alike Ar4.2.1) (g := (mkF m 4 #[rv a, iv p1] [(.ref vl)])) rfl rfl (hb hby d8_4) _ ?_
    rw [show cl4.slots.size.toInt32 = (256 : Int32) from (congrArg Nat.toInt32 S4).trans (rfl)]
    refine XS.aloadN X2.here hx rfl (hb hby d8_5) rfl rfl ?_
    exact kX
  obtain ⟨T6, X6, e6, st6⟩ := getF X2 hx hZ hown (host := "") (Or.inl (hw _ (List.mem_of_getElem? (i := 47) rfl))) Via.refl e2 F_vn (g := (mkF m 6 #[rv a, iv p1] [(.ref a), (.int (256 : Int32))])) rfl rfl (hb hby d8_6)
  have pre7 : ∀ t, own_s p e below T6 m 9 #[rv a, iv p1] [(.int vn), (.int (256 : Int32))] t → Steps p.tables e below S0 t := fun tX kX => pre5 _ (st6 _ kX)
  have pre8 : ∀ t, own_s p e below T6 m 41 #[rv a, iv p1] [] t → Steps p.tables e below S0 t := by
    intro tX kX
    refine pre7 _ ?_
    show own_s p e below T6 m 9 #[rv a, iv p1] [(.int vn), (.int (256 : Int32))] _
    refine XS.isub X6.here hx rfl (hb hby d8_9) rfl ?_
    refine XS.iloadN X6.here hx rfl (hb hby d8_10) rfl ?_
    refine XS.icmpYes X6.here hx rfl (pc0 := 11) (pc' := 41) rfl (hb hby d8_11) rfl (flt (show ¬ (((256 : Int32) - vn) < p1) from fun q => absurd (show (((256 : Int32) - vn)).toInt < (p1).toInt from Int32.lt_iff_toInt_lt.mp q) (by omega))).2.1 (by decide) (by decide) ?_
    exact kX
  subst hS0
  obtain ⟨fsX, hr, hrun, hended, hW, hsame⟩ := X6.leave (v := none) (fun _ => rfl)
  refine ⟨_, _, pre8 _ (X6.returnOut hx Bd.returns (hb hby d8_41) hr), hrun, hended, _, _, rfl, ?_, ⟨_, rfl⟩, hW, hsame.mono (by decide) (by decide)⟩
  show Q8 Z a p1 vl vn f V n h0 n0 none T6.heap _
  exact ⟨rfl, N0, e6⟩
theorem d9_0 : decode jdk_41_method_13_code 0 = .ok (.iload_n 2, 1) := by decide +kernel
theorem d9_1 : decode jdk_41_method_13_code 1 = .ok (.iload_n 0, 1) := by decide +kernel
theorem d9_2 : decode jdk_41_method_13_code 2 = .ok (.ior, 1) := by decide +kernel
theorem d9_3 : decode jdk_41_method_13_code 3 = .ok (.iload_n 1, 1) := by decide +kernel
theorem d9_4 : decode jdk_41_method_13_code 4 = .ok (.ior, 1) := by decide +kernel
theorem d9_5 : decode jdk_41_method_13_code 5 = .ok (.ifCond .lt 10, 3) := by decide +kernel
theorem d9_8 : decode jdk_41_method_13_code 8 = .ok (.iload_n 1, 1) := by decide +kernel
theorem d9_9 : decode jdk_41_method_13_code 9 = .ok (.iload_n 2, 1) := by decide +kernel
theorem d9_10 : decode jdk_41_method_13_code 10 = .ok (.iload_n 0, 1) := by decide +kernel
theorem d9_11 : decode jdk_41_method_13_code 11 = .ok (.isub, 1) := by decide +kernel
theorem d9_12 : decode jdk_41_method_13_code 12 = .ok (.if_icmp .le 11, 3) := by decide +kernel
theorem d9_23 : decode jdk_41_method_13_code 23 = .ok (.iload_n 0, 1) := by decide +kernel
theorem d9_24 : decode jdk_41_method_13_code 24 = .ok (.ireturn, 1) := by decide +kernel
theorem pn_9 : plainName "jdk/internal/util/Preconditions" = true := by first | (simp [plainName, overriddenIn]; done) | decide +kernel
theorem ef_9 (m : MethodId) (p0 : Int32) (p1 : Int32) (p2 : Int32) (w : Value) (hv : w.isRef = true) : entryFrame m #[(.int p0), (.int p1), (.int p2), w] 4 = mkF m 0 #[iv p0, iv p1, iv p2, .val w] [] := by
  rcases ref_cases hv with rfl | ⟨_, rfl⟩ <;> first | (simp [entryFrame, mkF, argsToLocals, Value.category]; done) | rfl
def Q9 (Z : State) (p0 : Int32) (p1 : Int32) (p2 : Int32) (w : Value) (h0 : Heap) (n0 : Nat) (v : Option Value) (h : Heap) (L : List Loc) : Prop := v = some (.int p0) ∧ Fr n0 L ∧ h = h0
set_option maxRecDepth 65536 in
set_option maxHeartbeats 40000000 in
theorem rm9 (l : Launch) (Z : State) (a0 : Array Value) (hw : ∀ d ∈ tables_1, d.before a0 Z = true) (ws : List Jvm.Cond) (p0 : Int32) (p1 : Int32) (p2 : Int32) (w : Value) (h0 : Heap) (n0 : Nat) (Z0 : n0 ≤ h0.size) (hv : w.isRef = true) (h0' : 0 ≤ p0.toInt) (h1' : 0 ≤ p1.toInt) (h2' : p0.toInt + p1.toInt ≤ p2.toInt) :
    MetFree l (⟨"jdk/internal/util/Preconditions", "checkFromIndexSize", "(IIILjava/util/function/BiFunction;)I"⟩ : MethodName) (head1 (Jvm.Cond.code (⟨"jdk/internal/util/Preconditions", "checkFromIndexSize", "(IIILjava/util/function/BiFunction;)I"⟩ : MethodName) jdk_41_method_13_code 4 (some .int) :: ws) ({ frames := 0, cells := 0, slots := 0, locals := 0 } : Room)) (fun aX UX => aX = #[(.int p0), (.int p1), (.int p2), w] ∧ Z.Warmed39 UX.vm ∧ UX.heap = h0) (fun _ _ _ _ _ => True) (fun _ UX oX UY => ∃ vX LX, oX = .returned vX ∧ Q9 Z p0 p1 p2 w h0 n0 vX UY.heap LX ∧ FrameEnd UX oX UY LX ({ frames := 0, cells := 0, slots := 0, locals := 0 } : Room).cells ({ frames := 0, cells := 0, slots := 0, locals := 0 } : Room).slots) := by
  refine MetFree.of_bodySF (plainFor_of_name pn_9) hisR ?_
  intro p e s m args below meth c s₁ Bd hml0 hPX hKX
  obtain ⟨rfl, hZ, hh⟩ := hPX
  have hx := Bd.exec
  have hby := Bd.bytes
  have hml : c.maxLocals = 4 := hml0
  have hown : s.vm.findClass "jdk/internal/util/Preconditions" = some m.cls := findClass_of_methodNamed Bd.named
  have hnm := (name_of_methodNamed Bd.named Bd.method).1
  have X0 : Stand p l e ({ frames := 0, cells := 0, slots := 0, locals := 0 } : Room) s m #[(.int p0), (.int p1), (.int p2), w] below meth c s₁ [] 0 0 := Stand.of_body Bd
  have e0 : s₁.heap = h0 := by rw [← hh, Bd.state]; rfl
  have N0 := Fr.nil n0
  have pre0 : ∀ t, Steps p.tables e below (s₁.setTop (mkF m 0 #[iv p0, iv p1, iv p2, .val w] [])) t → Steps p.tables e below (s₁.setTop (entryFrame m #[(.int p0), (.int p1), (.int p2), w] 4)) t := fun t k => castTop (ef_9 m p0 p1 p2 w hv) k
  obtain ⟨S0, hS0⟩ : ∃ z, z = (s₁.setTop (entryFrame m #[(.int p0), (.int p1), (.int p2), w] 4)) := ⟨_, rfl⟩
  rw [← hS0] at pre0
  have d1 := (c_orS p2 p0).1 (by omega) (by omega)
  have d2 := (c_orS (p2 ||| p0) p1).1 (by omega) (by omega)
  have d3 := c_isub p2 p0
  have d4 := rng32 (p2 - p0)
  have d5 := rng32 p2
  have pre1 : ∀ t, own_s p e below s₁ m 24 #[iv p0, iv p1, iv p2, .val w] [(.int p0)] t → Steps p.tables e below S0 t := by
    intro tX kX
    refine pre0 _ ?_
    show own_s p e below s₁ m 0 #[iv p0, iv p1, iv p2, .val w] [] _
    refine XS.iloadN X0.here hx rfl (hb hby d9_0) rfl ?_
    refine XS.iloadN X0.here hx rfl (hb hby d9_1) rfl ?_
    refine XS.ior X0.here hx rfl (hb hby d9_2) rfl ?_
    show own_s p e below s₁ m 3 #[iv p0, iv p1, iv p2, .val w] [(.int (p2 ||| p0))] _
    refine XS.iloadN X0.here hx rfl (hb hby d9_3) rfl ?_
    refine XS.ior X0.here hx rfl (hb hby d9_4) rfl ?_
    refine XS.ifNo X0.here hx rfl (hb hby d9_5) rfl ((if0 _ _).trans (flt (show ¬ (((p2 ||| p0) ||| p1) < (0 : Int32)) from fun q => absurd (show (((p2 ||| p0) ||| p1)).toInt < (0 : Int) from Int32.lt_iff_toInt_lt.mp q) (by omega))).1) ?_
    show own_s p e below s₁ m 8 #[iv p0, iv p1, iv p2, .val w] [] _
    refine XS.iloadN X0.here hx rfl (hb hby d9_8) rfl ?_
    refine XS.iloadN X0.here hx rfl (hb hby d9_9) rfl ?_
    refine XS.iloadN X0.here hx rfl (hb hby d9_10) rfl ?_
    show own_s p e below s₁ m 11 #[iv p0, iv p1, iv p2, .val w] [(.int p0), (.int p2), (.int p1)] _
    refine XS.isub X0.here hx rfl (hb hby d9_11) rfl ?_
    refine XS.icmpYes X0.here hx rfl (pc0 := 12) (pc' := 23) rfl (hb hby d9_12) rfl (flt (show ¬ ((p2 - p0) < p1) from fun q => absurd (show ((p2 - p0)).toInt < (p1).toInt from Int32.lt_iff_toInt_lt.mp q) (by omega))).2.2.2 (by decide) (by decide) ?_
    refine XS.iloadN X0.here hx rfl (hb hby d9_23) rfl ?_
    exact kX
  subst hS0
  obtain ⟨fsX, hr, hrun, hended, hW, hsame⟩ := X0.leave (v := (some (.int p0))) (fun h => by rw [Bd.returns] at h; cases h)
  refine ⟨_, _, pre1 _ (retI X0 hx Bd.returns (hb hby d9_24) hr), hrun, hended, _, _, rfl, ?_, ⟨_, rfl⟩, hW, hsame.mono (by decide) (by decide)⟩
  show Q9 Z p0 p1 p2 w h0 n0 (some (.int p0)) s₁.heap _
  exact ⟨rfl, N0, e0⟩
theorem d10_0 : decode jdk_42_method_157_code 0 = .ok (.iload_n 0, 1) := by decide +kernel
theorem d10_1 : decode jdk_42_method_157_code 1 = .ok (.iload_n 1, 1) := by decide +kernel
theorem d10_2 : decode jdk_42_method_157_code 2 = .ok (.iload_n 2, 1) := by decide +kernel
theorem d10_3 : decode jdk_42_method_157_code 3 = .ok (.getstatic 1053, 3) := by decide +kernel
theorem d10_6 : decode jdk_42_method_157_code 6 = .ok (.invokestatic 1065, 3) := by decide +kernel
theorem d10_9 : decode jdk_42_method_157_code 9 = .ok (.ireturn, 1) := by decide +kernel
theorem pn_10 : plainName "java/lang/String" = true := by first | (simp [plainName, overriddenIn]; done) | decide +kernel
theorem pd10_0 : parseMethodDescriptor "(IIILjava/util/function/BiFunction;)I" = some ⟨[.int, .int, .int, (.object "java/util/function/BiFunction")], some .int⟩ := by decide +kernel
theorem ef_10 (m : MethodId) (p0 : Int32) (p1 : Int32) (p2 : Int32) : entryFrame m #[(.int p0), (.int p1), (.int p2)] 3 = mkF m 0 #[iv p0, iv p1, iv p2] [] := by first | (simp [entryFrame, mkF, argsToLocals, Value.category]; done) | rfl
def Q10 (Z : State) (p0 : Int32) (p1 : Int32) (p2 : Int32) (w : Value) (cs : Int32) (h0 : Heap) (n0 : Nat) (v : Option Value) (h : Heap) (L : List Loc) : Prop := v = some (.int p0) ∧ Fr n0 L ∧ h = h0
set_option maxRecDepth 65536 in
set_option maxHeartbeats 40000000 in
theorem rm10 (l : Launch) (Z : State) (a0 : Array Value) (hw : ∀ d ∈ tables_1, d.before a0 Z = true) (ws : List Jvm.Cond) (p0 : Int32) (p1 : Int32) (p2 : Int32) (w : Value) (cs : Int32) (h0 : Heap) (n0 : Nat) (Z0 : n0 ≤ h0.size) (hv : w.isRef = true) (S_s : own_Ss Z h0 w cs) (h0' : 0 ≤ p0.toInt) (h1' : 0 ≤ p1.toInt) (h2' : p0.toInt + p1.toInt ≤ p2.toInt) :
    MetFree l (⟨"java/lang/String", "checkBoundsOffCount", "(III)I"⟩ : MethodName) (head1 (Jvm.Cond.code (⟨"java/lang/String", "checkBoundsOffCount", "(III)I"⟩ : MethodName) jdk_42_method_157_code 3 (some .int) :: ws) ({ frames := 1, cells := 0, slots := 0, locals := 15 } : Room)) (fun aX UX => aX = #[(.int p0), (.int p1), (.int p2)] ∧ Z.Warmed39 UX.vm ∧ UX.heap = h0) (fun _ _ _ _ _ => True) (fun _ UX oX UY => ∃ vX LX, oX = .returned vX ∧ Q10 Z p0 p1 p2 w cs h0 n0 vX UY.heap LX ∧ FrameEnd UX oX UY LX ({ frames := 1, cells := 0, slots := 0, locals := 15 } : Room).cells ({ frames := 1, cells := 0, slots := 0, locals := 15 } : Room).slots) := by
  refine MetFree.of_bodySF (plainFor_of_name pn_10) hisR ?_
  intro p e s m args below meth c s₁ Bd hml0 hPX hKX
  obtain ⟨rfl, hZ, hh⟩ := hPX
  have hx := Bd.exec
  have hby := Bd.bytes
  have hml : c.maxLocals = 3 := hml0
  have hown : s.vm.findClass "java/lang/String" = some m.cls := findClass_of_methodNamed Bd.named
  have hnm := (name_of_methodNamed Bd.named Bd.method).1
  have X0 : Stand p l e ({ frames := 1, cells := 0, slots := 0, locals := 15 } : Room) s m #[(.int p0), (.int p1), (.int p2)] below meth c s₁ [] 0 0 := Stand.of_body Bd
  have e0 : s₁.heap = h0 := by rw [← hh, Bd.state]; rfl
  have N0 := Fr.nil n0
  have pre0 : ∀ t, Steps p.tables e below (s₁.setTop (mkF m 0 #[iv p0, iv p1, iv p2] [])) t → Steps p.tables e below (s₁.setTop (entryFrame m #[(.int p0), (.int p1), (.int p2)] 3)) t := fun t k => castTop (ef_10 m p0 p1 p2) k
  obtain ⟨S0, hS0⟩ : ∃ z, z = (s₁.setTop (entryFrame m #[(.int p0), (.int p1), (.int p2)] 3)) := ⟨_, rfl⟩
  rw [← hS0] at pre0
  have pre1 : ∀ t, own_s p e below s₁ m 3 #[iv p0, iv p1, iv p2] [(.int p2), (.int p1), (.int p0)] t → Steps p.tables e below S0 t := by
    intro tX kX
    refine pre0 _ ?_
    show own_s p e below s₁ m 0 #[iv p0, iv p1, iv p2] [] _
    refine XS.iloadN X0.here hx rfl (hb hby d10_0) rfl ?_
    refine XS.iloadN X0.here hx rfl (hb hby d10_1) rfl ?_
    refine XS.iloadN X0.here hx rfl (hb hby d10_2) rfl ?_
    exact kX
  obtain ⟨T2, X2, e2, st2⟩ := getS2 X0 hx hZ hown (host := "") (Or.inl (hw _ (List.mem_of_getElem? (i := 101) rfl))) Via.refl e0 S_s.1 (g := (mkF m 3 #[iv p0, iv p1, iv p2] [(.int p2), (.int p1), (.int p0)])) rfl (hb hby d10_3)
  have pre3 : ∀ t, own_s p e below T2 m 6 #[iv p0, iv p1, iv p2] [w, (.int p2), (.int p1), (.int p0)] t → Steps p.tables e below S0 t := fun tX kX => pre1 _ (st2 _ kX)
  obtain ⟨_, _, ⟨T4, L4, k4, n4⟩, -, X4, ⟨Lc4, hQ4, l4, y4, z4⟩, st4⟩ := Jvm.LawKit.callS X2 hx (y := (⟨"jdk/internal/util/Preconditions", "checkFromIndexSize", "(IIILjava/util/function/BiFunction;)I"⟩ : MethodName)) hown (mvT hZ (hw _ (List.mem_of_getElem? (i := 103) rfl))) (mvT hZ (hw _ (List.mem_of_getElem? (i := 104) rfl))) (mvT hZ (hw _ (List.mem_of_getElem? (i := 102) rfl))) (mvT hZ (hw _ (List.mem_of_getElem? (i := 105) rfl))) (by decide) (backOf (W := 0) (rm9 l Z a0 hw [] p0 p1 p2 w  h0 n0 Z0 hv h0' h1' h2') hZ (hw _ (List.mem_of_getElem? (i := 105) rfl)) (hw _ (List.mem_of_getElem? (i := 102) rfl)) (by decide) (by decide)) (g := (mkF m 6 #[iv p0, iv p1, iv p2] [w, (.int p2), (.int p1), (.int p0)])) rfl (by rw [hml]; rfl) (argsL := [(.int p0), (.int p1), (.int p2), w]) (rest := []) (lenOf pd10_0 rfl) rfl (by show 2 * 0 + _ ≤ _; exact Nat.le_of_eq rfl) (hb hby d10_6) (fun _ _ => ⟨rfl, e2, (by decide : 0 + 0 ≤ _), (by decide : 0 + 0 ≤ _)⟩)
  dsimp only [Pt.U, Pt.locs, Pt.cells, Pt.slots] at X4 l4 y4 z4 st4 hQ4
  subst l4 y4 z4
  obtain ⟨rfl, Nq4, e4⟩ := hQ4
  have N4 := Fr.app N0 Nq4
  obtain ⟨LL5, X5, N5⟩ : ∃ LL, Stand p l e ({ frames := 1, cells := 0, slots := 0, locals := 15 } : Room) s m #[(.int p0), (.int p1), (.int p2)] below meth c T4 LL 0 0 ∧ Fr n0 LL := ⟨_, X4, N4⟩
  have pre6 : ∀ t, own_s p e below T4 m 9 #[iv p0, iv p1, iv p2] [(.int p0)] t → Steps p.tables e below S0 t := fun tX kX => pre3 _ (st4 _ kX)
  subst hS0
  obtain ⟨fsX, hr, hrun, hended, hW, hsame⟩ := X5.leave (v := (some (.int p0))) (fun h => by rw [Bd.returns] at h; cases h)
  refine ⟨_, _, pre6 _ (retI X5 hx Bd.returns (hb hby d10_9) hr), hrun, hended, _, _, rfl, ?_, ⟨_, rfl⟩, hW, hsame.mono (by decide) (by decide)⟩
  show Q10 Z p0 p1 p2 w cs h0 n0 (some (.int p0)) T4.heap _
  exact ⟨rfl, N5, e4⟩
theorem d11_0 : decode jdk_42_method_5_code 0 = .ok (.iload_n 1, 1) := by decide +kernel
theorem d11_1 : decode jdk_42_method_5_code 1 = .ok (.iload_n 2, 1) := by decide +kernel
theorem d11_2 : decode jdk_42_method_5_code 2 = .ok (.aload_n 0, 1) := by decide +kernel
theorem d11_3 : decode jdk_42_method_5_code 3 = .ok (.arraylength, 1) := by decide +kernel
theorem d11_4 : decode jdk_42_method_5_code 4 = .ok (.invokestatic 34, 3) := by decide +kernel
theorem d11_7 : decode jdk_42_method_5_code 7 = .ok (.pop, 1) := by decide +kernel
theorem d11_8 : decode jdk_42_method_5_code 8 = .ok (.aconst_null, 1) := by decide +kernel
theorem d11_9 : decode jdk_42_method_5_code 9 = .ok (.areturn, 1) := by decide +kernel
theorem pn_11 : plainName "java/lang/String" = true := by first | (simp [plainName, overriddenIn]; done) | decide +kernel
theorem pd11_0 : parseMethodDescriptor "(III)I" = some ⟨[.int, .int, .int], some .int⟩ := by decide +kernel
theorem ef_11 (m : MethodId) (cc : Addr) (p1 : Int32) (p2 : Int32) : entryFrame m #[(.ref cc), (.int p1), (.int p2)] 3 = mkF m 0 #[rv cc, iv p1, iv p2] [] := by first | (simp [entryFrame, mkF, argsToLocals, Value.category]; done) | rfl
def Q11 (Z : State) (cc : Addr) (p1 : Int32) (p2 : Int32) (f : Nat → Value) (w : Value) (cs : Int32) (h0 : Heap) (n0 : Nat) (v : Option Value) (h : Heap) (L : List Loc) : Prop := v = some .null ∧ Fr n0 L ∧ h = h0
set_option maxRecDepth 65536 in
set_option maxHeartbeats 40000000 in
theorem rm11 (l : Launch) (Z : State) (a0 : Array Value) (hw : ∀ d ∈ tables_1, d.before a0 Z = true) (ws : List Jvm.Cond) (cc : Addr) (p1 : Int32) (p2 : Int32) (f : Nat → Value) (w : Value) (cs : Int32) (h0 : Heap) (n0 : Nat) (Z0 : n0 ≤ h0.size) (hv : w.isRef = true) (S_s : own_Ss Z h0 w cs) (A_c : own_Af Z h0 cc .char 256 f) (h0' : 0 ≤ p1.toInt) (h1' : 0 ≤ p2.toInt) (h2' : p1.toInt + p2.toInt ≤ 256) :
    MetFree l (⟨"java/lang/String", "rangeCheck", "([CII)Ljava/lang/Void;"⟩ : MethodName) (head1 (Jvm.Cond.code (⟨"java/lang/String", "rangeCheck", "([CII)Ljava/lang/Void;"⟩ : MethodName) jdk_42_method_5_code 3 (some (.object "java/lang/Void")) :: ws) ({ frames := 2, cells := 0, slots := 0, locals := 30 } : Room)) (fun aX UX => aX = #[(.ref cc), (.int p1), (.int p2)] ∧ Z.Warmed39 UX.vm ∧ UX.heap = h0) (fun _ _ _ _ _ => True) (fun _ UX oX UY => ∃ vX LX, oX = .returned vX ∧ Q11 Z cc p1 p2 f w cs h0 n0 vX UY.heap LX ∧ FrameEnd UX oX UY LX ({ frames := 2, cells := 0, slots := 0, locals := 30 } : Room).cells ({ frames := 2, cells := 0, slots := 0, locals := 30 } : Room).slots) := by
  refine MetFree.of_bodySF (plainFor_of_name pn_11) hisR ?_
  intro p e s m args below meth c s₁ Bd hml0 hPX hKX
  obtain ⟨rfl, hZ, hh⟩ := hPX
  have hx := Bd.exec
  have hby := Bd.bytes
  have hml : c.maxLocals = 3 := hml0
  have hown : s.vm.findClass "java/lang/String" = some m.cls := findClass_of_methodNamed Bd.named
  have hnm := (name_of_methodNamed Bd.named Bd.method).1
  have X0 : Stand p l e ({ frames := 2, cells := 0, slots := 0, locals := 30 } : Room) s m #[(.ref cc), (.int p1), (.int p2)] below meth c s₁ [] 0 0 := Stand.of_body Bd
  have e0 : s₁.heap = h0 := by rw [← hh, Bd.state]; rfl
  have N0 := Fr.nil n0
  have pre0 : ∀ t, Steps p.tables e below (s₁.setTop (mkF m 0 #[rv cc, iv p1, iv p2] [])) t → Steps p.tables e below (s₁.setTop (entryFrame m #[(.ref cc), (.int p1), (.int p2)] 3)) t := fun t k => castTop (ef_11 m cc p1 p2) k
  obtain ⟨S0, hS0⟩ : ∃ z, z = (s₁.setTop (entryFrame m #[(.ref cc), (.int p1), (.int p2)] 3)) := ⟨_, rfl⟩
  rw [← hS0] at pre0
  have pre2 : ∀ t, own_s p e below s₁ m 3 #[rv cc, iv p1, iv p2] [(.ref cc), (.int p2), (.int p1)] t → Steps p.tables e below S0 t := by
    intro tX kX
    refine pre0 _ ?_
    show own_s p e below s₁ m 0 #[rv cc, iv p1, iv p2] [] _
    refine XS.iloadN X0.here hx rfl (hb hby d11_0) rfl ?_
    refine XS.iloadN X0.here hx rfl (hb hby d11_1) rfl ?_
    refine XS.aloadN X0.here hx rfl (hb hby d11_2) rfl rfl ?_
    exact kX
  obtain ⟨cl1, Ar1, S1, M1, H1⟩ := id A_c
  have pre3 : ∀ t, own_s p e below s₁ m 4 #[rv cc, iv p1, iv p2] [(.int (256 : Int32)), (.int p2), (.int p1)] t → Steps p.tables e below S0 t := by
    intro tX kX
    refine pre2 _ ?_
    show own_s p e below s₁ m 3 #[rv cc, iv p1, iv p2] [(.ref cc), (.int p2), (.int p1)] _
    refine X0.arraylength hx (by rw [e0]; exact Ar1.1) (State.isArrayOf_alike hZ.alike Ar1.2.1) (g := (mkF m 3 #[rv cc, iv p1, iv p2] [(.ref cc), (.int p2), (.int p1)])) rfl rfl (hb hby d11_3) _ ?_
    rw [show cl1.slots.size.toInt32 = (256 : Int32) from (congrArg Nat.toInt32 S1).trans (rfl)]
    exact kX
  obtain ⟨_, _, ⟨T4, L4, k4, n4⟩, -, X4, ⟨Lc4, hQ4, l4, y4, z4⟩, st4⟩ := Jvm.LawKit.callS X0 hx (y := (⟨"java/lang/String", "checkBoundsOffCount", "(III)I"⟩ : MethodName)) hown (mvT hZ (hw _ (List.mem_of_getElem? (i := 98) rfl))) (mvT hZ (hw _ (List.mem_of_getElem? (i := 99) rfl))) (mvT hZ (hw _ (List.mem_of_getElem? (i := 50) rfl))) (mvT hZ (hw _ (List.mem_of_getElem? (i := 100) rfl))) (by decide) (backOf (W := 0) (rm10 l Z a0 hw [] p1 p2 (256 : Int32) w cs h0 n0 Z0 hv S_s h0' h1' h2') hZ (hw _ (List.mem_of_getElem? (i := 100) rfl)) (hw _ (List.mem_of_getElem? (i := 50) rfl)) (by decide) (by decide)) (g := (mkF m 4 #[rv cc, iv p1, iv p2] [(.int (256 : Int32)), (.int p2), (.int p1)])) rfl (by rw [hml]; rfl) (argsL := [(.int p1), (.int p2), (.int (256 : Int32))]) (rest := []) (lenOf pd11_0 rfl) rfl (by show 2 * 0 + _ ≤ _; exact Nat.le_of_eq rfl) (hb hby d11_4) (fun _ _ => ⟨rfl, e0, (by decide : 0 + 0 ≤ _), (by decide : 0 + 0 ≤ _)⟩)
  dsimp only [Pt.U, Pt.locs, Pt.cells, Pt.slots] at X4 l4 y4 z4 st4 hQ4
  subst l4 y4 z4
  obtain ⟨rfl, Nq4, e4⟩ := hQ4
  have N4 := Fr.app N0 Nq4
  obtain ⟨LL5, X5, N5⟩ : ∃ LL, Stand p l e ({ frames := 2, cells := 0, slots := 0, locals := 30 } : Room) s m #[(.ref cc), (.int p1), (.int p2)] below meth c T4 LL 0 0 ∧ Fr n0 LL := ⟨_, X4, N4⟩
  have pre6 : ∀ t, own_s p e below T4 m 7 #[rv cc, iv p1, iv p2] [(.int p1)] t → Steps p.tables e below S0 t := fun tX kX => pre3 _ (st4 _ kX)
  have pre7 : ∀ t, own_s p e below T4 m 9 #[rv cc, iv p1, iv p2] [.null] t → Steps p.tables e below S0 t := by
    intro tX kX
    refine pre6 _ ?_
    show own_s p e below T4 m 7 #[rv cc, iv p1, iv p2] [(.int p1)] _
    refine XS.pop X5.here hx rfl (hb hby d11_7) rfl rfl ?_
    refine XS.aconstNull X5.here hx rfl (hb hby d11_8) ?_
    exact kX
  subst hS0
  obtain ⟨fsX, hr, hrun, hended, hW, hsame⟩ := X5.leave (v := (some .null)) (fun h => by rw [Bd.returns] at h; cases h)
  refine ⟨_, _, pre7 _ (retOut X5 hx Bd.returns (own_narR rfl) (Or.inr (Or.inr (Or.inr (Or.inr ⟨rfl, rfl, rfl⟩)))) (hb hby d11_9) hr), hrun, hended, _, _, rfl, ?_, ⟨_, rfl⟩, hW, hsame.mono (by decide) (by decide)⟩
  show Q11 Z cc p1 p2 f w cs h0 n0 (some .null) T4.heap _
  exact ⟨rfl, N5, e4⟩
theorem d12_0 : decode jdk_52_method_15_code 0 = .ok (.iload_n 1, 1) := by decide +kernel
theorem d12_1 : decode jdk_52_method_15_code 1 = .ok (.aload_n 0, 1) := by decide +kernel
theorem d12_2 : decode jdk_52_method_15_code 2 = .ok (.arraylength, 1) := by decide +kernel
theorem d12_3 : decode jdk_52_method_15_code 3 = .ok (.isub, 1) := by decide +kernel
theorem d12_4 : decode jdk_52_method_15_code 4 = .ok (.bipush 31, 2) := by decide +kernel
theorem d12_6 : decode jdk_52_method_15_code 6 = .ok (.iushr, 1) := by decide +kernel
theorem d12_7 : decode jdk_52_method_15_code 7 = .ok (.i2b, 1) := by decide +kernel
theorem d12_8 : decode jdk_52_method_15_code 8 = .ok (.ireturn, 1) := by decide +kernel
theorem pn_12 : plainName "java/lang/StringUTF16" = true := by first | (simp [plainName, overriddenIn]; done) | decide +kernel
theorem ef_12 (m : MethodId) (b : Addr) (p1 : Int32) : entryFrame m #[(.ref b), (.int p1)] 2 = mkF m 0 #[rv b, iv p1] [] := by first | (simp [entryFrame, mkF, argsToLocals, Value.category]; done) | rfl
def Q12 (Z : State) (b : Addr) (p1 : Int32) (f : Nat → Value) (n : Nat) (h0 : Heap) (n0 : Nat) (v : Option Value) (h : Heap) (L : List Loc) : Prop := v = some (.int 0) ∧ Fr n0 L ∧ h = h0
set_option maxRecDepth 65536 in
set_option maxHeartbeats 40000000 in
theorem rm12 (l : Launch) (Z : State) (a0 : Array Value) (hw : ∀ d ∈ tables_1, d.before a0 Z = true) (ws : List Jvm.Cond) (b : Addr) (p1 : Int32) (f : Nat → Value) (n : Nat) (h0 : Heap) (n0 : Nat) (Z0 : n0 ≤ h0.size) (A_b : own_Af Z h0 b .byte n f) (hn : p1.toInt = n) (hn5 : n ≤ 5) :
    MetFree l (⟨"java/lang/StringUTF16", "coderFromArrayLen", "([BI)B"⟩ : MethodName) (head1 (Jvm.Cond.code (⟨"java/lang/StringUTF16", "coderFromArrayLen", "([BI)B"⟩ : MethodName) jdk_52_method_15_code 2 (some .byte) :: ws) ({ frames := 0, cells := 0, slots := 0, locals := 0 } : Room)) (fun aX UX => aX = #[(.ref b), (.int p1)] ∧ Z.Warmed39 UX.vm ∧ UX.heap = h0) (fun _ _ _ _ _ => True) (fun _ UX oX UY => ∃ vX LX, oX = .returned vX ∧ Q12 Z b p1 f n h0 n0 vX UY.heap LX ∧ FrameEnd UX oX UY LX ({ frames := 0, cells := 0, slots := 0, locals := 0 } : Room).cells ({ frames := 0, cells := 0, slots := 0, locals := 0 } : Room).slots) := by
  refine MetFree.of_bodySF (plainFor_of_name pn_12) hisR ?_
  intro p e s m args below meth c s₁ Bd hml0 hPX hKX
  obtain ⟨rfl, hZ, hh⟩ := hPX
  have hx := Bd.exec
  have hby := Bd.bytes
  have hml : c.maxLocals = 2 := hml0
  have hown : s.vm.findClass "java/lang/StringUTF16" = some m.cls := findClass_of_methodNamed Bd.named
  have hnm := (name_of_methodNamed Bd.named Bd.method).1
  have X0 : Stand p l e ({ frames := 0, cells := 0, slots := 0, locals := 0 } : Room) s m #[(.ref b), (.int p1)] below meth c s₁ [] 0 0 := Stand.of_body Bd
  have e0 : s₁.heap = h0 := by rw [← hh, Bd.state]; rfl
  have N0 := Fr.nil n0
  have pre0 : ∀ t, Steps p.tables e below (s₁.setTop (mkF m 0 #[rv b, iv p1] [])) t → Steps p.tables e below (s₁.setTop (entryFrame m #[(.ref b), (.int p1)] 2)) t := fun t k => castTop (ef_12 m b p1) k
  obtain ⟨S0, hS0⟩ : ∃ z, z = (s₁.setTop (entryFrame m #[(.ref b), (.int p1)] 2)) := ⟨_, rfl⟩
  rw [← hS0] at pre0
  have pre2 : ∀ t, own_s p e below s₁ m 2 #[rv b, iv p1] [(.ref b), (.int p1)] t → Steps p.tables e below S0 t := by
    intro tX kX
    refine pre0 _ ?_
    show own_s p e below s₁ m 0 #[rv b, iv p1] [] _
    refine XS.iloadN X0.here hx rfl (hb hby d12_0) rfl ?_
    refine XS.aloadN X0.here hx rfl (hb hby d12_1) rfl rfl ?_
    exact kX
  obtain ⟨cl1, Ar1, S1, M1, H1⟩ := id A_b
  have pre3 : ∀ t, own_s p e below s₁ m 4 #[rv b, iv p1] [(.int (p1 - (Int32.ofNat n)))] t → Steps p.tables e below S0 t := by
    intro tX kX
    refine pre2 _ ?_
    show own_s p e below s₁ m 2 #[rv b, iv p1] [(.ref b), (.int p1)] _
    refine X0.arraylength hx (by rw [e0]; exact Ar1.1) (State.isArrayOf_alike hZ.alike Ar1.2.1) (g := (mkF m 2 #[rv b, iv p1] [(.ref b), (.int p1)])) rfl rfl (hb hby d12_2) _ ?_
    rw [show cl1.slots.size.toInt32 = (Int32.ofNat n) from (congrArg Nat.toInt32 S1).trans (rfl)]
    refine XS.isub X0.here hx rfl (hb hby d12_3) rfl ?_
    exact kX
  rw [show (p1 - (Int32.ofNat n)) = (0 : Int32) from own_eqI (by have d1 := own_ofn (n := n) (by omega); have d2 := c_isub p1 (Int32.ofNat n); have d3 := rng32 (p1 - Int32.ofNat n); have d4 : (0 : Int32).toInt = 0 := rfl; omega)] at pre3
  have pre4 : ∀ t, own_s p e below s₁ m 8 #[rv b, iv p1] [(.int ((((0 : Int32).toUInt32 >>> ((31 : Int32) &&& 31).toUInt32).toInt32).toInt8.toInt32))] t → Steps p.tables e below S0 t := by
    intro tX kX
    refine pre3 _ ?_
    show own_s p e below s₁ m 4 #[rv b, iv p1] [(.int (0 : Int32))] _
    refine XS.bipush X0.here hx rfl (hb hby d12_4) ?_
    refine XS.iushr X0.here hx rfl (hb hby d12_6) rfl ?_
    refine XS.i2b X0.here hx rfl (hb hby d12_7) rfl ?_
    exact kX
  subst hS0
  obtain ⟨fsX, hr, hrun, hended, hW, hsame⟩ := X0.leave (v := (some (.int (nar .byte ((((0 : Int32).toUInt32 >>> ((31 : Int32) &&& 31).toUInt32).toInt32).toInt8.toInt32))))) (fun h => by rw [Bd.returns] at h; cases h)
  refine ⟨_, _, pre4 _ (retN X0 hx (t := .byte) Bd.returns (by simp) (hb hby d12_8) hr), hrun, hended, _, _, rfl, ?_, ⟨_, rfl⟩, hW, hsame.mono (by decide) (by decide)⟩
  show Q12 Z b p1 f n h0 n0 (some (.int (nar .byte ((((0 : Int32).toUInt32 >>> ((31 : Int32) &&& 31).toUInt32).toInt32).toInt8.toInt32)))) s₁.heap _
  exact ⟨congrArg (fun z => some (Value.int z)) (show (nar .byte ((((0 : Int32).toUInt32 >>> ((31 : Int32) &&& 31).toUInt32).toInt32).toInt8.toInt32)) = (0 : Int32) from by decide), N0, e0⟩
theorem d13_0 : decode jdk_42_method_152_code 0 = .ok (.getstatic 38, 3) := by decide +kernel
theorem d13_3 : decode jdk_42_method_152_code 3 = .ok (.ifCond .eq 10, 3) := by decide +kernel
theorem d13_6 : decode jdk_42_method_152_code 6 = .ok (.aload_n 0, 1) := by decide +kernel
theorem d13_7 : decode jdk_42_method_152_code 7 = .ok (.getfield 15, 3) := by decide +kernel
theorem d13_10 : decode jdk_42_method_152_code 10 = .ok (.goto 4, 3) := by decide +kernel
theorem d13_14 : decode jdk_42_method_152_code 14 = .ok (.ireturn, 1) := by decide +kernel
theorem pn_13 : plainName "java/lang/String" = true := by first | (simp [plainName, overriddenIn]; done) | decide +kernel
theorem ef_13 (m : MethodId) (a : Addr) : entryFrame m #[(.ref a)] 1 = mkF m 0 #[rv a] [] := by first | (simp [entryFrame, mkF, argsToLocals, Value.category]; done) | rfl
def Q13 (Z : State) (a : Addr) (w : Value) (cs : Int32) (h0 : Heap) (n0 : Nat) (v : Option Value) (h : Heap) (L : List Loc) : Prop := v = some (.int 0) ∧ Fr n0 L ∧ h = h0
set_option maxRecDepth 65536 in
set_option maxHeartbeats 40000000 in
theorem rm13 (l : Launch) (Z : State) (a0 : Array Value) (hw : ∀ d ∈ tables_1, d.before a0 Z = true) (ws : List Jvm.Cond) (a : Addr) (w : Value) (cs : Int32) (h0 : Heap) (n0 : Nat) (Z0 : n0 ≤ h0.size) (hv : w.isRef = true) (S_s : own_Ss Z h0 w cs) (hc : ¬ cs = 0) (F_c : Fld Z h0 a "java/lang/String" "coder" "B" (.int (0 : Int32))) :
    MetFree l (⟨"java/lang/String", "coder", "()B"⟩ : MethodName) (head1 (Jvm.Cond.code (⟨"java/lang/String", "coder", "()B"⟩ : MethodName) jdk_42_method_152_code 1 (some .byte) :: ws) ({ frames := 0, cells := 0, slots := 0, locals := 0 } : Room)) (fun aX UX => aX = #[(.ref a)] ∧ Z.Warmed39 UX.vm ∧ UX.heap = h0) (fun _ _ _ _ _ => True) (fun _ UX oX UY => ∃ vX LX, oX = .returned vX ∧ Q13 Z a w cs h0 n0 vX UY.heap LX ∧ FrameEnd UX oX UY LX ({ frames := 0, cells := 0, slots := 0, locals := 0 } : Room).cells ({ frames := 0, cells := 0, slots := 0, locals := 0 } : Room).slots) := by
  refine MetFree.of_bodySF (plainFor_of_name pn_13) hisR ?_
  intro p e s m args below meth c s₁ Bd hml0 hPX hKX
  obtain ⟨rfl, hZ, hh⟩ := hPX
  have hx := Bd.exec
  have hby := Bd.bytes
  have hml : c.maxLocals = 1 := hml0
  have hown : s.vm.findClass "java/lang/String" = some m.cls := findClass_of_methodNamed Bd.named
  have hnm := (name_of_methodNamed Bd.named Bd.method).1
  have X0 : Stand p l e ({ frames := 0, cells := 0, slots := 0, locals := 0 } : Room) s m #[(.ref a)] below meth c s₁ [] 0 0 := Stand.of_body Bd
  have e0 : s₁.heap = h0 := by rw [← hh, Bd.state]; rfl
  have N0 := Fr.nil n0
  have pre0 : ∀ t, Steps p.tables e below (s₁.setTop (mkF m 0 #[rv a] [])) t → Steps p.tables e below (s₁.setTop (entryFrame m #[(.ref a)] 1)) t := fun t k => castTop (ef_13 m a) k
  obtain ⟨S0, hS0⟩ : ∃ z, z = (s₁.setTop (entryFrame m #[(.ref a)] 1)) := ⟨_, rfl⟩
  rw [← hS0] at pre0
  obtain ⟨T1, X1, e1, st1⟩ := getS2 X0 hx hZ hown (host := "") (Or.inl (hw _ (List.mem_of_getElem? (i := 126) rfl))) Via.refl e0 S_s.2 (g := (mkF m 0 #[rv a] [])) rfl (hb hby d13_0)
  have pre2 : ∀ t, own_s p e below T1 m 3 #[rv a] [(.int cs)] t → Steps p.tables e below S0 t := fun tX kX => pre0 _ (st1 _ kX)
  have pre3 : ∀ t, own_s p e below T1 m 7 #[rv a] [(.ref a)] t → Steps p.tables e below S0 t := by
    intro tX kX
    refine pre2 _ ?_
    show own_s p e below T1 m 3 #[rv a] [(.int cs)] _
    refine XS.ifNo X1.here hx rfl (hb hby d13_3) rfl ((if0 _ _).trans (feq hc).1) ?_
    refine XS.aloadN X1.here hx rfl (hb hby d13_6) rfl rfl ?_
    exact kX
  obtain ⟨T4, X4, e4, st4⟩ := getF X1 hx hZ hown (host := "") (Or.inl (hw _ (List.mem_of_getElem? (i := 112) rfl))) Via.refl e1 F_c (g := (mkF m 7 #[rv a] [(.ref a)])) rfl rfl (hb hby d13_7)
  have pre5 : ∀ t, own_s p e below T4 m 10 #[rv a] [(.int (0 : Int32))] t → Steps p.tables e below S0 t := fun tX kX => pre3 _ (st4 _ kX)
  have pre6 : ∀ t, own_s p e below T4 m 14 #[rv a] [(.int (0 : Int32))] t → Steps p.tables e below S0 t := by
    intro tX kX
    refine pre5 _ ?_
    show own_s p e below T4 m 10 #[rv a] [(.int (0 : Int32))] _
    refine XS.goto X4.here hx rfl (pc0 := 10) (pc' := 14) rfl (hb hby d13_10) (by decide) (by decide) ?_
    exact kX
  subst hS0
  obtain ⟨fsX, hr, hrun, hended, hW, hsame⟩ := X4.leave (v := (some (.int (0 : Int32)))) (fun h => by rw [Bd.returns] at h; cases h)
  refine ⟨_, _, pre6 _ (retN X4 hx (t := .byte) Bd.returns (by simp) (hb hby d13_14) hr), hrun, hended, _, _, rfl, ?_, ⟨_, rfl⟩, hW, hsame.mono (by decide) (by decide)⟩
  show Q13 Z a w cs h0 n0 (some (.int (0 : Int32))) T4.heap _
  exact ⟨rfl, N0, e4⟩
theorem d14_0 : decode jdk_42_method_54_code 0 = .ok (.aload_n 0, 1) := by decide +kernel
theorem d14_1 : decode jdk_42_method_54_code 1 = .ok (.getfield 9, 3) := by decide +kernel
theorem d14_4 : decode jdk_42_method_54_code 4 = .ok (.arraylength, 1) := by decide +kernel
theorem d14_5 : decode jdk_42_method_54_code 5 = .ok (.aload_n 0, 1) := by decide +kernel
theorem d14_6 : decode jdk_42_method_54_code 6 = .ok (.invokevirtual 335, 3) := by decide +kernel
theorem d14_9 : decode jdk_42_method_54_code 9 = .ok (.ishr, 1) := by decide +kernel
theorem d14_10 : decode jdk_42_method_54_code 10 = .ok (.ireturn, 1) := by decide +kernel
theorem pn_14 : plainName "java/lang/String" = true := by first | (simp [plainName, overriddenIn]; done) | decide +kernel
theorem pd14_0 : parseMethodDescriptor "()B" = some ⟨[], some .byte⟩ := by decide +kernel
theorem ef_14 (m : MethodId) (a : Addr) : entryFrame m #[(.ref a)] 1 = mkF m 0 #[rv a] [] := by first | (simp [entryFrame, mkF, argsToLocals, Value.category]; done) | rfl
def Q14 (Z : State) (a : Addr) (b : Addr) (N : Nat) (G : Nat → Int32) (w : Value) (cs : Int32) (h0 : Heap) (n0 : Nat) (v : Option Value) (h : Heap) (L : List Loc) : Prop := v = some (.int (Int32.ofNat N)) ∧ Fr n0 L ∧ h = h0
set_option maxRecDepth 65536 in
set_option maxHeartbeats 40000000 in
theorem rm14 (l : Launch) (Z : State) (a0 : Array Value) (hw : ∀ d ∈ tables_1, d.before a0 Z = true) (ws : List Jvm.Cond) (a : Addr) (b : Addr) (N : Nat) (G : Nat → Int32) (w : Value) (cs : Int32) (h0 : Heap) (n0 : Nat) (Z0 : n0 ≤ h0.size) (hv : w.isRef = true) (S_s : own_Ss Z h0 w cs) (hc : ¬ cs = 0) (E_a : Exa Z h0 a "java/lang/String") (F_c : Fld Z h0 a "java/lang/String" "coder" "B" (.int (0 : Int32))) (F_v : Fld Z h0 a "java/lang/String" "value" "[B" (.ref b)) (A_b : own_Af Z h0 b .byte N (fun j => .int (G j))) :
    MetFree l (⟨"java/lang/String", "length", "()I"⟩ : MethodName) (head1 (Jvm.Cond.code (⟨"java/lang/String", "length", "()I"⟩ : MethodName) jdk_42_method_54_code 1 (some .int) :: ws) ({ frames := 1, cells := 0, slots := 0, locals := 20 } : Room)) (fun aX UX => aX = #[(.ref a)] ∧ Z.Warmed39 UX.vm ∧ UX.heap = h0) (fun _ _ _ _ _ => True) (fun _ UX oX UY => ∃ vX LX, oX = .returned vX ∧ Q14 Z a b N G w cs h0 n0 vX UY.heap LX ∧ FrameEnd UX oX UY LX ({ frames := 1, cells := 0, slots := 0, locals := 20 } : Room).cells ({ frames := 1, cells := 0, slots := 0, locals := 20 } : Room).slots) := by
  refine MetFree.of_bodySF (plainFor_of_name pn_14) hisR ?_
  intro p e s m args below meth c s₁ Bd hml0 hPX hKX
  obtain ⟨rfl, hZ, hh⟩ := hPX
  have hx := Bd.exec
  have hby := Bd.bytes
  have hml : c.maxLocals = 1 := hml0
  have hown : s.vm.findClass "java/lang/String" = some m.cls := findClass_of_methodNamed Bd.named
  have hnm := (name_of_methodNamed Bd.named Bd.method).1
  have X0 : Stand p l e ({ frames := 1, cells := 0, slots := 0, locals := 20 } : Room) s m #[(.ref a)] below meth c s₁ [] 0 0 := Stand.of_body Bd
  have e0 : s₁.heap = h0 := by rw [← hh, Bd.state]; rfl
  have N0 := Fr.nil n0
  have pre0 : ∀ t, Steps p.tables e below (s₁.setTop (mkF m 0 #[rv a] [])) t → Steps p.tables e below (s₁.setTop (entryFrame m #[(.ref a)] 1)) t := fun t k => castTop (ef_14 m a) k
  obtain ⟨S0, hS0⟩ : ∃ z, z = (s₁.setTop (entryFrame m #[(.ref a)] 1)) := ⟨_, rfl⟩
  rw [← hS0] at pre0
  have pre1 : ∀ t, own_s p e below s₁ m 1 #[rv a] [(.ref a)] t → Steps p.tables e below S0 t := by
    intro tX kX
    refine pre0 _ ?_
    show own_s p e below s₁ m 0 #[rv a] [] _
    refine XS.aloadN X0.here hx rfl (hb hby d14_0) rfl rfl ?_
    exact kX
  obtain ⟨T2, X2, e2, st2⟩ := getF X0 hx hZ hown (host := "") (Or.inl (hw _ (List.mem_of_getElem? (i := 111) rfl))) Via.refl e0 F_v (g := (mkF m 1 #[rv a] [(.ref a)])) rfl rfl (hb hby d14_1)
  have pre3 : ∀ t, own_s p e below T2 m 4 #[rv a] [(.ref b)] t → Steps p.tables e below S0 t := fun tX kX => pre1 _ (st2 _ kX)
  obtain ⟨cl4, Ar4, S4, M4, H4⟩ := id A_b
  have pre5 : ∀ t, own_s p e below T2 m 6 #[rv a] [(.ref a), (.int (Int32.ofNat N))] t → Steps p.tables e below S0 t := by
    intro tX kX
    refine pre3 _ ?_
    show own_s p e below T2 m 4 #[rv a] [(.ref b)] _
    refine X2.arraylength hx (by rw [e2]; exact Ar4.1) (State.isArrayOf_alike hZ.alike Ar4.2.1) (g := (mkF m 4 #[rv a] [(.ref b)])) rfl rfl (hb hby d14_4) _ ?_
    rw [show cl4.slots.size.toInt32 = (Int32.ofNat N) from (congrArg Nat.toInt32 S4).trans (rfl)]
    refine XS.aloadN X2.here hx rfl (hb hby d14_5) rfl rfl ?_
    exact kX
  obtain ⟨cq6, kq6, q6a, q6b, q6c⟩ := isOf hZ e2 E_a
  obtain ⟨_, _, ⟨T6, L6, k6, n6⟩, -, X6, ⟨Lc6, hQ6, l6, y6, z6⟩, st6⟩ := X2.virtualBack hx (y := (⟨"java/lang/String", "coder", "()B"⟩ : MethodName)) (z := (⟨"java/lang/String", "coder", "()B"⟩ : MethodName)) hown (mvT hZ (hw _ (List.mem_of_getElem? (i := 121) rfl))) (mvT hZ (hw _ (List.mem_of_getElem? (i := 122) rfl))) (notFace_of_selects (args := #[]) (mvT hZ (hw _ (List.mem_of_getElem? (i := 124) rfl)))) (mvT hZ (hw _ (List.mem_of_getElem? (i := 124) rfl))) (mvT hZ (hw _ (List.mem_of_getElem? (i := 123) rfl))) (by decide) (backOf (W := 1) (rm13 l Z a0 hw [] a w cs h0 n0 Z0 hv S_s hc F_c) hZ (hw _ (List.mem_of_getElem? (i := 125) rfl)) (hw _ (List.mem_of_getElem? (i := 50) rfl)) (by decide) (by decide)) q6a q6c (g := (mkF m 6 #[rv a] [(.ref a), (.int (Int32.ofNat N))])) rfl (by rw [hml]; rfl) (Steps.refl _) (argsL := []) (rest := [(.int (Int32.ofNat N))]) (lenOf pd14_0 rfl) rfl (by show 2 * 0 + _ ≤ _; exact Nat.le_of_eq rfl) (hb hby d14_6) (fun _ _ => ⟨rfl, e2, (by decide : 0 + 0 ≤ _), (by decide : 0 + 0 ≤ _)⟩)
  dsimp only [Pt.U, Pt.locs, Pt.cells, Pt.slots] at X6 l6 y6 z6 st6 hQ6
  subst l6 y6 z6
  obtain ⟨rfl, Nq6, e6⟩ := hQ6
  have N6 := Fr.app N0 Nq6
  obtain ⟨LL7, X7, N7⟩ : ∃ LL, Stand p l e ({ frames := 1, cells := 0, slots := 0, locals := 20 } : Room) s m #[(.ref a)] below meth c T6 LL 0 0 ∧ Fr n0 LL := ⟨_, X6, N6⟩
  have pre8 : ∀ t, own_s p e below T6 m 9 #[rv a] [(.int (0 : Int32)), (.int (Int32.ofNat N))] t → Steps p.tables e below S0 t := fun tX kX => pre5 _ (st6.trans kX)
  have pre9 : ∀ t, own_s p e below T6 m 10 #[rv a] [(.int ((Int32.ofNat N) >>> ((0 : Int32) &&& 31)))] t → Steps p.tables e below S0 t := by
    intro tX kX
    refine pre8 _ ?_
    show own_s p e below T6 m 9 #[rv a] [(.int (0 : Int32)), (.int (Int32.ofNat N))] _
    refine XS.ishr X7.here hx rfl (hb hby d14_9) rfl ?_
    exact kX
  subst hS0
  obtain ⟨fsX, hr, hrun, hended, hW, hsame⟩ := X7.leave (v := (some (.int ((Int32.ofNat N) >>> ((0 : Int32) &&& 31))))) (fun h => by rw [Bd.returns] at h; cases h)
  refine ⟨_, _, pre9 _ (retI X7 hx Bd.returns (hb hby d14_10) hr), hrun, hended, _, _, rfl, ?_, ⟨_, rfl⟩, hW, hsame.mono (by decide) (by decide)⟩
  show Q14 Z a b N G w cs h0 n0 (some (.int ((Int32.ofNat N) >>> ((0 : Int32) &&& 31)))) T6.heap _
  exact ⟨congrArg (fun z => some (Value.int z)) (show ((Int32.ofNat N) >>> ((0 : Int32) &&& 31)) = Int32.ofNat N from own_eqI (by have d := c_ishr (Int32.ofNat N) 0 0 (by decide); rw [d]; simp)), N7, e6⟩
theorem d15_0 : decode jdk_41_method_11_code 0 = .ok (.iload_n 0, 1) := by decide +kernel
theorem d15_1 : decode jdk_41_method_11_code 1 = .ok (.ifCond .lt 8, 3) := by decide +kernel
theorem d15_4 : decode jdk_41_method_11_code 4 = .ok (.iload_n 0, 1) := by decide +kernel
theorem d15_5 : decode jdk_41_method_11_code 5 = .ok (.iload_n 1, 1) := by decide +kernel
theorem d15_6 : decode jdk_41_method_11_code 6 = .ok (.if_icmp .lt 10, 3) := by decide +kernel
theorem d15_16 : decode jdk_41_method_11_code 16 = .ok (.iload_n 0, 1) := by decide +kernel
theorem d15_17 : decode jdk_41_method_11_code 17 = .ok (.ireturn, 1) := by decide +kernel
theorem pn_15 : plainName "jdk/internal/util/Preconditions" = true := by first | (simp [plainName, overriddenIn]; done) | decide +kernel
theorem ef_15 (m : MethodId) (p0 : Int32) (p1 : Int32) (w : Value) (hv : w.isRef = true) : entryFrame m #[(.int p0), (.int p1), w] 3 = mkF m 0 #[iv p0, iv p1, .val w] [] := by
  rcases ref_cases hv with rfl | ⟨_, rfl⟩ <;> first | (simp [entryFrame, mkF, argsToLocals, Value.category]; done) | rfl
def Q15 (Z : State) (p0 : Int32) (p1 : Int32) (w : Value) (h0 : Heap) (n0 : Nat) (v : Option Value) (h : Heap) (L : List Loc) : Prop := v = some (.int p0) ∧ Fr n0 L ∧ h = h0
set_option maxRecDepth 65536 in
set_option maxHeartbeats 40000000 in
theorem rm15 (l : Launch) (Z : State) (a0 : Array Value) (hw : ∀ d ∈ tables_1, d.before a0 Z = true) (ws : List Jvm.Cond) (p0 : Int32) (p1 : Int32) (w : Value) (h0 : Heap) (n0 : Nat) (Z0 : n0 ≤ h0.size) (hv : w.isRef = true) (h0' : 0 ≤ p0.toInt) (h1' : p0.toInt < p1.toInt) :
    MetFree l (⟨"jdk/internal/util/Preconditions", "checkIndex", "(IILjava/util/function/BiFunction;)I"⟩ : MethodName) (head1 (Jvm.Cond.code (⟨"jdk/internal/util/Preconditions", "checkIndex", "(IILjava/util/function/BiFunction;)I"⟩ : MethodName) jdk_41_method_11_code 3 (some .int) :: ws) ({ frames := 0, cells := 0, slots := 0, locals := 0 } : Room)) (fun aX UX => aX = #[(.int p0), (.int p1), w] ∧ Z.Warmed39 UX.vm ∧ UX.heap = h0) (fun _ _ _ _ _ => True) (fun _ UX oX UY => ∃ vX LX, oX = .returned vX ∧ Q15 Z p0 p1 w h0 n0 vX UY.heap LX ∧ FrameEnd UX oX UY LX ({ frames := 0, cells := 0, slots := 0, locals := 0 } : Room).cells ({ frames := 0, cells := 0, slots := 0, locals := 0 } : Room).slots) := by
  refine MetFree.of_bodySF (plainFor_of_name pn_15) hisR ?_
  intro p e s m args below meth c s₁ Bd hml0 hPX hKX
  obtain ⟨rfl, hZ, hh⟩ := hPX
  have hx := Bd.exec
  have hby := Bd.bytes
  have hml : c.maxLocals = 3 := hml0
  have hown : s.vm.findClass "jdk/internal/util/Preconditions" = some m.cls := findClass_of_methodNamed Bd.named
  have hnm := (name_of_methodNamed Bd.named Bd.method).1
  have X0 : Stand p l e ({ frames := 0, cells := 0, slots := 0, locals := 0 } : Room) s m #[(.int p0), (.int p1), w] below meth c s₁ [] 0 0 := Stand.of_body Bd
  have e0 : s₁.heap = h0 := by rw [← hh, Bd.state]; rfl
  have N0 := Fr.nil n0
  have pre0 : ∀ t, Steps p.tables e below (s₁.setTop (mkF m 0 #[iv p0, iv p1, .val w] [])) t → Steps p.tables e below (s₁.setTop (entryFrame m #[(.int p0), (.int p1), w] 3)) t := fun t k => castTop (ef_15 m p0 p1 w hv) k
  obtain ⟨S0, hS0⟩ : ∃ z, z = (s₁.setTop (entryFrame m #[(.int p0), (.int p1), w] 3)) := ⟨_, rfl⟩
  rw [← hS0] at pre0
  have pre1 : ∀ t, own_s p e below s₁ m 17 #[iv p0, iv p1, .val w] [(.int p0)] t → Steps p.tables e below S0 t := by
    intro tX kX
    refine pre0 _ ?_
    show own_s p e below s₁ m 0 #[iv p0, iv p1, .val w] [] _
    refine XS.iloadN X0.here hx rfl (hb hby d15_0) rfl ?_
    refine XS.ifNo X0.here hx rfl (hb hby d15_1) rfl ((if0 _ _).trans (flt (show ¬ (p0 < (0 : Int32)) from fun q => absurd (show (p0).toInt < (0 : Int) from Int32.lt_iff_toInt_lt.mp q) (by omega))).1) ?_
    refine XS.iloadN X0.here hx rfl (hb hby d15_4) rfl ?_
    show own_s p e below s₁ m 5 #[iv p0, iv p1, .val w] [(.int p0)] _
    refine XS.iloadN X0.here hx rfl (hb hby d15_5) rfl ?_
    refine XS.icmpYes X0.here hx rfl (pc0 := 6) (pc' := 16) rfl (hb hby d15_6) rfl (tlt (show p0 < p1 from Int32.lt_iff_toInt_lt.mpr (by omega : (p0).toInt < (p1).toInt))).1 (by decide) (by decide) ?_
    refine XS.iloadN X0.here hx rfl (hb hby d15_16) rfl ?_
    exact kX
  subst hS0
  obtain ⟨fsX, hr, hrun, hended, hW, hsame⟩ := X0.leave (v := (some (.int p0))) (fun h => by rw [Bd.returns] at h; cases h)
  refine ⟨_, _, pre1 _ (retI X0 hx Bd.returns (hb hby d15_17) hr), hrun, hended, _, _, rfl, ?_, ⟨_, rfl⟩, hW, hsame.mono (by decide) (by decide)⟩
  show Q15 Z p0 p1 w h0 n0 (some (.int p0)) s₁.heap _
  exact ⟨rfl, N0, e0⟩
theorem d16_0 : decode jdk_42_method_155_code 0 = .ok (.iload_n 0, 1) := by decide +kernel
theorem d16_1 : decode jdk_42_method_155_code 1 = .ok (.iload_n 1, 1) := by decide +kernel
theorem d16_2 : decode jdk_42_method_155_code 2 = .ok (.getstatic 1053, 3) := by decide +kernel
theorem d16_5 : decode jdk_42_method_155_code 5 = .ok (.invokestatic 1059, 3) := by decide +kernel
theorem d16_8 : decode jdk_42_method_155_code 8 = .ok (.pop, 1) := by decide +kernel
theorem d16_9 : decode jdk_42_method_155_code 9 = .ok (.return_, 1) := by decide +kernel
theorem pn_16 : plainName "java/lang/String" = true := by first | (simp [plainName, overriddenIn]; done) | decide +kernel
theorem pd16_0 : parseMethodDescriptor "(IILjava/util/function/BiFunction;)I" = some ⟨[.int, .int, (.object "java/util/function/BiFunction")], some .int⟩ := by decide +kernel
theorem ef_16 (m : MethodId) (p0 : Int32) (p1 : Int32) : entryFrame m #[(.int p0), (.int p1)] 2 = mkF m 0 #[iv p0, iv p1] [] := by first | (simp [entryFrame, mkF, argsToLocals, Value.category]; done) | rfl
def Q16 (Z : State) (p0 : Int32) (p1 : Int32) (w : Value) (cs : Int32) (h0 : Heap) (n0 : Nat) (v : Option Value) (h : Heap) (L : List Loc) : Prop := v = none ∧ Fr n0 L ∧ h = h0
set_option maxRecDepth 65536 in
set_option maxHeartbeats 40000000 in
theorem rm16 (l : Launch) (Z : State) (a0 : Array Value) (hw : ∀ d ∈ tables_1, d.before a0 Z = true) (ws : List Jvm.Cond) (p0 : Int32) (p1 : Int32) (w : Value) (cs : Int32) (h0 : Heap) (n0 : Nat) (Z0 : n0 ≤ h0.size) (hv : w.isRef = true) (S_s : own_Ss Z h0 w cs) (h0' : 0 ≤ p0.toInt) (h1' : p0.toInt < p1.toInt) :
    MetFree l (⟨"java/lang/String", "checkIndex", "(II)V"⟩ : MethodName) (head1 (Jvm.Cond.code (⟨"java/lang/String", "checkIndex", "(II)V"⟩ : MethodName) jdk_42_method_155_code 2 none :: ws) ({ frames := 1, cells := 0, slots := 0, locals := 15 } : Room)) (fun aX UX => aX = #[(.int p0), (.int p1)] ∧ Z.Warmed39 UX.vm ∧ UX.heap = h0) (fun _ _ _ _ _ => True) (fun _ UX oX UY => ∃ vX LX, oX = .returned vX ∧ Q16 Z p0 p1 w cs h0 n0 vX UY.heap LX ∧ FrameEnd UX oX UY LX ({ frames := 1, cells := 0, slots := 0, locals := 15 } : Room).cells ({ frames := 1, cells := 0, slots := 0, locals := 15 } : Room).slots) := by
  refine MetFree.of_bodySF (plainFor_of_name pn_16) hisR ?_
  intro p e s m args below meth c s₁ Bd hml0 hPX hKX
  obtain ⟨rfl, hZ, hh⟩ := hPX
  have hx := Bd.exec
  have hby := Bd.bytes
  have hml : c.maxLocals = 2 := hml0
  have hown : s.vm.findClass "java/lang/String" = some m.cls := findClass_of_methodNamed Bd.named
  have hnm := (name_of_methodNamed Bd.named Bd.method).1
  have X0 : Stand p l e ({ frames := 1, cells := 0, slots := 0, locals := 15 } : Room) s m #[(.int p0), (.int p1)] below meth c s₁ [] 0 0 := Stand.of_body Bd
  have e0 : s₁.heap = h0 := by rw [← hh, Bd.state]; rfl
  have N0 := Fr.nil n0
  have pre0 : ∀ t, Steps p.tables e below (s₁.setTop (mkF m 0 #[iv p0, iv p1] [])) t → Steps p.tables e below (s₁.setTop (entryFrame m #[(.int p0), (.int p1)] 2)) t := fun t k => castTop (ef_16 m p0 p1) k
  obtain ⟨S0, hS0⟩ : ∃ z, z = (s₁.setTop (entryFrame m #[(.int p0), (.int p1)] 2)) := ⟨_, rfl⟩
  rw [← hS0] at pre0
  have pre1 : ∀ t, own_s p e below s₁ m 2 #[iv p0, iv p1] [(.int p1), (.int p0)] t → Steps p.tables e below S0 t := by
    intro tX kX
    refine pre0 _ ?_
    show own_s p e below s₁ m 0 #[iv p0, iv p1] [] _
    refine XS.iloadN X0.here hx rfl (hb hby d16_0) rfl ?_
    refine XS.iloadN X0.here hx rfl (hb hby d16_1) rfl ?_
    exact kX
  obtain ⟨T2, X2, e2, st2⟩ := getS2 X0 hx hZ hown (host := "") (Or.inl (hw _ (List.mem_of_getElem? (i := 101) rfl))) Via.refl e0 S_s.1 (g := (mkF m 2 #[iv p0, iv p1] [(.int p1), (.int p0)])) rfl (hb hby d16_2)
  have pre3 : ∀ t, own_s p e below T2 m 5 #[iv p0, iv p1] [w, (.int p1), (.int p0)] t → Steps p.tables e below S0 t := fun tX kX => pre1 _ (st2 _ kX)
  obtain ⟨_, _, ⟨T4, L4, k4, n4⟩, -, X4, ⟨Lc4, hQ4, l4, y4, z4⟩, st4⟩ := Jvm.LawKit.callS X2 hx (y := (⟨"jdk/internal/util/Preconditions", "checkIndex", "(IILjava/util/function/BiFunction;)I"⟩ : MethodName)) hown (mvT hZ (hw _ (List.mem_of_getElem? (i := 157) rfl))) (mvT hZ (hw _ (List.mem_of_getElem? (i := 158) rfl))) (mvT hZ (hw _ (List.mem_of_getElem? (i := 102) rfl))) (mvT hZ (hw _ (List.mem_of_getElem? (i := 159) rfl))) (by decide) (backOf (W := 0) (rm15 l Z a0 hw [] p0 p1 w  h0 n0 Z0 hv h0' h1') hZ (hw _ (List.mem_of_getElem? (i := 159) rfl)) (hw _ (List.mem_of_getElem? (i := 102) rfl)) (by decide) (by decide)) (g := (mkF m 5 #[iv p0, iv p1] [w, (.int p1), (.int p0)])) rfl (by rw [hml]; rfl) (argsL := [(.int p0), (.int p1), w]) (rest := []) (lenOf pd16_0 rfl) rfl (by show 2 * 0 + _ ≤ _; exact Nat.le_of_eq rfl) (hb hby d16_5) (fun _ _ => ⟨rfl, e2, (by decide : 0 + 0 ≤ _), (by decide : 0 + 0 ≤ _)⟩)
  dsimp only [Pt.U, Pt.locs, Pt.cells, Pt.slots] at X4 l4 y4 z4 st4 hQ4
  subst l4 y4 z4
  obtain ⟨rfl, Nq4, e4⟩ := hQ4
  have N4 := Fr.app N0 Nq4
  obtain ⟨LL5, X5, N5⟩ : ∃ LL, Stand p l e ({ frames := 1, cells := 0, slots := 0, locals := 15 } : Room) s m #[(.int p0), (.int p1)] below meth c T4 LL 0 0 ∧ Fr n0 LL := ⟨_, X4, N4⟩
  have pre6 : ∀ t, own_s p e below T4 m 8 #[iv p0, iv p1] [(.int p0)] t → Steps p.tables e below S0 t := fun tX kX => pre3 _ (st4 _ kX)
  have pre7 : ∀ t, own_s p e below T4 m 9 #[iv p0, iv p1] [] t → Steps p.tables e below S0 t := by
    intro tX kX
    refine pre6 _ ?_
    show own_s p e below T4 m 8 #[iv p0, iv p1] [(.int p0)] _
    refine XS.pop X5.here hx rfl (hb hby d16_8) rfl rfl ?_
    exact kX
  subst hS0
  obtain ⟨fsX, hr, hrun, hended, hW, hsame⟩ := X5.leave (v := none) (fun _ => rfl)
  refine ⟨_, _, pre7 _ (X5.returnOut hx Bd.returns (hb hby d16_9) hr), hrun, hended, _, _, rfl, ?_, ⟨_, rfl⟩, hW, hsame.mono (by decide) (by decide)⟩
  show Q16 Z p0 p1 w cs h0 n0 none T4.heap _
  exact ⟨rfl, N5, e4⟩
theorem d17_0 : decode jdk_43_method_2_code 0 = .ok (.iload_n 1, 1) := by decide +kernel
theorem d17_1 : decode jdk_43_method_2_code 1 = .ok (.aload_n 0, 1) := by decide +kernel
theorem d17_2 : decode jdk_43_method_2_code 2 = .ok (.arraylength, 1) := by decide +kernel
theorem d17_3 : decode jdk_43_method_2_code 3 = .ok (.invokestatic 9, 3) := by decide +kernel
theorem d17_6 : decode jdk_43_method_2_code 6 = .ok (.aload_n 0, 1) := by decide +kernel
theorem d17_7 : decode jdk_43_method_2_code 7 = .ok (.iload_n 1, 1) := by decide +kernel
theorem d17_8 : decode jdk_43_method_2_code 8 = .ok (.baload, 1) := by decide +kernel
theorem d17_9 : decode jdk_43_method_2_code 9 = .ok (.sipush 255, 3) := by decide +kernel
theorem d17_12 : decode jdk_43_method_2_code 12 = .ok (.iand, 1) := by decide +kernel
theorem d17_13 : decode jdk_43_method_2_code 13 = .ok (.i2c, 1) := by decide +kernel
theorem d17_14 : decode jdk_43_method_2_code 14 = .ok (.ireturn, 1) := by decide +kernel
theorem pn_17 : plainName "java/lang/StringLatin1" = true := by first | (simp [plainName, overriddenIn]; done) | decide +kernel
theorem pd17_0 : parseMethodDescriptor "(II)V" = some ⟨[.int, .int], none⟩ := by decide +kernel
theorem ef_17 (m : MethodId) (b : Addr) (p1 : Int32) : entryFrame m #[(.ref b), (.int p1)] 2 = mkF m 0 #[rv b, iv p1] [] := by first | (simp [entryFrame, mkF, argsToLocals, Value.category]; done) | rfl
def Q17 (Z : State) (b : Addr) (p1 : Int32) (N : Nat) (G : Nat → Int32) (w : Value) (cs : Int32) (I : Nat) (h0 : Heap) (n0 : Nat) (v : Option Value) (h : Heap) (L : List Loc) : Prop := (∃ v' : Int32, v = some (.int v') ∧ v'.toInt = (G I).toInt % 256) ∧ Fr n0 L ∧ h = h0
set_option maxRecDepth 65536 in
set_option maxHeartbeats 40000000 in
theorem rm17 (l : Launch) (Z : State) (a0 : Array Value) (hw : ∀ d ∈ tables_1, d.before a0 Z = true) (ws : List Jvm.Cond) (b : Addr) (p1 : Int32) (N : Nat) (G : Nat → Int32) (w : Value) (cs : Int32) (I : Nat) (h0 : Heap) (n0 : Nat) (Z0 : n0 ≤ h0.size) (hv : w.isRef = true) (S_s : own_Ss Z h0 w cs) (A_b : own_Af Z h0 b .byte N (fun j => .int (G j))) (hI : p1.toInt = I) (hI' : I < N) :
    MetFree l (⟨"java/lang/StringLatin1", "charAt", "([BI)C"⟩ : MethodName) (head1 (Jvm.Cond.code (⟨"java/lang/StringLatin1", "charAt", "([BI)C"⟩ : MethodName) jdk_43_method_2_code 2 (some .char) :: ws) ({ frames := 2, cells := 0, slots := 0, locals := 30 } : Room)) (fun aX UX => aX = #[(.ref b), (.int p1)] ∧ Z.Warmed39 UX.vm ∧ UX.heap = h0) (fun _ _ _ _ _ => True) (fun _ UX oX UY => ∃ vX LX, oX = .returned vX ∧ Q17 Z b p1 N G w cs I h0 n0 vX UY.heap LX ∧ FrameEnd UX oX UY LX ({ frames := 2, cells := 0, slots := 0, locals := 30 } : Room).cells ({ frames := 2, cells := 0, slots := 0, locals := 30 } : Room).slots) := by
  refine MetFree.of_bodySF (plainFor_of_name pn_17) hisR ?_
  intro p e s m args below meth c s₁ Bd hml0 hPX hKX
  obtain ⟨rfl, hZ, hh⟩ := hPX
  have hx := Bd.exec
  have hby := Bd.bytes
  have hml : c.maxLocals = 2 := hml0
  have hown : s.vm.findClass "java/lang/StringLatin1" = some m.cls := findClass_of_methodNamed Bd.named
  have hnm := (name_of_methodNamed Bd.named Bd.method).1
  have X0 : Stand p l e ({ frames := 2, cells := 0, slots := 0, locals := 30 } : Room) s m #[(.ref b), (.int p1)] below meth c s₁ [] 0 0 := Stand.of_body Bd
  have e0 : s₁.heap = h0 := by rw [← hh, Bd.state]; rfl
  have N0 := Fr.nil n0
  have pre0 : ∀ t, Steps p.tables e below (s₁.setTop (mkF m 0 #[rv b, iv p1] [])) t → Steps p.tables e below (s₁.setTop (entryFrame m #[(.ref b), (.int p1)] 2)) t := fun t k => castTop (ef_17 m b p1) k
  obtain ⟨S0, hS0⟩ : ∃ z, z = (s₁.setTop (entryFrame m #[(.ref b), (.int p1)] 2)) := ⟨_, rfl⟩
  rw [← hS0] at pre0
  have pre2 : ∀ t, own_s p e below s₁ m 2 #[rv b, iv p1] [(.ref b), (.int p1)] t → Steps p.tables e below S0 t := by
    intro tX kX
    refine pre0 _ ?_
    show own_s p e below s₁ m 0 #[rv b, iv p1] [] _
    refine XS.iloadN X0.here hx rfl (hb hby d17_0) rfl ?_
    refine XS.aloadN X0.here hx rfl (hb hby d17_1) rfl rfl ?_
    exact kX
  obtain ⟨cl1, Ar1, S1, M1, H1⟩ := id A_b
  have pre3 : ∀ t, own_s p e below s₁ m 3 #[rv b, iv p1] [(.int (Int32.ofNat N)), (.int p1)] t → Steps p.tables e below S0 t := by
    intro tX kX
    refine pre2 _ ?_
    show own_s p e below s₁ m 2 #[rv b, iv p1] [(.ref b), (.int p1)] _
    refine X0.arraylength hx (by rw [e0]; exact Ar1.1) (State.isArrayOf_alike hZ.alike Ar1.2.1) (g := (mkF m 2 #[rv b, iv p1] [(.ref b), (.int p1)])) rfl rfl (hb hby d17_2) _ ?_
    rw [show cl1.slots.size.toInt32 = (Int32.ofNat N) from (congrArg Nat.toInt32 S1).trans (rfl)]
    exact kX
  obtain ⟨_, _, ⟨T4, L4, k4, n4⟩, -, X4, ⟨Lc4, hQ4, l4, y4, z4⟩, st4⟩ := Jvm.LawKit.callS X0 hx (y := (⟨"java/lang/String", "checkIndex", "(II)V"⟩ : MethodName)) hown (mvT hZ (hw _ (List.mem_of_getElem? (i := 154) rfl))) (mvT hZ (hw _ (List.mem_of_getElem? (i := 155) rfl))) (mvT hZ (hw _ (List.mem_of_getElem? (i := 50) rfl))) (mvT hZ (hw _ (List.mem_of_getElem? (i := 156) rfl))) (by decide) (backOf (W := 0) (rm16 l Z a0 hw [] p1 (Int32.ofNat N) w cs h0 n0 Z0 hv S_s (by omega) (by have d := own_ofn (n := N) (by obtain ⟨-, -, -, M, -⟩ := id A_b; exact M); omega)) hZ (hw _ (List.mem_of_getElem? (i := 156) rfl)) (hw _ (List.mem_of_getElem? (i := 50) rfl)) (by decide) (by decide)) (g := (mkF m 3 #[rv b, iv p1] [(.int (Int32.ofNat N)), (.int p1)])) rfl (by rw [hml]; rfl) (argsL := [(.int p1), (.int (Int32.ofNat N))]) (rest := []) (lenOf pd17_0 rfl) rfl (by show 2 * 0 + _ ≤ _; exact Nat.le_of_eq rfl) (hb hby d17_3) (fun _ _ => ⟨rfl, e0, (by decide : 0 + 0 ≤ _), (by decide : 0 + 0 ≤ _)⟩)
  dsimp only [Pt.U, Pt.locs, Pt.cells, Pt.slots] at X4 l4 y4 z4 st4 hQ4
  subst l4 y4 z4
  obtain ⟨rfl, Nq4, e4⟩ := hQ4
  have N4 := Fr.app N0 Nq4
  obtain ⟨LL5, X5, N5⟩ : ∃ LL, Stand p l e ({ frames := 2, cells := 0, slots := 0, locals := 30 } : Room) s m #[(.ref b), (.int p1)] below meth c T4 LL 0 0 ∧ Fr n0 LL := ⟨_, X4, N4⟩
  have pre6 : ∀ t, own_s p e below T4 m 6 #[rv b, iv p1] [] t → Steps p.tables e below S0 t := fun tX kX => pre3 _ (st4 _ kX)
  have pre8 : ∀ t, own_s p e below T4 m 8 #[rv b, iv p1] [(.int p1), (.ref b)] t → Steps p.tables e below S0 t := by
    intro tX kX
    refine pre6 _ ?_
    show own_s p e below T4 m 6 #[rv b, iv p1] [] _
    refine XS.aloadN X5.here hx rfl (hb hby d17_6) rfl rfl ?_
    refine XS.iloadN X5.here hx rfl (hb hby d17_7) rfl ?_
    exact kX
  obtain ⟨cl7, Ar7, S7, M7, H7⟩ := id A_b
  have pre9 : ∀ t, own_s p e below T4 m 14 #[rv b, iv p1] [(.int (((G I) &&& (255 : Int32)).toUInt32.toUInt16.toUInt32.toInt32))] t → Steps p.tables e below S0 t := by
    intro tX kX
    refine pre8 _ ?_
    show own_s p e below T4 m 8 #[rv b, iv p1] [(.int p1), (.ref b)] _
    refine X5.baloadBytes hx (j := p1) (v := (.int (G I))) (by rw [e4]; exact Ar7.1) (State.isArrayOf_alike hZ.alike Ar7.2.1) Ar7.2.2 (own_inb S7 M7 (own_idx (by omega) (by omega))) (own_get H7 S7 (own_idx (by omega) (by omega)) (by show Value.int (G p1.toNatClampNeg) = _; rw [own_nat hI])) (g := (mkF m 8 #[rv b, iv p1] [(.int p1), (.ref b)])) rfl rfl (hb hby d17_8) _ ?_
    refine XS.sipush X5.here hx rfl (hb hby d17_9) ?_
    refine XS.iand X5.here hx rfl (hb hby d17_12) rfl ?_
    show own_s p e below T4 m 13 #[rv b, iv p1] [(.int ((G I) &&& (255 : Int32)))] _
    refine XS.i2c X5.here hx rfl (hb hby d17_13) rfl ?_
    exact kX
  subst hS0
  obtain ⟨fsX, hr, hrun, hended, hW, hsame⟩ := X5.leave (v := (some (.int (nar .char (((G I) &&& (255 : Int32)).toUInt32.toUInt16.toUInt32.toInt32))))) (fun h => by rw [Bd.returns] at h; cases h)
  refine ⟨_, _, pre9 _ (retN X5 hx (t := .char) Bd.returns (by simp) (hb hby d17_14) hr), hrun, hended, _, _, rfl, ?_, ⟨_, rfl⟩, hW, hsame.mono (by decide) (by decide)⟩
  show Q17 Z b p1 N G w cs I h0 n0 (some (.int (nar .char (((G I) &&& (255 : Int32)).toUInt32.toUInt16.toUInt32.toInt32)))) T4.heap _
  refine ⟨⟨_, rfl, ?_⟩, N5, e4⟩
  have d1 := c_mask (G I) 255 8 (by decide) (by decide)
  have d2 := c_i2c (G I &&& 255)
  have d3 := c_i2c ((G I &&& 255).toUInt32.toUInt16.toUInt32.toInt32)
  show (((G I &&& 255).toUInt32.toUInt16.toUInt32.toInt32).toUInt32.toUInt16.toUInt32.toInt32).toInt = _
  omega
theorem d18_0 : decode jdk_42_method_154_code 0 = .ok (.getstatic 38, 3) := by decide +kernel
theorem d18_3 : decode jdk_42_method_154_code 3 = .ok (.ifCond .eq 14, 3) := by decide +kernel
theorem d18_6 : decode jdk_42_method_154_code 6 = .ok (.aload_n 0, 1) := by decide +kernel
theorem d18_7 : decode jdk_42_method_154_code 7 = .ok (.getfield 15, 3) := by decide +kernel
theorem d18_10 : decode jdk_42_method_154_code 10 = .ok (.ifCond .ne 7, 3) := by decide +kernel
theorem d18_13 : decode jdk_42_method_154_code 13 = .ok (.iconst 1, 1) := by decide +kernel
theorem d18_14 : decode jdk_42_method_154_code 14 = .ok (.goto 4, 3) := by decide +kernel
theorem d18_18 : decode jdk_42_method_154_code 18 = .ok (.ireturn, 1) := by decide +kernel
theorem pn_18 : plainName "java/lang/String" = true := by first | (simp [plainName, overriddenIn]; done) | decide +kernel
theorem ef_18 (m : MethodId) (a : Addr) : entryFrame m #[(.ref a)] 1 = mkF m 0 #[rv a] [] := by first | (simp [entryFrame, mkF, argsToLocals, Value.category]; done) | rfl
def Q18 (Z : State) (a : Addr) (w : Value) (cs : Int32) (h0 : Heap) (n0 : Nat) (v : Option Value) (h : Heap) (L : List Loc) : Prop := v = some (.int 1) ∧ Fr n0 L ∧ h = h0
set_option maxRecDepth 65536 in
set_option maxHeartbeats 40000000 in
theorem rm18 (l : Launch) (Z : State) (a0 : Array Value) (hw : ∀ d ∈ tables_1, d.before a0 Z = true) (ws : List Jvm.Cond) (a : Addr) (w : Value) (cs : Int32) (h0 : Heap) (n0 : Nat) (Z0 : n0 ≤ h0.size) (hv : w.isRef = true) (S_s : own_Ss Z h0 w cs) (hc : ¬ cs = 0) (F_c : Fld Z h0 a "java/lang/String" "coder" "B" (.int (0 : Int32))) :
    MetFree l (⟨"java/lang/String", "isLatin1", "()Z"⟩ : MethodName) (head1 (Jvm.Cond.code (⟨"java/lang/String", "isLatin1", "()Z"⟩ : MethodName) jdk_42_method_154_code 1 (some .boolean) :: ws) ({ frames := 0, cells := 0, slots := 0, locals := 0 } : Room)) (fun aX UX => aX = #[(.ref a)] ∧ Z.Warmed39 UX.vm ∧ UX.heap = h0) (fun _ _ _ _ _ => True) (fun _ UX oX UY => ∃ vX LX, oX = .returned vX ∧ Q18 Z a w cs h0 n0 vX UY.heap LX ∧ FrameEnd UX oX UY LX ({ frames := 0, cells := 0, slots := 0, locals := 0 } : Room).cells ({ frames := 0, cells := 0, slots := 0, locals := 0 } : Room).slots) := by
  refine MetFree.of_bodySF (plainFor_of_name pn_18) hisR ?_
  intro p e s m args below meth c s₁ Bd hml0 hPX hKX
  obtain ⟨rfl, hZ, hh⟩ := hPX
  have hx := Bd.exec
  have hby := Bd.bytes
  have hml : c.maxLocals = 1 := hml0
  have hown : s.vm.findClass "java/lang/String" = some m.cls := findClass_of_methodNamed Bd.named
  have hnm := (name_of_methodNamed Bd.named Bd.method).1
  have X0 : Stand p l e ({ frames := 0, cells := 0, slots := 0, locals := 0 } : Room) s m #[(.ref a)] below meth c s₁ [] 0 0 := Stand.of_body Bd
  have e0 : s₁.heap = h0 := by rw [← hh, Bd.state]; rfl
  have N0 := Fr.nil n0
  have pre0 : ∀ t, Steps p.tables e below (s₁.setTop (mkF m 0 #[rv a] [])) t → Steps p.tables e below (s₁.setTop (entryFrame m #[(.ref a)] 1)) t := fun t k => castTop (ef_18 m a) k
  obtain ⟨S0, hS0⟩ : ∃ z, z = (s₁.setTop (entryFrame m #[(.ref a)] 1)) := ⟨_, rfl⟩
  rw [← hS0] at pre0
  obtain ⟨T1, X1, e1, st1⟩ := getS2 X0 hx hZ hown (host := "") (Or.inl (hw _ (List.mem_of_getElem? (i := 126) rfl))) Via.refl e0 S_s.2 (g := (mkF m 0 #[rv a] [])) rfl (hb hby d18_0)
  have pre2 : ∀ t, own_s p e below T1 m 3 #[rv a] [(.int cs)] t → Steps p.tables e below S0 t := fun tX kX => pre0 _ (st1 _ kX)
  have pre3 : ∀ t, own_s p e below T1 m 7 #[rv a] [(.ref a)] t → Steps p.tables e below S0 t := by
    intro tX kX
    refine pre2 _ ?_
    show own_s p e below T1 m 3 #[rv a] [(.int cs)] _
    refine XS.ifNo X1.here hx rfl (hb hby d18_3) rfl ((if0 _ _).trans (feq hc).1) ?_
    refine XS.aloadN X1.here hx rfl (hb hby d18_6) rfl rfl ?_
    exact kX
  obtain ⟨T4, X4, e4, st4⟩ := getF X1 hx hZ hown (host := "") (Or.inl (hw _ (List.mem_of_getElem? (i := 112) rfl))) Via.refl e1 F_c (g := (mkF m 7 #[rv a] [(.ref a)])) rfl rfl (hb hby d18_7)
  have pre5 : ∀ t, own_s p e below T4 m 10 #[rv a] [(.int (0 : Int32))] t → Steps p.tables e below S0 t := fun tX kX => pre3 _ (st4 _ kX)
  have pre6 : ∀ t, own_s p e below T4 m 18 #[rv a] [(.int (1 : Int32))] t → Steps p.tables e below S0 t := by
    intro tX kX
    refine pre5 _ ?_
    show own_s p e below T4 m 10 #[rv a] [(.int (0 : Int32))] _
    refine XS.ifNo X4.here hx rfl (hb hby d18_10) rfl ((if0 _ _).trans (teq (by decide : (0 : Int32) = (0 : Int32))).2) ?_
    refine XS.iconst X4.here hx rfl (hb hby d18_13) ?_
    refine XS.goto X4.here hx rfl (pc0 := 14) (pc' := 18) rfl (hb hby d18_14) (by decide) (by decide) ?_
    exact kX
  subst hS0
  obtain ⟨fsX, hr, hrun, hended, hW, hsame⟩ := X4.leave (v := (some (.int (1 : Int32)))) (fun h => by rw [Bd.returns] at h; cases h)
  refine ⟨_, _, pre6 _ (retN X4 hx (t := .boolean) Bd.returns (by simp) (hb hby d18_18) hr), hrun, hended, _, _, rfl, ?_, ⟨_, rfl⟩, hW, hsame.mono (by decide) (by decide)⟩
  show Q18 Z a w cs h0 n0 (some (.int (1 : Int32))) T4.heap _
  exact ⟨rfl, N0, e4⟩
theorem d19_0 : decode jdk_42_method_56_code 0 = .ok (.aload_n 0, 1) := by decide +kernel
theorem d19_1 : decode jdk_42_method_56_code 1 = .ok (.invokevirtual 492, 3) := by decide +kernel
theorem d19_4 : decode jdk_42_method_56_code 4 = .ok (.ifCond .eq 12, 3) := by decide +kernel
theorem d19_7 : decode jdk_42_method_56_code 7 = .ok (.aload_n 0, 1) := by decide +kernel
theorem d19_8 : decode jdk_42_method_56_code 8 = .ok (.getfield 9, 3) := by decide +kernel
theorem d19_11 : decode jdk_42_method_56_code 11 = .ok (.iload_n 1, 1) := by decide +kernel
theorem d19_12 : decode jdk_42_method_56_code 12 = .ok (.invokestatic 495, 3) := by decide +kernel
theorem d19_15 : decode jdk_42_method_56_code 15 = .ok (.ireturn, 1) := by decide +kernel
theorem pn_19 : plainName "java/lang/String" = true := by first | (simp [plainName, overriddenIn]; done) | decide +kernel
theorem pd19_0 : parseMethodDescriptor "()Z" = some ⟨[], some .boolean⟩ := by decide +kernel
theorem pd19_1 : parseMethodDescriptor "([BI)C" = some ⟨[(.array .byte), .int], some .char⟩ := by decide +kernel
theorem ef_19 (m : MethodId) (a : Addr) (p1 : Int32) : entryFrame m #[(.ref a), (.int p1)] 2 = mkF m 0 #[rv a, iv p1] [] := by first | (simp [entryFrame, mkF, argsToLocals, Value.category]; done) | rfl
def Q19 (Z : State) (a : Addr) (p1 : Int32) (b : Addr) (N : Nat) (G : Nat → Int32) (w : Value) (cs : Int32) (I : Nat) (h0 : Heap) (n0 : Nat) (v : Option Value) (h : Heap) (L : List Loc) : Prop := (∃ v' : Int32, v = some (.int v') ∧ v'.toInt = (G I).toInt % 256) ∧ Fr n0 L ∧ h = h0
set_option maxRecDepth 65536 in
set_option maxHeartbeats 40000000 in
theorem rm19 (l : Launch) (Z : State) (a0 : Array Value) (hw : ∀ d ∈ tables_1, d.before a0 Z = true) (ws : List Jvm.Cond) (a : Addr) (p1 : Int32) (b : Addr) (N : Nat) (G : Nat → Int32) (w : Value) (cs : Int32) (I : Nat) (h0 : Heap) (n0 : Nat) (Z0 : n0 ≤ h0.size) (hv : w.isRef = true) (S_s : own_Ss Z h0 w cs) (hc : ¬ cs = 0) (E_a : Exa Z h0 a "java/lang/String") (F_c : Fld Z h0 a "java/lang/String" "coder" "B" (.int (0 : Int32))) (F_v : Fld Z h0 a "java/lang/String" "value" "[B" (.ref b)) (A_b : own_Af Z h0 b .byte N (fun j => .int (G j))) (hI : p1.toInt = I) (hI' : I < N) :
    MetFree l (⟨"java/lang/String", "charAt", "(I)C"⟩ : MethodName) (head1 (Jvm.Cond.code (⟨"java/lang/String", "charAt", "(I)C"⟩ : MethodName) jdk_42_method_56_code 2 (some .char) :: ws) ({ frames := 3, cells := 0, slots := 0, locals := 50 } : Room)) (fun aX UX => aX = #[(.ref a), (.int p1)] ∧ Z.Warmed39 UX.vm ∧ UX.heap = h0) (fun _ _ _ _ _ => True) (fun _ UX oX UY => ∃ vX LX, oX = .returned vX ∧ Q19 Z a p1 b N G w cs I h0 n0 vX UY.heap LX ∧ FrameEnd UX oX UY LX ({ frames := 3, cells := 0, slots := 0, locals := 50 } : Room).cells ({ frames := 3, cells := 0, slots := 0, locals := 50 } : Room).slots) := by
  refine MetFree.of_bodySF (plainFor_of_name pn_19) hisR ?_
  intro p e s m args below meth c s₁ Bd hml0 hPX hKX
  obtain ⟨rfl, hZ, hh⟩ := hPX
  have hx := Bd.exec
  have hby := Bd.bytes
  have hml : c.maxLocals = 2 := hml0
  have hown : s.vm.findClass "java/lang/String" = some m.cls := findClass_of_methodNamed Bd.named
  have hnm := (name_of_methodNamed Bd.named Bd.method).1
  have X0 : Stand p l e ({ frames := 3, cells := 0, slots := 0, locals := 50 } : Room) s m #[(.ref a), (.int p1)] below meth c s₁ [] 0 0 := Stand.of_body Bd
  have e0 : s₁.heap = h0 := by rw [← hh, Bd.state]; rfl
  have N0 := Fr.nil n0
  have pre0 : ∀ t, Steps p.tables e below (s₁.setTop (mkF m 0 #[rv a, iv p1] [])) t → Steps p.tables e below (s₁.setTop (entryFrame m #[(.ref a), (.int p1)] 2)) t := fun t k => castTop (ef_19 m a p1) k
  obtain ⟨S0, hS0⟩ : ∃ z, z = (s₁.setTop (entryFrame m #[(.ref a), (.int p1)] 2)) := ⟨_, rfl⟩
  rw [← hS0] at pre0
  have pre1 : ∀ t, own_s p e below s₁ m 1 #[rv a, iv p1] [(.ref a)] t → Steps p.tables e below S0 t := by
    intro tX kX
    refine pre0 _ ?_
    show own_s p e below s₁ m 0 #[rv a, iv p1] [] _
    refine XS.aloadN X0.here hx rfl (hb hby d19_0) rfl rfl ?_
    exact kX
  obtain ⟨cq2, kq2, q2a, q2b, q2c⟩ := isOf hZ e0 E_a
  obtain ⟨_, _, ⟨T2, L2, k2, n2⟩, -, X2, ⟨Lc2, hQ2, l2, y2, z2⟩, st2⟩ := X0.virtualBack hx (y := (⟨"java/lang/String", "isLatin1", "()Z"⟩ : MethodName)) (z := (⟨"java/lang/String", "isLatin1", "()Z"⟩ : MethodName)) hown (mvT hZ (hw _ (List.mem_of_getElem? (i := 145) rfl))) (mvT hZ (hw _ (List.mem_of_getElem? (i := 146) rfl))) (notFace_of_selects (args := #[]) (mvT hZ (hw _ (List.mem_of_getElem? (i := 148) rfl)))) (mvT hZ (hw _ (List.mem_of_getElem? (i := 148) rfl))) (mvT hZ (hw _ (List.mem_of_getElem? (i := 147) rfl))) (by decide) (backOf (W := 0) (rm18 l Z a0 hw [] a w cs h0 n0 Z0 hv S_s hc F_c) hZ (hw _ (List.mem_of_getElem? (i := 149) rfl)) (hw _ (List.mem_of_getElem? (i := 50) rfl)) (by decide) (by decide)) q2a q2c (g := (mkF m 1 #[rv a, iv p1] [(.ref a)])) rfl (by rw [hml]; rfl) (Steps.refl _) (argsL := []) (rest := []) (lenOf pd19_0 rfl) rfl (by show 2 * 0 + _ ≤ _; exact Nat.le_of_eq rfl) (hb hby d19_1) (fun _ _ => ⟨rfl, e0, (by decide : 0 + 0 ≤ _), (by decide : 0 + 0 ≤ _)⟩)
  dsimp only [Pt.U, Pt.locs, Pt.cells, Pt.slots] at X2 l2 y2 z2 st2 hQ2
  subst l2 y2 z2
  obtain ⟨rfl, Nq2, e2⟩ := hQ2
  have N2 := Fr.app N0 Nq2
  obtain ⟨LL3, X3, N3⟩ : ∃ LL, Stand p l e ({ frames := 3, cells := 0, slots := 0, locals := 50 } : Room) s m #[(.ref a), (.int p1)] below meth c T2 LL 0 0 ∧ Fr n0 LL := ⟨_, X2, N2⟩
  have pre4 : ∀ t, own_s p e below T2 m 4 #[rv a, iv p1] [(.int (1 : Int32))] t → Steps p.tables e below S0 t := fun tX kX => pre1 _ (st2.trans kX)
  have pre5 : ∀ t, own_s p e below T2 m 8 #[rv a, iv p1] [(.ref a)] t → Steps p.tables e below S0 t := by
    intro tX kX
    refine pre4 _ ?_
    show own_s p e below T2 m 4 #[rv a, iv p1] [(.int (1 : Int32))] _
    refine XS.ifNo X3.here hx rfl (hb hby d19_4) rfl ((if0 _ _).trans (feq (by decide : ¬ ((1 : Int32) = (0 : Int32)))).1) ?_
    refine XS.aloadN X3.here hx rfl (hb hby d19_7) rfl rfl ?_
    exact kX
  obtain ⟨T6, X6, e6, st6⟩ := getF X3 hx hZ hown (host := "") (Or.inl (hw _ (List.mem_of_getElem? (i := 111) rfl))) Via.refl e2 F_v (g := (mkF m 8 #[rv a, iv p1] [(.ref a)])) rfl rfl (hb hby d19_8)
  have pre7 : ∀ t, own_s p e below T6 m 11 #[rv a, iv p1] [(.ref b)] t → Steps p.tables e below S0 t := fun tX kX => pre5 _ (st6 _ kX)
  have pre8 : ∀ t, own_s p e below T6 m 12 #[rv a, iv p1] [(.int p1), (.ref b)] t → Steps p.tables e below S0 t := by
    intro tX kX
    refine pre7 _ ?_
    show own_s p e below T6 m 11 #[rv a, iv p1] [(.ref b)] _
    refine XS.iloadN X6.here hx rfl (hb hby d19_11) rfl ?_
    exact kX
  obtain ⟨_, _, ⟨T9, L9, k9, n9⟩, -, X9, ⟨Lc9, hQ9, l9, y9, z9⟩, st9⟩ := Jvm.LawKit.callS X6 hx (y := (⟨"java/lang/StringLatin1", "charAt", "([BI)C"⟩ : MethodName)) hown (mvT hZ (hw _ (List.mem_of_getElem? (i := 150) rfl))) (mvT hZ (hw _ (List.mem_of_getElem? (i := 151) rfl))) (mvT hZ (hw _ (List.mem_of_getElem? (i := 152) rfl))) (mvT hZ (hw _ (List.mem_of_getElem? (i := 153) rfl))) (by decide) (backOf (W := 0) (rm17 l Z a0 hw [] b p1 N G w cs I h0 n0 Z0 hv S_s A_b hI hI') hZ (hw _ (List.mem_of_getElem? (i := 153) rfl)) (hw _ (List.mem_of_getElem? (i := 152) rfl)) (by decide) (by decide)) (g := (mkF m 12 #[rv a, iv p1] [(.int p1), (.ref b)])) rfl (by rw [hml]; rfl) (argsL := [(.ref b), (.int p1)]) (rest := []) (lenOf pd19_1 rfl) rfl (by show 2 * 0 + _ ≤ _; exact Nat.le_of_eq rfl) (hb hby d19_12) (fun _ _ => ⟨rfl, e6, (by decide : 0 + 0 ≤ _), (by decide : 0 + 0 ≤ _)⟩)
  dsimp only [Pt.U, Pt.locs, Pt.cells, Pt.slots] at X9 l9 y9 z9 st9 hQ9
  subst l9 y9 z9
  obtain ⟨⟨v9, rfl, B9⟩, Nq9, e9⟩ := hQ9
  have N9 := Fr.app N3 Nq9
  obtain ⟨LL10, X10, N10⟩ : ∃ LL, Stand p l e ({ frames := 3, cells := 0, slots := 0, locals := 50 } : Room) s m #[(.ref a), (.int p1)] below meth c T9 LL 0 0 ∧ Fr n0 LL := ⟨_, X9, N9⟩
  have pre11 : ∀ t, own_s p e below T9 m 15 #[rv a, iv p1] [(.int v9)] t → Steps p.tables e below S0 t := fun tX kX => pre8 _ (st9 _ kX)
  subst hS0
  obtain ⟨fsX, hr, hrun, hended, hW, hsame⟩ := X10.leave (v := (some (.int (nar .char v9)))) (fun h => by rw [Bd.returns] at h; cases h)
  refine ⟨_, _, pre11 _ (retN X10 hx (t := .char) Bd.returns (by simp) (hb hby d19_15) hr), hrun, hended, _, _, rfl, ?_, ⟨_, rfl⟩, hW, hsame.mono (by decide) (by decide)⟩
  show Q19 Z a p1 b N G w cs I h0 n0 (some (.int (nar .char v9))) T9.heap _
  refine ⟨⟨_, rfl, ?_⟩, N10, e9⟩
  have d2 := c_i2c (v9)
  show ((v9).toUInt32.toUInt16.toUInt32.toInt32).toInt = _
  omega
theorem d20_0 : decode method_9_code 0 = .ok (.iload_n 3, 1) := by decide +kernel
theorem d20_1 : decode method_9_code 1 = .ok (.iload_n 2, 1) := by decide +kernel
theorem d20_2 : decode method_9_code 2 = .ok (.if_icmp .ge 14, 3) := by decide +kernel
theorem d20_5 : decode method_9_code 5 = .ok (.aload_n 0, 1) := by decide +kernel
theorem d20_6 : decode method_9_code 6 = .ok (.iload_n 3, 1) := by decide +kernel
theorem d20_7 : decode method_9_code 7 = .ok (.invokevirtual 59, 3) := by decide +kernel
theorem d20_10 : decode method_9_code 10 = .ok (.aload_n 1, 1) := by decide +kernel
theorem d20_11 : decode method_9_code 11 = .ok (.iload_n 3, 1) := by decide +kernel
theorem d20_12 : decode method_9_code 12 = .ok (.caload, 1) := by decide +kernel
theorem d20_13 : decode method_9_code 13 = .ok (.if_icmp .ne 7, 3) := by decide +kernel
theorem d20_16 : decode method_9_code 16 = .ok (.iconst 1, 1) := by decide +kernel
theorem d20_17 : decode method_9_code 17 = .ok (.goto 4, 3) := by decide +kernel
theorem d20_21 : decode method_9_code 21 = .ok (.ireturn, 1) := by decide +kernel
theorem pn_20 : plainName "com/example/weaverbird/weaverbird/model/xml/AttributesCollapsePinLaw" = true := by first | (simp [plainName, overriddenIn]; done) | decide +kernel
theorem pd20_0 : parseMethodDescriptor "(I)C" = some ⟨[.int], some .char⟩ := by decide +kernel
theorem ef_20 (m : MethodId) (a : Addr) (e_ : Addr) (p2 : Int32) (p3 : Int32) : entryFrame m #[(.ref a), (.ref e_), (.int p2), (.int p3)] 4 = mkF m 0 #[rv a, rv e_, iv p2, iv p3] [] := by first | (simp [entryFrame, mkF, argsToLocals, Value.category]; done) | rfl
def Q20 (Z : State) (a : Addr) (e_ : Addr) (p2 : Int32) (p3 : Int32) (b : Addr) (N : Nat) (G : Nat → Int32) (w : Value) (cs : Int32) (ge : Nat → Int32) (i : Nat) (h0 : Heap) (n0 : Nat) (v : Option Value) (h : Heap) (L : List Loc) : Prop := v = some (.int 1) ∧ Fr n0 L ∧ h = h0
set_option maxRecDepth 65536 in
set_option maxHeartbeats 40000000 in
theorem rm20 (l : Launch) (Z : State) (a0 : Array Value) (hw : ∀ d ∈ tables_1, d.before a0 Z = true) (ws : List Jvm.Cond) (a : Addr) (e_ : Addr) (p2 : Int32) (p3 : Int32) (b : Addr) (N : Nat) (G : Nat → Int32) (w : Value) (cs : Int32) (ge : Nat → Int32) (i : Nat) (h0 : Heap) (n0 : Nat) (Z0 : n0 ≤ h0.size) (hv : w.isRef = true) (S_s : own_Ss Z h0 w cs) (hc : ¬ cs = 0) (E_a : Exa Z h0 a "java/lang/String") (F_c : Fld Z h0 a "java/lang/String" "coder" "B" (.int (0 : Int32))) (F_v : Fld Z h0 a "java/lang/String" "value" "[B" (.ref b)) (A_b : own_Af Z h0 b .byte N (fun j => .int (G j))) (A_e : own_Af Z h0 e_ .char 5 (fun j => .int (ge j))) (hn : p2.toInt = N) (hN5 : N ≤ 5) (hR : ∀ j, j < N → (G j).toInt % 256 = (ge j).toInt) (hi : p3.toInt = i) (hi4 : i ≤ 4) :
    MetFree l (⟨"com/example/weaverbird/weaverbird/model/xml/AttributesCollapsePinLaw", "eq", "(Ljava/lang/String;[CII)Z"⟩ : MethodName) (head1 (Jvm.Cond.code (⟨"com/example/weaverbird/weaverbird/model/xml/AttributesCollapsePinLaw", "eq", "(Ljava/lang/String;[CII)Z"⟩ : MethodName) method_9_code 4 (some .boolean) :: ws) ({ frames := 4, cells := 0, slots := 0, locals := 70 } : Room)) (fun aX UX => aX = #[(.ref a), (.ref e_), (.int p2), (.int p3)] ∧ Z.Warmed39 UX.vm ∧ UX.heap = h0) (fun _ _ _ _ _ => True) (fun _ UX oX UY => ∃ vX LX, oX = .returned vX ∧ Q20 Z a e_ p2 p3 b N G w cs ge i h0 n0 vX UY.heap LX ∧ FrameEnd UX oX UY LX ({ frames := 4, cells := 0, slots := 0, locals := 70 } : Room).cells ({ frames := 4, cells := 0, slots := 0, locals := 70 } : Room).slots) := by
  refine MetFree.of_bodySF (plainFor_of_name pn_20) hisR ?_
  intro p e s m args below meth c s₁ Bd hml0 hPX hKX
  obtain ⟨rfl, hZ, hh⟩ := hPX
  have hx := Bd.exec
  have hby := Bd.bytes
  have hml : c.maxLocals = 4 := hml0
  have hown : s.vm.findClass "com/example/weaverbird/weaverbird/model/xml/AttributesCollapsePinLaw" = some m.cls := findClass_of_methodNamed Bd.named
  have hnm := (name_of_methodNamed Bd.named Bd.method).1
  have X0 : Stand p l e ({ frames := 4, cells := 0, slots := 0, locals := 70 } : Room) s m #[(.ref a), (.ref e_), (.int p2), (.int p3)] below meth c s₁ [] 0 0 := Stand.of_body Bd
  have e0 : s₁.heap = h0 := by rw [← hh, Bd.state]; rfl
  have N0 := Fr.nil n0
  have pre0 : ∀ t, Steps p.tables e below (s₁.setTop (mkF m 0 #[rv a, rv e_, iv p2, iv p3] [])) t → Steps p.tables e below (s₁.setTop (entryFrame m #[(.ref a), (.ref e_), (.int p2), (.int p3)] 4)) t := fun t k => castTop (ef_20 m a e_ p2 p3) k
  obtain ⟨S0, hS0⟩ : ∃ z, z = (s₁.setTop (entryFrame m #[(.ref a), (.ref e_), (.int p2), (.int p3)] 4)) := ⟨_, rfl⟩
  rw [← hS0] at pre0
  have pre1 : ∀ t, own_s p e below s₁ m 2 #[rv a, rv e_, iv p2, iv p3] [(.int p2), (.int p3)] t → Steps p.tables e below S0 t := by
    intro tX kX
    refine pre0 _ ?_
    show own_s p e below s₁ m 0 #[rv a, rv e_, iv p2, iv p3] [] _
    refine XS.iloadN X0.here hx rfl (hb hby d20_0) rfl ?_
    refine XS.iloadN X0.here hx rfl (hb hby d20_1) rfl ?_
    exact kX
  by_cases hc2 : p3 < p2
  · skip
    have ihc2 : (p3).toInt < (p2).toInt := Int32.lt_iff_toInt_lt.mp hc2
    have pre3 : ∀ t, own_s p e below s₁ m 7 #[rv a, rv e_, iv p2, iv p3] [(.int p3), (.ref a)] t → Steps p.tables e below S0 t := by
      intro tX kX
      refine pre1 _ ?_
      show own_s p e below s₁ m 2 #[rv a, rv e_, iv p2, iv p3] [(.int p2), (.int p3)] _
      refine XS.icmpNo X0.here hx rfl (hb hby d20_2) rfl (tlt hc2).2.1 ?_
      refine XS.aloadN X0.here hx rfl (hb hby d20_5) rfl rfl ?_
      refine XS.iloadN X0.here hx rfl (hb hby d20_6) rfl ?_
      exact kX
    have rR := hR i (by omega)
    obtain ⟨cq4, kq4, q4a, q4b, q4c⟩ := isOf hZ e0 E_a
    obtain ⟨_, _, ⟨T4, L4, k4, n4⟩, -, X4, ⟨Lc4, hQ4, l4, y4, z4⟩, st4⟩ := X0.virtualBack hx (y := (⟨"java/lang/String", "charAt", "(I)C"⟩ : MethodName)) (z := (⟨"java/lang/String", "charAt", "(I)C"⟩ : MethodName)) hown (mvT hZ (hw _ (List.mem_of_getElem? (i := 140) rfl))) (mvT hZ (hw _ (List.mem_of_getElem? (i := 141) rfl))) (notFace_of_selects (args := #[]) (mvT hZ (hw _ (List.mem_of_getElem? (i := 143) rfl)))) (mvT hZ (hw _ (List.mem_of_getElem? (i := 143) rfl))) (mvT hZ (hw _ (List.mem_of_getElem? (i := 142) rfl))) (by decide) (backOf (W := 0) (rm19 l Z a0 hw [] a p3 b N G w cs i h0 n0 Z0 hv S_s hc E_a F_c F_v A_b hi (by omega)) hZ (hw _ (List.mem_of_getElem? (i := 144) rfl)) (hw _ (List.mem_of_getElem? (i := 50) rfl)) (by decide) (by decide)) q4a q4c (g := (mkF m 7 #[rv a, rv e_, iv p2, iv p3] [(.int p3), (.ref a)])) rfl (by rw [hml]; rfl) (Steps.refl _) (argsL := [(.int p3)]) (rest := []) (lenOf pd20_0 rfl) rfl (by show 2 * 0 + _ ≤ _; exact Nat.le_of_eq rfl) (hb hby d20_7) (fun _ _ => ⟨rfl, e0, (by decide : 0 + 0 ≤ _), (by decide : 0 + 0 ≤ _)⟩)
    dsimp only [Pt.U, Pt.locs, Pt.cells, Pt.slots] at X4 l4 y4 z4 st4 hQ4
    subst l4 y4 z4
    obtain ⟨⟨v4, rfl, B4⟩, Nq4, e4⟩ := hQ4
    have N4 := Fr.app N0 Nq4
    obtain ⟨LL5, X5, N5⟩ : ∃ LL, Stand p l e ({ frames := 4, cells := 0, slots := 0, locals := 70 } : Room) s m #[(.ref a), (.ref e_), (.int p2), (.int p3)] below meth c T4 LL 0 0 ∧ Fr n0 LL := ⟨_, X4, N4⟩
    have pre6 : ∀ t, own_s p e below T4 m 10 #[rv a, rv e_, iv p2, iv p3] [(.int v4)] t → Steps p.tables e below S0 t := fun tX kX => pre3 _ (st4.trans kX)
    have pre8 : ∀ t, own_s p e below T4 m 12 #[rv a, rv e_, iv p2, iv p3] [(.int p3), (.ref e_), (.int v4)] t → Steps p.tables e below S0 t := by
      intro tX kX
      refine pre6 _ ?_
      show own_s p e below T4 m 10 #[rv a, rv e_, iv p2, iv p3] [(.int v4)] _
      refine XS.aloadN X5.here hx rfl (hb hby d20_10) rfl rfl ?_
      refine XS.iloadN X5.here hx rfl (hb hby d20_11) rfl ?_
      exact kX
    obtain ⟨cl7, Ar7, S7, M7, H7⟩ := id A_e
    have pre9 : ∀ t, own_s p e below T4 m 21 #[rv a, rv e_, iv p2, iv p3] [(.int (1 : Int32))] t → Steps p.tables e below S0 t := by
      intro tX kX
      refine pre8 _ ?_
      show own_s p e below T4 m 12 #[rv a, rv e_, iv p2, iv p3] [(.int p3), (.ref e_), (.int v4)] _
      refine X5.caload hx (j := p3) (v := (.int (ge i))) (by rw [e4]; exact Ar7.1) (State.isArrayOf_alike hZ.alike Ar7.2.1) Ar7.2.2 (own_inb S7 M7 (own_idx (by omega) (by omega))) (own_get H7 S7 (own_idx (by omega) (by omega)) (by show Value.int (ge p3.toNatClampNeg) = _; rw [own_nat hi])) (g := (mkF m 12 #[rv a, rv e_, iv p2, iv p3] [(.int p3), (.ref e_), (.int v4)])) rfl rfl (hb hby d20_12) _ ?_
      refine XS.icmpNo X5.here hx rfl (hb hby d20_13) rfl (teq (own_eqI (show (v4).toInt = ((ge i)).toInt from (by omega : (v4).toInt = ((ge i)).toInt)))).2 ?_
      refine XS.iconst X5.here hx rfl (hb hby d20_16) ?_
      show own_s p e below T4 m 17 #[rv a, rv e_, iv p2, iv p3] [(.int (1 : Int32))] _
      refine XS.goto X5.here hx rfl (pc0 := 17) (pc' := 21) rfl (hb hby d20_17) (by decide) (by decide) ?_
      exact kX
    subst hS0
    obtain ⟨fsX, hr, hrun, hended, hW, hsame⟩ := X5.leave (v := (some (.int (1 : Int32)))) (fun h => by rw [Bd.returns] at h; cases h)
    refine ⟨_, _, pre9 _ (retN X5 hx (t := .boolean) Bd.returns (by simp) (hb hby d20_21) hr), hrun, hended, _, _, rfl, ?_, ⟨_, rfl⟩, hW, hsame.mono (by decide) (by decide)⟩
    show Q20 Z a e_ p2 p3 b N G w cs ge i h0 n0 (some (.int (1 : Int32))) T4.heap _
    exact ⟨rfl, N5, e4⟩
  · skip
    have ihc2 : ¬ ((p3).toInt < (p2).toInt) := fun q => hc2 (Int32.lt_iff_toInt_lt.mpr q)
    have pre10 : ∀ t, own_s p e below s₁ m 21 #[rv a, rv e_, iv p2, iv p3] [(.int (1 : Int32))] t → Steps p.tables e below S0 t := by
      intro tX kX
      refine pre1 _ ?_
      show own_s p e below s₁ m 2 #[rv a, rv e_, iv p2, iv p3] [(.int p2), (.int p3)] _
      refine XS.icmpYes X0.here hx rfl (pc0 := 2) (pc' := 16) rfl (hb hby d20_2) rfl (flt hc2).2.1 (by decide) (by decide) ?_
      refine XS.iconst X0.here hx rfl (hb hby d20_16) ?_
      refine XS.goto X0.here hx rfl (pc0 := 17) (pc' := 21) rfl (hb hby d20_17) (by decide) (by decide) ?_
      exact kX
    subst hS0
    obtain ⟨fsX, hr, hrun, hended, hW, hsame⟩ := X0.leave (v := (some (.int (1 : Int32)))) (fun h => by rw [Bd.returns] at h; cases h)
    refine ⟨_, _, pre10 _ (retN X0 hx (t := .boolean) Bd.returns (by simp) (hb hby d20_21) hr), hrun, hended, _, _, rfl, ?_, ⟨_, rfl⟩, hW, hsame.mono (by decide) (by decide)⟩
    show Q20 Z a e_ p2 p3 b N G w cs ge i h0 n0 (some (.int (1 : Int32))) s₁.heap _
    exact ⟨rfl, N0, e0⟩
theorem d21_0 : decode method_10_code 0 = .ok (.aload_n 0, 1) := by decide +kernel
theorem d21_1 : decode method_10_code 1 = .ok (.invokevirtual 65, 3) := by decide +kernel
theorem d21_4 : decode method_10_code 4 = .ok (.iload_n 2, 1) := by decide +kernel
theorem d21_5 : decode method_10_code 5 = .ok (.if_icmp .ne 57, 3) := by decide +kernel
theorem d21_8 : decode method_10_code 8 = .ok (.aload_n 0, 1) := by decide +kernel
theorem d21_9 : decode method_10_code 9 = .ok (.aload_n 1, 1) := by decide +kernel
theorem d21_10 : decode method_10_code 10 = .ok (.iload_n 2, 1) := by decide +kernel
theorem d21_11 : decode method_10_code 11 = .ok (.iconst 0, 1) := by decide +kernel
theorem d21_12 : decode method_10_code 12 = .ok (.invokestatic 68, 3) := by decide +kernel
theorem d21_15 : decode method_10_code 15 = .ok (.ifCond .eq 47, 3) := by decide +kernel
theorem d21_18 : decode method_10_code 18 = .ok (.aload_n 0, 1) := by decide +kernel
theorem d21_19 : decode method_10_code 19 = .ok (.aload_n 1, 1) := by decide +kernel
theorem d21_20 : decode method_10_code 20 = .ok (.iload_n 2, 1) := by decide +kernel
theorem d21_21 : decode method_10_code 21 = .ok (.iconst 1, 1) := by decide +kernel
theorem d21_22 : decode method_10_code 22 = .ok (.invokestatic 68, 3) := by decide +kernel
theorem d21_25 : decode method_10_code 25 = .ok (.ifCond .eq 37, 3) := by decide +kernel
theorem d21_28 : decode method_10_code 28 = .ok (.aload_n 0, 1) := by decide +kernel
theorem d21_29 : decode method_10_code 29 = .ok (.aload_n 1, 1) := by decide +kernel
theorem d21_30 : decode method_10_code 30 = .ok (.iload_n 2, 1) := by decide +kernel
theorem d21_31 : decode method_10_code 31 = .ok (.iconst 2, 1) := by decide +kernel
theorem d21_32 : decode method_10_code 32 = .ok (.invokestatic 68, 3) := by decide +kernel
theorem d21_35 : decode method_10_code 35 = .ok (.ifCond .eq 27, 3) := by decide +kernel
theorem d21_38 : decode method_10_code 38 = .ok (.aload_n 0, 1) := by decide +kernel
theorem d21_39 : decode method_10_code 39 = .ok (.aload_n 1, 1) := by decide +kernel
theorem d21_40 : decode method_10_code 40 = .ok (.iload_n 2, 1) := by decide +kernel
theorem d21_41 : decode method_10_code 41 = .ok (.iconst 3, 1) := by decide +kernel
theorem d21_42 : decode method_10_code 42 = .ok (.invokestatic 68, 3) := by decide +kernel
theorem d21_45 : decode method_10_code 45 = .ok (.ifCond .eq 17, 3) := by decide +kernel
theorem d21_48 : decode method_10_code 48 = .ok (.aload_n 0, 1) := by decide +kernel
theorem d21_49 : decode method_10_code 49 = .ok (.aload_n 1, 1) := by decide +kernel
theorem d21_50 : decode method_10_code 50 = .ok (.iload_n 2, 1) := by decide +kernel
theorem d21_51 : decode method_10_code 51 = .ok (.iconst 4, 1) := by decide +kernel
theorem d21_52 : decode method_10_code 52 = .ok (.invokestatic 68, 3) := by decide +kernel
theorem d21_55 : decode method_10_code 55 = .ok (.ifCond .eq 7, 3) := by decide +kernel
theorem d21_58 : decode method_10_code 58 = .ok (.iconst 1, 1) := by decide +kernel
theorem d21_59 : decode method_10_code 59 = .ok (.goto 4, 3) := by decide +kernel
theorem d21_63 : decode method_10_code 63 = .ok (.ireturn, 1) := by decide +kernel
theorem pn_21 : plainName "com/example/weaverbird/weaverbird/model/xml/AttributesCollapsePinLaw" = true := by first | (simp [plainName, overriddenIn]; done) | decide +kernel
theorem pd21_0 : parseMethodDescriptor "()I" = some ⟨[], some .int⟩ := by decide +kernel
theorem pd21_1 : parseMethodDescriptor "(Ljava/lang/String;[CII)Z" = some ⟨[(.object "java/lang/String"), (.array .char), .int, .int], some .boolean⟩ := by decide +kernel
theorem ef_21 (m : MethodId) (a : Addr) (e_ : Addr) (p2 : Int32) : entryFrame m #[(.ref a), (.ref e_), (.int p2)] 3 = mkF m 0 #[rv a, rv e_, iv p2] [] := by first | (simp [entryFrame, mkF, argsToLocals, Value.category]; done) | rfl
def Q21 (Z : State) (a : Addr) (e_ : Addr) (p2 : Int32) (b : Addr) (N : Nat) (G : Nat → Int32) (w : Value) (cs : Int32) (ge : Nat → Int32) (h0 : Heap) (n0 : Nat) (v : Option Value) (h : Heap) (L : List Loc) : Prop := v = some (.int 1) ∧ Fr n0 L ∧ h = h0
set_option maxRecDepth 65536 in
set_option maxHeartbeats 40000000 in
theorem rm21 (l : Launch) (Z : State) (a0 : Array Value) (hw : ∀ d ∈ tables_1, d.before a0 Z = true) (ws : List Jvm.Cond) (a : Addr) (e_ : Addr) (p2 : Int32) (b : Addr) (N : Nat) (G : Nat → Int32) (w : Value) (cs : Int32) (ge : Nat → Int32) (h0 : Heap) (n0 : Nat) (Z0 : n0 ≤ h0.size) (hv : w.isRef = true) (S_s : own_Ss Z h0 w cs) (hc : ¬ cs = 0) (E_a : Exa Z h0 a "java/lang/String") (F_c : Fld Z h0 a "java/lang/String" "coder" "B" (.int (0 : Int32))) (F_v : Fld Z h0 a "java/lang/String" "value" "[B" (.ref b)) (A_b : own_Af Z h0 b .byte N (fun j => .int (G j))) (A_e : own_Af Z h0 e_ .char 5 (fun j => .int (ge j))) (hn : p2.toInt = N) (hN5 : N ≤ 5) (hR : ∀ j, j < N → (G j).toInt % 256 = (ge j).toInt) :
    MetFree l (⟨"com/example/weaverbird/weaverbird/model/xml/AttributesCollapsePinLaw", "same", "(Ljava/lang/String;[CI)Z"⟩ : MethodName) (head1 (Jvm.Cond.code (⟨"com/example/weaverbird/weaverbird/model/xml/AttributesCollapsePinLaw", "same", "(Ljava/lang/String;[CI)Z"⟩ : MethodName) method_10_code 3 (some .boolean) :: ws) ({ frames := 5, cells := 0, slots := 0, locals := 90 } : Room)) (fun aX UX => aX = #[(.ref a), (.ref e_), (.int p2)] ∧ Z.Warmed39 UX.vm ∧ UX.heap = h0) (fun _ _ _ _ _ => True) (fun _ UX oX UY => ∃ vX LX, oX = .returned vX ∧ Q21 Z a e_ p2 b N G w cs ge h0 n0 vX UY.heap LX ∧ FrameEnd UX oX UY LX ({ frames := 5, cells := 0, slots := 0, locals := 90 } : Room).cells ({ frames := 5, cells := 0, slots := 0, locals := 90 } : Room).slots) := by
  refine MetFree.of_bodySF (plainFor_of_name pn_21) hisR ?_
  intro p e s m args below meth c s₁ Bd hml0 hPX hKX
  obtain ⟨rfl, hZ, hh⟩ := hPX
  have hx := Bd.exec
  have hby := Bd.bytes
  have hml : c.maxLocals = 3 := hml0
  have hown : s.vm.findClass "com/example/weaverbird/weaverbird/model/xml/AttributesCollapsePinLaw" = some m.cls := findClass_of_methodNamed Bd.named
  have hnm := (name_of_methodNamed Bd.named Bd.method).1
  have X0 : Stand p l e ({ frames := 5, cells := 0, slots := 0, locals := 90 } : Room) s m #[(.ref a), (.ref e_), (.int p2)] below meth c s₁ [] 0 0 := Stand.of_body Bd
  have e0 : s₁.heap = h0 := by rw [← hh, Bd.state]; rfl
  have N0 := Fr.nil n0
  have pre0 : ∀ t, Steps p.tables e below (s₁.setTop (mkF m 0 #[rv a, rv e_, iv p2] [])) t → Steps p.tables e below (s₁.setTop (entryFrame m #[(.ref a), (.ref e_), (.int p2)] 3)) t := fun t k => castTop (ef_21 m a e_ p2) k
  obtain ⟨S0, hS0⟩ : ∃ z, z = (s₁.setTop (entryFrame m #[(.ref a), (.ref e_), (.int p2)] 3)) := ⟨_, rfl⟩
  rw [← hS0] at pre0
  have oN := own_ofn (n := N) (by omega)
  have pre1 : ∀ t, own_s p e below s₁ m 1 #[rv a, rv e_, iv p2] [(.ref a)] t → Steps p.tables e below S0 t := by
    intro tX kX
    refine pre0 _ ?_
    show own_s p e below s₁ m 0 #[rv a, rv e_, iv p2] [] _
    refine XS.aloadN X0.here hx rfl (hb hby d21_0) rfl rfl ?_
    exact kX
  obtain ⟨cq2, kq2, q2a, q2b, q2c⟩ := isOf hZ e0 E_a
  obtain ⟨_, _, ⟨T2, L2, k2, n2⟩, -, X2, ⟨Lc2, hQ2, l2, y2, z2⟩, st2⟩ := X0.virtualBack hx (y := (⟨"java/lang/String", "length", "()I"⟩ : MethodName)) (z := (⟨"java/lang/String", "length", "()I"⟩ : MethodName)) hown (mvT hZ (hw _ (List.mem_of_getElem? (i := 116) rfl))) (mvT hZ (hw _ (List.mem_of_getElem? (i := 117) rfl))) (notFace_of_selects (args := #[]) (mvT hZ (hw _ (List.mem_of_getElem? (i := 119) rfl)))) (mvT hZ (hw _ (List.mem_of_getElem? (i := 119) rfl))) (mvT hZ (hw _ (List.mem_of_getElem? (i := 118) rfl))) (by decide) (backOf (W := 0) (rm14 l Z a0 hw [] a b N G w cs h0 n0 Z0 hv S_s hc E_a F_c F_v A_b) hZ (hw _ (List.mem_of_getElem? (i := 120) rfl)) (hw _ (List.mem_of_getElem? (i := 50) rfl)) (by decide) (by decide)) q2a q2c (g := (mkF m 1 #[rv a, rv e_, iv p2] [(.ref a)])) rfl (by rw [hml]; rfl) (Steps.refl _) (argsL := []) (rest := []) (lenOf pd21_0 rfl) rfl (by show 2 * 0 + _ ≤ _; exact Nat.le_of_eq rfl) (hb hby d21_1) (fun _ _ => ⟨rfl, e0, (by decide : 0 + 0 ≤ _), (by decide : 0 + 0 ≤ _)⟩)
  dsimp only [Pt.U, Pt.locs, Pt.cells, Pt.slots] at X2 l2 y2 z2 st2 hQ2
  subst l2 y2 z2
  obtain ⟨rfl, Nq2, e2⟩ := hQ2
  have N2 := Fr.app N0 Nq2
  obtain ⟨LL3, X3, N3⟩ : ∃ LL, Stand p l e ({ frames := 5, cells := 0, slots := 0, locals := 90 } : Room) s m #[(.ref a), (.ref e_), (.int p2)] below meth c T2 LL 0 0 ∧ Fr n0 LL := ⟨_, X2, N2⟩
  have pre4 : ∀ t, own_s p e below T2 m 4 #[rv a, rv e_, iv p2] [(.int (Int32.ofNat N))] t → Steps p.tables e below S0 t := fun tX kX => pre1 _ (st2.trans kX)
  have pre5 : ∀ t, own_s p e below T2 m 12 #[rv a, rv e_, iv p2] [(.int (0 : Int32)), (.int p2), (.ref e_), (.ref a)] t → Steps p.tables e below S0 t := by
    intro tX kX
    refine pre4 _ ?_
    show own_s p e below T2 m 4 #[rv a, rv e_, iv p2] [(.int (Int32.ofNat N))] _
    refine XS.iloadN X3.here hx rfl (hb hby d21_4) rfl ?_
    refine XS.icmpNo X3.here hx rfl (hb hby d21_5) rfl (teq (own_eqI (show ((Int32.ofNat N)).toInt = (p2).toInt from (by omega : ((Int32.ofNat N)).toInt = (p2).toInt)))).2 ?_
    refine XS.aloadN X3.here hx rfl (hb hby d21_8) rfl rfl ?_
    show own_s p e below T2 m 9 #[rv a, rv e_, iv p2] [(.ref a)] _
    refine XS.aloadN X3.here hx rfl (hb hby d21_9) rfl rfl ?_
    refine XS.iloadN X3.here hx rfl (hb hby d21_10) rfl ?_
    refine XS.iconst X3.here hx rfl (hb hby d21_11) ?_
    exact kX
  obtain ⟨_, _, ⟨T6, L6, k6, n6⟩, -, X6, ⟨Lc6, hQ6, l6, y6, z6⟩, st6⟩ := Jvm.LawKit.callS X3 hx (y := (⟨"com/example/weaverbird/weaverbird/model/xml/AttributesCollapsePinLaw", "eq", "(Ljava/lang/String;[CII)Z"⟩ : MethodName)) hown (mvT hZ (hw _ (List.mem_of_getElem? (i := 127) rfl))) (mvT hZ (hw _ (List.mem_of_getElem? (i := 128) rfl))) (mvT hZ (hw _ (List.mem_of_getElem? (i := 2) rfl))) (mvT hZ (hw _ (List.mem_of_getElem? (i := 129) rfl))) (by decide) (backOf (W := 0) (rm20 l Z a0 hw [] a e_ p2 (0 : Int32) b N G w cs ge 0 h0 n0 Z0 hv S_s hc E_a F_c F_v A_b A_e hn hN5 hR rfl (by decide)) hZ (hw _ (List.mem_of_getElem? (i := 129) rfl)) (hw _ (List.mem_of_getElem? (i := 2) rfl)) (by decide) (by decide)) (g := (mkF m 12 #[rv a, rv e_, iv p2] [(.int (0 : Int32)), (.int p2), (.ref e_), (.ref a)])) rfl (by rw [hml]; rfl) (argsL := [(.ref a), (.ref e_), (.int p2), (.int (0 : Int32))]) (rest := []) (lenOf pd21_1 rfl) rfl (by show 2 * 0 + _ ≤ _; exact Nat.le_of_eq rfl) (hb hby d21_12) (fun _ _ => ⟨rfl, e2, (by decide : 0 + 0 ≤ _), (by decide : 0 + 0 ≤ _)⟩)
  dsimp only [Pt.U, Pt.locs, Pt.cells, Pt.slots] at X6 l6 y6 z6 st6 hQ6
  subst l6 y6 z6
  obtain ⟨rfl, Nq6, e6⟩ := hQ6
  have N6 := Fr.app N3 Nq6
  obtain ⟨LL7, X7, N7⟩ : ∃ LL, Stand p l e ({ frames := 5, cells := 0, slots := 0, locals := 90 } : Room) s m #[(.ref a), (.ref e_), (.int p2)] below meth c T6 LL 0 0 ∧ Fr n0 LL := ⟨_, X6, N6⟩
  have pre8 : ∀ t, own_s p e below T6 m 15 #[rv a, rv e_, iv p2] [(.int (1 : Int32))] t → Steps p.tables e below S0 t := fun tX kX => pre5 _ (st6 _ kX)
  have pre9 : ∀ t, own_s p e below T6 m 22 #[rv a, rv e_, iv p2] [(.int (1 : Int32)), (.int p2), (.ref e_), (.ref a)] t → Steps p.tables e below S0 t := by
    intro tX kX
    refine pre8 _ ?_
    show own_s p e below T6 m 15 #[rv a, rv e_, iv p2] [(.int (1 : Int32))] _
    refine XS.ifNo X7.here hx rfl (hb hby d21_15) rfl ((if0 _ _).trans (feq (by decide : ¬ ((1 : Int32) = (0 : Int32)))).1) ?_
    refine XS.aloadN X7.here hx rfl (hb hby d21_18) rfl rfl ?_
    refine XS.aloadN X7.here hx rfl (hb hby d21_19) rfl rfl ?_
    show own_s p e below T6 m 20 #[rv a, rv e_, iv p2] [(.ref e_), (.ref a)] _
    refine XS.iloadN X7.here hx rfl (hb hby d21_20) rfl ?_
    refine XS.iconst X7.here hx rfl (hb hby d21_21) ?_
    exact kX
  obtain ⟨_, _, ⟨T10, L10, k10, n10⟩, -, X10, ⟨Lc10, hQ10, l10, y10, z10⟩, st10⟩ := Jvm.LawKit.callS X7 hx (y := (⟨"com/example/weaverbird/weaverbird/model/xml/AttributesCollapsePinLaw", "eq", "(Ljava/lang/String;[CII)Z"⟩ : MethodName)) hown (mvT hZ (hw _ (List.mem_of_getElem? (i := 127) rfl))) (mvT hZ (hw _ (List.mem_of_getElem? (i := 128) rfl))) (mvT hZ (hw _ (List.mem_of_getElem? (i := 2) rfl))) (mvT hZ (hw _ (List.mem_of_getElem? (i := 129) rfl))) (by decide) (backOf (W := 0) (rm20 l Z a0 hw [] a e_ p2 (1 : Int32) b N G w cs ge 1 h0 n0 Z0 hv S_s hc E_a F_c F_v A_b A_e hn hN5 hR rfl (by decide)) hZ (hw _ (List.mem_of_getElem? (i := 129) rfl)) (hw _ (List.mem_of_getElem? (i := 2) rfl)) (by decide) (by decide)) (g := (mkF m 22 #[rv a, rv e_, iv p2] [(.int (1 : Int32)), (.int p2), (.ref e_), (.ref a)])) rfl (by rw [hml]; rfl) (argsL := [(.ref a), (.ref e_), (.int p2), (.int (1 : Int32))]) (rest := []) (lenOf pd21_1 rfl) rfl (by show 2 * 0 + _ ≤ _; exact Nat.le_of_eq rfl) (hb hby d21_22) (fun _ _ => ⟨rfl, e6, (by decide : 0 + 0 ≤ _), (by decide : 0 + 0 ≤ _)⟩)
  dsimp only [Pt.U, Pt.locs, Pt.cells, Pt.slots] at X10 l10 y10 z10 st10 hQ10
  subst l10 y10 z10
  obtain ⟨rfl, Nq10, e10⟩ := hQ10
  have N10 := Fr.app N7 Nq10
  obtain ⟨LL11, X11, N11⟩ : ∃ LL, Stand p l e ({ frames := 5, cells := 0, slots := 0, locals := 90 } : Room) s m #[(.ref a), (.ref e_), (.int p2)] below meth c T10 LL 0 0 ∧ Fr n0 LL := ⟨_, X10, N10⟩
  have pre12 : ∀ t, own_s p e below T10 m 25 #[rv a, rv e_, iv p2] [(.int (1 : Int32))] t → Steps p.tables e below S0 t := fun tX kX => pre9 _ (st10 _ kX)
  have pre13 : ∀ t, own_s p e below T10 m 32 #[rv a, rv e_, iv p2] [(.int (2 : Int32)), (.int p2), (.ref e_), (.ref a)] t → Steps p.tables e below S0 t := by
    intro tX kX
    refine pre12 _ ?_
    show own_s p e below T10 m 25 #[rv a, rv e_, iv p2] [(.int (1 : Int32))] _
    refine XS.ifNo X11.here hx rfl (hb hby d21_25) rfl ((if0 _ _).trans (feq (by decide : ¬ ((1 : Int32) = (0 : Int32)))).1) ?_
    refine XS.aloadN X11.here hx rfl (hb hby d21_28) rfl rfl ?_
    refine XS.aloadN X11.here hx rfl (hb hby d21_29) rfl rfl ?_
    show own_s p e below T10 m 30 #[rv a, rv e_, iv p2] [(.ref e_), (.ref a)] _
    refine XS.iloadN X11.here hx rfl (hb hby d21_30) rfl ?_
    refine XS.iconst X11.here hx rfl (hb hby d21_31) ?_
    exact kX
  obtain ⟨_, _, ⟨T14, L14, k14, n14⟩, -, X14, ⟨Lc14, hQ14, l14, y14, z14⟩, st14⟩ := Jvm.LawKit.callS X11 hx (y := (⟨"com/example/weaverbird/weaverbird/model/xml/AttributesCollapsePinLaw", "eq", "(Ljava/lang/String;[CII)Z"⟩ : MethodName)) hown (mvT hZ (hw _ (List.mem_of_getElem? (i := 127) rfl))) (mvT hZ (hw _ (List.mem_of_getElem? (i := 128) rfl))) (mvT hZ (hw _ (List.mem_of_getElem? (i := 2) rfl))) (mvT hZ (hw _ (List.mem_of_getElem? (i := 129) rfl))) (by decide) (backOf (W := 0) (rm20 l Z a0 hw [] a e_ p2 (2 : Int32) b N G w cs ge 2 h0 n0 Z0 hv S_s hc E_a F_c F_v A_b A_e hn hN5 hR rfl (by decide)) hZ (hw _ (List.mem_of_getElem? (i := 129) rfl)) (hw _ (List.mem_of_getElem? (i := 2) rfl)) (by decide) (by decide)) (g := (mkF m 32 #[rv a, rv e_, iv p2] [(.int (2 : Int32)), (.int p2), (.ref e_), (.ref a)])) rfl (by rw [hml]; rfl) (argsL := [(.ref a), (.ref e_), (.int p2), (.int (2 : Int32))]) (rest := []) (lenOf pd21_1 rfl) rfl (by show 2 * 0 + _ ≤ _; exact Nat.le_of_eq rfl) (hb hby d21_32) (fun _ _ => ⟨rfl, e10, (by decide : 0 + 0 ≤ _), (by decide : 0 + 0 ≤ _)⟩)
  dsimp only [Pt.U, Pt.locs, Pt.cells, Pt.slots] at X14 l14 y14 z14 st14 hQ14
  subst l14 y14 z14
  obtain ⟨rfl, Nq14, e14⟩ := hQ14
  have N14 := Fr.app N11 Nq14
  obtain ⟨LL15, X15, N15⟩ : ∃ LL, Stand p l e ({ frames := 5, cells := 0, slots := 0, locals := 90 } : Room) s m #[(.ref a), (.ref e_), (.int p2)] below meth c T14 LL 0 0 ∧ Fr n0 LL := ⟨_, X14, N14⟩
  have pre16 : ∀ t, own_s p e below T14 m 35 #[rv a, rv e_, iv p2] [(.int (1 : Int32))] t → Steps p.tables e below S0 t := fun tX kX => pre13 _ (st14 _ kX)
  have pre17 : ∀ t, own_s p e below T14 m 42 #[rv a, rv e_, iv p2] [(.int (3 : Int32)), (.int p2), (.ref e_), (.ref a)] t → Steps p.tables e below S0 t := by
    intro tX kX
    refine pre16 _ ?_
    show own_s p e below T14 m 35 #[rv a, rv e_, iv p2] [(.int (1 : Int32))] _
    refine XS.ifNo X15.here hx rfl (hb hby d21_35) rfl ((if0 _ _).trans (feq (by decide : ¬ ((1 : Int32) = (0 : Int32)))).1) ?_
    refine XS.aloadN X15.here hx rfl (hb hby d21_38) rfl rfl ?_
    refine XS.aloadN X15.here hx rfl (hb hby d21_39) rfl rfl ?_
    show own_s p e below T14 m 40 #[rv a, rv e_, iv p2] [(.ref e_), (.ref a)] _
    refine XS.iloadN X15.here hx rfl (hb hby d21_40) rfl ?_
    refine XS.iconst X15.here hx rfl (hb hby d21_41) ?_
    exact kX
  obtain ⟨_, _, ⟨T18, L18, k18, n18⟩, -, X18, ⟨Lc18, hQ18, l18, y18, z18⟩, st18⟩ := Jvm.LawKit.callS X15 hx (y := (⟨"com/example/weaverbird/weaverbird/model/xml/AttributesCollapsePinLaw", "eq", "(Ljava/lang/String;[CII)Z"⟩ : MethodName)) hown (mvT hZ (hw _ (List.mem_of_getElem? (i := 127) rfl))) (mvT hZ (hw _ (List.mem_of_getElem? (i := 128) rfl))) (mvT hZ (hw _ (List.mem_of_getElem? (i := 2) rfl))) (mvT hZ (hw _ (List.mem_of_getElem? (i := 129) rfl))) (by decide) (backOf (W := 0) (rm20 l Z a0 hw [] a e_ p2 (3 : Int32) b N G w cs ge 3 h0 n0 Z0 hv S_s hc E_a F_c F_v A_b A_e hn hN5 hR rfl (by decide)) hZ (hw _ (List.mem_of_getElem? (i := 129) rfl)) (hw _ (List.mem_of_getElem? (i := 2) rfl)) (by decide) (by decide)) (g := (mkF m 42 #[rv a, rv e_, iv p2] [(.int (3 : Int32)), (.int p2), (.ref e_), (.ref a)])) rfl (by rw [hml]; rfl) (argsL := [(.ref a), (.ref e_), (.int p2), (.int (3 : Int32))]) (rest := []) (lenOf pd21_1 rfl) rfl (by show 2 * 0 + _ ≤ _; exact Nat.le_of_eq rfl) (hb hby d21_42) (fun _ _ => ⟨rfl, e14, (by decide : 0 + 0 ≤ _), (by decide : 0 + 0 ≤ _)⟩)
  dsimp only [Pt.U, Pt.locs, Pt.cells, Pt.slots] at X18 l18 y18 z18 st18 hQ18
  subst l18 y18 z18
  obtain ⟨rfl, Nq18, e18⟩ := hQ18
  have N18 := Fr.app N15 Nq18
  obtain ⟨LL19, X19, N19⟩ : ∃ LL, Stand p l e ({ frames := 5, cells := 0, slots := 0, locals := 90 } : Room) s m #[(.ref a), (.ref e_), (.int p2)] below meth c T18 LL 0 0 ∧ Fr n0 LL := ⟨_, X18, N18⟩
  have pre20 : ∀ t, own_s p e below T18 m 45 #[rv a, rv e_, iv p2] [(.int (1 : Int32))] t → Steps p.tables e below S0 t := fun tX kX => pre17 _ (st18 _ kX)
  have pre21 : ∀ t, own_s p e below T18 m 52 #[rv a, rv e_, iv p2] [(.int (4 : Int32)), (.int p2), (.ref e_), (.ref a)] t → Steps p.tables e below S0 t := by
    intro tX kX
    refine pre20 _ ?_
    show own_s p e below T18 m 45 #[rv a, rv e_, iv p2] [(.int (1 : Int32))] _
    refine XS.ifNo X19.here hx rfl (hb hby d21_45) rfl ((if0 _ _).trans (feq (by decide : ¬ ((1 : Int32) = (0 : Int32)))).1) ?_
    refine XS.aloadN X19.here hx rfl (hb hby d21_48) rfl rfl ?_
    refine XS.aloadN X19.here hx rfl (hb hby d21_49) rfl rfl ?_
    show own_s p e below T18 m 50 #[rv a, rv e_, iv p2] [(.ref e_), (.ref a)] _
    refine XS.iloadN X19.here hx rfl (hb hby d21_50) rfl ?_
    refine XS.iconst X19.here hx rfl (hb hby d21_51) ?_
    exact kX
  obtain ⟨_, _, ⟨T22, L22, k22, n22⟩, -, X22, ⟨Lc22, hQ22, l22, y22, z22⟩, st22⟩ := Jvm.LawKit.callS X19 hx (y := (⟨"com/example/weaverbird/weaverbird/model/xml/AttributesCollapsePinLaw", "eq", "(Ljava/lang/String;[CII)Z"⟩ : MethodName)) hown (mvT hZ (hw _ (List.mem_of_getElem? (i := 127) rfl))) (mvT hZ (hw _ (List.mem_of_getElem? (i := 128) rfl))) (mvT hZ (hw _ (List.mem_of_getElem? (i := 2) rfl))) (mvT hZ (hw _ (List.mem_of_getElem? (i := 129) rfl))) (by decide) (backOf (W := 0) (rm20 l Z a0 hw [] a e_ p2 (4 : Int32) b N G w cs ge 4 h0 n0 Z0 hv S_s hc E_a F_c F_v A_b A_e hn hN5 hR rfl (by decide)) hZ (hw _ (List.mem_of_getElem? (i := 129) rfl)) (hw _ (List.mem_of_getElem? (i := 2) rfl)) (by decide) (by decide)) (g := (mkF m 52 #[rv a, rv e_, iv p2] [(.int (4 : Int32)), (.int p2), (.ref e_), (.ref a)])) rfl (by rw [hml]; rfl) (argsL := [(.ref a), (.ref e_), (.int p2), (.int (4 : Int32))]) (rest := []) (lenOf pd21_1 rfl) rfl (by show 2 * 0 + _ ≤ _; exact Nat.le_of_eq rfl) (hb hby d21_52) (fun _ _ => ⟨rfl, e18, (by decide : 0 + 0 ≤ _), (by decide : 0 + 0 ≤ _)⟩)
  dsimp only [Pt.U, Pt.locs, Pt.cells, Pt.slots] at X22 l22 y22 z22 st22 hQ22
  subst l22 y22 z22
  obtain ⟨rfl, Nq22, e22⟩ := hQ22
  have N22 := Fr.app N19 Nq22
  obtain ⟨LL23, X23, N23⟩ : ∃ LL, Stand p l e ({ frames := 5, cells := 0, slots := 0, locals := 90 } : Room) s m #[(.ref a), (.ref e_), (.int p2)] below meth c T22 LL 0 0 ∧ Fr n0 LL := ⟨_, X22, N22⟩
  have pre24 : ∀ t, own_s p e below T22 m 55 #[rv a, rv e_, iv p2] [(.int (1 : Int32))] t → Steps p.tables e below S0 t := fun tX kX => pre21 _ (st22 _ kX)
  have pre25 : ∀ t, own_s p e below T22 m 63 #[rv a, rv e_, iv p2] [(.int (1 : Int32))] t → Steps p.tables e below S0 t := by
    intro tX kX
    refine pre24 _ ?_
    show own_s p e below T22 m 55 #[rv a, rv e_, iv p2] [(.int (1 : Int32))] _
    refine XS.ifNo X23.here hx rfl (hb hby d21_55) rfl ((if0 _ _).trans (feq (by decide : ¬ ((1 : Int32) = (0 : Int32)))).1) ?_
    refine XS.iconst X23.here hx rfl (hb hby d21_58) ?_
    refine XS.goto X23.here hx rfl (pc0 := 59) (pc' := 63) rfl (hb hby d21_59) (by decide) (by decide) ?_
    exact kX
  subst hS0
  obtain ⟨fsX, hr, hrun, hended, hW, hsame⟩ := X23.leave (v := (some (.int (1 : Int32)))) (fun h => by rw [Bd.returns] at h; cases h)
  refine ⟨_, _, pre25 _ (retN X23 hx (t := .boolean) Bd.returns (by simp) (hb hby d21_63) hr), hrun, hended, _, _, rfl, ?_, ⟨_, rfl⟩, hW, hsame.mono (by decide) (by decide)⟩
  show Q21 Z a e_ p2 b N G w cs ge h0 n0 (some (.int (1 : Int32))) T22.heap _
  exact ⟨rfl, N23, e22⟩
theorem d30_0 : decode prog_157_method_1_code 0 = .ok (.aload_n 0, 1) := by decide +kernel
theorem d30_1 : decode prog_157_method_1_code 1 = .ok (.invokespecial 1, 3) := by decide +kernel
theorem d30_4 : decode prog_157_method_1_code 4 = .ok (.aload_n 0, 1) := by decide +kernel
theorem d30_5 : decode prog_157_method_1_code 5 = .ok (.bipush 8, 2) := by decide +kernel
theorem d30_7 : decode prog_157_method_1_code 7 = .ok (.anewarray 9, 3) := by decide +kernel
theorem d30_10 : decode prog_157_method_1_code 10 = .ok (.putfield 11, 3) := by decide +kernel
theorem d30_13 : decode prog_157_method_1_code 13 = .ok (.aload_n 0, 1) := by decide +kernel
theorem d30_14 : decode prog_157_method_1_code 14 = .ok (.bipush 8, 2) := by decide +kernel
theorem d30_16 : decode prog_157_method_1_code 16 = .ok (.newarray .int, 2) := by decide +kernel
theorem d30_18 : decode prog_157_method_1_code 18 = .ok (.putfield 15, 3) := by decide +kernel
theorem d30_21 : decode prog_157_method_1_code 21 = .ok (.aload_n 0, 1) := by decide +kernel
theorem d30_22 : decode prog_157_method_1_code 22 = .ok (.bipush 8, 2) := by decide +kernel
theorem d30_24 : decode prog_157_method_1_code 24 = .ok (.newarray .int, 2) := by decide +kernel
theorem d30_26 : decode prog_157_method_1_code 26 = .ok (.putfield 19, 3) := by decide +kernel
theorem d30_29 : decode prog_157_method_1_code 29 = .ok (.aload_n 0, 1) := by decide +kernel
theorem d30_30 : decode prog_157_method_1_code 30 = .ok (.bipush 8, 2) := by decide +kernel
theorem d30_32 : decode prog_157_method_1_code 32 = .ok (.anewarray 22, 3) := by decide +kernel
theorem d30_35 : decode prog_157_method_1_code 35 = .ok (.putfield 24, 3) := by decide +kernel
theorem d30_38 : decode prog_157_method_1_code 38 = .ok (.aload_n 0, 1) := by decide +kernel
theorem d30_39 : decode prog_157_method_1_code 39 = .ok (.bipush 8, 2) := by decide +kernel
theorem d30_41 : decode prog_157_method_1_code 41 = .ok (.newarray .boolean, 2) := by decide +kernel
theorem d30_43 : decode prog_157_method_1_code 43 = .ok (.putfield 28, 3) := by decide +kernel
theorem d30_46 : decode prog_157_method_1_code 46 = .ok (.aload_n 0, 1) := by decide +kernel
theorem d30_47 : decode prog_157_method_1_code 47 = .ok (.bipush 8, 2) := by decide +kernel
theorem d30_49 : decode prog_157_method_1_code 49 = .ok (.anewarray 22, 3) := by decide +kernel
theorem d30_52 : decode prog_157_method_1_code 52 = .ok (.putfield 32, 3) := by decide +kernel
theorem d30_55 : decode prog_157_method_1_code 55 = .ok (.aload_n 0, 1) := by decide +kernel
theorem d30_56 : decode prog_157_method_1_code 56 = .ok (.sipush 256, 3) := by decide +kernel
theorem d30_59 : decode prog_157_method_1_code 59 = .ok (.newarray .char, 2) := by decide +kernel
theorem d30_61 : decode prog_157_method_1_code 61 = .ok (.putfield 35, 3) := by decide +kernel
theorem d30_64 : decode prog_157_method_1_code 64 = .ok (.aload_n 0, 1) := by decide +kernel
theorem d30_65 : decode prog_157_method_1_code 65 = .ok (.iconst 0, 1) := by decide +kernel
theorem d30_66 : decode prog_157_method_1_code 66 = .ok (.newarray .int, 2) := by decide +kernel
theorem d30_68 : decode prog_157_method_1_code 68 = .ok (.putfield 39, 3) := by decide +kernel
theorem d30_71 : decode prog_157_method_1_code 71 = .ok (.return_, 1) := by decide +kernel
theorem pn_30 : plainName "com/example/weaverbird/weaverbird/model/xml/Attributes" = true := by first | (simp [plainName, overriddenIn]; done) | decide +kernel
theorem ef_30 (m : MethodId) (a : Addr) : entryFrame m #[(.ref a)] 1 = mkF m 0 #[rv a] [] := by first | (simp [entryFrame, mkF, argsToLocals, Value.category]; done) | rfl
def Q30 (Z : State) (a : Addr) (h0 : Heap) (n0 : Nat) (v : Option Value) (h : Heap) (L : List Loc) : Prop := ∃ nm sr ln ns dc sg vl : Addr, v = none ∧ Fr n0 L ∧ Keep h0 h [a] ∧ h0.size ≤ nm ∧ (nm < sr ∧ sr < ln ∧ ln < ns ∧ ns < dc ∧ dc < sg ∧ sg < vl) ∧ own_At Z h a nm sr ln ns dc sg vl 0 0 (fun _ => 0) (fun _ => 0) (fun _ => .null) (fun _ => 0)
set_option maxRecDepth 65536 in
set_option maxHeartbeats 40000000 in
theorem rm30 (l : Launch) (Z : State) (a0 : Array Value) (hw : ∀ d ∈ tables_1, d.before a0 Z = true) (ws : List Jvm.Cond) (a : Addr) (h0 : Heap) (n0 : Nat) (Z0 : n0 ≤ h0.size) (E_a : Exa Z h0 a "com/example/weaverbird/weaverbird/model/xml/Attributes") (F_names : Fld Z h0 a "com/example/weaverbird/weaverbird/model/xml/Attributes" "names" "[Lcom/example/weaverbird/weaverbird/model/xml/NameTable$QualifiedName;" .null) (F_starts : Fld Z h0 a "com/example/weaverbird/weaverbird/model/xml/Attributes" "starts" "[I" .null) (F_lengths : Fld Z h0 a "com/example/weaverbird/weaverbird/model/xml/Attributes" "lengths" "[I" .null) (F_namespaces : Fld Z h0 a "com/example/weaverbird/weaverbird/model/xml/Attributes" "namespaces" "[Ljava/lang/String;" .null) (F_declarations : Fld Z h0 a "com/example/weaverbird/weaverbird/model/xml/Attributes" "declarations" "[Z" .null) (F_strings : Fld Z h0 a "com/example/weaverbird/weaverbird/model/xml/Attributes" "strings" "[Ljava/lang/String;" .null) (F_values : Fld Z h0 a "com/example/weaverbird/weaverbird/model/xml/Attributes" "values" "[C" .null) (F_slots : Fld Z h0 a "com/example/weaverbird/weaverbird/model/xml/Attributes" "slots" "[I" .null) (F_count : Fld Z h0 a "com/example/weaverbird/weaverbird/model/xml/Attributes" "count" "I" (.int (0 : Int32))) (F_valuesLength : Fld Z h0 a "com/example/weaverbird/weaverbird/model/xml/Attributes" "valuesLength" "I" (.int (0 : Int32))) (g_a : n0 ≤ a) :
    MetFree l (⟨"com/example/weaverbird/weaverbird/model/xml/Attributes", "<init>", "()V"⟩ : MethodName) (head1 (Jvm.Cond.code (⟨"com/example/weaverbird/weaverbird/model/xml/Attributes", "<init>", "()V"⟩ : MethodName) prog_157_method_1_code 1 none :: ws) ({ frames := 1, cells := 8, slots := 304, locals := 15 } : Room)) (fun aX UX => aX = #[(.ref a)] ∧ Z.Warmed39 UX.vm ∧ UX.heap = h0) (fun _ _ _ _ _ => True) (fun _ UX oX UY => ∃ vX LX, oX = .returned vX ∧ Q30 Z a h0 n0 vX UY.heap LX ∧ FrameEnd UX oX UY LX ({ frames := 1, cells := 8, slots := 304, locals := 15 } : Room).cells ({ frames := 1, cells := 8, slots := 304, locals := 15 } : Room).slots) := by
  refine MetFree.of_bodySF (plainFor_of_name pn_30) hisR ?_
  intro p e s m args below meth c s₁ Bd hml0 hPX hKX
  obtain ⟨rfl, hZ, hh⟩ := hPX
  have hx := Bd.exec
  have hby := Bd.bytes
  have hml : c.maxLocals = 1 := hml0
  have hown : s.vm.findClass "com/example/weaverbird/weaverbird/model/xml/Attributes" = some m.cls := findClass_of_methodNamed Bd.named
  have hnm := (name_of_methodNamed Bd.named Bd.method).1
  have X0 : Stand p l e ({ frames := 1, cells := 8, slots := 304, locals := 15 } : Room) s m #[(.ref a)] below meth c s₁ [] 0 0 := Stand.of_body Bd
  have e0 : s₁.heap = h0 := by rw [← hh, Bd.state]; rfl
  have N0 := Fr.nil n0
  have pre0 : ∀ t, Steps p.tables e below (s₁.setTop (mkF m 0 #[rv a] [])) t → Steps p.tables e below (s₁.setTop (entryFrame m #[(.ref a)] 1)) t := fun t k => castTop (ef_30 m a) k
  obtain ⟨S0, hS0⟩ : ∃ z, z = (s₁.setTop (entryFrame m #[(.ref a)] 1)) := ⟨_, rfl⟩
  rw [← hS0] at pre0
  have K0 : Keep h0 h0 [a] := Keep.refl h0 _
  have pre1 : ∀ t, own_s p e below s₁ m 1 #[rv a] [(.ref a)] t → Steps p.tables e below S0 t := by
    intro tX kX
    refine pre0 _ ?_
    show own_s p e below s₁ m 0 #[rv a] [] _
    refine XS.aloadN X0.here hx rfl (hb hby d30_0) rfl rfl ?_
    exact kX
  obtain ⟨T2, X2, e2, st2⟩ := initO X0 hx hZ hown (hw _ (List.mem_of_getElem? (i := 15) rfl)) (hw _ (List.mem_of_getElem? (i := 16) rfl)) (hw _ (List.mem_of_getElem? (i := 17) rfl)) e0 (g := (mkF m 1 #[rv a] [(.ref a)])) rfl (by rw [hml]; rfl) rfl (hb hby d30_1) (by decide) (W := 0) (by show 2 * 0 + _ ≤ _; exact Nat.le_of_eq rfl) (by decide)
  have pre3 : ∀ t, own_s p e below T2 m 4 #[rv a] [] t → Steps p.tables e below S0 t := fun tX kX => pre1 _ (st2 _ kX)
  have pre4 : ∀ t, own_s p e below T2 m 7 #[rv a] [(.int (8 : Int32)), (.ref a)] t → Steps p.tables e below S0 t := by
    intro tX kX
    refine pre3 _ ?_
    show own_s p e below T2 m 4 #[rv a] [] _
    refine XS.aloadN X2.here hx rfl (hb hby d30_4) rfl rfl ?_
    refine XS.bipush X2.here hx rfl (hb hby d30_5) ?_
    exact kX
  obtain ⟨T5, h5, k5, X5, e5, E5, A5, O5, st5⟩ := newR X2 hx hZ hown (hw _ (List.mem_of_getElem? (i := 18) rfl)) (hw _ (List.mem_of_getElem? (i := 19) rfl)) e2 (g := (mkF m 7 #[rv a] [(.int (8 : Int32)), (.ref a)])) rfl (hb hby d30_7) rfl (by decide) (cap := 8) (by decide) (by decide) (by decide) (by decide)
  obtain ⟨b5, g5⟩ : ∃ z, z = h0.size := ⟨_, rfl⟩
  rw [← g5] at A5 st5
  have ne6 : a ≠ b5 := Nat.ne_of_lt (Nat.lt_of_lt_of_le E_a.lt (Nat.le_of_eq g5.symm))
  have g_b5 : n0 ≤ b5 := Nat.le_trans Z0 (Nat.le_of_eq g5.symm)
  have sz_b5 : h0.size ≤ b5 := Nat.le_trans K0.1 (Nat.le_of_eq g5.symm)
  have pre7 : ∀ t, own_s p e below T5 m 10 #[rv a] [(.ref b5), (.ref a)] t → Steps p.tables e below S0 t := fun tX kX => pre4 _ (st5 _ kX)
  have f8_E : Exa Z h5 a "com/example/weaverbird/weaverbird/model/xml/Attributes" := E_a.ext E5
  have f9_F : Fld Z h5 a "com/example/weaverbird/weaverbird/model/xml/Attributes" "names" "[Lcom/example/weaverbird/weaverbird/model/xml/NameTable$QualifiedName;" .null := F_names.ext E5
  have f10_F : Fld Z h5 a "com/example/weaverbird/weaverbird/model/xml/Attributes" "starts" "[I" .null := F_starts.ext E5
  have f11_F : Fld Z h5 a "com/example/weaverbird/weaverbird/model/xml/Attributes" "lengths" "[I" .null := F_lengths.ext E5
  have f12_F : Fld Z h5 a "com/example/weaverbird/weaverbird/model/xml/Attributes" "namespaces" "[Ljava/lang/String;" .null := F_namespaces.ext E5
  have f13_F : Fld Z h5 a "com/example/weaverbird/weaverbird/model/xml/Attributes" "declarations" "[Z" .null := F_declarations.ext E5
  have f14_F : Fld Z h5 a "com/example/weaverbird/weaverbird/model/xml/Attributes" "strings" "[Ljava/lang/String;" .null := F_strings.ext E5
  have f15_F : Fld Z h5 a "com/example/weaverbird/weaverbird/model/xml/Attributes" "values" "[C" .null := F_values.ext E5
  have f16_F : Fld Z h5 a "com/example/weaverbird/weaverbird/model/xml/Attributes" "slots" "[I" .null := F_slots.ext E5
  have f17_F : Fld Z h5 a "com/example/weaverbird/weaverbird/model/xml/Attributes" "count" "I" (.int (0 : Int32)) := F_count.ext E5
  have f18_F : Fld Z h5 a "com/example/weaverbird/weaverbird/model/xml/Attributes" "valuesLength" "I" (.int (0 : Int32)) := F_valuesLength.ext E5
  have Z19 : n0 ≤ h5.size := Nat.le_trans Z0 E5.1
  have K20 : Keep h0 h5 [a] := K0.ext E5
  have f21_A : own_Af Z h5 b5 (.object "com/example/weaverbird/weaverbird/model/xml/NameTable$QualifiedName") 8 (fun _ => .null) := own_Af.new A5 (by decide) rfl
  have f22_B : own_Ov Z h5 b5 "com/example/weaverbird/weaverbird/model/xml/NameTable$QualifiedName" := own_Ov.new A5 O5
  obtain ⟨T23, h23, X23, e23, W23, st23⟩ := putF X5 hx hZ hown (host := "") (Or.inl (hw _ (List.mem_of_getElem? (i := 20) rfl))) Via.refl e5 f9_F f8_E (Or.inl (hw _ (List.mem_of_getElem? (i := 21) rfl))) (hw _ (List.mem_of_getElem? (i := 10) rfl)) (ty := (.array (.object "com/example/weaverbird/weaverbird/model/xml/NameTable$QualifiedName"))) (by decide) rfl rfl (g := (mkF m 10 #[rv a] [(.ref b5), (.ref a)])) rfl rfl (hb hby d30_10)
  have pre24 : ∀ t, own_s p e below T23 m 13 #[rv a] [] t → Steps p.tables e below S0 t := fun tX kX => pre7 _ (st23 _ kX)
  obtain ⟨LL25, X25, N25⟩ : ∃ LL, Stand p l e ({ frames := 1, cells := 8, slots := 304, locals := 15 } : Room) s m #[(.ref a)] below meth c T23 LL 1 8 ∧ Fr n0 LL := ⟨_, X23, Fr.snoc X23 N0 g_a⟩
  have f26_E : Exa Z h23 a "com/example/weaverbird/weaverbird/model/xml/Attributes" := f8_E.wr W23
  have f27_F : Fld Z h23 a "com/example/weaverbird/weaverbird/model/xml/Attributes" "starts" "[I" .null := f10_F.other W23 (Or.inr (slot_ne (Or.inl (hw _ (List.mem_of_getElem? (i := 24) rfl))) (Or.inl (hw _ (List.mem_of_getElem? (i := 21) rfl))) (by decide) (t := (.array .int)) (t' := (.array (.object "com/example/weaverbird/weaverbird/model/xml/NameTable$QualifiedName"))) (by decide) (by decide)))
  have f28_F : Fld Z h23 a "com/example/weaverbird/weaverbird/model/xml/Attributes" "lengths" "[I" .null := f11_F.other W23 (Or.inr (slot_ne (Or.inl (hw _ (List.mem_of_getElem? (i := 26) rfl))) (Or.inl (hw _ (List.mem_of_getElem? (i := 21) rfl))) (by decide) (t := (.array .int)) (t' := (.array (.object "com/example/weaverbird/weaverbird/model/xml/NameTable$QualifiedName"))) (by decide) (by decide)))
  have f29_F : Fld Z h23 a "com/example/weaverbird/weaverbird/model/xml/Attributes" "namespaces" "[Ljava/lang/String;" .null := f12_F.other W23 (Or.inr (slot_ne (Or.inl (hw _ (List.mem_of_getElem? (i := 30) rfl))) (Or.inl (hw _ (List.mem_of_getElem? (i := 21) rfl))) (by decide) (t := (.array (.object "java/lang/String"))) (t' := (.array (.object "com/example/weaverbird/weaverbird/model/xml/NameTable$QualifiedName"))) (by decide) (by decide)))
  have f30_F : Fld Z h23 a "com/example/weaverbird/weaverbird/model/xml/Attributes" "declarations" "[Z" .null := f13_F.other W23 (Or.inr (slot_ne (Or.inl (hw _ (List.mem_of_getElem? (i := 33) rfl))) (Or.inl (hw _ (List.mem_of_getElem? (i := 21) rfl))) (by decide) (t := (.array .boolean)) (t' := (.array (.object "com/example/weaverbird/weaverbird/model/xml/NameTable$QualifiedName"))) (by decide) (by decide)))
  have f31_F : Fld Z h23 a "com/example/weaverbird/weaverbird/model/xml/Attributes" "strings" "[Ljava/lang/String;" .null := f14_F.other W23 (Or.inr (slot_ne (Or.inl (hw _ (List.mem_of_getElem? (i := 35) rfl))) (Or.inl (hw _ (List.mem_of_getElem? (i := 21) rfl))) (by decide) (t := (.array (.object "java/lang/String"))) (t' := (.array (.object "com/example/weaverbird/weaverbird/model/xml/NameTable$QualifiedName"))) (by decide) (by decide)))
  have f32_F : Fld Z h23 a "com/example/weaverbird/weaverbird/model/xml/Attributes" "values" "[C" .null := f15_F.other W23 (Or.inr (slot_ne (Or.inl (hw _ (List.mem_of_getElem? (i := 37) rfl))) (Or.inl (hw _ (List.mem_of_getElem? (i := 21) rfl))) (by decide) (t := (.array .char)) (t' := (.array (.object "com/example/weaverbird/weaverbird/model/xml/NameTable$QualifiedName"))) (by decide) (by decide)))
  have f33_F : Fld Z h23 a "com/example/weaverbird/weaverbird/model/xml/Attributes" "slots" "[I" .null := f16_F.other W23 (Or.inr (slot_ne (Or.inl (hw _ (List.mem_of_getElem? (i := 39) rfl))) (Or.inl (hw _ (List.mem_of_getElem? (i := 21) rfl))) (by decide) (t := (.array .int)) (t' := (.array (.object "com/example/weaverbird/weaverbird/model/xml/NameTable$QualifiedName"))) (by decide) (by decide)))
  have f34_F : Fld Z h23 a "com/example/weaverbird/weaverbird/model/xml/Attributes" "count" "I" (.int (0 : Int32)) := f17_F.other W23 (Or.inr (slot_ne (Or.inl (hw _ (List.mem_of_getElem? (i := 46) rfl))) (Or.inl (hw _ (List.mem_of_getElem? (i := 21) rfl))) (by decide) (t := .int) (t' := (.array (.object "com/example/weaverbird/weaverbird/model/xml/NameTable$QualifiedName"))) (by decide) (by decide)))
  have f35_F : Fld Z h23 a "com/example/weaverbird/weaverbird/model/xml/Attributes" "valuesLength" "I" (.int (0 : Int32)) := f18_F.other W23 (Or.inr (slot_ne (Or.inl (hw _ (List.mem_of_getElem? (i := 48) rfl))) (Or.inl (hw _ (List.mem_of_getElem? (i := 21) rfl))) (by decide) (t := .int) (t' := (.array (.object "com/example/weaverbird/weaverbird/model/xml/NameTable$QualifiedName"))) (by decide) (by decide)))
  have f36_A : own_Af Z h23 b5 (.object "com/example/weaverbird/weaverbird/model/xml/NameTable$QualifiedName") 8 (fun _ => .null) := f21_A.other W23 (Ne.symm ne6)
  have f37_B : own_Ov Z h23 b5 "com/example/weaverbird/weaverbird/model/xml/NameTable$QualifiedName" := f22_B.wr W23
  have Z38 : n0 ≤ h23.size := Nat.le_trans Z19 (Keep.of_wr W23).1
  have K39 : Keep h0 h23 [a] := K20.wr W23 (Or.inl (List.mem_of_getElem? (i := 0) rfl))
  have f40_F : Fld Z h23 a "com/example/weaverbird/weaverbird/model/xml/Attributes" "names" "[Lcom/example/weaverbird/weaverbird/model/xml/NameTable$QualifiedName;" (.ref b5) := f9_F.same W23
  have pre41 : ∀ t, own_s p e below T23 m 16 #[rv a] [(.int (8 : Int32)), (.ref a)] t → Steps p.tables e below S0 t := by
    intro tX kX
    refine pre24 _ ?_
    show own_s p e below T23 m 13 #[rv a] [] _
    refine XS.aloadN X25.here hx rfl (hb hby d30_13) rfl rfl ?_
    refine XS.bipush X25.here hx rfl (hb hby d30_14) ?_
    exact kX
  obtain ⟨T42, h42, k42, X42, e42, E42, A42, st42⟩ := newP X25 hx hZ (hw _ (List.mem_of_getElem? (i := 22) rfl)) e23 (g := (mkF m 16 #[rv a] [(.int (8 : Int32)), (.ref a)])) rfl (hb hby d30_16) rfl (by decide) (cap := 8) (by decide) (by decide) (by decide) (by decide)
  obtain ⟨b42, g42⟩ : ∃ z, z = h23.size := ⟨_, rfl⟩
  rw [← g42] at A42 st42
  have ne43 : a ≠ b42 := Nat.ne_of_lt (Nat.lt_of_lt_of_le f26_E.lt (Nat.le_of_eq g42.symm))
  have ne44 : b5 ≠ b42 := Nat.ne_of_lt (Nat.lt_of_lt_of_le f36_A.lt (Nat.le_of_eq g42.symm))
  have g_b42 : n0 ≤ b42 := Nat.le_trans Z38 (Nat.le_of_eq g42.symm)
  have sz_b42 : h0.size ≤ b42 := Nat.le_trans K39.1 (Nat.le_of_eq g42.symm)
  have lt_b42 : b5 < b42 := Nat.lt_of_lt_of_le f36_A.lt (Nat.le_of_eq g42.symm)
  have pre45 : ∀ t, own_s p e below T42 m 18 #[rv a] [(.ref b42), (.ref a)] t → Steps p.tables e below S0 t := fun tX kX => pre41 _ (st42 _ kX)
  have f46_E : Exa Z h42 a "com/example/weaverbird/weaverbird/model/xml/Attributes" := f26_E.ext E42
  have f47_F : Fld Z h42 a "com/example/weaverbird/weaverbird/model/xml/Attributes" "starts" "[I" .null := f27_F.ext E42
  have f48_F : Fld Z h42 a "com/example/weaverbird/weaverbird/model/xml/Attributes" "lengths" "[I" .null := f28_F.ext E42
  have f49_F : Fld Z h42 a "com/example/weaverbird/weaverbird/model/xml/Attributes" "namespaces" "[Ljava/lang/String;" .null := f29_F.ext E42
  have f50_F : Fld Z h42 a "com/example/weaverbird/weaverbird/model/xml/Attributes" "declarations" "[Z" .null := f30_F.ext E42
  have f51_F : Fld Z h42 a "com/example/weaverbird/weaverbird/model/xml/Attributes" "strings" "[Ljava/lang/String;" .null := f31_F.ext E42
  have f52_F : Fld Z h42 a "com/example/weaverbird/weaverbird/model/xml/Attributes" "values" "[C" .null := f32_F.ext E42
  have f53_F : Fld Z h42 a "com/example/weaverbird/weaverbird/model/xml/Attributes" "slots" "[I" .null := f33_F.ext E42
  have f54_F : Fld Z h42 a "com/example/weaverbird/weaverbird/model/xml/Attributes" "count" "I" (.int (0 : Int32)) := f34_F.ext E42
  have f55_F : Fld Z h42 a "com/example/weaverbird/weaverbird/model/xml/Attributes" "valuesLength" "I" (.int (0 : Int32)) := f35_F.ext E42
  have f56_A : own_Af Z h42 b5 (.object "com/example/weaverbird/weaverbird/model/xml/NameTable$QualifiedName") 8 (fun _ => .null) := f36_A.ext E42
  have f57_B : own_Ov Z h42 b5 "com/example/weaverbird/weaverbird/model/xml/NameTable$QualifiedName" := f37_B.ext E42
  have f58_F : Fld Z h42 a "com/example/weaverbird/weaverbird/model/xml/Attributes" "names" "[Lcom/example/weaverbird/weaverbird/model/xml/NameTable$QualifiedName;" (.ref b5) := f40_F.ext E42
  have Z59 : n0 ≤ h42.size := Nat.le_trans Z38 E42.1
  have K60 : Keep h0 h42 [a] := K39.ext E42
  have f61_A : own_Af Z h42 b42 .int 8 (fun _ => (.int (0 : Int32))) := own_Af.new A42 (by decide) rfl
  obtain ⟨T62, h62, X62, e62, W62, st62⟩ := putF X42 hx hZ hown (host := "") (Or.inl (hw _ (List.mem_of_getElem? (i := 23) rfl))) Via.refl e42 f47_F f46_E (Or.inl (hw _ (List.mem_of_getElem? (i := 24) rfl))) (hw _ (List.mem_of_getElem? (i := 10) rfl)) (ty := (.array .int)) (by decide) rfl rfl (g := (mkF m 18 #[rv a] [(.ref b42), (.ref a)])) rfl rfl (hb hby d30_18)
  have pre63 : ∀ t, own_s p e below T62 m 21 #[rv a] [] t → Steps p.tables e below S0 t := fun tX kX => pre45 _ (st62 _ kX)
  obtain ⟨LL64, X64, N64⟩ : ∃ LL, Stand p l e ({ frames := 1, cells := 8, slots := 304, locals := 15 } : Room) s m #[(.ref a)] below meth c T62 LL 2 16 ∧ Fr n0 LL := ⟨_, X62, Fr.snoc X62 N25 g_a⟩
  have f65_E : Exa Z h62 a "com/example/weaverbird/weaverbird/model/xml/Attributes" := f46_E.wr W62
  have f66_F : Fld Z h62 a "com/example/weaverbird/weaverbird/model/xml/Attributes" "lengths" "[I" .null := f48_F.other W62 (Or.inr (slot_ne (Or.inl (hw _ (List.mem_of_getElem? (i := 26) rfl))) (Or.inl (hw _ (List.mem_of_getElem? (i := 24) rfl))) (by decide) (t := (.array .int)) (t' := (.array .int)) (by decide) (by decide)))
  have f67_F : Fld Z h62 a "com/example/weaverbird/weaverbird/model/xml/Attributes" "namespaces" "[Ljava/lang/String;" .null := f49_F.other W62 (Or.inr (slot_ne (Or.inl (hw _ (List.mem_of_getElem? (i := 30) rfl))) (Or.inl (hw _ (List.mem_of_getElem? (i := 24) rfl))) (by decide) (t := (.array (.object "java/lang/String"))) (t' := (.array .int)) (by decide) (by decide)))
  have f68_F : Fld Z h62 a "com/example/weaverbird/weaverbird/model/xml/Attributes" "declarations" "[Z" .null := f50_F.other W62 (Or.inr (slot_ne (Or.inl (hw _ (List.mem_of_getElem? (i := 33) rfl))) (Or.inl (hw _ (List.mem_of_getElem? (i := 24) rfl))) (by decide) (t := (.array .boolean)) (t' := (.array .int)) (by decide) (by decide)))
  have f69_F : Fld Z h62 a "com/example/weaverbird/weaverbird/model/xml/Attributes" "strings" "[Ljava/lang/String;" .null := f51_F.other W62 (Or.inr (slot_ne (Or.inl (hw _ (List.mem_of_getElem? (i := 35) rfl))) (Or.inl (hw _ (List.mem_of_getElem? (i := 24) rfl))) (by decide) (t := (.array (.object "java/lang/String"))) (t' := (.array .int)) (by decide) (by decide)))
  have f70_F : Fld Z h62 a "com/example/weaverbird/weaverbird/model/xml/Attributes" "values" "[C" .null := f52_F.other W62 (Or.inr (slot_ne (Or.inl (hw _ (List.mem_of_getElem? (i := 37) rfl))) (Or.inl (hw _ (List.mem_of_getElem? (i := 24) rfl))) (by decide) (t := (.array .char)) (t' := (.array .int)) (by decide) (by decide)))
  have f71_F : Fld Z h62 a "com/example/weaverbird/weaverbird/model/xml/Attributes" "slots" "[I" .null := f53_F.other W62 (Or.inr (slot_ne (Or.inl (hw _ (List.mem_of_getElem? (i := 39) rfl))) (Or.inl (hw _ (List.mem_of_getElem? (i := 24) rfl))) (by decide) (t := (.array .int)) (t' := (.array .int)) (by decide) (by decide)))
  have f72_F : Fld Z h62 a "com/example/weaverbird/weaverbird/model/xml/Attributes" "count" "I" (.int (0 : Int32)) := f54_F.other W62 (Or.inr (slot_ne (Or.inl (hw _ (List.mem_of_getElem? (i := 46) rfl))) (Or.inl (hw _ (List.mem_of_getElem? (i := 24) rfl))) (by decide) (t := .int) (t' := (.array .int)) (by decide) (by decide)))
  have f73_F : Fld Z h62 a "com/example/weaverbird/weaverbird/model/xml/Attributes" "valuesLength" "I" (.int (0 : Int32)) := f55_F.other W62 (Or.inr (slot_ne (Or.inl (hw _ (List.mem_of_getElem? (i := 48) rfl))) (Or.inl (hw _ (List.mem_of_getElem? (i := 24) rfl))) (by decide) (t := .int) (t' := (.array .int)) (by decide) (by decide)))
  have f74_A : own_Af Z h62 b5 (.object "com/example/weaverbird/weaverbird/model/xml/NameTable$QualifiedName") 8 (fun _ => .null) := f56_A.other W62 (Ne.symm ne6)
  have f75_B : own_Ov Z h62 b5 "com/example/weaverbird/weaverbird/model/xml/NameTable$QualifiedName" := f57_B.wr W62
  have f76_F : Fld Z h62 a "com/example/weaverbird/weaverbird/model/xml/Attributes" "names" "[Lcom/example/weaverbird/weaverbird/model/xml/NameTable$QualifiedName;" (.ref b5) := f58_F.other W62 (Or.inr (slot_ne (Or.inl (hw _ (List.mem_of_getElem? (i := 21) rfl))) (Or.inl (hw _ (List.mem_of_getElem? (i := 24) rfl))) (by decide) (t := (.array (.object "com/example/weaverbird/weaverbird/model/xml/NameTable$QualifiedName"))) (t' := (.array .int)) (by decide) (by decide)))
  have f77_A : own_Af Z h62 b42 .int 8 (fun _ => (.int (0 : Int32))) := f61_A.other W62 (Ne.symm ne43)
  have Z78 : n0 ≤ h62.size := Nat.le_trans Z59 (Keep.of_wr W62).1
  have K79 : Keep h0 h62 [a] := K60.wr W62 (Or.inl (List.mem_of_getElem? (i := 0) rfl))
  have f80_F : Fld Z h62 a "com/example/weaverbird/weaverbird/model/xml/Attributes" "starts" "[I" (.ref b42) := f47_F.same W62
  have pre81 : ∀ t, own_s p e below T62 m 24 #[rv a] [(.int (8 : Int32)), (.ref a)] t → Steps p.tables e below S0 t := by
    intro tX kX
    refine pre63 _ ?_
    show own_s p e below T62 m 21 #[rv a] [] _
    refine XS.aloadN X64.here hx rfl (hb hby d30_21) rfl rfl ?_
    refine XS.bipush X64.here hx rfl (hb hby d30_22) ?_
    exact kX
  obtain ⟨T82, h82, k82, X82, e82, E82, A82, st82⟩ := newP X64 hx hZ (hw _ (List.mem_of_getElem? (i := 22) rfl)) e62 (g := (mkF m 24 #[rv a] [(.int (8 : Int32)), (.ref a)])) rfl (hb hby d30_24) rfl (by decide) (cap := 8) (by decide) (by decide) (by decide) (by decide)
  obtain ⟨b82, g82⟩ : ∃ z, z = h62.size := ⟨_, rfl⟩
  rw [← g82] at A82 st82
  have ne83 : a ≠ b82 := Nat.ne_of_lt (Nat.lt_of_lt_of_le f65_E.lt (Nat.le_of_eq g82.symm))
  have ne84 : b5 ≠ b82 := Nat.ne_of_lt (Nat.lt_of_lt_of_le f74_A.lt (Nat.le_of_eq g82.symm))
  have ne85 : b42 ≠ b82 := Nat.ne_of_lt (Nat.lt_of_lt_of_le f77_A.lt (Nat.le_of_eq g82.symm))
  have g_b82 : n0 ≤ b82 := Nat.le_trans Z78 (Nat.le_of_eq g82.symm)
  have sz_b82 : h0.size ≤ b82 := Nat.le_trans K79.1 (Nat.le_of_eq g82.symm)
  have lt_b82 : b42 < b82 := Nat.lt_of_lt_of_le f77_A.lt (Nat.le_of_eq g82.symm)
  have pre86 : ∀ t, own_s p e below T82 m 26 #[rv a] [(.ref b82), (.ref a)] t → Steps p.tables e below S0 t := fun tX kX => pre81 _ (st82 _ kX)
  have f87_E : Exa Z h82 a "com/example/weaverbird/weaverbird/model/xml/Attributes" := f65_E.ext E82
  have f88_F : Fld Z h82 a "com/example/weaverbird/weaverbird/model/xml/Attributes" "lengths" "[I" .null := f66_F.ext E82
  have f89_F : Fld Z h82 a "com/example/weaverbird/weaverbird/model/xml/Attributes" "namespaces" "[Ljava/lang/String;" .null := f67_F.ext E82
  have f90_F : Fld Z h82 a "com/example/weaverbird/weaverbird/model/xml/Attributes" "declarations" "[Z" .null := f68_F.ext E82
  have f91_F : Fld Z h82 a "com/example/weaverbird/weaverbird/model/xml/Attributes" "strings" "[Ljava/lang/String;" .null := f69_F.ext E82
  have f92_F : Fld Z h82 a "com/example/weaverbird/weaverbird/model/xml/Attributes" "values" "[C" .null := f70_F.ext E82
  have f93_F : Fld Z h82 a "com/example/weaverbird/weaverbird/model/xml/Attributes" "slots" "[I" .null := f71_F.ext E82
  have f94_F : Fld Z h82 a "com/example/weaverbird/weaverbird/model/xml/Attributes" "count" "I" (.int (0 : Int32)) := f72_F.ext E82
  have f95_F : Fld Z h82 a "com/example/weaverbird/weaverbird/model/xml/Attributes" "valuesLength" "I" (.int (0 : Int32)) := f73_F.ext E82
  have f96_A : own_Af Z h82 b5 (.object "com/example/weaverbird/weaverbird/model/xml/NameTable$QualifiedName") 8 (fun _ => .null) := f74_A.ext E82
  have f97_B : own_Ov Z h82 b5 "com/example/weaverbird/weaverbird/model/xml/NameTable$QualifiedName" := f75_B.ext E82
  have f98_F : Fld Z h82 a "com/example/weaverbird/weaverbird/model/xml/Attributes" "names" "[Lcom/example/weaverbird/weaverbird/model/xml/NameTable$QualifiedName;" (.ref b5) := f76_F.ext E82
  have f99_A : own_Af Z h82 b42 .int 8 (fun _ => (.int (0 : Int32))) := f77_A.ext E82
  have f100_F : Fld Z h82 a "com/example/weaverbird/weaverbird/model/xml/Attributes" "starts" "[I" (.ref b42) := f80_F.ext E82
  have Z101 : n0 ≤ h82.size := Nat.le_trans Z78 E82.1
  have K102 : Keep h0 h82 [a] := K79.ext E82
  have f103_A : own_Af Z h82 b82 .int 8 (fun _ => (.int (0 : Int32))) := own_Af.new A82 (by decide) rfl
  obtain ⟨T104, h104, X104, e104, W104, st104⟩ := putF X82 hx hZ hown (host := "") (Or.inl (hw _ (List.mem_of_getElem? (i := 25) rfl))) Via.refl e82 f88_F f87_E (Or.inl (hw _ (List.mem_of_getElem? (i := 26) rfl))) (hw _ (List.mem_of_getElem? (i := 10) rfl)) (ty := (.array .int)) (by decide) rfl rfl (g := (mkF m 26 #[rv a] [(.ref b82), (.ref a)])) rfl rfl (hb hby d30_26)
  have pre105 : ∀ t, own_s p e below T104 m 29 #[rv a] [] t → Steps p.tables e below S0 t := fun tX kX => pre86 _ (st104 _ kX)
  obtain ⟨LL106, X106, N106⟩ : ∃ LL, Stand p l e ({ frames := 1, cells := 8, slots := 304, locals := 15 } : Room) s m #[(.ref a)] below meth c T104 LL 3 24 ∧ Fr n0 LL := ⟨_, X104, Fr.snoc X104 N64 g_a⟩
  have f107_E : Exa Z h104 a "com/example/weaverbird/weaverbird/model/xml/Attributes" := f87_E.wr W104
  have f108_F : Fld Z h104 a "com/example/weaverbird/weaverbird/model/xml/Attributes" "namespaces" "[Ljava/lang/String;" .null := f89_F.other W104 (Or.inr (slot_ne (Or.inl (hw _ (List.mem_of_getElem? (i := 30) rfl))) (Or.inl (hw _ (List.mem_of_getElem? (i := 26) rfl))) (by decide) (t := (.array (.object "java/lang/String"))) (t' := (.array .int)) (by decide) (by decide)))
  have f109_F : Fld Z h104 a "com/example/weaverbird/weaverbird/model/xml/Attributes" "declarations" "[Z" .null := f90_F.other W104 (Or.inr (slot_ne (Or.inl (hw _ (List.mem_of_getElem? (i := 33) rfl))) (Or.inl (hw _ (List.mem_of_getElem? (i := 26) rfl))) (by decide) (t := (.array .boolean)) (t' := (.array .int)) (by decide) (by decide)))
  have f110_F : Fld Z h104 a "com/example/weaverbird/weaverbird/model/xml/Attributes" "strings" "[Ljava/lang/String;" .null := f91_F.other W104 (Or.inr (slot_ne (Or.inl (hw _ (List.mem_of_getElem? (i := 35) rfl))) (Or.inl (hw _ (List.mem_of_getElem? (i := 26) rfl))) (by decide) (t := (.array (.object "java/lang/String"))) (t' := (.array .int)) (by decide) (by decide)))
  have f111_F : Fld Z h104 a "com/example/weaverbird/weaverbird/model/xml/Attributes" "values" "[C" .null := f92_F.other W104 (Or.inr (slot_ne (Or.inl (hw _ (List.mem_of_getElem? (i := 37) rfl))) (Or.inl (hw _ (List.mem_of_getElem? (i := 26) rfl))) (by decide) (t := (.array .char)) (t' := (.array .int)) (by decide) (by decide)))
  have f112_F : Fld Z h104 a "com/example/weaverbird/weaverbird/model/xml/Attributes" "slots" "[I" .null := f93_F.other W104 (Or.inr (slot_ne (Or.inl (hw _ (List.mem_of_getElem? (i := 39) rfl))) (Or.inl (hw _ (List.mem_of_getElem? (i := 26) rfl))) (by decide) (t := (.array .int)) (t' := (.array .int)) (by decide) (by decide)))
  have f113_F : Fld Z h104 a "com/example/weaverbird/weaverbird/model/xml/Attributes" "count" "I" (.int (0 : Int32)) := f94_F.other W104 (Or.inr (slot_ne (Or.inl (hw _ (List.mem_of_getElem? (i := 46) rfl))) (Or.inl (hw _ (List.mem_of_getElem? (i := 26) rfl))) (by decide) (t := .int) (t' := (.array .int)) (by decide) (by decide)))
  have f114_F : Fld Z h104 a "com/example/weaverbird/weaverbird/model/xml/Attributes" "valuesLength" "I" (.int (0 : Int32)) := f95_F.other W104 (Or.inr (slot_ne (Or.inl (hw _ (List.mem_of_getElem? (i := 48) rfl))) (Or.inl (hw _ (List.mem_of_getElem? (i := 26) rfl))) (by decide) (t := .int) (t' := (.array .int)) (by decide) (by decide)))
  have f115_A : own_Af Z h104 b5 (.object "com/example/weaverbird/weaverbird/model/xml/NameTable$QualifiedName") 8 (fun _ => .null) := f96_A.other W104 (Ne.symm ne6)
  have f116_B : own_Ov Z h104 b5 "com/example/weaverbird/weaverbird/model/xml/NameTable$QualifiedName" := f97_B.wr W104
  have f117_F : Fld Z h104 a "com/example/weaverbird/weaverbird/model/xml/Attributes" "names" "[Lcom/example/weaverbird/weaverbird/model/xml/NameTable$QualifiedName;" (.ref b5) := f98_F.other W104 (Or.inr (slot_ne (Or.inl (hw _ (List.mem_of_getElem? (i := 21) rfl))) (Or.inl (hw _ (List.mem_of_getElem? (i := 26) rfl))) (by decide) (t := (.array (.object "com/example/weaverbird/weaverbird/model/xml/NameTable$QualifiedName"))) (t' := (.array .int)) (by decide) (by decide)))
  have f118_A : own_Af Z h104 b42 .int 8 (fun _ => (.int (0 : Int32))) := f99_A.other W104 (Ne.symm ne43)
  have f119_F : Fld Z h104 a "com/example/weaverbird/weaverbird/model/xml/Attributes" "starts" "[I" (.ref b42) := f100_F.other W104 (Or.inr (slot_ne (Or.inl (hw _ (List.mem_of_getElem? (i := 24) rfl))) (Or.inl (hw _ (List.mem_of_getElem? (i := 26) rfl))) (by decide) (t := (.array .int)) (t' := (.array .int)) (by decide) (by decide)))
  have f120_A : own_Af Z h104 b82 .int 8 (fun _ => (.int (0 : Int32))) := f103_A.other W104 (Ne.symm ne83)
  have Z121 : n0 ≤ h104.size := Nat.le_trans Z101 (Keep.of_wr W104).1
  have K122 : Keep h0 h104 [a] := K102.wr W104 (Or.inl (List.mem_of_getElem? (i := 0) rfl))
  have f123_F : Fld Z h104 a "com/example/weaverbird/weaverbird/model/xml/Attributes" "lengths" "[I" (.ref b82) := f88_F.same W104
  have pre124 : ∀ t, own_s p e below T104 m 32 #[rv a] [(.int (8 : Int32)), (.ref a)] t → Steps p.tables e below S0 t := by
    intro tX kX
    refine pre105 _ ?_
    show own_s p e below T104 m 29 #[rv a] [] _
    refine XS.aloadN X106.here hx rfl (hb hby d30_29) rfl rfl ?_
    refine XS.bipush X106.here hx rfl (hb hby d30_30) ?_
    exact kX
  obtain ⟨T125, h125, k125, X125, e125, E125, A125, O125, st125⟩ := newR X106 hx hZ hown (hw _ (List.mem_of_getElem? (i := 27) rfl)) (hw _ (List.mem_of_getElem? (i := 28) rfl)) e104 (g := (mkF m 32 #[rv a] [(.int (8 : Int32)), (.ref a)])) rfl (hb hby d30_32) rfl (by decide) (cap := 8) (by decide) (by decide) (by decide) (by decide)
  obtain ⟨b125, g125⟩ : ∃ z, z = h104.size := ⟨_, rfl⟩
  rw [← g125] at A125 st125
  have ne126 : a ≠ b125 := Nat.ne_of_lt (Nat.lt_of_lt_of_le f107_E.lt (Nat.le_of_eq g125.symm))
  have ne127 : b5 ≠ b125 := Nat.ne_of_lt (Nat.lt_of_lt_of_le f115_A.lt (Nat.le_of_eq g125.symm))
  have ne128 : b42 ≠ b125 := Nat.ne_of_lt (Nat.lt_of_lt_of_le f118_A.lt (Nat.le_of_eq g125.symm))
  have ne129 : b82 ≠ b125 := Nat.ne_of_lt (Nat.lt_of_lt_of_le f120_A.lt (Nat.le_of_eq g125.symm))
  have g_b125 : n0 ≤ b125 := Nat.le_trans Z121 (Nat.le_of_eq g125.symm)
  have sz_b125 : h0.size ≤ b125 := Nat.le_trans K122.1 (Nat.le_of_eq g125.symm)
  have lt_b125 : b82 < b125 := Nat.lt_of_lt_of_le f120_A.lt (Nat.le_of_eq g125.symm)
  have pre130 : ∀ t, own_s p e below T125 m 35 #[rv a] [(.ref b125), (.ref a)] t → Steps p.tables e below S0 t := fun tX kX => pre124 _ (st125 _ kX)
  have f131_E : Exa Z h125 a "com/example/weaverbird/weaverbird/model/xml/Attributes" := f107_E.ext E125
  have f132_F : Fld Z h125 a "com/example/weaverbird/weaverbird/model/xml/Attributes" "namespaces" "[Ljava/lang/String;" .null := f108_F.ext E125
  have f133_F : Fld Z h125 a "com/example/weaverbird/weaverbird/model/xml/Attributes" "declarations" "[Z" .null := f109_F.ext E125
  have f134_F : Fld Z h125 a "com/example/weaverbird/weaverbird/model/xml/Attributes" "strings" "[Ljava/lang/String;" .null := f110_F.ext E125
  have f135_F : Fld Z h125 a "com/example/weaverbird/weaverbird/model/xml/Attributes" "values" "[C" .null := f111_F.ext E125
  have f136_F : Fld Z h125 a "com/example/weaverbird/weaverbird/model/xml/Attributes" "slots" "[I" .null := f112_F.ext E125
  have f137_F : Fld Z h125 a "com/example/weaverbird/weaverbird/model/xml/Attributes" "count" "I" (.int (0 : Int32)) := f113_F.ext E125
  have f138_F : Fld Z h125 a "com/example/weaverbird/weaverbird/model/xml/Attributes" "valuesLength" "I" (.int (0 : Int32)) := f114_F.ext E125
  have f139_A : own_Af Z h125 b5 (.object "com/example/weaverbird/weaverbird/model/xml/NameTable$QualifiedName") 8 (fun _ => .null) := f115_A.ext E125
  have f140_B : own_Ov Z h125 b5 "com/example/weaverbird/weaverbird/model/xml/NameTable$QualifiedName" := f116_B.ext E125
  have f141_F : Fld Z h125 a "com/example/weaverbird/weaverbird/model/xml/Attributes" "names" "[Lcom/example/weaverbird/weaverbird/model/xml/NameTable$QualifiedName;" (.ref b5) := f117_F.ext E125
  have f142_A : own_Af Z h125 b42 .int 8 (fun _ => (.int (0 : Int32))) := f118_A.ext E125
  have f143_F : Fld Z h125 a "com/example/weaverbird/weaverbird/model/xml/Attributes" "starts" "[I" (.ref b42) := f119_F.ext E125
  have f144_A : own_Af Z h125 b82 .int 8 (fun _ => (.int (0 : Int32))) := f120_A.ext E125
  have f145_F : Fld Z h125 a "com/example/weaverbird/weaverbird/model/xml/Attributes" "lengths" "[I" (.ref b82) := f123_F.ext E125
  have Z146 : n0 ≤ h125.size := Nat.le_trans Z121 E125.1
  have K147 : Keep h0 h125 [a] := K122.ext E125
  have f148_A : own_Af Z h125 b125 (.object "java/lang/String") 8 (fun _ => .null) := own_Af.new A125 (by decide) rfl
  have f149_B : own_Ov Z h125 b125 "java/lang/String" := own_Ov.new A125 O125
  obtain ⟨T150, h150, X150, e150, W150, st150⟩ := putF X125 hx hZ hown (host := "") (Or.inl (hw _ (List.mem_of_getElem? (i := 29) rfl))) Via.refl e125 f132_F f131_E (Or.inl (hw _ (List.mem_of_getElem? (i := 30) rfl))) (hw _ (List.mem_of_getElem? (i := 10) rfl)) (ty := (.array (.object "java/lang/String"))) (by decide) rfl rfl (g := (mkF m 35 #[rv a] [(.ref b125), (.ref a)])) rfl rfl (hb hby d30_35)
  have pre151 : ∀ t, own_s p e below T150 m 38 #[rv a] [] t → Steps p.tables e below S0 t := fun tX kX => pre130 _ (st150 _ kX)
  obtain ⟨LL152, X152, N152⟩ : ∃ LL, Stand p l e ({ frames := 1, cells := 8, slots := 304, locals := 15 } : Room) s m #[(.ref a)] below meth c T150 LL 4 32 ∧ Fr n0 LL := ⟨_, X150, Fr.snoc X150 N106 g_a⟩
  have f153_E : Exa Z h150 a "com/example/weaverbird/weaverbird/model/xml/Attributes" := f131_E.wr W150
  have f154_F : Fld Z h150 a "com/example/weaverbird/weaverbird/model/xml/Attributes" "declarations" "[Z" .null := f133_F.other W150 (Or.inr (slot_ne (Or.inl (hw _ (List.mem_of_getElem? (i := 33) rfl))) (Or.inl (hw _ (List.mem_of_getElem? (i := 30) rfl))) (by decide) (t := (.array .boolean)) (t' := (.array (.object "java/lang/String"))) (by decide) (by decide)))
  have f155_F : Fld Z h150 a "com/example/weaverbird/weaverbird/model/xml/Attributes" "strings" "[Ljava/lang/String;" .null := f134_F.other W150 (Or.inr (slot_ne (Or.inl (hw _ (List.mem_of_getElem? (i := 35) rfl))) (Or.inl (hw _ (List.mem_of_getElem? (i := 30) rfl))) (by decide) (t := (.array (.object "java/lang/String"))) (t' := (.array (.object "java/lang/String"))) (by decide) (by decide)))
  have f156_F : Fld Z h150 a "com/example/weaverbird/weaverbird/model/xml/Attributes" "values" "[C" .null := f135_F.other W150 (Or.inr (slot_ne (Or.inl (hw _ (List.mem_of_getElem? (i := 37) rfl))) (Or.inl (hw _ (List.mem_of_getElem? (i := 30) rfl))) (by decide) (t := (.array .char)) (t' := (.array (.object "java/lang/String"))) (by decide) (by decide)))
  have f157_F : Fld Z h150 a "com/example/weaverbird/weaverbird/model/xml/Attributes" "slots" "[I" .null := f136_F.other W150 (Or.inr (slot_ne (Or.inl (hw _ (List.mem_of_getElem? (i := 39) rfl))) (Or.inl (hw _ (List.mem_of_getElem? (i := 30) rfl))) (by decide) (t := (.array .int)) (t' := (.array (.object "java/lang/String"))) (by decide) (by decide)))
  have f158_F : Fld Z h150 a "com/example/weaverbird/weaverbird/model/xml/Attributes" "count" "I" (.int (0 : Int32)) := f137_F.other W150 (Or.inr (slot_ne (Or.inl (hw _ (List.mem_of_getElem? (i := 46) rfl))) (Or.inl (hw _ (List.mem_of_getElem? (i := 30) rfl))) (by decide) (t := .int) (t' := (.array (.object "java/lang/String"))) (by decide) (by decide)))
  have f159_F : Fld Z h150 a "com/example/weaverbird/weaverbird/model/xml/Attributes" "valuesLength" "I" (.int (0 : Int32)) := f138_F.other W150 (Or.inr (slot_ne (Or.inl (hw _ (List.mem_of_getElem? (i := 48) rfl))) (Or.inl (hw _ (List.mem_of_getElem? (i := 30) rfl))) (by decide) (t := .int) (t' := (.array (.object "java/lang/String"))) (by decide) (by decide)))
  have f160_A : own_Af Z h150 b5 (.object "com/example/weaverbird/weaverbird/model/xml/NameTable$QualifiedName") 8 (fun _ => .null) := f139_A.other W150 (Ne.symm ne6)
  have f161_B : own_Ov Z h150 b5 "com/example/weaverbird/weaverbird/model/xml/NameTable$QualifiedName" := f140_B.wr W150
  have f162_F : Fld Z h150 a "com/example/weaverbird/weaverbird/model/xml/Attributes" "names" "[Lcom/example/weaverbird/weaverbird/model/xml/NameTable$QualifiedName;" (.ref b5) := f141_F.other W150 (Or.inr (slot_ne (Or.inl (hw _ (List.mem_of_getElem? (i := 21) rfl))) (Or.inl (hw _ (List.mem_of_getElem? (i := 30) rfl))) (by decide) (t := (.array (.object "com/example/weaverbird/weaverbird/model/xml/NameTable$QualifiedName"))) (t' := (.array (.object "java/lang/String"))) (by decide) (by decide)))
  have f163_A : own_Af Z h150 b42 .int 8 (fun _ => (.int (0 : Int32))) := f142_A.other W150 (Ne.symm ne43)
  have f164_F : Fld Z h150 a "com/example/weaverbird/weaverbird/model/xml/Attributes" "starts" "[I" (.ref b42) := f143_F.other W150 (Or.inr (slot_ne (Or.inl (hw _ (List.mem_of_getElem? (i := 24) rfl))) (Or.inl (hw _ (List.mem_of_getElem? (i := 30) rfl))) (by decide) (t := (.array .int)) (t' := (.array (.object "java/lang/String"))) (by decide) (by decide)))
  have f165_A : own_Af Z h150 b82 .int 8 (fun _ => (.int (0 : Int32))) := f144_A.other W150 (Ne.symm ne83)
  have f166_F : Fld Z h150 a "com/example/weaverbird/weaverbird/model/xml/Attributes" "lengths" "[I" (.ref b82) := f145_F.other W150 (Or.inr (slot_ne (Or.inl (hw _ (List.mem_of_getElem? (i := 26) rfl))) (Or.inl (hw _ (List.mem_of_getElem? (i := 30) rfl))) (by decide) (t := (.array .int)) (t' := (.array (.object "java/lang/String"))) (by decide) (by decide)))
  have f167_A : own_Af Z h150 b125 (.object "java/lang/String") 8 (fun _ => .null) := f148_A.other W150 (Ne.symm ne126)
  have f168_B : own_Ov Z h150 b125 "java/lang/String" := f149_B.wr W150
  have Z169 : n0 ≤ h150.size := Nat.le_trans Z146 (Keep.of_wr W150).1
  have K170 : Keep h0 h150 [a] := K147.wr W150 (Or.inl (List.mem_of_getElem? (i := 0) rfl))
  have f171_F : Fld Z h150 a "com/example/weaverbird/weaverbird/model/xml/Attributes" "namespaces" "[Ljava/lang/String;" (.ref b125) := f132_F.same W150
  have pre172 : ∀ t, own_s p e below T150 m 41 #[rv a] [(.int (8 : Int32)), (.ref a)] t → Steps p.tables e below S0 t := by
    intro tX kX
    refine pre151 _ ?_
    show own_s p e below T150 m 38 #[rv a] [] _
    refine XS.aloadN X152.here hx rfl (hb hby d30_38) rfl rfl ?_
    refine XS.bipush X152.here hx rfl (hb hby d30_39) ?_
    exact kX
  obtain ⟨T173, h173, k173, X173, e173, E173, A173, st173⟩ := newP X152 hx hZ (hw _ (List.mem_of_getElem? (i := 31) rfl)) e150 (g := (mkF m 41 #[rv a] [(.int (8 : Int32)), (.ref a)])) rfl (hb hby d30_41) rfl (by decide) (cap := 8) (by decide) (by decide) (by decide) (by decide)
  obtain ⟨b173, g173⟩ : ∃ z, z = h150.size := ⟨_, rfl⟩
  rw [← g173] at A173 st173
  have ne174 : a ≠ b173 := Nat.ne_of_lt (Nat.lt_of_lt_of_le f153_E.lt (Nat.le_of_eq g173.symm))
  have ne175 : b5 ≠ b173 := Nat.ne_of_lt (Nat.lt_of_lt_of_le f160_A.lt (Nat.le_of_eq g173.symm))
  have ne176 : b42 ≠ b173 := Nat.ne_of_lt (Nat.lt_of_lt_of_le f163_A.lt (Nat.le_of_eq g173.symm))
  have ne177 : b82 ≠ b173 := Nat.ne_of_lt (Nat.lt_of_lt_of_le f165_A.lt (Nat.le_of_eq g173.symm))
  have ne178 : b125 ≠ b173 := Nat.ne_of_lt (Nat.lt_of_lt_of_le f167_A.lt (Nat.le_of_eq g173.symm))
  have g_b173 : n0 ≤ b173 := Nat.le_trans Z169 (Nat.le_of_eq g173.symm)
  have sz_b173 : h0.size ≤ b173 := Nat.le_trans K170.1 (Nat.le_of_eq g173.symm)
  have lt_b173 : b125 < b173 := Nat.lt_of_lt_of_le f167_A.lt (Nat.le_of_eq g173.symm)
  have pre179 : ∀ t, own_s p e below T173 m 43 #[rv a] [(.ref b173), (.ref a)] t → Steps p.tables e below S0 t := fun tX kX => pre172 _ (st173 _ kX)
  have f180_E : Exa Z h173 a "com/example/weaverbird/weaverbird/model/xml/Attributes" := f153_E.ext E173
  have f181_F : Fld Z h173 a "com/example/weaverbird/weaverbird/model/xml/Attributes" "declarations" "[Z" .null := f154_F.ext E173
  have f182_F : Fld Z h173 a "com/example/weaverbird/weaverbird/model/xml/Attributes" "strings" "[Ljava/lang/String;" .null := f155_F.ext E173
  have f183_F : Fld Z h173 a "com/example/weaverbird/weaverbird/model/xml/Attributes" "values" "[C" .null := f156_F.ext E173
  have f184_F : Fld Z h173 a "com/example/weaverbird/weaverbird/model/xml/Attributes" "slots" "[I" .null := f157_F.ext E173
  have f185_F : Fld Z h173 a "com/example/weaverbird/weaverbird/model/xml/Attributes" "count" "I" (.int (0 : Int32)) := f158_F.ext E173
  have f186_F : Fld Z h173 a "com/example/weaverbird/weaverbird/model/xml/Attributes" "valuesLength" "I" (.int (0 : Int32)) := f159_F.ext E173
  have f187_A : own_Af Z h173 b5 (.object "com/example/weaverbird/weaverbird/model/xml/NameTable$QualifiedName") 8 (fun _ => .null) := f160_A.ext E173
  have f188_B : own_Ov Z h173 b5 "com/example/weaverbird/weaverbird/model/xml/NameTable$QualifiedName" := f161_B.ext E173
  have f189_F : Fld Z h173 a "com/example/weaverbird/weaverbird/model/xml/Attributes" "names" "[Lcom/example/weaverbird/weaverbird/model/xml/NameTable$QualifiedName;" (.ref b5) := f162_F.ext E173
  have f190_A : own_Af Z h173 b42 .int 8 (fun _ => (.int (0 : Int32))) := f163_A.ext E173
  have f191_F : Fld Z h173 a "com/example/weaverbird/weaverbird/model/xml/Attributes" "starts" "[I" (.ref b42) := f164_F.ext E173
  have f192_A : own_Af Z h173 b82 .int 8 (fun _ => (.int (0 : Int32))) := f165_A.ext E173
  have f193_F : Fld Z h173 a "com/example/weaverbird/weaverbird/model/xml/Attributes" "lengths" "[I" (.ref b82) := f166_F.ext E173
  have f194_A : own_Af Z h173 b125 (.object "java/lang/String") 8 (fun _ => .null) := f167_A.ext E173
  have f195_B : own_Ov Z h173 b125 "java/lang/String" := f168_B.ext E173
  have f196_F : Fld Z h173 a "com/example/weaverbird/weaverbird/model/xml/Attributes" "namespaces" "[Ljava/lang/String;" (.ref b125) := f171_F.ext E173
  have Z197 : n0 ≤ h173.size := Nat.le_trans Z169 E173.1
  have K198 : Keep h0 h173 [a] := K170.ext E173
  have f199_A : own_Af Z h173 b173 .boolean 8 (fun _ => (.int (0 : Int32))) := own_Af.new A173 (by decide) rfl
  obtain ⟨T200, h200, X200, e200, W200, st200⟩ := putF X173 hx hZ hown (host := "") (Or.inl (hw _ (List.mem_of_getElem? (i := 32) rfl))) Via.refl e173 f181_F f180_E (Or.inl (hw _ (List.mem_of_getElem? (i := 33) rfl))) (hw _ (List.mem_of_getElem? (i := 10) rfl)) (ty := (.array .boolean)) (by decide) rfl rfl (g := (mkF m 43 #[rv a] [(.ref b173), (.ref a)])) rfl rfl (hb hby d30_43)
  have pre201 : ∀ t, own_s p e below T200 m 46 #[rv a] [] t → Steps p.tables e below S0 t := fun tX kX => pre179 _ (st200 _ kX)
  obtain ⟨LL202, X202, N202⟩ : ∃ LL, Stand p l e ({ frames := 1, cells := 8, slots := 304, locals := 15 } : Room) s m #[(.ref a)] below meth c T200 LL 5 40 ∧ Fr n0 LL := ⟨_, X200, Fr.snoc X200 N152 g_a⟩
  have f203_E : Exa Z h200 a "com/example/weaverbird/weaverbird/model/xml/Attributes" := f180_E.wr W200
  have f204_F : Fld Z h200 a "com/example/weaverbird/weaverbird/model/xml/Attributes" "strings" "[Ljava/lang/String;" .null := f182_F.other W200 (Or.inr (slot_ne (Or.inl (hw _ (List.mem_of_getElem? (i := 35) rfl))) (Or.inl (hw _ (List.mem_of_getElem? (i := 33) rfl))) (by decide) (t := (.array (.object "java/lang/String"))) (t' := (.array .boolean)) (by decide) (by decide)))
  have f205_F : Fld Z h200 a "com/example/weaverbird/weaverbird/model/xml/Attributes" "values" "[C" .null := f183_F.other W200 (Or.inr (slot_ne (Or.inl (hw _ (List.mem_of_getElem? (i := 37) rfl))) (Or.inl (hw _ (List.mem_of_getElem? (i := 33) rfl))) (by decide) (t := (.array .char)) (t' := (.array .boolean)) (by decide) (by decide)))
  have f206_F : Fld Z h200 a "com/example/weaverbird/weaverbird/model/xml/Attributes" "slots" "[I" .null := f184_F.other W200 (Or.inr (slot_ne (Or.inl (hw _ (List.mem_of_getElem? (i := 39) rfl))) (Or.inl (hw _ (List.mem_of_getElem? (i := 33) rfl))) (by decide) (t := (.array .int)) (t' := (.array .boolean)) (by decide) (by decide)))
  have f207_F : Fld Z h200 a "com/example/weaverbird/weaverbird/model/xml/Attributes" "count" "I" (.int (0 : Int32)) := f185_F.other W200 (Or.inr (slot_ne (Or.inl (hw _ (List.mem_of_getElem? (i := 46) rfl))) (Or.inl (hw _ (List.mem_of_getElem? (i := 33) rfl))) (by decide) (t := .int) (t' := (.array .boolean)) (by decide) (by decide)))
  have f208_F : Fld Z h200 a "com/example/weaverbird/weaverbird/model/xml/Attributes" "valuesLength" "I" (.int (0 : Int32)) := f186_F.other W200 (Or.inr (slot_ne (Or.inl (hw _ (List.mem_of_getElem? (i := 48) rfl))) (Or.inl (hw _ (List.mem_of_getElem? (i := 33) rfl))) (by decide) (t := .int) (t' := (.array .boolean)) (by decide) (by decide)))
  have f209_A : own_Af Z h200 b5 (.object "com/example/weaverbird/weaverbird/model/xml/NameTable$QualifiedName") 8 (fun _ => .null) := f187_A.other W200 (Ne.symm ne6)
  have f210_B : own_Ov Z h200 b5 "com/example/weaverbird/weaverbird/model/xml/NameTable$QualifiedName" := f188_B.wr W200
  have f211_F : Fld Z h200 a "com/example/weaverbird/weaverbird/model/xml/Attributes" "names" "[Lcom/example/weaverbird/weaverbird/model/xml/NameTable$QualifiedName;" (.ref b5) := f189_F.other W200 (Or.inr (slot_ne (Or.inl (hw _ (List.mem_of_getElem? (i := 21) rfl))) (Or.inl (hw _ (List.mem_of_getElem? (i := 33) rfl))) (by decide) (t := (.array (.object "com/example/weaverbird/weaverbird/model/xml/NameTable$QualifiedName"))) (t' := (.array .boolean)) (by decide) (by decide)))
  have f212_A : own_Af Z h200 b42 .int 8 (fun _ => (.int (0 : Int32))) := f190_A.other W200 (Ne.symm ne43)
  have f213_F : Fld Z h200 a "com/example/weaverbird/weaverbird/model/xml/Attributes" "starts" "[I" (.ref b42) := f191_F.other W200 (Or.inr (slot_ne (Or.inl (hw _ (List.mem_of_getElem? (i := 24) rfl))) (Or.inl (hw _ (List.mem_of_getElem? (i := 33) rfl))) (by decide) (t := (.array .int)) (t' := (.array .boolean)) (by decide) (by decide)))
  have f214_A : own_Af Z h200 b82 .int 8 (fun _ => (.int (0 : Int32))) := f192_A.other W200 (Ne.symm ne83)
  have f215_F : Fld Z h200 a "com/example/weaverbird/weaverbird/model/xml/Attributes" "lengths" "[I" (.ref b82) := f193_F.other W200 (Or.inr (slot_ne (Or.inl (hw _ (List.mem_of_getElem? (i := 26) rfl))) (Or.inl (hw _ (List.mem_of_getElem? (i := 33) rfl))) (by decide) (t := (.array .int)) (t' := (.array .boolean)) (by decide) (by decide)))
  have f216_A : own_Af Z h200 b125 (.object "java/lang/String") 8 (fun _ => .null) := f194_A.other W200 (Ne.symm ne126)
  have f217_B : own_Ov Z h200 b125 "java/lang/String" := f195_B.wr W200
  have f218_F : Fld Z h200 a "com/example/weaverbird/weaverbird/model/xml/Attributes" "namespaces" "[Ljava/lang/String;" (.ref b125) := f196_F.other W200 (Or.inr (slot_ne (Or.inl (hw _ (List.mem_of_getElem? (i := 30) rfl))) (Or.inl (hw _ (List.mem_of_getElem? (i := 33) rfl))) (by decide) (t := (.array (.object "java/lang/String"))) (t' := (.array .boolean)) (by decide) (by decide)))
  have f219_A : own_Af Z h200 b173 .boolean 8 (fun _ => (.int (0 : Int32))) := f199_A.other W200 (Ne.symm ne174)
  have Z220 : n0 ≤ h200.size := Nat.le_trans Z197 (Keep.of_wr W200).1
  have K221 : Keep h0 h200 [a] := K198.wr W200 (Or.inl (List.mem_of_getElem? (i := 0) rfl))
  have f222_F : Fld Z h200 a "com/example/weaverbird/weaverbird/model/xml/Attributes" "declarations" "[Z" (.ref b173) := f181_F.same W200
  have pre223 : ∀ t, own_s p e below T200 m 49 #[rv a] [(.int (8 : Int32)), (.ref a)] t → Steps p.tables e below S0 t := by
    intro tX kX
    refine pre201 _ ?_
    show own_s p e below T200 m 46 #[rv a] [] _
    refine XS.aloadN X202.here hx rfl (hb hby d30_46) rfl rfl ?_
    refine XS.bipush X202.here hx rfl (hb hby d30_47) ?_
    exact kX
  obtain ⟨T224, h224, k224, X224, e224, E224, A224, O224, st224⟩ := newR X202 hx hZ hown (hw _ (List.mem_of_getElem? (i := 27) rfl)) (hw _ (List.mem_of_getElem? (i := 28) rfl)) e200 (g := (mkF m 49 #[rv a] [(.int (8 : Int32)), (.ref a)])) rfl (hb hby d30_49) rfl (by decide) (cap := 8) (by decide) (by decide) (by decide) (by decide)
  obtain ⟨b224, g224⟩ : ∃ z, z = h200.size := ⟨_, rfl⟩
  rw [← g224] at A224 st224
  have ne225 : a ≠ b224 := Nat.ne_of_lt (Nat.lt_of_lt_of_le f203_E.lt (Nat.le_of_eq g224.symm))
  have ne226 : b5 ≠ b224 := Nat.ne_of_lt (Nat.lt_of_lt_of_le f209_A.lt (Nat.le_of_eq g224.symm))
  have ne227 : b42 ≠ b224 := Nat.ne_of_lt (Nat.lt_of_lt_of_le f212_A.lt (Nat.le_of_eq g224.symm))
  have ne228 : b82 ≠ b224 := Nat.ne_of_lt (Nat.lt_of_lt_of_le f214_A.lt (Nat.le_of_eq g224.symm))
  have ne229 : b125 ≠ b224 := Nat.ne_of_lt (Nat.lt_of_lt_of_le f216_A.lt (Nat.le_of_eq g224.symm))
  have ne230 : b173 ≠ b224 := Nat.ne_of_lt (Nat.lt_of_lt_of_le f219_A.lt (Nat.le_of_eq g224.symm))
  have g_b224 : n0 ≤ b224 := Nat.le_trans Z220 (Nat.le_of_eq g224.symm)
  have sz_b224 : h0.size ≤ b224 := Nat.le_trans K221.1 (Nat.le_of_eq g224.symm)
  have lt_b224 : b173 < b224 := Nat.lt_of_lt_of_le f219_A.lt (Nat.le_of_eq g224.symm)
  have pre231 : ∀ t, own_s p e below T224 m 52 #[rv a] [(.ref b224), (.ref a)] t → Steps p.tables e below S0 t := fun tX kX => pre223 _ (st224 _ kX)
  have f232_E : Exa Z h224 a "com/example/weaverbird/weaverbird/model/xml/Attributes" := f203_E.ext E224
  have f233_F : Fld Z h224 a "com/example/weaverbird/weaverbird/model/xml/Attributes" "strings" "[Ljava/lang/String;" .null := f204_F.ext E224
  have f234_F : Fld Z h224 a "com/example/weaverbird/weaverbird/model/xml/Attributes" "values" "[C" .null := f205_F.ext E224
  have f235_F : Fld Z h224 a "com/example/weaverbird/weaverbird/model/xml/Attributes" "slots" "[I" .null := f206_F.ext E224
  have f236_F : Fld Z h224 a "com/example/weaverbird/weaverbird/model/xml/Attributes" "count" "I" (.int (0 : Int32)) := f207_F.ext E224
  have f237_F : Fld Z h224 a "com/example/weaverbird/weaverbird/model/xml/Attributes" "valuesLength" "I" (.int (0 : Int32)) := f208_F.ext E224
  have f238_A : own_Af Z h224 b5 (.object "com/example/weaverbird/weaverbird/model/xml/NameTable$QualifiedName") 8 (fun _ => .null) := f209_A.ext E224
  have f239_B : own_Ov Z h224 b5 "com/example/weaverbird/weaverbird/model/xml/NameTable$QualifiedName" := f210_B.ext E224
  have f240_F : Fld Z h224 a "com/example/weaverbird/weaverbird/model/xml/Attributes" "names" "[Lcom/example/weaverbird/weaverbird/model/xml/NameTable$QualifiedName;" (.ref b5) := f211_F.ext E224
  have f241_A : own_Af Z h224 b42 .int 8 (fun _ => (.int (0 : Int32))) := f212_A.ext E224
  have f242_F : Fld Z h224 a "com/example/weaverbird/weaverbird/model/xml/Attributes" "starts" "[I" (.ref b42) := f213_F.ext E224
  have f243_A : own_Af Z h224 b82 .int 8 (fun _ => (.int (0 : Int32))) := f214_A.ext E224
  have f244_F : Fld Z h224 a "com/example/weaverbird/weaverbird/model/xml/Attributes" "lengths" "[I" (.ref b82) := f215_F.ext E224
  have f245_A : own_Af Z h224 b125 (.object "java/lang/String") 8 (fun _ => .null) := f216_A.ext E224
  have f246_B : own_Ov Z h224 b125 "java/lang/String" := f217_B.ext E224
  have f247_F : Fld Z h224 a "com/example/weaverbird/weaverbird/model/xml/Attributes" "namespaces" "[Ljava/lang/String;" (.ref b125) := f218_F.ext E224
  have f248_A : own_Af Z h224 b173 .boolean 8 (fun _ => (.int (0 : Int32))) := f219_A.ext E224
  have f249_F : Fld Z h224 a "com/example/weaverbird/weaverbird/model/xml/Attributes" "declarations" "[Z" (.ref b173) := f222_F.ext E224
  have Z250 : n0 ≤ h224.size := Nat.le_trans Z220 E224.1
  have K251 : Keep h0 h224 [a] := K221.ext E224
  have f252_A : own_Af Z h224 b224 (.object "java/lang/String") 8 (fun _ => .null) := own_Af.new A224 (by decide) rfl
  have f253_B : own_Ov Z h224 b224 "java/lang/String" := own_Ov.new A224 O224
  obtain ⟨T254, h254, X254, e254, W254, st254⟩ := putF X224 hx hZ hown (host := "") (Or.inl (hw _ (List.mem_of_getElem? (i := 34) rfl))) Via.refl e224 f233_F f232_E (Or.inl (hw _ (List.mem_of_getElem? (i := 35) rfl))) (hw _ (List.mem_of_getElem? (i := 10) rfl)) (ty := (.array (.object "java/lang/String"))) (by decide) rfl rfl (g := (mkF m 52 #[rv a] [(.ref b224), (.ref a)])) rfl rfl (hb hby d30_52)
  have pre255 : ∀ t, own_s p e below T254 m 55 #[rv a] [] t → Steps p.tables e below S0 t := fun tX kX => pre231 _ (st254 _ kX)
  obtain ⟨LL256, X256, N256⟩ : ∃ LL, Stand p l e ({ frames := 1, cells := 8, slots := 304, locals := 15 } : Room) s m #[(.ref a)] below meth c T254 LL 6 48 ∧ Fr n0 LL := ⟨_, X254, Fr.snoc X254 N202 g_a⟩
  have f257_E : Exa Z h254 a "com/example/weaverbird/weaverbird/model/xml/Attributes" := f232_E.wr W254
  have f258_F : Fld Z h254 a "com/example/weaverbird/weaverbird/model/xml/Attributes" "values" "[C" .null := f234_F.other W254 (Or.inr (slot_ne (Or.inl (hw _ (List.mem_of_getElem? (i := 37) rfl))) (Or.inl (hw _ (List.mem_of_getElem? (i := 35) rfl))) (by decide) (t := (.array .char)) (t' := (.array (.object "java/lang/String"))) (by decide) (by decide)))
  have f259_F : Fld Z h254 a "com/example/weaverbird/weaverbird/model/xml/Attributes" "slots" "[I" .null := f235_F.other W254 (Or.inr (slot_ne (Or.inl (hw _ (List.mem_of_getElem? (i := 39) rfl))) (Or.inl (hw _ (List.mem_of_getElem? (i := 35) rfl))) (by decide) (t := (.array .int)) (t' := (.array (.object "java/lang/String"))) (by decide) (by decide)))
  have f260_F : Fld Z h254 a "com/example/weaverbird/weaverbird/model/xml/Attributes" "count" "I" (.int (0 : Int32)) := f236_F.other W254 (Or.inr (slot_ne (Or.inl (hw _ (List.mem_of_getElem? (i := 46) rfl))) (Or.inl (hw _ (List.mem_of_getElem? (i := 35) rfl))) (by decide) (t := .int) (t' := (.array (.object "java/lang/String"))) (by decide) (by decide)))
  have f261_F : Fld Z h254 a "com/example/weaverbird/weaverbird/model/xml/Attributes" "valuesLength" "I" (.int (0 : Int32)) := f237_F.other W254 (Or.inr (slot_ne (Or.inl (hw _ (List.mem_of_getElem? (i := 48) rfl))) (Or.inl (hw _ (List.mem_of_getElem? (i := 35) rfl))) (by decide) (t := .int) (t' := (.array (.object "java/lang/String"))) (by decide) (by decide)))
  have f262_A : own_Af Z h254 b5 (.object "com/example/weaverbird/weaverbird/model/xml/NameTable$QualifiedName") 8 (fun _ => .null) := f238_A.other W254 (Ne.symm ne6)
  have f263_B : own_Ov Z h254 b5 "com/example/weaverbird/weaverbird/model/xml/NameTable$QualifiedName" := f239_B.wr W254
  have f264_F : Fld Z h254 a "com/example/weaverbird/weaverbird/model/xml/Attributes" "names" "[Lcom/example/weaverbird/weaverbird/model/xml/NameTable$QualifiedName;" (.ref b5) := f240_F.other W254 (Or.inr (slot_ne (Or.inl (hw _ (List.mem_of_getElem? (i := 21) rfl))) (Or.inl (hw _ (List.mem_of_getElem? (i := 35) rfl))) (by decide) (t := (.array (.object "com/example/weaverbird/weaverbird/model/xml/NameTable$QualifiedName"))) (t' := (.array (.object "java/lang/String"))) (by decide) (by decide)))
  have f265_A : own_Af Z h254 b42 .int 8 (fun _ => (.int (0 : Int32))) := f241_A.other W254 (Ne.symm ne43)
  have f266_F : Fld Z h254 a "com/example/weaverbird/weaverbird/model/xml/Attributes" "starts" "[I" (.ref b42) := f242_F.other W254 (Or.inr (slot_ne (Or.inl (hw _ (List.mem_of_getElem? (i := 24) rfl))) (Or.inl (hw _ (List.mem_of_getElem? (i := 35) rfl))) (by decide) (t := (.array .int)) (t' := (.array (.object "java/lang/String"))) (by decide) (by decide)))
  have f267_A : own_Af Z h254 b82 .int 8 (fun _ => (.int (0 : Int32))) := f243_A.other W254 (Ne.symm ne83)
  have f268_F : Fld Z h254 a "com/example/weaverbird/weaverbird/model/xml/Attributes" "lengths" "[I" (.ref b82) := f244_F.other W254 (Or.inr (slot_ne (Or.inl (hw _ (List.mem_of_getElem? (i := 26) rfl))) (Or.inl (hw _ (List.mem_of_getElem? (i := 35) rfl))) (by decide) (t := (.array .int)) (t' := (.array (.object "java/lang/String"))) (by decide) (by decide)))
  have f269_A : own_Af Z h254 b125 (.object "java/lang/String") 8 (fun _ => .null) := f245_A.other W254 (Ne.symm ne126)
  have f270_B : own_Ov Z h254 b125 "java/lang/String" := f246_B.wr W254
  have f271_F : Fld Z h254 a "com/example/weaverbird/weaverbird/model/xml/Attributes" "namespaces" "[Ljava/lang/String;" (.ref b125) := f247_F.other W254 (Or.inr (slot_ne (Or.inl (hw _ (List.mem_of_getElem? (i := 30) rfl))) (Or.inl (hw _ (List.mem_of_getElem? (i := 35) rfl))) (by decide) (t := (.array (.object "java/lang/String"))) (t' := (.array (.object "java/lang/String"))) (by decide) (by decide)))
  have f272_A : own_Af Z h254 b173 .boolean 8 (fun _ => (.int (0 : Int32))) := f248_A.other W254 (Ne.symm ne174)
  have f273_F : Fld Z h254 a "com/example/weaverbird/weaverbird/model/xml/Attributes" "declarations" "[Z" (.ref b173) := f249_F.other W254 (Or.inr (slot_ne (Or.inl (hw _ (List.mem_of_getElem? (i := 33) rfl))) (Or.inl (hw _ (List.mem_of_getElem? (i := 35) rfl))) (by decide) (t := (.array .boolean)) (t' := (.array (.object "java/lang/String"))) (by decide) (by decide)))
  have f274_A : own_Af Z h254 b224 (.object "java/lang/String") 8 (fun _ => .null) := f252_A.other W254 (Ne.symm ne225)
  have f275_B : own_Ov Z h254 b224 "java/lang/String" := f253_B.wr W254
  have Z276 : n0 ≤ h254.size := Nat.le_trans Z250 (Keep.of_wr W254).1
  have K277 : Keep h0 h254 [a] := K251.wr W254 (Or.inl (List.mem_of_getElem? (i := 0) rfl))
  have f278_F : Fld Z h254 a "com/example/weaverbird/weaverbird/model/xml/Attributes" "strings" "[Ljava/lang/String;" (.ref b224) := f233_F.same W254
  have pre279 : ∀ t, own_s p e below T254 m 59 #[rv a] [(.int (256 : Int32)), (.ref a)] t → Steps p.tables e below S0 t := by
    intro tX kX
    refine pre255 _ ?_
    show own_s p e below T254 m 55 #[rv a] [] _
    refine XS.aloadN X256.here hx rfl (hb hby d30_55) rfl rfl ?_
    refine XS.sipush X256.here hx rfl (hb hby d30_56) ?_
    exact kX
  obtain ⟨T280, h280, k280, X280, e280, E280, A280, st280⟩ := newP X256 hx hZ (hw _ (List.mem_of_getElem? (i := 4) rfl)) e254 (g := (mkF m 59 #[rv a] [(.int (256 : Int32)), (.ref a)])) rfl (hb hby d30_59) rfl (by decide) (cap := 256) (by decide) (by decide) (by decide) (by decide)
  obtain ⟨b280, g280⟩ : ∃ z, z = h254.size := ⟨_, rfl⟩
  rw [← g280] at A280 st280
  have ne281 : a ≠ b280 := Nat.ne_of_lt (Nat.lt_of_lt_of_le f257_E.lt (Nat.le_of_eq g280.symm))
  have ne282 : b5 ≠ b280 := Nat.ne_of_lt (Nat.lt_of_lt_of_le f262_A.lt (Nat.le_of_eq g280.symm))
  have ne283 : b42 ≠ b280 := Nat.ne_of_lt (Nat.lt_of_lt_of_le f265_A.lt (Nat.le_of_eq g280.symm))
  have ne284 : b82 ≠ b280 := Nat.ne_of_lt (Nat.lt_of_lt_of_le f267_A.lt (Nat.le_of_eq g280.symm))
  have ne285 : b125 ≠ b280 := Nat.ne_of_lt (Nat.lt_of_lt_of_le f269_A.lt (Nat.le_of_eq g280.symm))
  have ne286 : b173 ≠ b280 := Nat.ne_of_lt (Nat.lt_of_lt_of_le f272_A.lt (Nat.le_of_eq g280.symm))
  have ne287 : b224 ≠ b280 := Nat.ne_of_lt (Nat.lt_of_lt_of_le f274_A.lt (Nat.le_of_eq g280.symm))
  have g_b280 : n0 ≤ b280 := Nat.le_trans Z276 (Nat.le_of_eq g280.symm)
  have sz_b280 : h0.size ≤ b280 := Nat.le_trans K277.1 (Nat.le_of_eq g280.symm)
  have lt_b280 : b224 < b280 := Nat.lt_of_lt_of_le f274_A.lt (Nat.le_of_eq g280.symm)
  have pre288 : ∀ t, own_s p e below T280 m 61 #[rv a] [(.ref b280), (.ref a)] t → Steps p.tables e below S0 t := fun tX kX => pre279 _ (st280 _ kX)
  have f289_E : Exa Z h280 a "com/example/weaverbird/weaverbird/model/xml/Attributes" := f257_E.ext E280
  have f290_F : Fld Z h280 a "com/example/weaverbird/weaverbird/model/xml/Attributes" "values" "[C" .null := f258_F.ext E280
  have f291_F : Fld Z h280 a "com/example/weaverbird/weaverbird/model/xml/Attributes" "slots" "[I" .null := f259_F.ext E280
  have f292_F : Fld Z h280 a "com/example/weaverbird/weaverbird/model/xml/Attributes" "count" "I" (.int (0 : Int32)) := f260_F.ext E280
  have f293_F : Fld Z h280 a "com/example/weaverbird/weaverbird/model/xml/Attributes" "valuesLength" "I" (.int (0 : Int32)) := f261_F.ext E280
  have f294_A : own_Af Z h280 b5 (.object "com/example/weaverbird/weaverbird/model/xml/NameTable$QualifiedName") 8 (fun _ => .null) := f262_A.ext E280
  have f295_B : own_Ov Z h280 b5 "com/example/weaverbird/weaverbird/model/xml/NameTable$QualifiedName" := f263_B.ext E280
  have f296_F : Fld Z h280 a "com/example/weaverbird/weaverbird/model/xml/Attributes" "names" "[Lcom/example/weaverbird/weaverbird/model/xml/NameTable$QualifiedName;" (.ref b5) := f264_F.ext E280
  have f297_A : own_Af Z h280 b42 .int 8 (fun _ => (.int (0 : Int32))) := f265_A.ext E280
  have f298_F : Fld Z h280 a "com/example/weaverbird/weaverbird/model/xml/Attributes" "starts" "[I" (.ref b42) := f266_F.ext E280
  have f299_A : own_Af Z h280 b82 .int 8 (fun _ => (.int (0 : Int32))) := f267_A.ext E280
  have f300_F : Fld Z h280 a "com/example/weaverbird/weaverbird/model/xml/Attributes" "lengths" "[I" (.ref b82) := f268_F.ext E280
  have f301_A : own_Af Z h280 b125 (.object "java/lang/String") 8 (fun _ => .null) := f269_A.ext E280
  have f302_B : own_Ov Z h280 b125 "java/lang/String" := f270_B.ext E280
  have f303_F : Fld Z h280 a "com/example/weaverbird/weaverbird/model/xml/Attributes" "namespaces" "[Ljava/lang/String;" (.ref b125) := f271_F.ext E280
  have f304_A : own_Af Z h280 b173 .boolean 8 (fun _ => (.int (0 : Int32))) := f272_A.ext E280
  have f305_F : Fld Z h280 a "com/example/weaverbird/weaverbird/model/xml/Attributes" "declarations" "[Z" (.ref b173) := f273_F.ext E280
  have f306_A : own_Af Z h280 b224 (.object "java/lang/String") 8 (fun _ => .null) := f274_A.ext E280
  have f307_B : own_Ov Z h280 b224 "java/lang/String" := f275_B.ext E280
  have f308_F : Fld Z h280 a "com/example/weaverbird/weaverbird/model/xml/Attributes" "strings" "[Ljava/lang/String;" (.ref b224) := f278_F.ext E280
  have Z309 : n0 ≤ h280.size := Nat.le_trans Z276 E280.1
  have K310 : Keep h0 h280 [a] := K277.ext E280
  have f311_A : own_Af Z h280 b280 .char 256 (fun _ => (.int (0 : Int32))) := own_Af.new A280 (by decide) rfl
  obtain ⟨T312, h312, X312, e312, W312, st312⟩ := putF X280 hx hZ hown (host := "") (Or.inl (hw _ (List.mem_of_getElem? (i := 36) rfl))) Via.refl e280 f290_F f289_E (Or.inl (hw _ (List.mem_of_getElem? (i := 37) rfl))) (hw _ (List.mem_of_getElem? (i := 10) rfl)) (ty := (.array .char)) (by decide) rfl rfl (g := (mkF m 61 #[rv a] [(.ref b280), (.ref a)])) rfl rfl (hb hby d30_61)
  have pre313 : ∀ t, own_s p e below T312 m 64 #[rv a] [] t → Steps p.tables e below S0 t := fun tX kX => pre288 _ (st312 _ kX)
  obtain ⟨LL314, X314, N314⟩ : ∃ LL, Stand p l e ({ frames := 1, cells := 8, slots := 304, locals := 15 } : Room) s m #[(.ref a)] below meth c T312 LL 7 304 ∧ Fr n0 LL := ⟨_, X312, Fr.snoc X312 N256 g_a⟩
  have f315_E : Exa Z h312 a "com/example/weaverbird/weaverbird/model/xml/Attributes" := f289_E.wr W312
  have f316_F : Fld Z h312 a "com/example/weaverbird/weaverbird/model/xml/Attributes" "slots" "[I" .null := f291_F.other W312 (Or.inr (slot_ne (Or.inl (hw _ (List.mem_of_getElem? (i := 39) rfl))) (Or.inl (hw _ (List.mem_of_getElem? (i := 37) rfl))) (by decide) (t := (.array .int)) (t' := (.array .char)) (by decide) (by decide)))
  have f317_F : Fld Z h312 a "com/example/weaverbird/weaverbird/model/xml/Attributes" "count" "I" (.int (0 : Int32)) := f292_F.other W312 (Or.inr (slot_ne (Or.inl (hw _ (List.mem_of_getElem? (i := 46) rfl))) (Or.inl (hw _ (List.mem_of_getElem? (i := 37) rfl))) (by decide) (t := .int) (t' := (.array .char)) (by decide) (by decide)))
  have f318_F : Fld Z h312 a "com/example/weaverbird/weaverbird/model/xml/Attributes" "valuesLength" "I" (.int (0 : Int32)) := f293_F.other W312 (Or.inr (slot_ne (Or.inl (hw _ (List.mem_of_getElem? (i := 48) rfl))) (Or.inl (hw _ (List.mem_of_getElem? (i := 37) rfl))) (by decide) (t := .int) (t' := (.array .char)) (by decide) (by decide)))
  have f319_A : own_Af Z h312 b5 (.object "com/example/weaverbird/weaverbird/model/xml/NameTable$QualifiedName") 8 (fun _ => .null) := f294_A.other W312 (Ne.symm ne6)
  have f320_B : own_Ov Z h312 b5 "com/example/weaverbird/weaverbird/model/xml/NameTable$QualifiedName" := f295_B.wr W312
  have f321_F : Fld Z h312 a "com/example/weaverbird/weaverbird/model/xml/Attributes" "names" "[Lcom/example/weaverbird/weaverbird/model/xml/NameTable$QualifiedName;" (.ref b5) := f296_F.other W312 (Or.inr (slot_ne (Or.inl (hw _ (List.mem_of_getElem? (i := 21) rfl))) (Or.inl (hw _ (List.mem_of_getElem? (i := 37) rfl))) (by decide) (t := (.array (.object "com/example/weaverbird/weaverbird/model/xml/NameTable$QualifiedName"))) (t' := (.array .char)) (by decide) (by decide)))
  have f322_A : own_Af Z h312 b42 .int 8 (fun _ => (.int (0 : Int32))) := f297_A.other W312 (Ne.symm ne43)
  have f323_F : Fld Z h312 a "com/example/weaverbird/weaverbird/model/xml/Attributes" "starts" "[I" (.ref b42) := f298_F.other W312 (Or.inr (slot_ne (Or.inl (hw _ (List.mem_of_getElem? (i := 24) rfl))) (Or.inl (hw _ (List.mem_of_getElem? (i := 37) rfl))) (by decide) (t := (.array .int)) (t' := (.array .char)) (by decide) (by decide)))
  have f324_A : own_Af Z h312 b82 .int 8 (fun _ => (.int (0 : Int32))) := f299_A.other W312 (Ne.symm ne83)
  have f325_F : Fld Z h312 a "com/example/weaverbird/weaverbird/model/xml/Attributes" "lengths" "[I" (.ref b82) := f300_F.other W312 (Or.inr (slot_ne (Or.inl (hw _ (List.mem_of_getElem? (i := 26) rfl))) (Or.inl (hw _ (List.mem_of_getElem? (i := 37) rfl))) (by decide) (t := (.array .int)) (t' := (.array .char)) (by decide) (by decide)))
  have f326_A : own_Af Z h312 b125 (.object "java/lang/String") 8 (fun _ => .null) := f301_A.other W312 (Ne.symm ne126)
  have f327_B : own_Ov Z h312 b125 "java/lang/String" := f302_B.wr W312
  have f328_F : Fld Z h312 a "com/example/weaverbird/weaverbird/model/xml/Attributes" "namespaces" "[Ljava/lang/String;" (.ref b125) := f303_F.other W312 (Or.inr (slot_ne (Or.inl (hw _ (List.mem_of_getElem? (i := 30) rfl))) (Or.inl (hw _ (List.mem_of_getElem? (i := 37) rfl))) (by decide) (t := (.array (.object "java/lang/String"))) (t' := (.array .char)) (by decide) (by decide)))
  have f329_A : own_Af Z h312 b173 .boolean 8 (fun _ => (.int (0 : Int32))) := f304_A.other W312 (Ne.symm ne174)
  have f330_F : Fld Z h312 a "com/example/weaverbird/weaverbird/model/xml/Attributes" "declarations" "[Z" (.ref b173) := f305_F.other W312 (Or.inr (slot_ne (Or.inl (hw _ (List.mem_of_getElem? (i := 33) rfl))) (Or.inl (hw _ (List.mem_of_getElem? (i := 37) rfl))) (by decide) (t := (.array .boolean)) (t' := (.array .char)) (by decide) (by decide)))
  have f331_A : own_Af Z h312 b224 (.object "java/lang/String") 8 (fun _ => .null) := f306_A.other W312 (Ne.symm ne225)
  have f332_B : own_Ov Z h312 b224 "java/lang/String" := f307_B.wr W312
  have f333_F : Fld Z h312 a "com/example/weaverbird/weaverbird/model/xml/Attributes" "strings" "[Ljava/lang/String;" (.ref b224) := f308_F.other W312 (Or.inr (slot_ne (Or.inl (hw _ (List.mem_of_getElem? (i := 35) rfl))) (Or.inl (hw _ (List.mem_of_getElem? (i := 37) rfl))) (by decide) (t := (.array (.object "java/lang/String"))) (t' := (.array .char)) (by decide) (by decide)))
  have f334_A : own_Af Z h312 b280 .char 256 (fun _ => (.int (0 : Int32))) := f311_A.other W312 (Ne.symm ne281)
  have Z335 : n0 ≤ h312.size := Nat.le_trans Z309 (Keep.of_wr W312).1
  have K336 : Keep h0 h312 [a] := K310.wr W312 (Or.inl (List.mem_of_getElem? (i := 0) rfl))
  have f337_F : Fld Z h312 a "com/example/weaverbird/weaverbird/model/xml/Attributes" "values" "[C" (.ref b280) := f290_F.same W312
  have pre338 : ∀ t, own_s p e below T312 m 66 #[rv a] [(.int (0 : Int32)), (.ref a)] t → Steps p.tables e below S0 t := by
    intro tX kX
    refine pre313 _ ?_
    show own_s p e below T312 m 64 #[rv a] [] _
    refine XS.aloadN X314.here hx rfl (hb hby d30_64) rfl rfl ?_
    refine XS.iconst X314.here hx rfl (hb hby d30_65) ?_
    exact kX
  obtain ⟨T339, h339, k339, X339, e339, E339, A339, st339⟩ := newP X314 hx hZ (hw _ (List.mem_of_getElem? (i := 22) rfl)) e312 (g := (mkF m 66 #[rv a] [(.int (0 : Int32)), (.ref a)])) rfl (hb hby d30_66) rfl (by decide) (cap := 0) (by decide) (by decide) (by decide) (by decide)
  obtain ⟨b339, g339⟩ : ∃ z, z = h312.size := ⟨_, rfl⟩
  rw [← g339] at A339 st339
  have ne340 : a ≠ b339 := Nat.ne_of_lt (Nat.lt_of_lt_of_le f315_E.lt (Nat.le_of_eq g339.symm))
  have ne341 : b5 ≠ b339 := Nat.ne_of_lt (Nat.lt_of_lt_of_le f319_A.lt (Nat.le_of_eq g339.symm))
  have ne342 : b42 ≠ b339 := Nat.ne_of_lt (Nat.lt_of_lt_of_le f322_A.lt (Nat.le_of_eq g339.symm))
  have ne343 : b82 ≠ b339 := Nat.ne_of_lt (Nat.lt_of_lt_of_le f324_A.lt (Nat.le_of_eq g339.symm))
  have ne344 : b125 ≠ b339 := Nat.ne_of_lt (Nat.lt_of_lt_of_le f326_A.lt (Nat.le_of_eq g339.symm))
  have ne345 : b173 ≠ b339 := Nat.ne_of_lt (Nat.lt_of_lt_of_le f329_A.lt (Nat.le_of_eq g339.symm))
  have ne346 : b224 ≠ b339 := Nat.ne_of_lt (Nat.lt_of_lt_of_le f331_A.lt (Nat.le_of_eq g339.symm))
  have ne347 : b280 ≠ b339 := Nat.ne_of_lt (Nat.lt_of_lt_of_le f334_A.lt (Nat.le_of_eq g339.symm))
  have g_b339 : n0 ≤ b339 := Nat.le_trans Z335 (Nat.le_of_eq g339.symm)
  have sz_b339 : h0.size ≤ b339 := Nat.le_trans K336.1 (Nat.le_of_eq g339.symm)
  have lt_b339 : b280 < b339 := Nat.lt_of_lt_of_le f334_A.lt (Nat.le_of_eq g339.symm)
  have pre348 : ∀ t, own_s p e below T339 m 68 #[rv a] [(.ref b339), (.ref a)] t → Steps p.tables e below S0 t := fun tX kX => pre338 _ (st339 _ kX)
  have f349_E : Exa Z h339 a "com/example/weaverbird/weaverbird/model/xml/Attributes" := f315_E.ext E339
  have f350_F : Fld Z h339 a "com/example/weaverbird/weaverbird/model/xml/Attributes" "slots" "[I" .null := f316_F.ext E339
  have f351_F : Fld Z h339 a "com/example/weaverbird/weaverbird/model/xml/Attributes" "count" "I" (.int (0 : Int32)) := f317_F.ext E339
  have f352_F : Fld Z h339 a "com/example/weaverbird/weaverbird/model/xml/Attributes" "valuesLength" "I" (.int (0 : Int32)) := f318_F.ext E339
  have f353_A : own_Af Z h339 b5 (.object "com/example/weaverbird/weaverbird/model/xml/NameTable$QualifiedName") 8 (fun _ => .null) := f319_A.ext E339
  have f354_B : own_Ov Z h339 b5 "com/example/weaverbird/weaverbird/model/xml/NameTable$QualifiedName" := f320_B.ext E339
  have f355_F : Fld Z h339 a "com/example/weaverbird/weaverbird/model/xml/Attributes" "names" "[Lcom/example/weaverbird/weaverbird/model/xml/NameTable$QualifiedName;" (.ref b5) := f321_F.ext E339
  have f356_A : own_Af Z h339 b42 .int 8 (fun _ => (.int (0 : Int32))) := f322_A.ext E339
  have f357_F : Fld Z h339 a "com/example/weaverbird/weaverbird/model/xml/Attributes" "starts" "[I" (.ref b42) := f323_F.ext E339
  have f358_A : own_Af Z h339 b82 .int 8 (fun _ => (.int (0 : Int32))) := f324_A.ext E339
  have f359_F : Fld Z h339 a "com/example/weaverbird/weaverbird/model/xml/Attributes" "lengths" "[I" (.ref b82) := f325_F.ext E339
  have f360_A : own_Af Z h339 b125 (.object "java/lang/String") 8 (fun _ => .null) := f326_A.ext E339
  have f361_B : own_Ov Z h339 b125 "java/lang/String" := f327_B.ext E339
  have f362_F : Fld Z h339 a "com/example/weaverbird/weaverbird/model/xml/Attributes" "namespaces" "[Ljava/lang/String;" (.ref b125) := f328_F.ext E339
  have f363_A : own_Af Z h339 b173 .boolean 8 (fun _ => (.int (0 : Int32))) := f329_A.ext E339
  have f364_F : Fld Z h339 a "com/example/weaverbird/weaverbird/model/xml/Attributes" "declarations" "[Z" (.ref b173) := f330_F.ext E339
  have f365_A : own_Af Z h339 b224 (.object "java/lang/String") 8 (fun _ => .null) := f331_A.ext E339
  have f366_B : own_Ov Z h339 b224 "java/lang/String" := f332_B.ext E339
  have f367_F : Fld Z h339 a "com/example/weaverbird/weaverbird/model/xml/Attributes" "strings" "[Ljava/lang/String;" (.ref b224) := f333_F.ext E339
  have f368_A : own_Af Z h339 b280 .char 256 (fun _ => (.int (0 : Int32))) := f334_A.ext E339
  have f369_F : Fld Z h339 a "com/example/weaverbird/weaverbird/model/xml/Attributes" "values" "[C" (.ref b280) := f337_F.ext E339
  have Z370 : n0 ≤ h339.size := Nat.le_trans Z335 E339.1
  have K371 : Keep h0 h339 [a] := K336.ext E339
  have f372_A : own_Af Z h339 b339 .int 0 (fun _ => (.int (0 : Int32))) := own_Af.new A339 (by decide) rfl
  obtain ⟨T373, h373, X373, e373, W373, st373⟩ := putF X339 hx hZ hown (host := "") (Or.inl (hw _ (List.mem_of_getElem? (i := 38) rfl))) Via.refl e339 f350_F f349_E (Or.inl (hw _ (List.mem_of_getElem? (i := 39) rfl))) (hw _ (List.mem_of_getElem? (i := 10) rfl)) (ty := (.array .int)) (by decide) rfl rfl (g := (mkF m 68 #[rv a] [(.ref b339), (.ref a)])) rfl rfl (hb hby d30_68)
  have pre374 : ∀ t, own_s p e below T373 m 71 #[rv a] [] t → Steps p.tables e below S0 t := fun tX kX => pre348 _ (st373 _ kX)
  obtain ⟨LL375, X375, N375⟩ : ∃ LL, Stand p l e ({ frames := 1, cells := 8, slots := 304, locals := 15 } : Room) s m #[(.ref a)] below meth c T373 LL 8 304 ∧ Fr n0 LL := ⟨_, X373, Fr.snoc X373 N314 g_a⟩
  have f376_E : Exa Z h373 a "com/example/weaverbird/weaverbird/model/xml/Attributes" := f349_E.wr W373
  have f377_F : Fld Z h373 a "com/example/weaverbird/weaverbird/model/xml/Attributes" "count" "I" (.int (0 : Int32)) := f351_F.other W373 (Or.inr (slot_ne (Or.inl (hw _ (List.mem_of_getElem? (i := 46) rfl))) (Or.inl (hw _ (List.mem_of_getElem? (i := 39) rfl))) (by decide) (t := .int) (t' := (.array .int)) (by decide) (by decide)))
  have f378_F : Fld Z h373 a "com/example/weaverbird/weaverbird/model/xml/Attributes" "valuesLength" "I" (.int (0 : Int32)) := f352_F.other W373 (Or.inr (slot_ne (Or.inl (hw _ (List.mem_of_getElem? (i := 48) rfl))) (Or.inl (hw _ (List.mem_of_getElem? (i := 39) rfl))) (by decide) (t := .int) (t' := (.array .int)) (by decide) (by decide)))
  have f379_A : own_Af Z h373 b5 (.object "com/example/weaverbird/weaverbird/model/xml/NameTable$QualifiedName") 8 (fun _ => .null) := f353_A.other W373 (Ne.symm ne6)
  have f380_B : own_Ov Z h373 b5 "com/example/weaverbird/weaverbird/model/xml/NameTable$QualifiedName" := f354_B.wr W373
  have f381_F : Fld Z h373 a "com/example/weaverbird/weaverbird/model/xml/Attributes" "names" "[Lcom/example/weaverbird/weaverbird/model/xml/NameTable$QualifiedName;" (.ref b5) := f355_F.other W373 (Or.inr (slot_ne (Or.inl (hw _ (List.mem_of_getElem? (i := 21) rfl))) (Or.inl (hw _ (List.mem_of_getElem? (i := 39) rfl))) (by decide) (t := (.array (.object "com/example/weaverbird/weaverbird/model/xml/NameTable$QualifiedName"))) (t' := (.array .int)) (by decide) (by decide)))
  have f382_A : own_Af Z h373 b42 .int 8 (fun _ => (.int (0 : Int32))) := f356_A.other W373 (Ne.symm ne43)
  have f383_F : Fld Z h373 a "com/example/weaverbird/weaverbird/model/xml/Attributes" "starts" "[I" (.ref b42) := f357_F.other W373 (Or.inr (slot_ne (Or.inl (hw _ (List.mem_of_getElem? (i := 24) rfl))) (Or.inl (hw _ (List.mem_of_getElem? (i := 39) rfl))) (by decide) (t := (.array .int)) (t' := (.array .int)) (by decide) (by decide)))
  have f384_A : own_Af Z h373 b82 .int 8 (fun _ => (.int (0 : Int32))) := f358_A.other W373 (Ne.symm ne83)
  have f385_F : Fld Z h373 a "com/example/weaverbird/weaverbird/model/xml/Attributes" "lengths" "[I" (.ref b82) := f359_F.other W373 (Or.inr (slot_ne (Or.inl (hw _ (List.mem_of_getElem? (i := 26) rfl))) (Or.inl (hw _ (List.mem_of_getElem? (i := 39) rfl))) (by decide) (t := (.array .int)) (t' := (.array .int)) (by decide) (by decide)))
  have f386_A : own_Af Z h373 b125 (.object "java/lang/String") 8 (fun _ => .null) := f360_A.other W373 (Ne.symm ne126)
  have f387_B : own_Ov Z h373 b125 "java/lang/String" := f361_B.wr W373
  have f388_F : Fld Z h373 a "com/example/weaverbird/weaverbird/model/xml/Attributes" "namespaces" "[Ljava/lang/String;" (.ref b125) := f362_F.other W373 (Or.inr (slot_ne (Or.inl (hw _ (List.mem_of_getElem? (i := 30) rfl))) (Or.inl (hw _ (List.mem_of_getElem? (i := 39) rfl))) (by decide) (t := (.array (.object "java/lang/String"))) (t' := (.array .int)) (by decide) (by decide)))
  have f389_A : own_Af Z h373 b173 .boolean 8 (fun _ => (.int (0 : Int32))) := f363_A.other W373 (Ne.symm ne174)
  have f390_F : Fld Z h373 a "com/example/weaverbird/weaverbird/model/xml/Attributes" "declarations" "[Z" (.ref b173) := f364_F.other W373 (Or.inr (slot_ne (Or.inl (hw _ (List.mem_of_getElem? (i := 33) rfl))) (Or.inl (hw _ (List.mem_of_getElem? (i := 39) rfl))) (by decide) (t := (.array .boolean)) (t' := (.array .int)) (by decide) (by decide)))
  have f391_A : own_Af Z h373 b224 (.object "java/lang/String") 8 (fun _ => .null) := f365_A.other W373 (Ne.symm ne225)
  have f392_B : own_Ov Z h373 b224 "java/lang/String" := f366_B.wr W373
  have f393_F : Fld Z h373 a "com/example/weaverbird/weaverbird/model/xml/Attributes" "strings" "[Ljava/lang/String;" (.ref b224) := f367_F.other W373 (Or.inr (slot_ne (Or.inl (hw _ (List.mem_of_getElem? (i := 35) rfl))) (Or.inl (hw _ (List.mem_of_getElem? (i := 39) rfl))) (by decide) (t := (.array (.object "java/lang/String"))) (t' := (.array .int)) (by decide) (by decide)))
  have f394_A : own_Af Z h373 b280 .char 256 (fun _ => (.int (0 : Int32))) := f368_A.other W373 (Ne.symm ne281)
  have f395_F : Fld Z h373 a "com/example/weaverbird/weaverbird/model/xml/Attributes" "values" "[C" (.ref b280) := f369_F.other W373 (Or.inr (slot_ne (Or.inl (hw _ (List.mem_of_getElem? (i := 37) rfl))) (Or.inl (hw _ (List.mem_of_getElem? (i := 39) rfl))) (by decide) (t := (.array .char)) (t' := (.array .int)) (by decide) (by decide)))
  have f396_A : own_Af Z h373 b339 .int 0 (fun _ => (.int (0 : Int32))) := f372_A.other W373 (Ne.symm ne340)
  have Z397 : n0 ≤ h373.size := Nat.le_trans Z370 (Keep.of_wr W373).1
  have K398 : Keep h0 h373 [a] := K371.wr W373 (Or.inl (List.mem_of_getElem? (i := 0) rfl))
  have f399_F : Fld Z h373 a "com/example/weaverbird/weaverbird/model/xml/Attributes" "slots" "[I" (.ref b339) := f350_F.same W373
  subst hS0
  obtain ⟨fsX, hr, hrun, hended, hW, hsame⟩ := X375.leave (v := none) (fun _ => rfl)
  refine ⟨_, _, pre374 _ (X375.returnOut hx Bd.returns (hb hby d30_71) hr), hrun, hended, _, _, rfl, ?_, ⟨_, rfl⟩, hW, hsame.mono (by decide) (by decide)⟩
  show Q30 Z a h0 n0 none T373.heap _
  rw [e373]
  exact ⟨b5, b42, b82, b125, b173, b224, b280, rfl, N375, K398, sz_b5, ⟨lt_b42, lt_b82, lt_b125, lt_b173, lt_b224, lt_b280⟩, ⟨f376_E, f381_F, f383_F, f385_F, f388_F, f390_F, f393_F, f395_F, f377_F, f378_F, ⟨_, f379_A⟩, f382_A, f384_A, ⟨_, f386_A⟩, ⟨_, f389_A⟩, f391_A, f394_A, f387_B, f392_B⟩⟩
theorem d31_0 : decode prog_157_method_5_code 0 = .ok (.iload_n 3, 1) := by decide +kernel
theorem d31_1 : decode prog_157_method_5_code 1 = .ok (.iload_n 2, 1) := by decide +kernel
theorem d31_2 : decode prog_157_method_5_code 2 = .ok (.isub, 1) := by decide +kernel
theorem d31_3 : decode prog_157_method_5_code 3 = .ok (.istore 4, 2) := by decide +kernel
theorem d31_5 : decode prog_157_method_5_code 5 = .ok (.aload_n 0, 1) := by decide +kernel
theorem d31_6 : decode prog_157_method_5_code 6 = .ok (.iload 4, 2) := by decide +kernel
theorem d31_8 : decode prog_157_method_5_code 8 = .ok (.invokevirtual 69, 3) := by decide +kernel
theorem d31_11 : decode prog_157_method_5_code 11 = .ok (.aload_n 1, 1) := by decide +kernel
theorem d31_12 : decode prog_157_method_5_code 12 = .ok (.iload_n 2, 1) := by decide +kernel
theorem d31_13 : decode prog_157_method_5_code 13 = .ok (.aload_n 0, 1) := by decide +kernel
theorem d31_14 : decode prog_157_method_5_code 14 = .ok (.getfield 35, 3) := by decide +kernel
theorem d31_17 : decode prog_157_method_5_code 17 = .ok (.aload_n 0, 1) := by decide +kernel
theorem d31_18 : decode prog_157_method_5_code 18 = .ok (.getfield 52, 3) := by decide +kernel
theorem d31_21 : decode prog_157_method_5_code 21 = .ok (.iload 4, 2) := by decide +kernel
theorem d31_23 : decode prog_157_method_5_code 23 = .ok (.invokestatic 73, 3) := by decide +kernel
theorem d31_26 : decode prog_157_method_5_code 26 = .ok (.aload_n 0, 1) := by decide +kernel
theorem d31_27 : decode prog_157_method_5_code 27 = .ok (.dup, 1) := by decide +kernel
theorem d31_28 : decode prog_157_method_5_code 28 = .ok (.getfield 52, 3) := by decide +kernel
theorem d31_31 : decode prog_157_method_5_code 31 = .ok (.iload 4, 2) := by decide +kernel
theorem d31_33 : decode prog_157_method_5_code 33 = .ok (.iadd, 1) := by decide +kernel
theorem d31_34 : decode prog_157_method_5_code 34 = .ok (.putfield 52, 3) := by decide +kernel
theorem d31_37 : decode prog_157_method_5_code 37 = .ok (.aload_n 0, 1) := by decide +kernel
theorem d31_38 : decode prog_157_method_5_code 38 = .ok (.getfield 19, 3) := by decide +kernel
theorem d31_41 : decode prog_157_method_5_code 41 = .ok (.aload_n 0, 1) := by decide +kernel
theorem d31_42 : decode prog_157_method_5_code 42 = .ok (.getfield 42, 3) := by decide +kernel
theorem d31_45 : decode prog_157_method_5_code 45 = .ok (.iconst 1, 1) := by decide +kernel
theorem d31_46 : decode prog_157_method_5_code 46 = .ok (.isub, 1) := by decide +kernel
theorem d31_47 : decode prog_157_method_5_code 47 = .ok (.dup2, 1) := by decide +kernel
theorem d31_48 : decode prog_157_method_5_code 48 = .ok (.iaload, 1) := by decide +kernel
theorem d31_49 : decode prog_157_method_5_code 49 = .ok (.iload 4, 2) := by decide +kernel
theorem d31_51 : decode prog_157_method_5_code 51 = .ok (.iadd, 1) := by decide +kernel
theorem d31_52 : decode prog_157_method_5_code 52 = .ok (.iastore, 1) := by decide +kernel
theorem d31_53 : decode prog_157_method_5_code 53 = .ok (.return_, 1) := by decide +kernel
theorem pn_31 : plainName "com/example/weaverbird/weaverbird/model/xml/Attributes" = true := by first | (simp [plainName, overriddenIn]; done) | decide +kernel
theorem pd31_0 : parseMethodDescriptor "(I)V" = some ⟨[.int], none⟩ := by decide +kernel
theorem ef_31 (m : MethodId) (a : Addr) (cc : Addr) (p3 : Int32) : entryFrame m #[(.ref a), (.ref cc), (.int (0 : Int32)), (.int p3)] 5 = mkF m 0 #[rv a, rv cc, iv (0 : Int32), iv p3, .unset] [] := by first | (simp [entryFrame, mkF, argsToLocals, Value.category]; done) | rfl
def Q31 (Z : State) (a : Addr) (cc : Addr) (p3 : Int32) (nm : Addr) (sr : Addr) (ln : Addr) (ns : Addr) (dc : Addr) (sg : Addr) (vl : Addr) (ct : Int32) (vn : Int32) (fs : Nat → Int32) (fl : Nat → Int32) (fg : Nat → Value) (g : Nat → Int32) (gc : Nat → Int32) (n : Nat) (V : Nat) (K : Nat) (h0 : Heap) (n0 : Nat) (v : Option Value) (h : Heap) (L : List Loc) : Prop := ∃ (vn' : Int32) (fl' : Nat → Int32), v = none ∧ Fr n0 L ∧ vn'.toInt = ((V + n : Nat) : Int) ∧ (fl' K).toInt = n ∧ (∀ j, j ≠ K → fl' j = fl j) ∧ Keep h0 h [a, ln, vl] ∧ own_At Z h a nm sr ln ns dc sg vl ct vn' fs fl' fg (own_cpf g V n gc)
set_option maxRecDepth 65536 in
set_option maxHeartbeats 40000000 in
theorem rm31 (l : Launch) (Z : State) (a0 : Array Value) (hw : ∀ d ∈ tables_1, d.before a0 Z = true) (ws : List Jvm.Cond) (a : Addr) (cc : Addr) (p3 : Int32) (nm : Addr) (sr : Addr) (ln : Addr) (ns : Addr) (dc : Addr) (sg : Addr) (vl : Addr) (ct : Int32) (vn : Int32) (fs : Nat → Int32) (fl : Nat → Int32) (fg : Nat → Value) (g : Nat → Int32) (gc : Nat → Int32) (n : Nat) (V : Nat) (K : Nat) (h0 : Heap) (n0 : Nat) (Z0 : n0 ≤ h0.size) (hAt : own_At Z h0 a nm sr ln ns dc sg vl ct vn fs fl fg g) (hO : a < nm ∧ nm < sr ∧ sr < ln ∧ ln < ns ∧ ns < dc ∧ dc < sg ∧ sg < vl) (g_a : n0 ≤ a) (Bg : own_B g) (A_c : own_Af Z h0 cc .char 5 (fun j => .int (gc j))) (Bc : own_B gc) (hn : p3.toInt = n) (hn5 : n ≤ 5) (hV : vn.toInt = V) (hV2 : V + n ≤ 200) (hct : ct.toInt = ((K + 1 : Nat) : Int)) (hK : K < 8) (hfl : (fl K).toInt = 0) (hca : cc < a) :
    MetFree l (⟨"com/example/weaverbird/weaverbird/model/xml/Attributes", "append", "([CII)V"⟩ : MethodName) (head1 (Jvm.Cond.code (⟨"com/example/weaverbird/weaverbird/model/xml/Attributes", "append", "([CII)V"⟩ : MethodName) prog_157_method_5_code 5 none :: ws) ({ frames := 1, cells := 0, slots := 0, locals := 40 } : Room)) (fun aX UX => aX = #[(.ref a), (.ref cc), (.int (0 : Int32)), (.int p3)] ∧ Z.Warmed39 UX.vm ∧ UX.heap = h0) (fun _ _ _ _ _ => True) (fun _ UX oX UY => ∃ vX LX, oX = .returned vX ∧ Q31 Z a cc p3 nm sr ln ns dc sg vl ct vn fs fl fg g gc n V K h0 n0 vX UY.heap LX ∧ FrameEnd UX oX UY LX ({ frames := 1, cells := 0, slots := 0, locals := 40 } : Room).cells ({ frames := 1, cells := 0, slots := 0, locals := 40 } : Room).slots) := by
  refine MetFree.of_bodySF (plainFor_of_name pn_31) hisR ?_
  intro p e s m args below meth c s₁ Bd hml0 hPX hKX
  obtain ⟨rfl, hZ, hh⟩ := hPX
  have hx := Bd.exec
  have hby := Bd.bytes
  have hml : c.maxLocals = 5 := hml0
  have hown : s.vm.findClass "com/example/weaverbird/weaverbird/model/xml/Attributes" = some m.cls := findClass_of_methodNamed Bd.named
  have hnm := (name_of_methodNamed Bd.named Bd.method).1
  have X0 : Stand p l e ({ frames := 1, cells := 0, slots := 0, locals := 40 } : Room) s m #[(.ref a), (.ref cc), (.int (0 : Int32)), (.int p3)] below meth c s₁ [] 0 0 := Stand.of_body Bd
  have e0 : s₁.heap = h0 := by rw [← hh, Bd.state]; rfl
  have N0 := Fr.nil n0
  have pre0 : ∀ t, Steps p.tables e below (s₁.setTop (mkF m 0 #[rv a, rv cc, iv (0 : Int32), iv p3, .unset] [])) t → Steps p.tables e below (s₁.setTop (entryFrame m #[(.ref a), (.ref cc), (.int (0 : Int32)), (.int p3)] 5)) t := fun t k => castTop (ef_31 m a cc p3) k
  obtain ⟨S0, hS0⟩ : ∃ z, z = (s₁.setTop (entryFrame m #[(.ref a), (.ref cc), (.int (0 : Int32)), (.int p3)] 5)) := ⟨_, rfl⟩
  rw [← hS0] at pre0
  have K0 : Keep h0 h0 [a, ln, vl] := Keep.refl h0 _
  obtain ⟨o1, o2, o3, o4, o5, o6, o7⟩ := id hO
  obtain ⟨E_a, F_nm, F_sr, F_ln, F_ns, F_dc, F_sg, F_vl, F_ct, F_vn, ⟨fnm, A_nm⟩, A_sr, A_ln, ⟨fns, A_ns⟩, ⟨fdc, A_dc⟩, A_sg, A_vl, O_ns, O_sg⟩ := id hAt
  have ne_a_nm : a ≠ nm := Nat.ne_of_lt o1
  have ne_a_sr : a ≠ sr := Nat.ne_of_lt (Nat.lt_trans o1 o2)
  have ne_a_ln : a ≠ ln := Nat.ne_of_lt (Nat.lt_trans o1 (Nat.lt_trans o2 o3))
  have ne_a_ns : a ≠ ns := Nat.ne_of_lt (Nat.lt_trans o1 (Nat.lt_trans o2 (Nat.lt_trans o3 o4)))
  have ne_a_dc : a ≠ dc := Nat.ne_of_lt (Nat.lt_trans o1 (Nat.lt_trans o2 (Nat.lt_trans o3 (Nat.lt_trans o4 o5))))
  have ne_a_sg : a ≠ sg := Nat.ne_of_lt (Nat.lt_trans o1 (Nat.lt_trans o2 (Nat.lt_trans o3 (Nat.lt_trans o4 (Nat.lt_trans o5 o6)))))
  have ne_a_vl : a ≠ vl := Nat.ne_of_lt (Nat.lt_trans o1 (Nat.lt_trans o2 (Nat.lt_trans o3 (Nat.lt_trans o4 (Nat.lt_trans o5 (Nat.lt_trans o6 o7))))))
  have ne_nm_sr : nm ≠ sr := Nat.ne_of_lt o2
  have ne_nm_ln : nm ≠ ln := Nat.ne_of_lt (Nat.lt_trans o2 o3)
  have ne_nm_ns : nm ≠ ns := Nat.ne_of_lt (Nat.lt_trans o2 (Nat.lt_trans o3 o4))
  have ne_nm_dc : nm ≠ dc := Nat.ne_of_lt (Nat.lt_trans o2 (Nat.lt_trans o3 (Nat.lt_trans o4 o5)))
  have ne_nm_sg : nm ≠ sg := Nat.ne_of_lt (Nat.lt_trans o2 (Nat.lt_trans o3 (Nat.lt_trans o4 (Nat.lt_trans o5 o6))))
  have ne_nm_vl : nm ≠ vl := Nat.ne_of_lt (Nat.lt_trans o2 (Nat.lt_trans o3 (Nat.lt_trans o4 (Nat.lt_trans o5 (Nat.lt_trans o6 o7)))))
  have ne_sr_ln : sr ≠ ln := Nat.ne_of_lt o3
  have ne_sr_ns : sr ≠ ns := Nat.ne_of_lt (Nat.lt_trans o3 o4)
  have ne_sr_dc : sr ≠ dc := Nat.ne_of_lt (Nat.lt_trans o3 (Nat.lt_trans o4 o5))
  have ne_sr_sg : sr ≠ sg := Nat.ne_of_lt (Nat.lt_trans o3 (Nat.lt_trans o4 (Nat.lt_trans o5 o6)))
  have ne_sr_vl : sr ≠ vl := Nat.ne_of_lt (Nat.lt_trans o3 (Nat.lt_trans o4 (Nat.lt_trans o5 (Nat.lt_trans o6 o7))))
  have ne_ln_ns : ln ≠ ns := Nat.ne_of_lt o4
  have ne_ln_dc : ln ≠ dc := Nat.ne_of_lt (Nat.lt_trans o4 o5)
  have ne_ln_sg : ln ≠ sg := Nat.ne_of_lt (Nat.lt_trans o4 (Nat.lt_trans o5 o6))
  have ne_ln_vl : ln ≠ vl := Nat.ne_of_lt (Nat.lt_trans o4 (Nat.lt_trans o5 (Nat.lt_trans o6 o7)))
  have ne_ns_dc : ns ≠ dc := Nat.ne_of_lt o5
  have ne_ns_sg : ns ≠ sg := Nat.ne_of_lt (Nat.lt_trans o5 o6)
  have ne_ns_vl : ns ≠ vl := Nat.ne_of_lt (Nat.lt_trans o5 (Nat.lt_trans o6 o7))
  have ne_dc_sg : dc ≠ sg := Nat.ne_of_lt o6
  have ne_dc_vl : dc ≠ vl := Nat.ne_of_lt (Nat.lt_trans o6 o7)
  have ne_sg_vl : sg ≠ vl := Nat.ne_of_lt o7
  have g_ln : n0 ≤ ln := Nat.le_trans g_a (Nat.le_of_lt (Nat.lt_trans o1 (Nat.lt_trans o2 o3)))
  have g_vl : n0 ≤ vl := Nat.le_trans g_a (Nat.le_of_lt (Nat.lt_trans o1 (Nat.lt_trans o2 (Nat.lt_trans o3 (Nat.lt_trans o4 (Nat.lt_trans o5 (Nat.lt_trans o6 o7)))))))
  have ne_c_a : cc ≠ a := Nat.ne_of_lt hca
  have ne_c_nm : cc ≠ nm := Nat.ne_of_lt (Nat.lt_trans hca o1)
  have ne_c_sr : cc ≠ sr := Nat.ne_of_lt (Nat.lt_trans hca (Nat.lt_trans o1 o2))
  have ne_c_ln : cc ≠ ln := Nat.ne_of_lt (Nat.lt_trans hca (Nat.lt_trans o1 (Nat.lt_trans o2 o3)))
  have ne_c_ns : cc ≠ ns := Nat.ne_of_lt (Nat.lt_trans hca (Nat.lt_trans o1 (Nat.lt_trans o2 (Nat.lt_trans o3 o4))))
  have ne_c_dc : cc ≠ dc := Nat.ne_of_lt (Nat.lt_trans hca (Nat.lt_trans o1 (Nat.lt_trans o2 (Nat.lt_trans o3 (Nat.lt_trans o4 o5)))))
  have ne_c_sg : cc ≠ sg := Nat.ne_of_lt (Nat.lt_trans hca (Nat.lt_trans o1 (Nat.lt_trans o2 (Nat.lt_trans o3 (Nat.lt_trans o4 (Nat.lt_trans o5 o6))))))
  have ne_c_vl : cc ≠ vl := Nat.ne_of_lt (Nat.lt_trans hca (Nat.lt_trans o1 (Nat.lt_trans o2 (Nat.lt_trans o3 (Nat.lt_trans o4 (Nat.lt_trans o5 (Nat.lt_trans o6 o7)))))))
  have pre1 : ∀ t, own_s p e below s₁ m 3 #[rv a, rv cc, iv (0 : Int32), iv p3, .unset] [(.int (p3 - (0 : Int32)))] t → Steps p.tables e below S0 t := by
    intro tX kX
    refine pre0 _ ?_
    show own_s p e below s₁ m 0 #[rv a, rv cc, iv (0 : Int32), iv p3, .unset] [] _
    refine XS.iloadN X0.here hx rfl (hb hby d31_0) rfl ?_
    refine XS.iloadN X0.here hx rfl (hb hby d31_1) rfl ?_
    refine XS.isub X0.here hx rfl (hb hby d31_2) rfl ?_
    exact kX
  rw [show (p3 - (0 : Int32)) = p3 from own_eqI (by have d1 := c_isub p3 0; have d2 := rng32 p3; have d3 := rng32 (p3 - 0); have d4 : (0 : Int32).toInt = 0 := rfl; omega)] at pre1
  have pre2 : ∀ t, own_s p e below s₁ m 8 #[rv a, rv cc, iv (0 : Int32), iv p3, iv p3] [(.int p3), (.ref a)] t → Steps p.tables e below S0 t := by
    intro tX kX
    refine pre1 _ ?_
    show own_s p e below s₁ m 3 #[rv a, rv cc, iv (0 : Int32), iv p3, .unset] [(.int p3)] _
    refine XS.istore X0.here hx rfl (hb hby d31_3) rfl (l' := #[rv a, rv cc, iv (0 : Int32), iv p3, iv p3]) rfl ?_
    refine XS.aloadN X0.here hx rfl (hb hby d31_5) rfl rfl ?_
    refine XS.iload X0.here hx rfl (hb hby d31_6) rfl ?_
    exact kX
  obtain ⟨cq3, q3, q3'⟩ := E_a.cell
  obtain ⟨_, _, ⟨T3, L3, k3, n3⟩, -, X3, ⟨Lc3, hQ3, l3, y3, z3⟩, st3⟩ := X0.privateBack hx (y := (⟨"com/example/weaverbird/weaverbird/model/xml/Attributes", "room", "(I)V"⟩ : MethodName)) hown (mvT hZ (hw _ (List.mem_of_getElem? (i := 63) rfl))) (mvT hZ (hw _ (List.mem_of_getElem? (i := 64) rfl))) (own_selP (mvT hZ (hw _ (List.mem_of_getElem? (i := 10) rfl))) (Cond.privateMethod_at (mvP hZ (hw _ (List.mem_of_getElem? (i := 65) rfl)) (args := #[]))) (mvT hZ (hw _ (List.mem_of_getElem? (i := 64) rfl))) (by decide)) (Cond.privateMethod_at (mvP hZ (hw _ (List.mem_of_getElem? (i := 65) rfl)) (args := #[]))) (mvT hZ (hw _ (List.mem_of_getElem? (i := 66) rfl))) (by decide) (backOf (W := 0) (rm8 l Z a0 hw [] a p3 vl vn (fun j => .int (g j)) V n h0 n0 Z0 F_vl F_vn A_vl hV hn (by omega)) hZ (hw _ (List.mem_of_getElem? (i := 66) rfl)) (hw _ (List.mem_of_getElem? (i := 11) rfl)) (by decide) (by decide)) (g := (mkF m 8 #[rv a, rv cc, iv (0 : Int32), iv p3, iv p3] [(.int p3), (.ref a)])) rfl (by rw [hml]; rfl) (Steps.refl _) (a := a) (by rw [e0]; exact q3) q3' (argsL := [(.int p3)]) (rest := []) (lenOf pd31_0 rfl) rfl (by show 2 * 0 + _ ≤ _; exact Nat.le_of_eq rfl) (hb hby d31_8) (fun _ _ => ⟨rfl, e0, (by decide : 0 + 0 ≤ _), (by decide : 0 + 0 ≤ _)⟩)
  dsimp only [Pt.U, Pt.locs, Pt.cells, Pt.slots] at X3 l3 y3 z3 st3 hQ3
  subst l3 y3 z3
  obtain ⟨rfl, Nq3, e3⟩ := hQ3
  have N3 := Fr.app N0 Nq3
  obtain ⟨LL4, X4, N4⟩ : ∃ LL, Stand p l e ({ frames := 1, cells := 0, slots := 0, locals := 40 } : Room) s m #[(.ref a), (.ref cc), (.int (0 : Int32)), (.int p3)] below meth c T3 LL 0 0 ∧ Fr n0 LL := ⟨_, X3, N3⟩
  have pre5 : ∀ t, own_s p e below T3 m 11 #[rv a, rv cc, iv (0 : Int32), iv p3, iv p3] [] t → Steps p.tables e below S0 t := fun tX kX => pre2 _ (st3.trans kX)
  have pre6 : ∀ t, own_s p e below T3 m 14 #[rv a, rv cc, iv (0 : Int32), iv p3, iv p3] [(.ref a), (.int (0 : Int32)), (.ref cc)] t → Steps p.tables e below S0 t := by
    intro tX kX
    refine pre5 _ ?_
    show own_s p e below T3 m 11 #[rv a, rv cc, iv (0 : Int32), iv p3, iv p3] [] _
    refine XS.aloadN X4.here hx rfl (hb hby d31_11) rfl rfl ?_
    refine XS.iloadN X4.here hx rfl (hb hby d31_12) rfl ?_
    refine XS.aloadN X4.here hx rfl (hb hby d31_13) rfl rfl ?_
    exact kX
  obtain ⟨T7, X7, e7, st7⟩ := getF X4 hx hZ hown (host := "") (Or.inl (hw _ (List.mem_of_getElem? (i := 36) rfl))) Via.refl e3 F_vl (g := (mkF m 14 #[rv a, rv cc, iv (0 : Int32), iv p3, iv p3] [(.ref a), (.int (0 : Int32)), (.ref cc)])) rfl rfl (hb hby d31_14)
  have pre8 : ∀ t, own_s p e below T7 m 17 #[rv a, rv cc, iv (0 : Int32), iv p3, iv p3] [(.ref vl), (.int (0 : Int32)), (.ref cc)] t → Steps p.tables e below S0 t := fun tX kX => pre6 _ (st7 _ kX)
  have pre9 : ∀ t, own_s p e below T7 m 18 #[rv a, rv cc, iv (0 : Int32), iv p3, iv p3] [(.ref a), (.ref vl), (.int (0 : Int32)), (.ref cc)] t → Steps p.tables e below S0 t := by
    intro tX kX
    refine pre8 _ ?_
    show own_s p e below T7 m 17 #[rv a, rv cc, iv (0 : Int32), iv p3, iv p3] [(.ref vl), (.int (0 : Int32)), (.ref cc)] _
    refine XS.aloadN X7.here hx rfl (hb hby d31_17) rfl rfl ?_
    exact kX
  obtain ⟨T10, X10, e10, st10⟩ := getF X7 hx hZ hown (host := "") (Or.inl (hw _ (List.mem_of_getElem? (i := 47) rfl))) Via.refl e7 F_vn (g := (mkF m 18 #[rv a, rv cc, iv (0 : Int32), iv p3, iv p3] [(.ref a), (.ref vl), (.int (0 : Int32)), (.ref cc)])) rfl rfl (hb hby d31_18)
  have pre11 : ∀ t, own_s p e below T10 m 21 #[rv a, rv cc, iv (0 : Int32), iv p3, iv p3] [(.int vn), (.ref vl), (.int (0 : Int32)), (.ref cc)] t → Steps p.tables e below S0 t := fun tX kX => pre9 _ (st10 _ kX)
  have pre12 : ∀ t, own_s p e below T10 m 23 #[rv a, rv cc, iv (0 : Int32), iv p3, iv p3] [(.int p3), (.int vn), (.ref vl), (.int (0 : Int32)), (.ref cc)] t → Steps p.tables e below S0 t := by
    intro tX kX
    refine pre11 _ ?_
    show own_s p e below T10 m 21 #[rv a, rv cc, iv (0 : Int32), iv p3, iv p3] [(.int vn), (.ref vl), (.int (0 : Int32)), (.ref cc)] _
    refine XS.iload X10.here hx rfl (hb hby d31_21) rfl ?_
    exact kX
  obtain ⟨ks, Vs⟩ := own_arv A_c Bc
  obtain ⟨kd, Vd⟩ := own_arv A_vl Bg
  have nn' : p3.toNatClampNeg = n := own_nat hn
  have vn' : vn.toNatClampNeg = V := own_nat hV
  have z5 : (Int32.ofNat 5).toNatClampNeg = 5 := by decide
  have z256 : (Int32.ofNat 256).toNatClampNeg = 256 := by decide
  obtain ⟨T13, h13, Lq13, X13, e13, N13, Kq13, V13, st13⟩ := cpA X10 hx hZ hown (hw _ (List.mem_of_getElem? (i := 67) rfl)) (hw _ (List.mem_of_getElem? (i := 70) rfl)) (hw _ (List.mem_of_getElem? (i := 68) rfl)) (hw _ (List.mem_of_getElem? (i := 69) rfl)) e10 Vs Vd (Or.inl ⟨rfl, rfl⟩) (sp := (0 : Int32)) (dp := vn) (nn := p3) (by decide) (own_idx (n := 257) (by omega) (by omega)).1 (own_idx (n := 6) (by omega) (by omega)).1 (by rw [nn', z5]; show 0 + _ ≤ _; omega) (by rw [nn', vn', z256]; omega) rfl (by rw [nn', vn', List.length_map, List.length_range]; omega) N4 g_vl (g := (mkF m 23 #[rv a, rv cc, iv (0 : Int32), iv p3, iv p3] [(.int p3), (.int vn), (.ref vl), (.int (0 : Int32)), (.ref cc)])) rfl (by rw [hml]; rfl) rfl (hb hby d31_23) (by decide) (W := 0) (by show 2 * 0 + _ ≤ _; exact Nat.le_of_eq rfl) (by decide)
  have pre14 : ∀ t, own_s p e below T13 m 26 #[rv a, rv cc, iv (0 : Int32), iv p3, iv p3] [] t → Steps p.tables e below S0 t := fun tX kX => pre12 _ (st13 _ kX)
  have Z13 : n0 ≤ h13.size := Nat.le_trans Z0 Kq13.1
  have K13 : Keep h0 h13 [a, ln, vl] := K0.trans Kq13 (allS (Or.inl (List.mem_of_getElem? (i := 2) rfl)) all0)
  have f15_E : Exa Z h13 a "com/example/weaverbird/weaverbird/model/xml/Attributes" := E_a.keep Kq13
  have f16_F : Fld Z h13 a "com/example/weaverbird/weaverbird/model/xml/Attributes" "count" "I" (.int ct) := F_ct.keep Kq13 (ninS ne_a_vl nin0)
  have f17_F : Fld Z h13 a "com/example/weaverbird/weaverbird/model/xml/Attributes" "valuesLength" "I" (.int vn) := F_vn.keep Kq13 (ninS ne_a_vl nin0)
  have f18_F : Fld Z h13 a "com/example/weaverbird/weaverbird/model/xml/Attributes" "names" "[Lcom/example/weaverbird/weaverbird/model/xml/NameTable$QualifiedName;" (.ref nm) := F_nm.keep Kq13 (ninS ne_a_vl nin0)
  have f19_F : Fld Z h13 a "com/example/weaverbird/weaverbird/model/xml/Attributes" "starts" "[I" (.ref sr) := F_sr.keep Kq13 (ninS ne_a_vl nin0)
  have f20_F : Fld Z h13 a "com/example/weaverbird/weaverbird/model/xml/Attributes" "lengths" "[I" (.ref ln) := F_ln.keep Kq13 (ninS ne_a_vl nin0)
  have f21_F : Fld Z h13 a "com/example/weaverbird/weaverbird/model/xml/Attributes" "namespaces" "[Ljava/lang/String;" (.ref ns) := F_ns.keep Kq13 (ninS ne_a_vl nin0)
  have f22_F : Fld Z h13 a "com/example/weaverbird/weaverbird/model/xml/Attributes" "declarations" "[Z" (.ref dc) := F_dc.keep Kq13 (ninS ne_a_vl nin0)
  have f23_F : Fld Z h13 a "com/example/weaverbird/weaverbird/model/xml/Attributes" "strings" "[Ljava/lang/String;" (.ref sg) := F_sg.keep Kq13 (ninS ne_a_vl nin0)
  have f24_F : Fld Z h13 a "com/example/weaverbird/weaverbird/model/xml/Attributes" "values" "[C" (.ref vl) := F_vl.keep Kq13 (ninS ne_a_vl nin0)
  have f25_A : own_Af Z h13 nm (.object "com/example/weaverbird/weaverbird/model/xml/NameTable$QualifiedName") 8 fnm := A_nm.keep Kq13 (ninS ne_nm_vl nin0)
  have f26_A : own_Af Z h13 ns (.object "java/lang/String") 8 fns := A_ns.keep Kq13 (ninS ne_ns_vl nin0)
  have f27_A : own_Af Z h13 sg (.object "java/lang/String") 8 fg := A_sg.keep Kq13 (ninS ne_sg_vl nin0)
  have f28_A : own_Af Z h13 dc .boolean 8 fdc := A_dc.keep Kq13 (ninS ne_dc_vl nin0)
  have f29_A : own_Af Z h13 sr .int 8 (fun j => .int (fs j)) := A_sr.keep Kq13 (ninS ne_sr_vl nin0)
  have f30_A : own_Af Z h13 ln .int 8 (fun j => .int (fl j)) := A_ln.keep Kq13 (ninS ne_ln_vl nin0)
  have f31_B : own_Ov Z h13 ns "java/lang/String" := O_ns.keep Kq13
  have f32_B : own_Ov Z h13 sg "java/lang/String" := O_sg.keep Kq13
  have f33_A : own_Af Z h13 cc .char 5 (fun j => .int (gc j)) := A_c.keep Kq13 (ninS ne_c_vl nin0)
  have f34_A : own_Af Z h13 vl .char 256 (fun j => .int ((own_cpf g V n gc) j)) := own_ofarv V13 z256 (own_cp (by decide) nn' vn' hn5 (by omega))
  obtain ⟨LL35, X35, N35⟩ : ∃ LL, Stand p l e ({ frames := 1, cells := 0, slots := 0, locals := 40 } : Room) s m #[(.ref a), (.ref cc), (.int (0 : Int32)), (.int p3)] below meth c T13 LL 0 0 ∧ Fr n0 LL := ⟨_, X13, N13⟩
  have pre36 : ∀ t, own_s p e below T13 m 28 #[rv a, rv cc, iv (0 : Int32), iv p3, iv p3] [(.ref a), (.ref a)] t → Steps p.tables e below S0 t := by
    intro tX kX
    refine pre14 _ ?_
    show own_s p e below T13 m 26 #[rv a, rv cc, iv (0 : Int32), iv p3, iv p3] [] _
    refine XS.aloadN X35.here hx rfl (hb hby d31_26) rfl rfl ?_
    refine XS.dup X35.here hx rfl (hb hby d31_27) rfl rfl ?_
    exact kX
  obtain ⟨T37, X37, e37, st37⟩ := getF X35 hx hZ hown (host := "") (Or.inl (hw _ (List.mem_of_getElem? (i := 47) rfl))) Via.refl e13 f17_F (g := (mkF m 28 #[rv a, rv cc, iv (0 : Int32), iv p3, iv p3] [(.ref a), (.ref a)])) rfl rfl (hb hby d31_28)
  have pre38 : ∀ t, own_s p e below T37 m 31 #[rv a, rv cc, iv (0 : Int32), iv p3, iv p3] [(.int vn), (.ref a)] t → Steps p.tables e below S0 t := fun tX kX => pre36 _ (st37 _ kX)
  have pre39 : ∀ t, own_s p e below T37 m 34 #[rv a, rv cc, iv (0 : Int32), iv p3, iv p3] [(.int (vn + p3)), (.ref a)] t → Steps p.tables e below S0 t := by
    intro tX kX
    refine pre38 _ ?_
    show own_s p e below T37 m 31 #[rv a, rv cc, iv (0 : Int32), iv p3, iv p3] [(.int vn), (.ref a)] _
    refine XS.iload X37.here hx rfl (hb hby d31_31) rfl ?_
    refine XS.iadd X37.here hx rfl (hb hby d31_33) rfl ?_
    exact kX
  obtain ⟨vq, hvq⟩ : ∃ z : Int32, z = (vn + p3) := ⟨_, rfl⟩
  rw [← hvq] at pre39
  have ivq : vq.toInt = ((V + n : Nat) : Int) := by rw [hvq]; exact own_addN hV hn (by omega)
  obtain ⟨T40, h40, X40, e40, W40, st40⟩ := putF X37 hx hZ hown (host := "") (Or.inl (hw _ (List.mem_of_getElem? (i := 47) rfl))) Via.refl e37 f17_F f15_E (Or.inl (hw _ (List.mem_of_getElem? (i := 48) rfl))) (hw _ (List.mem_of_getElem? (i := 10) rfl)) (ty := .int) (by decide) rfl rfl (g := (mkF m 34 #[rv a, rv cc, iv (0 : Int32), iv p3, iv p3] [(.int vq), (.ref a)])) rfl rfl (hb hby d31_34)
  have pre41 : ∀ t, own_s p e below T40 m 37 #[rv a, rv cc, iv (0 : Int32), iv p3, iv p3] [] t → Steps p.tables e below S0 t := fun tX kX => pre39 _ (st40 _ kX)
  obtain ⟨LL42, X42, N42⟩ : ∃ LL, Stand p l e ({ frames := 1, cells := 0, slots := 0, locals := 40 } : Room) s m #[(.ref a), (.ref cc), (.int (0 : Int32)), (.int p3)] below meth c T40 LL 0 0 ∧ Fr n0 LL := ⟨_, X40, Fr.snoc X40 N35 g_a⟩
  have f43_E : Exa Z h40 a "com/example/weaverbird/weaverbird/model/xml/Attributes" := f15_E.wr W40
  have f44_F : Fld Z h40 a "com/example/weaverbird/weaverbird/model/xml/Attributes" "count" "I" (.int ct) := f16_F.other W40 (Or.inr (slot_ne (Or.inl (hw _ (List.mem_of_getElem? (i := 46) rfl))) (Or.inl (hw _ (List.mem_of_getElem? (i := 48) rfl))) (by decide) (t := .int) (t' := .int) (by decide) (by decide)))
  have f45_F : Fld Z h40 a "com/example/weaverbird/weaverbird/model/xml/Attributes" "names" "[Lcom/example/weaverbird/weaverbird/model/xml/NameTable$QualifiedName;" (.ref nm) := f18_F.other W40 (Or.inr (slot_ne (Or.inl (hw _ (List.mem_of_getElem? (i := 21) rfl))) (Or.inl (hw _ (List.mem_of_getElem? (i := 48) rfl))) (by decide) (t := (.array (.object "com/example/weaverbird/weaverbird/model/xml/NameTable$QualifiedName"))) (t' := .int) (by decide) (by decide)))
  have f46_F : Fld Z h40 a "com/example/weaverbird/weaverbird/model/xml/Attributes" "starts" "[I" (.ref sr) := f19_F.other W40 (Or.inr (slot_ne (Or.inl (hw _ (List.mem_of_getElem? (i := 24) rfl))) (Or.inl (hw _ (List.mem_of_getElem? (i := 48) rfl))) (by decide) (t := (.array .int)) (t' := .int) (by decide) (by decide)))
  have f47_F : Fld Z h40 a "com/example/weaverbird/weaverbird/model/xml/Attributes" "lengths" "[I" (.ref ln) := f20_F.other W40 (Or.inr (slot_ne (Or.inl (hw _ (List.mem_of_getElem? (i := 26) rfl))) (Or.inl (hw _ (List.mem_of_getElem? (i := 48) rfl))) (by decide) (t := (.array .int)) (t' := .int) (by decide) (by decide)))
  have f48_F : Fld Z h40 a "com/example/weaverbird/weaverbird/model/xml/Attributes" "namespaces" "[Ljava/lang/String;" (.ref ns) := f21_F.other W40 (Or.inr (slot_ne (Or.inl (hw _ (List.mem_of_getElem? (i := 30) rfl))) (Or.inl (hw _ (List.mem_of_getElem? (i := 48) rfl))) (by decide) (t := (.array (.object "java/lang/String"))) (t' := .int) (by decide) (by decide)))
  have f49_F : Fld Z h40 a "com/example/weaverbird/weaverbird/model/xml/Attributes" "declarations" "[Z" (.ref dc) := f22_F.other W40 (Or.inr (slot_ne (Or.inl (hw _ (List.mem_of_getElem? (i := 33) rfl))) (Or.inl (hw _ (List.mem_of_getElem? (i := 48) rfl))) (by decide) (t := (.array .boolean)) (t' := .int) (by decide) (by decide)))
  have f50_F : Fld Z h40 a "com/example/weaverbird/weaverbird/model/xml/Attributes" "strings" "[Ljava/lang/String;" (.ref sg) := f23_F.other W40 (Or.inr (slot_ne (Or.inl (hw _ (List.mem_of_getElem? (i := 35) rfl))) (Or.inl (hw _ (List.mem_of_getElem? (i := 48) rfl))) (by decide) (t := (.array (.object "java/lang/String"))) (t' := .int) (by decide) (by decide)))
  have f51_F : Fld Z h40 a "com/example/weaverbird/weaverbird/model/xml/Attributes" "values" "[C" (.ref vl) := f24_F.other W40 (Or.inr (slot_ne (Or.inl (hw _ (List.mem_of_getElem? (i := 37) rfl))) (Or.inl (hw _ (List.mem_of_getElem? (i := 48) rfl))) (by decide) (t := (.array .char)) (t' := .int) (by decide) (by decide)))
  have f52_A : own_Af Z h40 nm (.object "com/example/weaverbird/weaverbird/model/xml/NameTable$QualifiedName") 8 fnm := f25_A.other W40 (Ne.symm ne_a_nm)
  have f53_A : own_Af Z h40 ns (.object "java/lang/String") 8 fns := f26_A.other W40 (Ne.symm ne_a_ns)
  have f54_A : own_Af Z h40 sg (.object "java/lang/String") 8 fg := f27_A.other W40 (Ne.symm ne_a_sg)
  have f55_A : own_Af Z h40 dc .boolean 8 fdc := f28_A.other W40 (Ne.symm ne_a_dc)
  have f56_A : own_Af Z h40 sr .int 8 (fun j => .int (fs j)) := f29_A.other W40 (Ne.symm ne_a_sr)
  have f57_A : own_Af Z h40 ln .int 8 (fun j => .int (fl j)) := f30_A.other W40 (Ne.symm ne_a_ln)
  have f58_B : own_Ov Z h40 ns "java/lang/String" := f31_B.wr W40
  have f59_B : own_Ov Z h40 sg "java/lang/String" := f32_B.wr W40
  have f60_A : own_Af Z h40 cc .char 5 (fun j => .int (gc j)) := f33_A.other W40 ne_c_a
  have f61_A : own_Af Z h40 vl .char 256 (fun j => .int ((own_cpf g V n gc) j)) := f34_A.other W40 (Ne.symm ne_a_vl)
  have Z62 : n0 ≤ h40.size := Nat.le_trans Z13 (Keep.of_wr W40).1
  have K63 : Keep h0 h40 [a, ln, vl] := K13.wr W40 (Or.inl (List.mem_of_getElem? (i := 0) rfl))
  have f64_F : Fld Z h40 a "com/example/weaverbird/weaverbird/model/xml/Attributes" "valuesLength" "I" (.int vq) := f17_F.same W40
  have pre65 : ∀ t, own_s p e below T40 m 38 #[rv a, rv cc, iv (0 : Int32), iv p3, iv p3] [(.ref a)] t → Steps p.tables e below S0 t := by
    intro tX kX
    refine pre41 _ ?_
    show own_s p e below T40 m 37 #[rv a, rv cc, iv (0 : Int32), iv p3, iv p3] [] _
    refine XS.aloadN X42.here hx rfl (hb hby d31_37) rfl rfl ?_
    exact kX
  obtain ⟨T66, X66, e66, st66⟩ := getF X42 hx hZ hown (host := "") (Or.inl (hw _ (List.mem_of_getElem? (i := 25) rfl))) Via.refl e40 f47_F (g := (mkF m 38 #[rv a, rv cc, iv (0 : Int32), iv p3, iv p3] [(.ref a)])) rfl rfl (hb hby d31_38)
  have pre67 : ∀ t, own_s p e below T66 m 41 #[rv a, rv cc, iv (0 : Int32), iv p3, iv p3] [(.ref ln)] t → Steps p.tables e below S0 t := fun tX kX => pre65 _ (st66 _ kX)
  have pre68 : ∀ t, own_s p e below T66 m 42 #[rv a, rv cc, iv (0 : Int32), iv p3, iv p3] [(.ref a), (.ref ln)] t → Steps p.tables e below S0 t := by
    intro tX kX
    refine pre67 _ ?_
    show own_s p e below T66 m 41 #[rv a, rv cc, iv (0 : Int32), iv p3, iv p3] [(.ref ln)] _
    refine XS.aloadN X66.here hx rfl (hb hby d31_41) rfl rfl ?_
    exact kX
  obtain ⟨T69, X69, e69, st69⟩ := getF X66 hx hZ hown (host := "") (Or.inl (hw _ (List.mem_of_getElem? (i := 45) rfl))) Via.refl e66 f44_F (g := (mkF m 42 #[rv a, rv cc, iv (0 : Int32), iv p3, iv p3] [(.ref a), (.ref ln)])) rfl rfl (hb hby d31_42)
  have pre70 : ∀ t, own_s p e below T69 m 45 #[rv a, rv cc, iv (0 : Int32), iv p3, iv p3] [(.int ct), (.ref ln)] t → Steps p.tables e below S0 t := fun tX kX => pre68 _ (st69 _ kX)
  have pre71 : ∀ t, own_s p e below T69 m 47 #[rv a, rv cc, iv (0 : Int32), iv p3, iv p3] [(.int (ct - (1 : Int32))), (.ref ln)] t → Steps p.tables e below S0 t := by
    intro tX kX
    refine pre70 _ ?_
    show own_s p e below T69 m 45 #[rv a, rv cc, iv (0 : Int32), iv p3, iv p3] [(.int ct), (.ref ln)] _
    refine XS.iconst X69.here hx rfl (hb hby d31_45) ?_
    refine XS.isub X69.here hx rfl (hb hby d31_46) rfl ?_
    exact kX
  obtain ⟨kq, hkq⟩ : ∃ z : Int32, z = (ct - (1 : Int32)) := ⟨_, rfl⟩
  rw [← hkq] at pre71
  have ikq : kq.toInt = ((K : Nat) : Int) := by rw [hkq]; exact (own_subN (b := 1) hct rfl (by omega)).trans (by omega)
  have pre73 : ∀ t, own_s p e below T69 m 48 #[rv a, rv cc, iv (0 : Int32), iv p3, iv p3] [(.int kq), (.ref ln), (.int kq), (.ref ln)] t → Steps p.tables e below S0 t := by
    intro tX kX
    refine pre71 _ ?_
    show own_s p e below T69 m 47 #[rv a, rv cc, iv (0 : Int32), iv p3, iv p3] [(.int kq), (.ref ln)] _
    refine Jvm.Free.XT.dup2 X69.here hx rfl (hb hby d31_47) rfl rfl rfl ?_
    exact kX
  obtain ⟨cl72, Ar72, S72, M72, H72⟩ := id f57_A
  have pre74 : ∀ t, own_s p e below T69 m 52 #[rv a, rv cc, iv (0 : Int32), iv p3, iv p3] [(.int ((fl K) + p3)), (.int kq), (.ref ln)] t → Steps p.tables e below S0 t := by
    intro tX kX
    refine pre73 _ ?_
    show own_s p e below T69 m 48 #[rv a, rv cc, iv (0 : Int32), iv p3, iv p3] [(.int kq), (.ref ln), (.int kq), (.ref ln)] _
    refine X69.iaload hx (j := kq) (v := (.int (fl K))) (by rw [e69]; exact Ar72.1) (State.isArrayOf_alike hZ.alike Ar72.2.1) Ar72.2.2 (own_inb S72 M72 (own_idx (by omega) (by omega))) (own_get H72 S72 (own_idx (by omega) (by omega)) (by show Value.int (fl kq.toNatClampNeg) = _; rw [own_nat ikq])) (g := (mkF m 48 #[rv a, rv cc, iv (0 : Int32), iv p3, iv p3] [(.int kq), (.ref ln), (.int kq), (.ref ln)])) rfl rfl (hb hby d31_48) _ ?_
    refine XS.iload X69.here hx rfl (hb hby d31_49) rfl ?_
    refine XS.iadd X69.here hx rfl (hb hby d31_51) rfl ?_
    exact kX
  obtain ⟨lq, hlq⟩ : ∃ z : Int32, z = ((fl K) + p3) := ⟨_, rfl⟩
  rw [← hlq] at pre74
  have ilq : lq.toInt = ((n : Nat) : Int) := by rw [hlq]; have d1 := c_iadd (fl K) p3; have d2 := rng32 (fl K + p3); omega
  obtain ⟨cl75, Ar75, S75, M75, H75⟩ := id f57_A
  obtain ⟨T76, h76, X76, e76, W76, st76⟩ := stI X69 hx hZ e69 Ar75 (j := kq) (own_inb S75 M75 (own_idx (by omega) (by omega))) (g := (mkF m 52 #[rv a, rv cc, iv (0 : Int32), iv p3, iv p3] [(.int lq), (.int kq), (.ref ln)])) rfl rfl (hb hby d31_52)
  have pre77 : ∀ t, own_s p e below T76 m 53 #[rv a, rv cc, iv (0 : Int32), iv p3, iv p3] [] t → Steps p.tables e below S0 t := fun tX kX => pre74 _ (st76 _ kX)
  obtain ⟨LL78, X78, N78⟩ : ∃ LL, Stand p l e ({ frames := 1, cells := 0, slots := 0, locals := 40 } : Room) s m #[(.ref a), (.ref cc), (.int (0 : Int32)), (.int p3)] below meth c T76 LL 0 0 ∧ Fr n0 LL := ⟨_, X76, Fr.snoc X76 N42 g_ln⟩
  have f79_E : Exa Z h76 a "com/example/weaverbird/weaverbird/model/xml/Attributes" := f43_E.wr W76
  have f80_F : Fld Z h76 a "com/example/weaverbird/weaverbird/model/xml/Attributes" "count" "I" (.int ct) := f44_F.other W76 (Or.inl ne_a_ln)
  have f81_F : Fld Z h76 a "com/example/weaverbird/weaverbird/model/xml/Attributes" "names" "[Lcom/example/weaverbird/weaverbird/model/xml/NameTable$QualifiedName;" (.ref nm) := f45_F.other W76 (Or.inl ne_a_ln)
  have f82_F : Fld Z h76 a "com/example/weaverbird/weaverbird/model/xml/Attributes" "starts" "[I" (.ref sr) := f46_F.other W76 (Or.inl ne_a_ln)
  have f83_F : Fld Z h76 a "com/example/weaverbird/weaverbird/model/xml/Attributes" "lengths" "[I" (.ref ln) := f47_F.other W76 (Or.inl ne_a_ln)
  have f84_F : Fld Z h76 a "com/example/weaverbird/weaverbird/model/xml/Attributes" "namespaces" "[Ljava/lang/String;" (.ref ns) := f48_F.other W76 (Or.inl ne_a_ln)
  have f85_F : Fld Z h76 a "com/example/weaverbird/weaverbird/model/xml/Attributes" "declarations" "[Z" (.ref dc) := f49_F.other W76 (Or.inl ne_a_ln)
  have f86_F : Fld Z h76 a "com/example/weaverbird/weaverbird/model/xml/Attributes" "strings" "[Ljava/lang/String;" (.ref sg) := f50_F.other W76 (Or.inl ne_a_ln)
  have f87_F : Fld Z h76 a "com/example/weaverbird/weaverbird/model/xml/Attributes" "values" "[C" (.ref vl) := f51_F.other W76 (Or.inl ne_a_ln)
  have f88_A : own_Af Z h76 nm (.object "com/example/weaverbird/weaverbird/model/xml/NameTable$QualifiedName") 8 fnm := f52_A.other W76 ne_nm_ln
  have f89_A : own_Af Z h76 ns (.object "java/lang/String") 8 fns := f53_A.other W76 (Ne.symm ne_ln_ns)
  have f90_A : own_Af Z h76 sg (.object "java/lang/String") 8 fg := f54_A.other W76 (Ne.symm ne_ln_sg)
  have f91_A : own_Af Z h76 dc .boolean 8 fdc := f55_A.other W76 (Ne.symm ne_ln_dc)
  have f92_A : own_Af Z h76 sr .int 8 (fun j => .int (fs j)) := f56_A.other W76 ne_sr_ln
  have f93_B : own_Ov Z h76 ns "java/lang/String" := f58_B.wr W76
  have f94_B : own_Ov Z h76 sg "java/lang/String" := f59_B.wr W76
  have f95_A : own_Af Z h76 cc .char 5 (fun j => .int (gc j)) := f60_A.other W76 ne_c_ln
  have f96_A : own_Af Z h76 vl .char 256 (fun j => .int ((own_cpf g V n gc) j)) := f61_A.other W76 (Ne.symm ne_ln_vl)
  have f97_F : Fld Z h76 a "com/example/weaverbird/weaverbird/model/xml/Attributes" "valuesLength" "I" (.int vq) := f64_F.other W76 (Or.inl ne_a_ln)
  have Z98 : n0 ≤ h76.size := Nat.le_trans Z62 (Keep.of_wr W76).1
  have K99 : Keep h0 h76 [a, ln, vl] := K63.wr W76 (Or.inl (List.mem_of_getElem? (i := 1) rfl))
  have f100_A : own_Af Z h76 ln .int 8 (own_up (fun j => .int (fl j)) kq.toNatClampNeg (.int lq)) := own_Af.set Ar75 S75 M75 H75 W76
  have f101_A : own_Af Z h76 ln .int 8 (fun j => .int ((own_upi fl K lq) j)) := own_upA f100_A (own_up_eq rfl (own_nat ikq) rfl)
  subst hS0
  obtain ⟨fsX, hr, hrun, hended, hW, hsame⟩ := X78.leave (v := none) (fun _ => rfl)
  refine ⟨_, _, pre77 _ (X78.returnOut hx Bd.returns (hb hby d31_53) hr), hrun, hended, _, _, rfl, ?_, ⟨_, rfl⟩, hW, hsame.mono (by decide) (by decide)⟩
  show Q31 Z a cc p3 nm sr ln ns dc sg vl ct vn fs fl fg g gc n V K h0 n0 none T76.heap _
  rw [e76]
  exact ⟨vq, _, rfl, N78, ivq, (by rw [own_upi_s]; exact ilq), fun j hj => own_upi_o hj, K99, ⟨f79_E, f81_F, f82_F, f83_F, f84_F, f85_F, f86_F, f87_F, f80_F, f97_F, ⟨_, f88_A⟩, f92_A, f101_A, ⟨_, f89_A⟩, ⟨_, f91_A⟩, f90_A, f96_A, f93_B, f94_B⟩⟩
theorem d32_0 : decode prog_157_method_13_code 0 = .ok (.aload_n 0, 1) := by decide +kernel
theorem d32_1 : decode prog_157_method_13_code 1 = .ok (.getfield 15, 3) := by decide +kernel
theorem d32_4 : decode prog_157_method_13_code 4 = .ok (.iload_n 1, 1) := by decide +kernel
theorem d32_5 : decode prog_157_method_13_code 5 = .ok (.iaload, 1) := by decide +kernel
theorem d32_6 : decode prog_157_method_13_code 6 = .ok (.istore_n 2, 1) := by decide +kernel
theorem d32_7 : decode prog_157_method_13_code 7 = .ok (.iload_n 2, 1) := by decide +kernel
theorem d32_8 : decode prog_157_method_13_code 8 = .ok (.istore_n 3, 1) := by decide +kernel
theorem d32_9 : decode prog_157_method_13_code 9 = .ok (.iconst 1, 1) := by decide +kernel
theorem d32_10 : decode prog_157_method_13_code 10 = .ok (.istore 4, 2) := by decide +kernel
theorem d32_12 : decode prog_157_method_13_code 12 = .ok (.iload_n 2, 1) := by decide +kernel
theorem d32_13 : decode prog_157_method_13_code 13 = .ok (.istore 5, 2) := by decide +kernel
theorem d32_15 : decode prog_157_method_13_code 15 = .ok (.iload 5, 2) := by decide +kernel
theorem d32_17 : decode prog_157_method_13_code 17 = .ok (.iload_n 2, 1) := by decide +kernel
theorem d32_18 : decode prog_157_method_13_code 18 = .ok (.aload_n 0, 1) := by decide +kernel
theorem d32_19 : decode prog_157_method_13_code 19 = .ok (.getfield 19, 3) := by decide +kernel
theorem d32_22 : decode prog_157_method_13_code 22 = .ok (.iload_n 1, 1) := by decide +kernel
theorem d32_23 : decode prog_157_method_13_code 23 = .ok (.iaload, 1) := by decide +kernel
theorem d32_24 : decode prog_157_method_13_code 24 = .ok (.iadd, 1) := by decide +kernel
theorem d32_25 : decode prog_157_method_13_code 25 = .ok (.if_icmp .ge 55, 3) := by decide +kernel
theorem d32_28 : decode prog_157_method_13_code 28 = .ok (.aload_n 0, 1) := by decide +kernel
theorem d32_29 : decode prog_157_method_13_code 29 = .ok (.getfield 35, 3) := by decide +kernel
theorem d32_32 : decode prog_157_method_13_code 32 = .ok (.iload 5, 2) := by decide +kernel
theorem d32_34 : decode prog_157_method_13_code 34 = .ok (.caload, 1) := by decide +kernel
theorem d32_35 : decode prog_157_method_13_code 35 = .ok (.istore 6, 2) := by decide +kernel
theorem d32_37 : decode prog_157_method_13_code 37 = .ok (.iload 6, 2) := by decide +kernel
theorem d32_39 : decode prog_157_method_13_code 39 = .ok (.bipush 32, 2) := by decide +kernel
theorem d32_41 : decode prog_157_method_13_code 41 = .ok (.if_icmp .ne 8, 3) := by decide +kernel
theorem d32_44 : decode prog_157_method_13_code 44 = .ok (.iload 4, 2) := by decide +kernel
theorem d32_46 : decode prog_157_method_13_code 46 = .ok (.ifCond .ne 14, 3) := by decide +kernel
theorem d32_49 : decode prog_157_method_13_code 49 = .ok (.aload_n 0, 1) := by decide +kernel
theorem d32_50 : decode prog_157_method_13_code 50 = .ok (.getfield 35, 3) := by decide +kernel
theorem d32_53 : decode prog_157_method_13_code 53 = .ok (.iload_n 3, 1) := by decide +kernel
theorem d32_54 : decode prog_157_method_13_code 54 = .ok (.iinc 3 1, 3) := by decide +kernel
theorem d32_57 : decode prog_157_method_13_code 57 = .ok (.iload 6, 2) := by decide +kernel
theorem d32_59 : decode prog_157_method_13_code 59 = .ok (.castore, 1) := by decide +kernel
theorem d32_60 : decode prog_157_method_13_code 60 = .ok (.iload 6, 2) := by decide +kernel
theorem d32_62 : decode prog_157_method_13_code 62 = .ok (.bipush 32, 2) := by decide +kernel
theorem d32_64 : decode prog_157_method_13_code 64 = .ok (.if_icmp .ne 7, 3) := by decide +kernel
theorem d32_67 : decode prog_157_method_13_code 67 = .ok (.iconst 1, 1) := by decide +kernel
theorem d32_68 : decode prog_157_method_13_code 68 = .ok (.goto 4, 3) := by decide +kernel
theorem d32_71 : decode prog_157_method_13_code 71 = .ok (.iconst 0, 1) := by decide +kernel
theorem d32_72 : decode prog_157_method_13_code 72 = .ok (.istore 4, 2) := by decide +kernel
theorem d32_74 : decode prog_157_method_13_code 74 = .ok (.iinc 5 1, 3) := by decide +kernel
theorem d32_77 : decode prog_157_method_13_code 77 = .ok (.goto (-62), 3) := by decide +kernel
theorem d32_80 : decode prog_157_method_13_code 80 = .ok (.iload_n 3, 1) := by decide +kernel
theorem d32_81 : decode prog_157_method_13_code 81 = .ok (.iload_n 2, 1) := by decide +kernel
theorem d32_82 : decode prog_157_method_13_code 82 = .ok (.if_icmp .le 19, 3) := by decide +kernel
theorem d32_85 : decode prog_157_method_13_code 85 = .ok (.aload_n 0, 1) := by decide +kernel
theorem d32_86 : decode prog_157_method_13_code 86 = .ok (.getfield 35, 3) := by decide +kernel
theorem d32_89 : decode prog_157_method_13_code 89 = .ok (.iload_n 3, 1) := by decide +kernel
theorem d32_90 : decode prog_157_method_13_code 90 = .ok (.iconst 1, 1) := by decide +kernel
theorem d32_91 : decode prog_157_method_13_code 91 = .ok (.isub, 1) := by decide +kernel
theorem d32_92 : decode prog_157_method_13_code 92 = .ok (.caload, 1) := by decide +kernel
theorem d32_93 : decode prog_157_method_13_code 93 = .ok (.bipush 32, 2) := by decide +kernel
theorem d32_95 : decode prog_157_method_13_code 95 = .ok (.if_icmp .ne 6, 3) := by decide +kernel
theorem d32_98 : decode prog_157_method_13_code 98 = .ok (.iinc 3 (-1), 3) := by decide +kernel
theorem d32_101 : decode prog_157_method_13_code 101 = .ok (.aload_n 0, 1) := by decide +kernel
theorem d32_102 : decode prog_157_method_13_code 102 = .ok (.getfield 19, 3) := by decide +kernel
theorem d32_105 : decode prog_157_method_13_code 105 = .ok (.iload_n 1, 1) := by decide +kernel
theorem d32_106 : decode prog_157_method_13_code 106 = .ok (.iload_n 3, 1) := by decide +kernel
theorem d32_107 : decode prog_157_method_13_code 107 = .ok (.iload_n 2, 1) := by decide +kernel
theorem d32_108 : decode prog_157_method_13_code 108 = .ok (.isub, 1) := by decide +kernel
theorem d32_109 : decode prog_157_method_13_code 109 = .ok (.iastore, 1) := by decide +kernel
theorem d32_110 : decode prog_157_method_13_code 110 = .ok (.return_, 1) := by decide +kernel
theorem pn_32 : plainName "com/example/weaverbird/weaverbird/model/xml/Attributes" = true := by first | (simp [plainName, overriddenIn]; done) | decide +kernel
theorem ef_32 (m : MethodId) (a : Addr) (p1 : Int32) : entryFrame m #[(.ref a), (.int p1)] 7 = mkF m 0 #[rv a, iv p1, .unset, .unset, .unset, .unset, .unset] [] := by first | (simp [entryFrame, mkF, argsToLocals, Value.category]; done) | rfl
def Q32 (Z : State) (a : Addr) (p1 : Int32) (nm : Addr) (sr : Addr) (ln : Addr) (ns : Addr) (dc : Addr) (sg : Addr) (vl : Addr) (ct : Int32) (vn : Int32) (fs : Nat → Int32) (fl : Nat → Int32) (fg : Nat → Value) (g : Nat → Int32) (S : Nat) (n : Nat) (K : Nat) (h0 : Heap) (n0 : Nat) (v : Option Value) (h : Heap) (L : List Loc) : Prop := ∃ fl' : Nat → Int32, v = none ∧ Fr n0 L ∧ (fl' K).toInt = ((own_end S (own_loop S n 0 0 true g) : Nat) : Int) ∧ (∀ j, j ≠ K → fl' j = fl j) ∧ own_B (own_loop S n 0 0 true g).2 ∧ Keep h0 h [ln, vl] ∧ own_At Z h a nm sr ln ns dc sg vl ct vn fs fl' fg (own_loop S n 0 0 true g).2
set_option maxRecDepth 65536 in
set_option maxHeartbeats 40000000 in
theorem rm32 (l : Launch) (Z : State) (a0 : Array Value) (hw : ∀ d ∈ tables_1, d.before a0 Z = true) (ws : List Jvm.Cond) (a : Addr) (p1 : Int32) (nm : Addr) (sr : Addr) (ln : Addr) (ns : Addr) (dc : Addr) (sg : Addr) (vl : Addr) (ct : Int32) (vn : Int32) (fs : Nat → Int32) (fl : Nat → Int32) (fg : Nat → Value) (g : Nat → Int32) (S : Nat) (n : Nat) (K : Nat) (h0 : Heap) (n0 : Nat) (Z0 : n0 ≤ h0.size) (hAt : own_At Z h0 a nm sr ln ns dc sg vl ct vn fs fl fg g) (hO : a < nm ∧ nm < sr ∧ sr < ln ∧ ln < ns ∧ ns < dc ∧ dc < sg ∧ sg < vl) (g_a : n0 ≤ a) (Bg : own_B g) (hp : p1.toInt = ((K : Nat) : Int)) (hK : K < 8) (hS_ : (fs K).toInt = ((S : Nat) : Int)) (hfl : (fl K).toInt = ((n : Nat) : Int)) (hSn : S + n ≤ 200) :
    MetFree l (⟨"com/example/weaverbird/weaverbird/model/xml/Attributes", "collapse", "(I)V"⟩ : MethodName) (head1 (Jvm.Cond.code (⟨"com/example/weaverbird/weaverbird/model/xml/Attributes", "collapse", "(I)V"⟩ : MethodName) prog_157_method_13_code 7 none :: ws) ({ frames := 0, cells := 0, slots := 0, locals := 0 } : Room)) (fun aX UX => aX = #[(.ref a), (.int p1)] ∧ Z.Warmed39 UX.vm ∧ UX.heap = h0) (fun _ _ _ _ _ => True) (fun _ UX oX UY => ∃ vX LX, oX = .returned vX ∧ Q32 Z a p1 nm sr ln ns dc sg vl ct vn fs fl fg g S n K h0 n0 vX UY.heap LX ∧ FrameEnd UX oX UY LX ({ frames := 0, cells := 0, slots := 0, locals := 0 } : Room).cells ({ frames := 0, cells := 0, slots := 0, locals := 0 } : Room).slots) := by
  refine MetFree.of_bodySF (plainFor_of_name pn_32) hisR ?_
  intro p e s m args below meth c s₁ Bd hml0 hPX hKX
  obtain ⟨rfl, hZ, hh⟩ := hPX
  have hx := Bd.exec
  have hby := Bd.bytes
  have hml : c.maxLocals = 7 := hml0
  have hown : s.vm.findClass "com/example/weaverbird/weaverbird/model/xml/Attributes" = some m.cls := findClass_of_methodNamed Bd.named
  have hnm := (name_of_methodNamed Bd.named Bd.method).1
  have X0 : Stand p l e ({ frames := 0, cells := 0, slots := 0, locals := 0 } : Room) s m #[(.ref a), (.int p1)] below meth c s₁ [] 0 0 := Stand.of_body Bd
  have e0 : s₁.heap = h0 := by rw [← hh, Bd.state]; rfl
  have N0 := Fr.nil n0
  have pre0 : ∀ t, Steps p.tables e below (s₁.setTop (mkF m 0 #[rv a, iv p1, .unset, .unset, .unset, .unset, .unset] [])) t → Steps p.tables e below (s₁.setTop (entryFrame m #[(.ref a), (.int p1)] 7)) t := fun t k => castTop (ef_32 m a p1) k
  obtain ⟨S0, hS0⟩ : ∃ z, z = (s₁.setTop (entryFrame m #[(.ref a), (.int p1)] 7)) := ⟨_, rfl⟩
  rw [← hS0] at pre0
  have K0 : Keep h0 h0 [ln, vl] := Keep.refl h0 _
  obtain ⟨o1, o2, o3, o4, o5, o6, o7⟩ := id hO
  obtain ⟨E_a, F_nm, F_sr, F_ln, F_ns, F_dc, F_sg, F_vl, F_ct, F_vn, ⟨fnm, A_nm⟩, A_sr, A_ln, ⟨fns, A_ns⟩, ⟨fdc, A_dc⟩, A_sg, A_vl, O_ns, O_sg⟩ := id hAt
  have ne_a_sr : a ≠ sr := Nat.ne_of_lt (Nat.lt_trans o1 o2)
  have ne_a_ln : a ≠ ln := Nat.ne_of_lt (Nat.lt_trans o1 (Nat.lt_trans o2 o3))
  have ne_a_vl : a ≠ vl := Nat.ne_of_lt (Nat.lt_trans o1 (Nat.lt_trans o2 (Nat.lt_trans o3 (Nat.lt_trans o4 (Nat.lt_trans o5 (Nat.lt_trans o6 o7))))))
  have ne_sr_ln : sr ≠ ln := Nat.ne_of_lt o3
  have ne_sr_vl : sr ≠ vl := Nat.ne_of_lt (Nat.lt_trans o3 (Nat.lt_trans o4 (Nat.lt_trans o5 (Nat.lt_trans o6 o7))))
  have ne_ln_vl : ln ≠ vl := Nat.ne_of_lt (Nat.lt_trans o4 (Nat.lt_trans o5 (Nat.lt_trans o6 o7)))
  have g_ln : n0 ≤ ln := Nat.le_trans g_a (Nat.le_of_lt (Nat.lt_trans o1 (Nat.lt_trans o2 o3)))
  have g_vl : n0 ≤ vl := Nat.le_trans g_a (Nat.le_of_lt (Nat.lt_trans o1 (Nat.lt_trans o2 (Nat.lt_trans o3 (Nat.lt_trans o4 (Nat.lt_trans o5 (Nat.lt_trans o6 o7)))))))
  have pre1 : ∀ t, own_s p e below s₁ m 1 #[rv a, iv p1, .unset, .unset, .unset, .unset, .unset] [(.ref a)] t → Steps p.tables e below S0 t := by
    intro tX kX
    refine pre0 _ ?_
    show own_s p e below s₁ m 0 #[rv a, iv p1, .unset, .unset, .unset, .unset, .unset] [] _
    refine XS.aloadN X0.here hx rfl (hb hby d32_0) rfl rfl ?_
    exact kX
  obtain ⟨T2, X2, e2, st2⟩ := getF X0 hx hZ hown (host := "") (Or.inl (hw _ (List.mem_of_getElem? (i := 23) rfl))) Via.refl e0 F_sr (g := (mkF m 1 #[rv a, iv p1, .unset, .unset, .unset, .unset, .unset] [(.ref a)])) rfl rfl (hb hby d32_1)
  have pre3 : ∀ t, own_s p e below T2 m 4 #[rv a, iv p1, .unset, .unset, .unset, .unset, .unset] [(.ref sr)] t → Steps p.tables e below S0 t := fun tX kX => pre1 _ (st2 _ kX)
  have pre5 : ∀ t, own_s p e below T2 m 5 #[rv a, iv p1, .unset, .unset, .unset, .unset, .unset] [(.int p1), (.ref sr)] t → Steps p.tables e below S0 t := by
    intro tX kX
    refine pre3 _ ?_
    show own_s p e below T2 m 4 #[rv a, iv p1, .unset, .unset, .unset, .unset, .unset] [(.ref sr)] _
    refine XS.iloadN X2.here hx rfl (hb hby d32_4) rfl ?_
    exact kX
  obtain ⟨cl4, Ar4, S4, M4, H4⟩ := id A_sr
  have pre6 : ∀ t, own_s p e below T2 m 15 #[rv a, iv p1, iv (fs K), iv (fs K), iv (1 : Int32), iv (fs K), .unset] [] t → Steps p.tables e below S0 t := by
    intro tX kX
    refine pre5 _ ?_
    show own_s p e below T2 m 5 #[rv a, iv p1, .unset, .unset, .unset, .unset, .unset] [(.int p1), (.ref sr)] _
    refine X2.iaload hx (j := p1) (v := (.int (fs K))) (by rw [e2]; exact Ar4.1) (State.isArrayOf_alike hZ.alike Ar4.2.1) Ar4.2.2 (own_inb S4 M4 (own_idx (by omega) (by omega))) (own_get H4 S4 (own_idx (by omega) (by omega)) (by show Value.int (fs p1.toNatClampNeg) = _; rw [own_nat hp])) (g := (mkF m 5 #[rv a, iv p1, .unset, .unset, .unset, .unset, .unset] [(.int p1), (.ref sr)])) rfl rfl (hb hby d32_5) _ ?_
    refine XS.istoreN X2.here hx rfl (hb hby d32_6) rfl (l' := #[rv a, iv p1, iv (fs K), .unset, .unset, .unset, .unset]) rfl ?_
    refine XS.iloadN X2.here hx rfl (hb hby d32_7) rfl ?_
    show own_s p e below T2 m 8 #[rv a, iv p1, iv (fs K), .unset, .unset, .unset, .unset] [(.int (fs K))] _
    refine XS.istoreN X2.here hx rfl (hb hby d32_8) rfl (l' := #[rv a, iv p1, iv (fs K), iv (fs K), .unset, .unset, .unset]) rfl ?_
    refine XS.iconst X2.here hx rfl (hb hby d32_9) ?_
    refine XS.istore X2.here hx rfl (hb hby d32_10) rfl (l' := #[rv a, iv p1, iv (fs K), iv (fs K), iv (1 : Int32), .unset, .unset]) rfl ?_
    show own_s p e below T2 m 12 #[rv a, iv p1, iv (fs K), iv (fs K), iv (1 : Int32), .unset, .unset] [] _
    refine XS.iloadN X2.here hx rfl (hb hby d32_12) rfl ?_
    refine XS.istore X2.here hx rfl (hb hby d32_13) rfl (l' := #[rv a, iv p1, iv (fs K), iv (fs K), iv (1 : Int32), iv (fs K), .unset]) rfl ?_
    exact kX
  obtain ⟨sv, hsv⟩ : ∃ z : Int32, z = (fs K) := ⟨_, rfl⟩
  rw [← hsv] at pre6
  have isv : sv.toInt = ((S : Nat) : Int) := by rw [hsv]; exact hS_
  have lp : ∀ (k : Nat) (i : Nat) (P : Nat) (sp : Bool) (g1 : Nat → Int32) (pv : Int32) (ix : Int32) (w6 : Slot) (T : State) (LL : List Loc) (h : Heap), (i + k = n) → (P ≤ i) → (pv.toInt = ((S + P : Nat) : Int)) → (ix.toInt = ((S + i : Nat) : Int)) → (One w6) → (own_B g1) → Stand p l e ({ frames := 0, cells := 0, slots := 0, locals := 0 } : Room) s m #[(.ref a), (.int p1)] below meth c T LL 0 0 → T.heap = h → Fr n0 LL → Keep h0 h [ln, vl] → Exa Z h a "com/example/weaverbird/weaverbird/model/xml/Attributes" → Fld Z h a "com/example/weaverbird/weaverbird/model/xml/Attributes" "lengths" "[I" (.ref ln) → Fld Z h a "com/example/weaverbird/weaverbird/model/xml/Attributes" "values" "[C" (.ref vl) → own_Af Z h ln .int 8 (fun j => .int (fl j)) → own_Af Z h vl .char 256 (fun j => .int (g1 j)) → ∃ (P' : Nat) (g' : Nat → Int32) (pv' : Int32) (sp' : Int32) (ix' : Int32) (w6' : Slot) (T' : State) (LL' : List Loc) (h' : Heap), ((P', g') = own_loop S k i P sp g1) ∧ (P' ≤ n) ∧ (pv'.toInt = ((S + P' : Nat) : Int)) ∧ (own_B g') ∧ Stand p l e ({ frames := 0, cells := 0, slots := 0, locals := 0 } : Room) s m #[(.ref a), (.int p1)] below meth c T' LL' 0 0 ∧ T'.heap = h' ∧ Fr n0 LL' ∧ Keep h0 h' [ln, vl] ∧ Exa Z h' a "com/example/weaverbird/weaverbird/model/xml/Attributes" ∧ Fld Z h' a "com/example/weaverbird/weaverbird/model/xml/Attributes" "lengths" "[I" (.ref ln) ∧ Fld Z h' a "com/example/weaverbird/weaverbird/model/xml/Attributes" "values" "[C" (.ref vl) ∧ own_Af Z h' ln .int 8 (fun j => .int (fl j)) ∧ own_Af Z h' vl .char 256 (fun j => .int (g' j)) ∧ ∀ tX, own_s p e below T' m 80 #[rv a, iv p1, iv sv, iv (pv'), iv (sp'), iv (ix'), w6'] [] tX → own_s p e below T m 15 #[rv a, iv p1, iv sv, iv pv, iv (own_bi sp), iv ix, w6] [] tX := by
    intro k
    induction k with
    | zero =>
      intro i P sp g1 pv ix w6 T LL h hik hPi hpv hix h6 Bg1 hXL hTL hNL hKL fL0 fL1 fL2 fL3 fL4
      have hzL : n0 ≤ h.size := Nat.le_trans Z0 hKL.1
      obtain ⟨S1, hS1⟩ : ∃ z, z = T.setTop (mkF m 15 #[rv a, iv p1, iv sv, iv pv, iv (own_bi sp), iv ix, w6] []) := ⟨_, rfl⟩
      have preL : ∀ t, own_s p e below T m 15 #[rv a, iv p1, iv sv, iv pv, iv (own_bi sp), iv ix, w6] [] t → Steps p.tables e below S1 t := fun tX kX => by rw [hS1]; exact kX
      have pre7 : ∀ t, own_s p e below T m 19 #[rv a, iv p1, iv sv, iv pv, iv (own_bi sp), iv ix, w6] [(.ref a), (.int sv), (.int ix)] t → Steps p.tables e below S1 t := by
        intro tX kX
        refine preL _ ?_
        show own_s p e below T m 15 #[rv a, iv p1, iv sv, iv pv, iv (own_bi sp), iv ix, w6] [] _
        refine XS.iload hXL.here hx rfl (hb hby d32_15) rfl ?_
        refine XS.iloadN hXL.here hx rfl (hb hby d32_17) rfl ?_
        refine XS.aloadN hXL.here hx rfl (hb hby d32_18) rfl rfl ?_
        exact kX
      obtain ⟨T8, X8, e8, st8⟩ := getF hXL hx hZ hown (host := "") (Or.inl (hw _ (List.mem_of_getElem? (i := 25) rfl))) Via.refl hTL fL1 (g := (mkF m 19 #[rv a, iv p1, iv sv, iv pv, iv (own_bi sp), iv ix, w6] [(.ref a), (.int sv), (.int ix)])) rfl rfl (hb hby d32_19)
      have pre9 : ∀ t, own_s p e below T8 m 22 #[rv a, iv p1, iv sv, iv pv, iv (own_bi sp), iv ix, w6] [(.ref ln), (.int sv), (.int ix)] t → Steps p.tables e below S1 t := fun tX kX => pre7 _ (st8 _ kX)
      have pre11 : ∀ t, own_s p e below T8 m 23 #[rv a, iv p1, iv sv, iv pv, iv (own_bi sp), iv ix, w6] [(.int p1), (.ref ln), (.int sv), (.int ix)] t → Steps p.tables e below S1 t := by
        intro tX kX
        refine pre9 _ ?_
        show own_s p e below T8 m 22 #[rv a, iv p1, iv sv, iv pv, iv (own_bi sp), iv ix, w6] [(.ref ln), (.int sv), (.int ix)] _
        refine XS.iloadN X8.here hx rfl (hb hby d32_22) rfl ?_
        exact kX
      obtain ⟨cl10, Ar10, S10, M10, H10⟩ := id fL3
      have pre12 : ∀ t, own_s p e below T8 m 25 #[rv a, iv p1, iv sv, iv pv, iv (own_bi sp), iv ix, w6] [(.int (sv + (fl K))), (.int ix)] t → Steps p.tables e below S1 t := by
        intro tX kX
        refine pre11 _ ?_
        show own_s p e below T8 m 23 #[rv a, iv p1, iv sv, iv pv, iv (own_bi sp), iv ix, w6] [(.int p1), (.ref ln), (.int sv), (.int ix)] _
        refine X8.iaload hx (j := p1) (v := (.int (fl K))) (by rw [e8]; exact Ar10.1) (State.isArrayOf_alike hZ.alike Ar10.2.1) Ar10.2.2 (own_inb S10 M10 (own_idx (by omega) (by omega))) (own_get H10 S10 (own_idx (by omega) (by omega)) (by show Value.int (fl p1.toNatClampNeg) = _; rw [own_nat hp])) (g := (mkF m 23 #[rv a, iv p1, iv sv, iv pv, iv (own_bi sp), iv ix, w6] [(.int p1), (.ref ln), (.int sv), (.int ix)])) rfl rfl (hb hby d32_23) _ ?_
        refine XS.iadd X8.here hx rfl (hb hby d32_24) rfl ?_
        exact kX
      obtain ⟨en, hen⟩ : ∃ z : Int32, z = (sv + (fl K)) := ⟨_, rfl⟩
      rw [← hen] at pre12
      have ien : en.toInt = ((S + n : Nat) : Int) := by rw [hen]; exact own_addN isv hfl (by omega)
      have pre13 : ∀ t, own_s p e below T8 m 80 #[rv a, iv p1, iv sv, iv pv, iv (own_bi sp), iv ix, w6] [] t → Steps p.tables e below S1 t := by
        intro tX kX
        refine pre12 _ ?_
        show own_s p e below T8 m 25 #[rv a, iv p1, iv sv, iv pv, iv (own_bi sp), iv ix, w6] [(.int en), (.int ix)] _
        refine XS.icmpYes X8.here hx rfl (pc0 := 25) (pc' := 80) rfl (hb hby d32_25) rfl (flt (show ¬ (ix < en) from fun q => absurd (show (ix).toInt < (en).toInt from Int32.lt_iff_toInt_lt.mp q) (by omega))).2.1 (by decide) (by decide) ?_
        exact kX
      subst hS1
      exact ⟨P, g1, pv, (own_bi sp), ix, w6, _, _, _, (show (P, g1) = own_loop S 0 i P sp g1 from rfl), (by omega), hpv, Bg1, X8, e8, hNL, hKL, fL0, fL1, fL2, fL3, fL4, pre13⟩
    | succ k ih =>
      intro i P sp g1 pv ix w6 T LL h hik hPi hpv hix h6 Bg1 hXL hTL hNL hKL fL0 fL1 fL2 fL3 fL4
      have hzL : n0 ≤ h.size := Nat.le_trans Z0 hKL.1
      obtain ⟨S1, hS1⟩ : ∃ z, z = T.setTop (mkF m 15 #[rv a, iv p1, iv sv, iv pv, iv (own_bi sp), iv ix, w6] []) := ⟨_, rfl⟩
      have preL : ∀ t, own_s p e below T m 15 #[rv a, iv p1, iv sv, iv pv, iv (own_bi sp), iv ix, w6] [] t → Steps p.tables e below S1 t := fun tX kX => by rw [hS1]; exact kX
      have pre14 : ∀ t, own_s p e below T m 19 #[rv a, iv p1, iv sv, iv pv, iv (own_bi sp), iv ix, w6] [(.ref a), (.int sv), (.int ix)] t → Steps p.tables e below S1 t := by
        intro tX kX
        refine preL _ ?_
        show own_s p e below T m 15 #[rv a, iv p1, iv sv, iv pv, iv (own_bi sp), iv ix, w6] [] _
        refine XS.iload hXL.here hx rfl (hb hby d32_15) rfl ?_
        refine XS.iloadN hXL.here hx rfl (hb hby d32_17) rfl ?_
        refine XS.aloadN hXL.here hx rfl (hb hby d32_18) rfl rfl ?_
        exact kX
      obtain ⟨T15, X15, e15, st15⟩ := getF hXL hx hZ hown (host := "") (Or.inl (hw _ (List.mem_of_getElem? (i := 25) rfl))) Via.refl hTL fL1 (g := (mkF m 19 #[rv a, iv p1, iv sv, iv pv, iv (own_bi sp), iv ix, w6] [(.ref a), (.int sv), (.int ix)])) rfl rfl (hb hby d32_19)
      have pre16 : ∀ t, own_s p e below T15 m 22 #[rv a, iv p1, iv sv, iv pv, iv (own_bi sp), iv ix, w6] [(.ref ln), (.int sv), (.int ix)] t → Steps p.tables e below S1 t := fun tX kX => pre14 _ (st15 _ kX)
      have pre18 : ∀ t, own_s p e below T15 m 23 #[rv a, iv p1, iv sv, iv pv, iv (own_bi sp), iv ix, w6] [(.int p1), (.ref ln), (.int sv), (.int ix)] t → Steps p.tables e below S1 t := by
        intro tX kX
        refine pre16 _ ?_
        show own_s p e below T15 m 22 #[rv a, iv p1, iv sv, iv pv, iv (own_bi sp), iv ix, w6] [(.ref ln), (.int sv), (.int ix)] _
        refine XS.iloadN X15.here hx rfl (hb hby d32_22) rfl ?_
        exact kX
      obtain ⟨cl17, Ar17, S17, M17, H17⟩ := id fL3
      have pre19 : ∀ t, own_s p e below T15 m 25 #[rv a, iv p1, iv sv, iv pv, iv (own_bi sp), iv ix, w6] [(.int (sv + (fl K))), (.int ix)] t → Steps p.tables e below S1 t := by
        intro tX kX
        refine pre18 _ ?_
        show own_s p e below T15 m 23 #[rv a, iv p1, iv sv, iv pv, iv (own_bi sp), iv ix, w6] [(.int p1), (.ref ln), (.int sv), (.int ix)] _
        refine X15.iaload hx (j := p1) (v := (.int (fl K))) (by rw [e15]; exact Ar17.1) (State.isArrayOf_alike hZ.alike Ar17.2.1) Ar17.2.2 (own_inb S17 M17 (own_idx (by omega) (by omega))) (own_get H17 S17 (own_idx (by omega) (by omega)) (by show Value.int (fl p1.toNatClampNeg) = _; rw [own_nat hp])) (g := (mkF m 23 #[rv a, iv p1, iv sv, iv pv, iv (own_bi sp), iv ix, w6] [(.int p1), (.ref ln), (.int sv), (.int ix)])) rfl rfl (hb hby d32_23) _ ?_
        refine XS.iadd X15.here hx rfl (hb hby d32_24) rfl ?_
        exact kX
      obtain ⟨en, hen⟩ : ∃ z : Int32, z = (sv + (fl K)) := ⟨_, rfl⟩
      rw [← hen] at pre19
      have ien : en.toInt = ((S + n : Nat) : Int) := by rw [hen]; exact own_addN isv hfl (by omega)
      have pre20 : ∀ t, own_s p e below T15 m 29 #[rv a, iv p1, iv sv, iv pv, iv (own_bi sp), iv ix, w6] [(.ref a)] t → Steps p.tables e below S1 t := by
        intro tX kX
        refine pre19 _ ?_
        show own_s p e below T15 m 25 #[rv a, iv p1, iv sv, iv pv, iv (own_bi sp), iv ix, w6] [(.int en), (.int ix)] _
        refine XS.icmpNo X15.here hx rfl (hb hby d32_25) rfl (tlt (show ix < en from Int32.lt_iff_toInt_lt.mpr (by omega : (ix).toInt < (en).toInt))).2.1 ?_
        refine XS.aloadN X15.here hx rfl (hb hby d32_28) rfl rfl ?_
        exact kX
      obtain ⟨T21, X21, e21, st21⟩ := getF X15 hx hZ hown (host := "") (Or.inl (hw _ (List.mem_of_getElem? (i := 36) rfl))) Via.refl e15 fL2 (g := (mkF m 29 #[rv a, iv p1, iv sv, iv pv, iv (own_bi sp), iv ix, w6] [(.ref a)])) rfl rfl (hb hby d32_29)
      have pre22 : ∀ t, own_s p e below T21 m 32 #[rv a, iv p1, iv sv, iv pv, iv (own_bi sp), iv ix, w6] [(.ref vl)] t → Steps p.tables e below S1 t := fun tX kX => pre20 _ (st21 _ kX)
      have pre24 : ∀ t, own_s p e below T21 m 34 #[rv a, iv p1, iv sv, iv pv, iv (own_bi sp), iv ix, w6] [(.int ix), (.ref vl)] t → Steps p.tables e below S1 t := by
        intro tX kX
        refine pre22 _ ?_
        show own_s p e below T21 m 32 #[rv a, iv p1, iv sv, iv pv, iv (own_bi sp), iv ix, w6] [(.ref vl)] _
        refine XS.iload X21.here hx rfl (hb hby d32_32) rfl ?_
        exact kX
      obtain ⟨cl23, Ar23, S23, M23, H23⟩ := id fL4
      have pre25 : ∀ t, own_s p e below T21 m 37 #[rv a, iv p1, iv sv, iv pv, iv (own_bi sp), iv ix, iv (g1 (S + i))] [] t → Steps p.tables e below S1 t := by
        intro tX kX
        refine pre24 _ ?_
        show own_s p e below T21 m 34 #[rv a, iv p1, iv sv, iv pv, iv (own_bi sp), iv ix, w6] [(.int ix), (.ref vl)] _
        refine X21.caload hx (j := ix) (v := (.int (g1 (S + i)))) (by rw [e21]; exact Ar23.1) (State.isArrayOf_alike hZ.alike Ar23.2.1) Ar23.2.2 (own_inb S23 M23 (own_idx (by omega) (by omega))) (own_get H23 S23 (own_idx (by omega) (by omega)) (by show Value.int (g1 ix.toNatClampNeg) = _; rw [own_nat hix])) (g := (mkF m 34 #[rv a, iv p1, iv sv, iv pv, iv (own_bi sp), iv ix, w6] [(.int ix), (.ref vl)])) rfl rfl (hb hby d32_34) _ ?_
        refine XS.istore X21.here hx rfl (hb hby d32_35) rfl (l' := #[rv a, iv p1, iv sv, iv pv, iv (own_bi sp), iv ix, iv (g1 (S + i))]) (XS.store1 rfl h6 rfl) ?_
        exact kX
      obtain ⟨xx, hxx⟩ : ∃ z : Int32, z = (g1 (S + i)) := ⟨_, rfl⟩
      rw [← hxx] at pre25
      have bxx : 0 ≤ xx.toInt ∧ xx.toInt < 256 := by rw [hxx]; exact Bg1 _
      have pre26 : ∀ t, own_s p e below T21 m 41 #[rv a, iv p1, iv sv, iv pv, iv (own_bi sp), iv ix, iv xx] [(.int (32 : Int32)), (.int xx)] t → Steps p.tables e below S1 t := by
        intro tX kX
        refine pre25 _ ?_
        show own_s p e below T21 m 37 #[rv a, iv p1, iv sv, iv pv, iv (own_bi sp), iv ix, iv xx] [] _
        refine XS.iload X21.here hx rfl (hb hby d32_37) rfl ?_
        refine XS.bipush X21.here hx rfl (hb hby d32_39) ?_
        exact kX
      by_cases hc27 : xx = (32 : Int32)
      · skip
        have ihc27 : (xx).toInt = (32 : Int) := congrArg Int32.toInt hc27
        have pre28 : ∀ t, own_s p e below T21 m 46 #[rv a, iv p1, iv sv, iv pv, iv (own_bi sp), iv ix, iv xx] [(.int (own_bi sp))] t → Steps p.tables e below S1 t := by
          intro tX kX
          refine pre26 _ ?_
          show own_s p e below T21 m 41 #[rv a, iv p1, iv sv, iv pv, iv (own_bi sp), iv ix, iv xx] [(.int (32 : Int32)), (.int xx)] _
          refine XS.icmpNo X21.here hx rfl (hb hby d32_41) rfl (teq hc27).2 ?_
          refine XS.iload X21.here hx rfl (hb hby d32_44) rfl ?_
          exact kX
        by_cases hc29 : (own_bi sp) = (0 : Int32)
        · skip
          have pre30 : ∀ t, own_s p e below T21 m 50 #[rv a, iv p1, iv sv, iv pv, iv (own_bi sp), iv ix, iv xx] [(.ref a)] t → Steps p.tables e below S1 t := by
            intro tX kX
            refine pre28 _ ?_
            show own_s p e below T21 m 46 #[rv a, iv p1, iv sv, iv pv, iv (own_bi sp), iv ix, iv xx] [(.int (own_bi sp))] _
            refine XS.ifNo X21.here hx rfl (hb hby d32_46) rfl ((if0 _ _).trans (teq hc29).2) ?_
            refine XS.aloadN X21.here hx rfl (hb hby d32_49) rfl rfl ?_
            exact kX
          obtain ⟨T31, X31, e31, st31⟩ := getF X21 hx hZ hown (host := "") (Or.inl (hw _ (List.mem_of_getElem? (i := 36) rfl))) Via.refl e21 fL2 (g := (mkF m 50 #[rv a, iv p1, iv sv, iv pv, iv (own_bi sp), iv ix, iv xx] [(.ref a)])) rfl rfl (hb hby d32_50)
          have pre32 : ∀ t, own_s p e below T31 m 53 #[rv a, iv p1, iv sv, iv pv, iv (own_bi sp), iv ix, iv xx] [(.ref vl)] t → Steps p.tables e below S1 t := fun tX kX => pre30 _ (st31 _ kX)
          have pre33 : ∀ t, own_s p e below T31 m 59 #[rv a, iv p1, iv sv, iv (pv + (1 : Int32)), iv (own_bi sp), iv ix, iv xx] [(.int xx), (.int pv), (.ref vl)] t → Steps p.tables e below S1 t := by
            intro tX kX
            refine pre32 _ ?_
            show own_s p e below T31 m 53 #[rv a, iv p1, iv sv, iv pv, iv (own_bi sp), iv ix, iv xx] [(.ref vl)] _
            refine XS.iloadN X31.here hx rfl (hb hby d32_53) rfl ?_
            refine XS.iinc X31.here hx rfl (hb hby d32_54) rfl (l' := #[rv a, iv p1, iv sv, iv (pv + (1 : Int32)), iv (own_bi sp), iv ix, iv xx]) rfl ?_
            refine XS.iload X31.here hx rfl (hb hby d32_57) rfl ?_
            exact kX
          obtain ⟨cl34, Ar34, S34, M34, H34⟩ := id fL4
          obtain ⟨T35, h35, X35, e35, W35, st35⟩ := stC X31 hx hZ e31 Ar34 (j := pv) (own_inb S34 M34 (own_idx (by omega) (by omega))) (g := (mkF m 59 #[rv a, iv p1, iv sv, iv (pv + (1 : Int32)), iv (own_bi sp), iv ix, iv xx] [(.int xx), (.int pv), (.ref vl)])) rfl rfl (hb hby d32_59)
          have pre36 : ∀ t, own_s p e below T35 m 60 #[rv a, iv p1, iv sv, iv (pv + (1 : Int32)), iv (own_bi sp), iv ix, iv xx] [] t → Steps p.tables e below S1 t := fun tX kX => pre33 _ (st35 _ kX)
          obtain ⟨LL37, X37, N37⟩ : ∃ LL, Stand p l e ({ frames := 0, cells := 0, slots := 0, locals := 0 } : Room) s m #[(.ref a), (.int p1)] below meth c T35 LL 0 0 ∧ Fr n0 LL := ⟨_, X35, Fr.snoc X35 hNL g_vl⟩
          have f38_E : Exa Z h35 a "com/example/weaverbird/weaverbird/model/xml/Attributes" := fL0.wr W35
          have f39_F : Fld Z h35 a "com/example/weaverbird/weaverbird/model/xml/Attributes" "lengths" "[I" (.ref ln) := fL1.other W35 (Or.inl ne_a_vl)
          have f40_F : Fld Z h35 a "com/example/weaverbird/weaverbird/model/xml/Attributes" "values" "[C" (.ref vl) := fL2.other W35 (Or.inl ne_a_vl)
          have f41_A : own_Af Z h35 ln .int 8 (fun j => .int (fl j)) := fL3.other W35 ne_ln_vl
          have Z42 : n0 ≤ h35.size := Nat.le_trans hzL (Keep.of_wr W35).1
          have K43 : Keep h0 h35 [ln, vl] := hKL.wr W35 (Or.inl (List.mem_of_getElem? (i := 1) rfl))
          have f44_A : own_Af Z h35 vl .char 256 (own_up (fun j => .int (g1 j)) pv.toNatClampNeg (.int (nar .char xx))) := own_Af.set Ar34 S34 M34 H34 W35
          have f45_A : own_Af Z h35 vl .char 256 (fun j => .int ((own_upi g1 (S + P) xx) j)) := own_upA f44_A (own_up_eq rfl (own_nat hpv) (own_narc bxx))
          have pre46 : ∀ t, own_s p e below T35 m 15 #[rv a, iv p1, iv sv, iv (pv + (1 : Int32)), iv (1 : Int32), iv (ix + (1 : Int32)), iv xx] [] t → Steps p.tables e below S1 t := by
            intro tX kX
            refine pre36 _ ?_
            show own_s p e below T35 m 60 #[rv a, iv p1, iv sv, iv (pv + (1 : Int32)), iv (own_bi sp), iv ix, iv xx] [] _
            refine XS.iload X37.here hx rfl (hb hby d32_60) rfl ?_
            refine XS.bipush X37.here hx rfl (hb hby d32_62) ?_
            refine XS.icmpNo X37.here hx rfl (hb hby d32_64) rfl (teq hc27).2 ?_
            show own_s p e below T35 m 67 #[rv a, iv p1, iv sv, iv (pv + (1 : Int32)), iv (own_bi sp), iv ix, iv xx] [] _
            refine XS.iconst X37.here hx rfl (hb hby d32_67) ?_
            refine XS.goto X37.here hx rfl (pc0 := 68) (pc' := 72) rfl (hb hby d32_68) (by decide) (by decide) ?_
            refine XS.istore X37.here hx rfl (hb hby d32_72) rfl (l' := #[rv a, iv p1, iv sv, iv (pv + (1 : Int32)), iv (1 : Int32), iv ix, iv xx]) rfl ?_
            show own_s p e below T35 m 74 #[rv a, iv p1, iv sv, iv (pv + (1 : Int32)), iv (1 : Int32), iv ix, iv xx] [] _
            refine XS.iinc X37.here hx rfl (hb hby d32_74) rfl (l' := #[rv a, iv p1, iv sv, iv (pv + (1 : Int32)), iv (1 : Int32), iv (ix + (1 : Int32)), iv xx]) rfl ?_
            refine XS.goto X37.here hx rfl (pc0 := 77) (pc' := 15) rfl (hb hby d32_77) (by decide) (by decide) ?_
            exact kX
          subst hS1
          obtain ⟨x0, x1, x2, x3, x4, x5, T', LL', h', y0, y1, y2, y3, z0, z1, z2, z3, z4, z5, z6, z7, z8, stL⟩ := ih (i + 1) (P + 1) true (own_upi g1 (S + P) xx) (pv + (1 : Int32)) (ix + (1 : Int32)) (iv xx) _ _ _ (by omega) (by omega) (own_addN (a := S + P) (b := 1) hpv rfl (by omega)) (own_addN (a := S + i) (b := 1) hix rfl (by omega)) (One.val rfl) (Bg1.up bxx _) X37 e35 N37 K43 f38_E f39_F f40_F f41_A f45_A
          exact ⟨x0, x1, x2, x3, x4, x5, T', LL', h', (y0.trans (show _ = own_loop S (k + 1) i P sp g1 from by rw [own_loop, if_neg (fun q => absurd (q.2.symm.trans (own_bi0 hc29)) (by decide))]; rw [show decide (g1 (S + i) = 32) = true from by rw [← hxx]; exact decide_eq_true hc27, ← hxx])), y1, y2, y3, z0, z1, z2, z3, z4, z5, z6, z7, z8, fun tX kX => pre46 _ (stL _ kX)⟩
        · skip
          have pre47 : ∀ t, own_s p e below T21 m 15 #[rv a, iv p1, iv sv, iv pv, iv (1 : Int32), iv (ix + (1 : Int32)), iv xx] [] t → Steps p.tables e below S1 t := by
            intro tX kX
            refine pre28 _ ?_
            show own_s p e below T21 m 46 #[rv a, iv p1, iv sv, iv pv, iv (own_bi sp), iv ix, iv xx] [(.int (own_bi sp))] _
            refine XS.ifYes X21.here hx rfl (pc0 := 46) (pc' := 60) rfl (hb hby d32_46) rfl ((if0 _ _).trans (feq hc29).2) (by decide) (by decide) ?_
            refine XS.iload X21.here hx rfl (hb hby d32_60) rfl ?_
            refine XS.bipush X21.here hx rfl (hb hby d32_62) ?_
            show own_s p e below T21 m 64 #[rv a, iv p1, iv sv, iv pv, iv (own_bi sp), iv ix, iv xx] [(.int (32 : Int32)), (.int xx)] _
            refine XS.icmpNo X21.here hx rfl (hb hby d32_64) rfl (teq hc27).2 ?_
            refine XS.iconst X21.here hx rfl (hb hby d32_67) ?_
            refine XS.goto X21.here hx rfl (pc0 := 68) (pc' := 72) rfl (hb hby d32_68) (by decide) (by decide) ?_
            show own_s p e below T21 m 72 #[rv a, iv p1, iv sv, iv pv, iv (own_bi sp), iv ix, iv xx] [(.int (1 : Int32))] _
            refine XS.istore X21.here hx rfl (hb hby d32_72) rfl (l' := #[rv a, iv p1, iv sv, iv pv, iv (1 : Int32), iv ix, iv xx]) rfl ?_
            refine XS.iinc X21.here hx rfl (hb hby d32_74) rfl (l' := #[rv a, iv p1, iv sv, iv pv, iv (1 : Int32), iv (ix + (1 : Int32)), iv xx]) rfl ?_
            refine XS.goto X21.here hx rfl (pc0 := 77) (pc' := 15) rfl (hb hby d32_77) (by decide) (by decide) ?_
            exact kX
          subst hS1
          obtain ⟨x0, x1, x2, x3, x4, x5, T', LL', h', y0, y1, y2, y3, z0, z1, z2, z3, z4, z5, z6, z7, z8, stL⟩ := ih (i + 1) P true g1 pv (ix + (1 : Int32)) (iv xx) _ _ _ (by omega) (by omega) hpv (own_addN (a := S + i) (b := 1) hix rfl (by omega)) (One.val rfl) Bg1 X21 e21 hNL hKL fL0 fL1 fL2 fL3 fL4
          exact ⟨x0, x1, x2, x3, x4, x5, T', LL', h', (y0.trans (show _ = own_loop S (k + 1) i P sp g1 from by rw [own_loop, if_pos ⟨hxx.symm.trans hc27, own_bi1 hc29⟩])), y1, y2, y3, z0, z1, z2, z3, z4, z5, z6, z7, z8, fun tX kX => pre47 _ (stL _ kX)⟩
      · skip
        have ihc27 : ¬ ((xx).toInt = (32 : Int)) := fun q => hc27 (Int32.toInt_inj.mp q)
        have pre48 : ∀ t, own_s p e below T21 m 50 #[rv a, iv p1, iv sv, iv pv, iv (own_bi sp), iv ix, iv xx] [(.ref a)] t → Steps p.tables e below S1 t := by
          intro tX kX
          refine pre26 _ ?_
          show own_s p e below T21 m 41 #[rv a, iv p1, iv sv, iv pv, iv (own_bi sp), iv ix, iv xx] [(.int (32 : Int32)), (.int xx)] _
          refine XS.icmpYes X21.here hx rfl (pc0 := 41) (pc' := 49) rfl (hb hby d32_41) rfl (feq hc27).2 (by decide) (by decide) ?_
          refine XS.aloadN X21.here hx rfl (hb hby d32_49) rfl rfl ?_
          exact kX
        obtain ⟨T49, X49, e49, st49⟩ := getF X21 hx hZ hown (host := "") (Or.inl (hw _ (List.mem_of_getElem? (i := 36) rfl))) Via.refl e21 fL2 (g := (mkF m 50 #[rv a, iv p1, iv sv, iv pv, iv (own_bi sp), iv ix, iv xx] [(.ref a)])) rfl rfl (hb hby d32_50)
        have pre50 : ∀ t, own_s p e below T49 m 53 #[rv a, iv p1, iv sv, iv pv, iv (own_bi sp), iv ix, iv xx] [(.ref vl)] t → Steps p.tables e below S1 t := fun tX kX => pre48 _ (st49 _ kX)
        have pre51 : ∀ t, own_s p e below T49 m 59 #[rv a, iv p1, iv sv, iv (pv + (1 : Int32)), iv (own_bi sp), iv ix, iv xx] [(.int xx), (.int pv), (.ref vl)] t → Steps p.tables e below S1 t := by
          intro tX kX
          refine pre50 _ ?_
          show own_s p e below T49 m 53 #[rv a, iv p1, iv sv, iv pv, iv (own_bi sp), iv ix, iv xx] [(.ref vl)] _
          refine XS.iloadN X49.here hx rfl (hb hby d32_53) rfl ?_
          refine XS.iinc X49.here hx rfl (hb hby d32_54) rfl (l' := #[rv a, iv p1, iv sv, iv (pv + (1 : Int32)), iv (own_bi sp), iv ix, iv xx]) rfl ?_
          refine XS.iload X49.here hx rfl (hb hby d32_57) rfl ?_
          exact kX
        obtain ⟨cl52, Ar52, S52, M52, H52⟩ := id fL4
        obtain ⟨T53, h53, X53, e53, W53, st53⟩ := stC X49 hx hZ e49 Ar52 (j := pv) (own_inb S52 M52 (own_idx (by omega) (by omega))) (g := (mkF m 59 #[rv a, iv p1, iv sv, iv (pv + (1 : Int32)), iv (own_bi sp), iv ix, iv xx] [(.int xx), (.int pv), (.ref vl)])) rfl rfl (hb hby d32_59)
        have pre54 : ∀ t, own_s p e below T53 m 60 #[rv a, iv p1, iv sv, iv (pv + (1 : Int32)), iv (own_bi sp), iv ix, iv xx] [] t → Steps p.tables e below S1 t := fun tX kX => pre51 _ (st53 _ kX)
        obtain ⟨LL55, X55, N55⟩ : ∃ LL, Stand p l e ({ frames := 0, cells := 0, slots := 0, locals := 0 } : Room) s m #[(.ref a), (.int p1)] below meth c T53 LL 0 0 ∧ Fr n0 LL := ⟨_, X53, Fr.snoc X53 hNL g_vl⟩
        have f56_E : Exa Z h53 a "com/example/weaverbird/weaverbird/model/xml/Attributes" := fL0.wr W53
        have f57_F : Fld Z h53 a "com/example/weaverbird/weaverbird/model/xml/Attributes" "lengths" "[I" (.ref ln) := fL1.other W53 (Or.inl ne_a_vl)
        have f58_F : Fld Z h53 a "com/example/weaverbird/weaverbird/model/xml/Attributes" "values" "[C" (.ref vl) := fL2.other W53 (Or.inl ne_a_vl)
        have f59_A : own_Af Z h53 ln .int 8 (fun j => .int (fl j)) := fL3.other W53 ne_ln_vl
        have Z60 : n0 ≤ h53.size := Nat.le_trans hzL (Keep.of_wr W53).1
        have K61 : Keep h0 h53 [ln, vl] := hKL.wr W53 (Or.inl (List.mem_of_getElem? (i := 1) rfl))
        have f62_A : own_Af Z h53 vl .char 256 (own_up (fun j => .int (g1 j)) pv.toNatClampNeg (.int (nar .char xx))) := own_Af.set Ar52 S52 M52 H52 W53
        have f63_A : own_Af Z h53 vl .char 256 (fun j => .int ((own_upi g1 (S + P) xx) j)) := own_upA f62_A (own_up_eq rfl (own_nat hpv) (own_narc bxx))
        have pre64 : ∀ t, own_s p e below T53 m 15 #[rv a, iv p1, iv sv, iv (pv + (1 : Int32)), iv (0 : Int32), iv (ix + (1 : Int32)), iv xx] [] t → Steps p.tables e below S1 t := by
          intro tX kX
          refine pre54 _ ?_
          show own_s p e below T53 m 60 #[rv a, iv p1, iv sv, iv (pv + (1 : Int32)), iv (own_bi sp), iv ix, iv xx] [] _
          refine XS.iload X55.here hx rfl (hb hby d32_60) rfl ?_
          refine XS.bipush X55.here hx rfl (hb hby d32_62) ?_
          refine XS.icmpYes X55.here hx rfl (pc0 := 64) (pc' := 71) rfl (hb hby d32_64) rfl (feq hc27).2 (by decide) (by decide) ?_
          show own_s p e below T53 m 71 #[rv a, iv p1, iv sv, iv (pv + (1 : Int32)), iv (own_bi sp), iv ix, iv xx] [] _
          refine XS.iconst X55.here hx rfl (hb hby d32_71) ?_
          refine XS.istore X55.here hx rfl (hb hby d32_72) rfl (l' := #[rv a, iv p1, iv sv, iv (pv + (1 : Int32)), iv (0 : Int32), iv ix, iv xx]) rfl ?_
          refine XS.iinc X55.here hx rfl (hb hby d32_74) rfl (l' := #[rv a, iv p1, iv sv, iv (pv + (1 : Int32)), iv (0 : Int32), iv (ix + (1 : Int32)), iv xx]) rfl ?_
          show own_s p e below T53 m 77 #[rv a, iv p1, iv sv, iv (pv + (1 : Int32)), iv (0 : Int32), iv (ix + (1 : Int32)), iv xx] [] _
          refine XS.goto X55.here hx rfl (pc0 := 77) (pc' := 15) rfl (hb hby d32_77) (by decide) (by decide) ?_
          exact kX
        subst hS1
        obtain ⟨x0, x1, x2, x3, x4, x5, T', LL', h', y0, y1, y2, y3, z0, z1, z2, z3, z4, z5, z6, z7, z8, stL⟩ := ih (i + 1) (P + 1) false (own_upi g1 (S + P) xx) (pv + (1 : Int32)) (ix + (1 : Int32)) (iv xx) _ _ _ (by omega) (by omega) (own_addN (a := S + P) (b := 1) hpv rfl (by omega)) (own_addN (a := S + i) (b := 1) hix rfl (by omega)) (One.val rfl) (Bg1.up bxx _) X55 e53 N55 K61 f56_E f57_F f58_F f59_A f63_A
        exact ⟨x0, x1, x2, x3, x4, x5, T', LL', h', (y0.trans (show _ = own_loop S (k + 1) i P sp g1 from by rw [own_loop, if_neg (fun q => hc27 (hxx.trans q.1))]; rw [show decide (g1 (S + i) = 32) = false from by rw [← hxx]; exact decide_eq_false hc27, ← hxx])), y1, y2, y3, z0, z1, z2, z3, z4, z5, z6, z7, z8, fun tX kX => pre64 _ (stL _ kX)⟩
  obtain ⟨P65, g65, pv65, sp65, ix65, w665, T65, LL65, h65, pl65_0, pl65_1, pl65_2, pl65_3, X65, e65, N65, K65, gl65_0, gl65_1, gl65_2, gl65_3, gl65_4, stL65⟩ := lp n 0 0 true g sv sv .unset _ _ _ (by omega) (Nat.le_refl 0) isv isv One.u Bg X2 e2 N0 K0 E_a F_ln F_vl A_ln A_vl
  have Z65 : n0 ≤ h65.size := Nat.le_trans Z0 K65.1
  have pre66 : ∀ t, own_s p e below T65 m 80 #[rv a, iv p1, iv sv, iv pv65, iv sp65, iv ix65, w665] [] t → Steps p.tables e below S0 t := fun tX kX => pre6 _ (stL65 _ kX)
  have pre67 : ∀ t, own_s p e below T65 m 82 #[rv a, iv p1, iv sv, iv pv65, iv sp65, iv ix65, w665] [(.int sv), (.int pv65)] t → Steps p.tables e below S0 t := by
    intro tX kX
    refine pre66 _ ?_
    show own_s p e below T65 m 80 #[rv a, iv p1, iv sv, iv pv65, iv sp65, iv ix65, w665] [] _
    refine XS.iloadN X65.here hx rfl (hb hby d32_80) rfl ?_
    refine XS.iloadN X65.here hx rfl (hb hby d32_81) rfl ?_
    exact kX
  by_cases hc68 : sv < pv65
  · skip
    have ihc68 : (sv).toInt < (pv65).toInt := Int32.lt_iff_toInt_lt.mp hc68
    have pre69 : ∀ t, own_s p e below T65 m 86 #[rv a, iv p1, iv sv, iv pv65, iv sp65, iv ix65, w665] [(.ref a)] t → Steps p.tables e below S0 t := by
      intro tX kX
      refine pre67 _ ?_
      show own_s p e below T65 m 82 #[rv a, iv p1, iv sv, iv pv65, iv sp65, iv ix65, w665] [(.int sv), (.int pv65)] _
      refine XS.icmpNo X65.here hx rfl (hb hby d32_82) rfl (tlt hc68).2.2.2 ?_
      refine XS.aloadN X65.here hx rfl (hb hby d32_85) rfl rfl ?_
      exact kX
    obtain ⟨T70, X70, e70, st70⟩ := getF X65 hx hZ hown (host := "") (Or.inl (hw _ (List.mem_of_getElem? (i := 36) rfl))) Via.refl e65 gl65_2 (g := (mkF m 86 #[rv a, iv p1, iv sv, iv pv65, iv sp65, iv ix65, w665] [(.ref a)])) rfl rfl (hb hby d32_86)
    have pre71 : ∀ t, own_s p e below T70 m 89 #[rv a, iv p1, iv sv, iv pv65, iv sp65, iv ix65, w665] [(.ref vl)] t → Steps p.tables e below S0 t := fun tX kX => pre69 _ (st70 _ kX)
    have pre72 : ∀ t, own_s p e below T70 m 92 #[rv a, iv p1, iv sv, iv pv65, iv sp65, iv ix65, w665] [(.int (pv65 - (1 : Int32))), (.ref vl)] t → Steps p.tables e below S0 t := by
      intro tX kX
      refine pre71 _ ?_
      show own_s p e below T70 m 89 #[rv a, iv p1, iv sv, iv pv65, iv sp65, iv ix65, w665] [(.ref vl)] _
      refine XS.iloadN X70.here hx rfl (hb hby d32_89) rfl ?_
      refine XS.iconst X70.here hx rfl (hb hby d32_90) ?_
      refine XS.isub X70.here hx rfl (hb hby d32_91) rfl ?_
      exact kX
    obtain ⟨q9, hq9⟩ : ∃ z : Int32, z = (pv65 - (1 : Int32)) := ⟨_, rfl⟩
    rw [← hq9] at pre72
    have iP : 0 < P65 := by have d4 := pl65_2; omega
    have iq9 : q9.toInt = ((S + (P65 - 1) : Nat) : Int) := by rw [hq9]; exact own_q9 pl65_2 iP
    obtain ⟨cl73, Ar73, S73, M73, H73⟩ := id gl65_4
    have pre74 : ∀ t, own_s p e below T70 m 95 #[rv a, iv p1, iv sv, iv pv65, iv sp65, iv ix65, w665] [(.int (32 : Int32)), (.int (g65 (S + (P65 - 1))))] t → Steps p.tables e below S0 t := by
      intro tX kX
      refine pre72 _ ?_
      show own_s p e below T70 m 92 #[rv a, iv p1, iv sv, iv pv65, iv sp65, iv ix65, w665] [(.int q9), (.ref vl)] _
      refine X70.caload hx (j := q9) (v := (.int (g65 (S + (P65 - 1))))) (by rw [e70]; exact Ar73.1) (State.isArrayOf_alike hZ.alike Ar73.2.1) Ar73.2.2 (own_inb S73 M73 (own_idx (by omega) (by omega))) (own_get H73 S73 (own_idx (by omega) (by omega)) (by show Value.int (g65 q9.toNatClampNeg) = _; rw [own_nat iq9])) (g := (mkF m 92 #[rv a, iv p1, iv sv, iv pv65, iv sp65, iv ix65, w665] [(.int q9), (.ref vl)])) rfl rfl (hb hby d32_92) _ ?_
      refine XS.bipush X70.here hx rfl (hb hby d32_93) ?_
      exact kX
    by_cases hc75 : (g65 (S + (P65 - 1))) = (32 : Int32)
    · skip
      have ihc75 : ((g65 (S + (P65 - 1)))).toInt = (32 : Int) := congrArg Int32.toInt hc75
      have pre76 : ∀ t, own_s p e below T70 m 102 #[rv a, iv p1, iv sv, iv (pv65 + (-1 : Int32)), iv sp65, iv ix65, w665] [(.ref a)] t → Steps p.tables e below S0 t := by
        intro tX kX
        refine pre74 _ ?_
        show own_s p e below T70 m 95 #[rv a, iv p1, iv sv, iv pv65, iv sp65, iv ix65, w665] [(.int (32 : Int32)), (.int (g65 (S + (P65 - 1))))] _
        refine XS.icmpNo X70.here hx rfl (hb hby d32_95) rfl (teq hc75).2 ?_
        refine XS.iinc X70.here hx rfl (hb hby d32_98) rfl (l' := #[rv a, iv p1, iv sv, iv (pv65 + (-1 : Int32)), iv sp65, iv ix65, w665]) rfl ?_
        refine XS.aloadN X70.here hx rfl (hb hby d32_101) rfl rfl ?_
        exact kX
      obtain ⟨T77, X77, e77, st77⟩ := getF X70 hx hZ hown (host := "") (Or.inl (hw _ (List.mem_of_getElem? (i := 25) rfl))) Via.refl e70 gl65_1 (g := (mkF m 102 #[rv a, iv p1, iv sv, iv (pv65 + (-1 : Int32)), iv sp65, iv ix65, w665] [(.ref a)])) rfl rfl (hb hby d32_102)
      have pre78 : ∀ t, own_s p e below T77 m 105 #[rv a, iv p1, iv sv, iv (pv65 + (-1 : Int32)), iv sp65, iv ix65, w665] [(.ref ln)] t → Steps p.tables e below S0 t := fun tX kX => pre76 _ (st77 _ kX)
      have pre79 : ∀ t, own_s p e below T77 m 109 #[rv a, iv p1, iv sv, iv (pv65 + (-1 : Int32)), iv sp65, iv ix65, w665] [(.int ((pv65 + (-1 : Int32)) - sv)), (.int p1), (.ref ln)] t → Steps p.tables e below S0 t := by
        intro tX kX
        refine pre78 _ ?_
        show own_s p e below T77 m 105 #[rv a, iv p1, iv sv, iv (pv65 + (-1 : Int32)), iv sp65, iv ix65, w665] [(.ref ln)] _
        refine XS.iloadN X77.here hx rfl (hb hby d32_105) rfl ?_
        refine XS.iloadN X77.here hx rfl (hb hby d32_106) rfl ?_
        refine XS.iloadN X77.here hx rfl (hb hby d32_107) rfl ?_
        show own_s p e below T77 m 108 #[rv a, iv p1, iv sv, iv (pv65 + (-1 : Int32)), iv sp65, iv ix65, w665] [(.int sv), (.int (pv65 + (-1 : Int32))), (.int p1), (.ref ln)] _
        refine XS.isub X77.here hx rfl (hb hby d32_108) rfl ?_
        exact kX
      obtain ⟨lz, hlz⟩ : ∃ z : Int32, z = ((pv65 + (-1 : Int32)) - sv) := ⟨_, rfl⟩
      rw [← hlz] at pre79
      have ilz : lz.toInt = ((own_end S (P65, g65) : Nat) : Int) := (hlz ▸ own_lzd pl65_2 isv iP : lz.toInt = _).trans (congrArg Int.ofNat (own_endY iP hc75).symm)
      obtain ⟨cl80, Ar80, S80, M80, H80⟩ := id gl65_3
      obtain ⟨T81, h81, X81, e81, W81, st81⟩ := stI X77 hx hZ e77 Ar80 (j := p1) (own_inb S80 M80 (own_idx (by omega) (by omega))) (g := (mkF m 109 #[rv a, iv p1, iv sv, iv (pv65 + (-1 : Int32)), iv sp65, iv ix65, w665] [(.int lz), (.int p1), (.ref ln)])) rfl rfl (hb hby d32_109)
      have pre82 : ∀ t, own_s p e below T81 m 110 #[rv a, iv p1, iv sv, iv (pv65 + (-1 : Int32)), iv sp65, iv ix65, w665] [] t → Steps p.tables e below S0 t := fun tX kX => pre79 _ (st81 _ kX)
      obtain ⟨LL83, X83, N83⟩ : ∃ LL, Stand p l e ({ frames := 0, cells := 0, slots := 0, locals := 0 } : Room) s m #[(.ref a), (.int p1)] below meth c T81 LL 0 0 ∧ Fr n0 LL := ⟨_, X81, Fr.snoc X81 N65 g_ln⟩
      have f84_E : Exa Z h81 a "com/example/weaverbird/weaverbird/model/xml/Attributes" := gl65_0.wr W81
      have f85_F : Fld Z h81 a "com/example/weaverbird/weaverbird/model/xml/Attributes" "lengths" "[I" (.ref ln) := gl65_1.other W81 (Or.inl ne_a_ln)
      have f86_F : Fld Z h81 a "com/example/weaverbird/weaverbird/model/xml/Attributes" "values" "[C" (.ref vl) := gl65_2.other W81 (Or.inl ne_a_ln)
      have f87_A : own_Af Z h81 vl .char 256 (fun j => .int (g65 j)) := gl65_4.other W81 (Ne.symm ne_ln_vl)
      have Z88 : n0 ≤ h81.size := Nat.le_trans Z65 (Keep.of_wr W81).1
      have K89 : Keep h0 h81 [ln, vl] := K65.wr W81 (Or.inl (List.mem_of_getElem? (i := 0) rfl))
      have f90_A : own_Af Z h81 ln .int 8 (own_up (fun j => .int (fl j)) p1.toNatClampNeg (.int lz)) := own_Af.set Ar80 S80 M80 H80 W81
      have f91_A : own_Af Z h81 ln .int 8 (fun j => .int ((own_upi fl K lz) j)) := own_upA f90_A (own_up_eq rfl (own_nat hp) rfl)
      subst hS0
      obtain ⟨fsX, hr, hrun, hended, hW, hsame⟩ := X83.leave (v := none) (fun _ => rfl)
      refine ⟨_, _, pre82 _ (X83.returnOut hx Bd.returns (hb hby d32_110) hr), hrun, hended, _, _, rfl, ?_, ⟨_, rfl⟩, hW, hsame.mono (by decide) (by decide)⟩
      show Q32 Z a p1 nm sr ln ns dc sg vl ct vn fs fl fg g S n K h0 n0 none T81.heap _
      rw [e81]
      unfold Q32
      rw [← pl65_0]
      exact ⟨_, rfl, N83, (by rw [own_upi_s]; exact ilz), fun j hj => own_upi_o hj, pl65_3, K89, own_At.kp hAt hO K89 f91_A f87_A⟩
    · skip
      have ihc75 : ¬ (((g65 (S + (P65 - 1)))).toInt = (32 : Int)) := fun q => hc75 (Int32.toInt_inj.mp q)
      have pre92 : ∀ t, own_s p e below T70 m 102 #[rv a, iv p1, iv sv, iv pv65, iv sp65, iv ix65, w665] [(.ref a)] t → Steps p.tables e below S0 t := by
        intro tX kX
        refine pre74 _ ?_
        show own_s p e below T70 m 95 #[rv a, iv p1, iv sv, iv pv65, iv sp65, iv ix65, w665] [(.int (32 : Int32)), (.int (g65 (S + (P65 - 1))))] _
        refine XS.icmpYes X70.here hx rfl (pc0 := 95) (pc' := 101) rfl (hb hby d32_95) rfl (feq hc75).2 (by decide) (by decide) ?_
        refine XS.aloadN X70.here hx rfl (hb hby d32_101) rfl rfl ?_
        exact kX
      obtain ⟨T93, X93, e93, st93⟩ := getF X70 hx hZ hown (host := "") (Or.inl (hw _ (List.mem_of_getElem? (i := 25) rfl))) Via.refl e70 gl65_1 (g := (mkF m 102 #[rv a, iv p1, iv sv, iv pv65, iv sp65, iv ix65, w665] [(.ref a)])) rfl rfl (hb hby d32_102)
      have pre94 : ∀ t, own_s p e below T93 m 105 #[rv a, iv p1, iv sv, iv pv65, iv sp65, iv ix65, w665] [(.ref ln)] t → Steps p.tables e below S0 t := fun tX kX => pre92 _ (st93 _ kX)
      have pre95 : ∀ t, own_s p e below T93 m 109 #[rv a, iv p1, iv sv, iv pv65, iv sp65, iv ix65, w665] [(.int (pv65 - sv)), (.int p1), (.ref ln)] t → Steps p.tables e below S0 t := by
        intro tX kX
        refine pre94 _ ?_
        show own_s p e below T93 m 105 #[rv a, iv p1, iv sv, iv pv65, iv sp65, iv ix65, w665] [(.ref ln)] _
        refine XS.iloadN X93.here hx rfl (hb hby d32_105) rfl ?_
        refine XS.iloadN X93.here hx rfl (hb hby d32_106) rfl ?_
        refine XS.iloadN X93.here hx rfl (hb hby d32_107) rfl ?_
        show own_s p e below T93 m 108 #[rv a, iv p1, iv sv, iv pv65, iv sp65, iv ix65, w665] [(.int sv), (.int pv65), (.int p1), (.ref ln)] _
        refine XS.isub X93.here hx rfl (hb hby d32_108) rfl ?_
        exact kX
      obtain ⟨lz, hlz⟩ : ∃ z : Int32, z = (pv65 - sv) := ⟨_, rfl⟩
      rw [← hlz] at pre95
      have ilz : lz.toInt = ((own_end S (P65, g65) : Nat) : Int) := (hlz ▸ own_lz pl65_2 isv : lz.toInt = _).trans (congrArg Int.ofNat (own_endN hc75).symm)
      obtain ⟨cl96, Ar96, S96, M96, H96⟩ := id gl65_3
      obtain ⟨T97, h97, X97, e97, W97, st97⟩ := stI X93 hx hZ e93 Ar96 (j := p1) (own_inb S96 M96 (own_idx (by omega) (by omega))) (g := (mkF m 109 #[rv a, iv p1, iv sv, iv pv65, iv sp65, iv ix65, w665] [(.int lz), (.int p1), (.ref ln)])) rfl rfl (hb hby d32_109)
      have pre98 : ∀ t, own_s p e below T97 m 110 #[rv a, iv p1, iv sv, iv pv65, iv sp65, iv ix65, w665] [] t → Steps p.tables e below S0 t := fun tX kX => pre95 _ (st97 _ kX)
      obtain ⟨LL99, X99, N99⟩ : ∃ LL, Stand p l e ({ frames := 0, cells := 0, slots := 0, locals := 0 } : Room) s m #[(.ref a), (.int p1)] below meth c T97 LL 0 0 ∧ Fr n0 LL := ⟨_, X97, Fr.snoc X97 N65 g_ln⟩
      have f100_E : Exa Z h97 a "com/example/weaverbird/weaverbird/model/xml/Attributes" := gl65_0.wr W97
      have f101_F : Fld Z h97 a "com/example/weaverbird/weaverbird/model/xml/Attributes" "lengths" "[I" (.ref ln) := gl65_1.other W97 (Or.inl ne_a_ln)
      have f102_F : Fld Z h97 a "com/example/weaverbird/weaverbird/model/xml/Attributes" "values" "[C" (.ref vl) := gl65_2.other W97 (Or.inl ne_a_ln)
      have f103_A : own_Af Z h97 vl .char 256 (fun j => .int (g65 j)) := gl65_4.other W97 (Ne.symm ne_ln_vl)
      have Z104 : n0 ≤ h97.size := Nat.le_trans Z65 (Keep.of_wr W97).1
      have K105 : Keep h0 h97 [ln, vl] := K65.wr W97 (Or.inl (List.mem_of_getElem? (i := 0) rfl))
      have f106_A : own_Af Z h97 ln .int 8 (own_up (fun j => .int (fl j)) p1.toNatClampNeg (.int lz)) := own_Af.set Ar96 S96 M96 H96 W97
      have f107_A : own_Af Z h97 ln .int 8 (fun j => .int ((own_upi fl K lz) j)) := own_upA f106_A (own_up_eq rfl (own_nat hp) rfl)
      subst hS0
      obtain ⟨fsX, hr, hrun, hended, hW, hsame⟩ := X99.leave (v := none) (fun _ => rfl)
      refine ⟨_, _, pre98 _ (X99.returnOut hx Bd.returns (hb hby d32_110) hr), hrun, hended, _, _, rfl, ?_, ⟨_, rfl⟩, hW, hsame.mono (by decide) (by decide)⟩
      show Q32 Z a p1 nm sr ln ns dc sg vl ct vn fs fl fg g S n K h0 n0 none T97.heap _
      rw [e97]
      unfold Q32
      rw [← pl65_0]
      exact ⟨_, rfl, N99, (by rw [own_upi_s]; exact ilz), fun j hj => own_upi_o hj, pl65_3, K105, own_At.kp hAt hO K105 f107_A f103_A⟩
  · skip
    have ihc68 : ¬ ((sv).toInt < (pv65).toInt) := fun q => hc68 (Int32.lt_iff_toInt_lt.mpr q)
    have pre108 : ∀ t, own_s p e below T65 m 102 #[rv a, iv p1, iv sv, iv pv65, iv sp65, iv ix65, w665] [(.ref a)] t → Steps p.tables e below S0 t := by
      intro tX kX
      refine pre67 _ ?_
      show own_s p e below T65 m 82 #[rv a, iv p1, iv sv, iv pv65, iv sp65, iv ix65, w665] [(.int sv), (.int pv65)] _
      refine XS.icmpYes X65.here hx rfl (pc0 := 82) (pc' := 101) rfl (hb hby d32_82) rfl (flt hc68).2.2.2 (by decide) (by decide) ?_
      refine XS.aloadN X65.here hx rfl (hb hby d32_101) rfl rfl ?_
      exact kX
    obtain ⟨T109, X109, e109, st109⟩ := getF X65 hx hZ hown (host := "") (Or.inl (hw _ (List.mem_of_getElem? (i := 25) rfl))) Via.refl e65 gl65_1 (g := (mkF m 102 #[rv a, iv p1, iv sv, iv pv65, iv sp65, iv ix65, w665] [(.ref a)])) rfl rfl (hb hby d32_102)
    have pre110 : ∀ t, own_s p e below T109 m 105 #[rv a, iv p1, iv sv, iv pv65, iv sp65, iv ix65, w665] [(.ref ln)] t → Steps p.tables e below S0 t := fun tX kX => pre108 _ (st109 _ kX)
    have pre111 : ∀ t, own_s p e below T109 m 109 #[rv a, iv p1, iv sv, iv pv65, iv sp65, iv ix65, w665] [(.int (pv65 - sv)), (.int p1), (.ref ln)] t → Steps p.tables e below S0 t := by
      intro tX kX
      refine pre110 _ ?_
      show own_s p e below T109 m 105 #[rv a, iv p1, iv sv, iv pv65, iv sp65, iv ix65, w665] [(.ref ln)] _
      refine XS.iloadN X109.here hx rfl (hb hby d32_105) rfl ?_
      refine XS.iloadN X109.here hx rfl (hb hby d32_106) rfl ?_
      refine XS.iloadN X109.here hx rfl (hb hby d32_107) rfl ?_
      show own_s p e below T109 m 108 #[rv a, iv p1, iv sv, iv pv65, iv sp65, iv ix65, w665] [(.int sv), (.int pv65), (.int p1), (.ref ln)] _
      refine XS.isub X109.here hx rfl (hb hby d32_108) rfl ?_
      exact kX
    obtain ⟨lz, hlz⟩ : ∃ z : Int32, z = (pv65 - sv) := ⟨_, rfl⟩
    rw [← hlz] at pre111
    have ilz : lz.toInt = ((own_end S (P65, g65) : Nat) : Int) := (hlz ▸ own_lz pl65_2 isv : lz.toInt = _).trans (congrArg Int.ofNat (own_endZ (by have d4 := pl65_2; omega)).symm)
    obtain ⟨cl112, Ar112, S112, M112, H112⟩ := id gl65_3
    obtain ⟨T113, h113, X113, e113, W113, st113⟩ := stI X109 hx hZ e109 Ar112 (j := p1) (own_inb S112 M112 (own_idx (by omega) (by omega))) (g := (mkF m 109 #[rv a, iv p1, iv sv, iv pv65, iv sp65, iv ix65, w665] [(.int lz), (.int p1), (.ref ln)])) rfl rfl (hb hby d32_109)
    have pre114 : ∀ t, own_s p e below T113 m 110 #[rv a, iv p1, iv sv, iv pv65, iv sp65, iv ix65, w665] [] t → Steps p.tables e below S0 t := fun tX kX => pre111 _ (st113 _ kX)
    obtain ⟨LL115, X115, N115⟩ : ∃ LL, Stand p l e ({ frames := 0, cells := 0, slots := 0, locals := 0 } : Room) s m #[(.ref a), (.int p1)] below meth c T113 LL 0 0 ∧ Fr n0 LL := ⟨_, X113, Fr.snoc X113 N65 g_ln⟩
    have f116_E : Exa Z h113 a "com/example/weaverbird/weaverbird/model/xml/Attributes" := gl65_0.wr W113
    have f117_F : Fld Z h113 a "com/example/weaverbird/weaverbird/model/xml/Attributes" "lengths" "[I" (.ref ln) := gl65_1.other W113 (Or.inl ne_a_ln)
    have f118_F : Fld Z h113 a "com/example/weaverbird/weaverbird/model/xml/Attributes" "values" "[C" (.ref vl) := gl65_2.other W113 (Or.inl ne_a_ln)
    have f119_A : own_Af Z h113 vl .char 256 (fun j => .int (g65 j)) := gl65_4.other W113 (Ne.symm ne_ln_vl)
    have Z120 : n0 ≤ h113.size := Nat.le_trans Z65 (Keep.of_wr W113).1
    have K121 : Keep h0 h113 [ln, vl] := K65.wr W113 (Or.inl (List.mem_of_getElem? (i := 0) rfl))
    have f122_A : own_Af Z h113 ln .int 8 (own_up (fun j => .int (fl j)) p1.toNatClampNeg (.int lz)) := own_Af.set Ar112 S112 M112 H112 W113
    have f123_A : own_Af Z h113 ln .int 8 (fun j => .int ((own_upi fl K lz) j)) := own_upA f122_A (own_up_eq rfl (own_nat hp) rfl)
    subst hS0
    obtain ⟨fsX, hr, hrun, hended, hW, hsame⟩ := X115.leave (v := none) (fun _ => rfl)
    refine ⟨_, _, pre114 _ (X115.returnOut hx Bd.returns (hb hby d32_110) hr), hrun, hended, _, _, rfl, ?_, ⟨_, rfl⟩, hW, hsame.mono (by decide) (by decide)⟩
    show Q32 Z a p1 nm sr ln ns dc sg vl ct vn fs fl fg g S n K h0 n0 none T113.heap _
    rw [e113]
    unfold Q32
    rw [← pl65_0]
    exact ⟨_, rfl, N115, (by rw [own_upi_s]; exact ilz), fun j hj => own_upi_o hj, pl65_3, K121, own_At.kp hAt hO K121 f123_A f119_A⟩
theorem d33_0 : decode jdk_52_method_21_code 0 = .ok (.iconst 0, 1) := by decide +kernel
theorem d33_1 : decode jdk_52_method_21_code 1 = .ok (.istore 5, 2) := by decide +kernel
theorem d33_3 : decode jdk_52_method_21_code 3 = .ok (.iload 5, 2) := by decide +kernel
theorem d33_5 : decode jdk_52_method_21_code 5 = .ok (.iload 4, 2) := by decide +kernel
theorem d33_7 : decode jdk_52_method_21_code 7 = .ok (.if_icmp .ge 37, 3) := by decide +kernel
theorem d33_10 : decode jdk_52_method_21_code 10 = .ok (.aload_n 0, 1) := by decide +kernel
theorem d33_11 : decode jdk_52_method_21_code 11 = .ok (.iload_n 1, 1) := by decide +kernel
theorem d33_12 : decode jdk_52_method_21_code 12 = .ok (.caload, 1) := by decide +kernel
theorem d33_13 : decode jdk_52_method_21_code 13 = .ok (.istore 6, 2) := by decide +kernel
theorem d33_15 : decode jdk_52_method_21_code 15 = .ok (.iload 6, 2) := by decide +kernel
theorem d33_17 : decode jdk_52_method_21_code 17 = .ok (.sipush 255, 3) := by decide +kernel
theorem d33_20 : decode jdk_52_method_21_code 20 = .ok (.if_icmp .le 6, 3) := by decide +kernel
theorem d33_26 : decode jdk_52_method_21_code 26 = .ok (.aload_n 2, 1) := by decide +kernel
theorem d33_27 : decode jdk_52_method_21_code 27 = .ok (.iload_n 3, 1) := by decide +kernel
theorem d33_28 : decode jdk_52_method_21_code 28 = .ok (.iload 6, 2) := by decide +kernel
theorem d33_30 : decode jdk_52_method_21_code 30 = .ok (.i2b, 1) := by decide +kernel
theorem d33_31 : decode jdk_52_method_21_code 31 = .ok (.bastore, 1) := by decide +kernel
theorem d33_32 : decode jdk_52_method_21_code 32 = .ok (.iinc 1 1, 3) := by decide +kernel
theorem d33_35 : decode jdk_52_method_21_code 35 = .ok (.iinc 3 1, 3) := by decide +kernel
theorem d33_38 : decode jdk_52_method_21_code 38 = .ok (.iinc 5 1, 3) := by decide +kernel
theorem d33_41 : decode jdk_52_method_21_code 41 = .ok (.goto (-38), 3) := by decide +kernel
theorem d33_44 : decode jdk_52_method_21_code 44 = .ok (.iload 4, 2) := by decide +kernel
theorem d33_46 : decode jdk_52_method_21_code 46 = .ok (.ireturn, 1) := by decide +kernel
theorem pn_33 : plainName "java/lang/StringUTF16" = true := by first | (simp [plainName, overriddenIn]; done) | decide +kernel
theorem ef_33 (m : MethodId) (cc : Addr) (p1 : Int32) (d : Addr) (p4 : Int32) : entryFrame m #[(.ref cc), (.int p1), (.ref d), (.int (0 : Int32)), (.int p4)] 7 = mkF m 0 #[rv cc, iv p1, rv d, iv (0 : Int32), iv p4, .unset, .unset] [] := by first | (simp [entryFrame, mkF, argsToLocals, Value.category]; done) | rfl
def Q33 (Z : State) (cc : Addr) (p1 : Int32) (d : Addr) (p4 : Int32) (g : Nat → Int32) (G : Nat → Int32) (S : Nat) (n : Nat) (h0 : Heap) (n0 : Nat) (v : Option Value) (h : Heap) (L : List Loc) : Prop := ∃ G' : Nat → Int32, v = some (.int p4) ∧ Fr n0 L ∧ Keep h0 h [d] ∧ own_Af Z h d .byte n (fun j => .int (G' j)) ∧ ∀ j, j < n → (G' j).toInt % 256 = (g (S + j)).toInt
set_option maxRecDepth 65536 in
set_option maxHeartbeats 40000000 in
theorem rm33 (l : Launch) (Z : State) (a0 : Array Value) (hw : ∀ d ∈ tables_1, d.before a0 Z = true) (ws : List Jvm.Cond) (cc : Addr) (p1 : Int32) (d : Addr) (p4 : Int32) (g : Nat → Int32) (G : Nat → Int32) (S : Nat) (n : Nat) (h0 : Heap) (n0 : Nat) (Z0 : n0 ≤ h0.size) (A_c : own_Af Z h0 cc .char 256 (fun j => .int (g j))) (Bg : own_B g) (A_d : own_Af Z h0 d .byte n (fun j => .int (G j))) (hS_ : p1.toInt = ((S : Nat) : Int)) (hn : p4.toInt = ((n : Nat) : Int)) (hn5 : n ≤ 5) (hSn : S + n ≤ 256) (ne_dc : d ≠ cc) (g_d : n0 ≤ d) :
    MetFree l (⟨"java/lang/StringUTF16", "compress", "([CI[BII)I"⟩ : MethodName) (head1 (Jvm.Cond.code (⟨"java/lang/StringUTF16", "compress", "([CI[BII)I"⟩ : MethodName) jdk_52_method_21_code 7 (some .int) :: ws) ({ frames := 0, cells := 0, slots := 0, locals := 0 } : Room)) (fun aX UX => aX = #[(.ref cc), (.int p1), (.ref d), (.int (0 : Int32)), (.int p4)] ∧ Z.Warmed39 UX.vm ∧ UX.heap = h0) (fun _ _ _ _ _ => True) (fun _ UX oX UY => ∃ vX LX, oX = .returned vX ∧ Q33 Z cc p1 d p4 g G S n h0 n0 vX UY.heap LX ∧ FrameEnd UX oX UY LX ({ frames := 0, cells := 0, slots := 0, locals := 0 } : Room).cells ({ frames := 0, cells := 0, slots := 0, locals := 0 } : Room).slots) := by
  refine MetFree.of_bodySF (plainFor_of_name pn_33) hisR ?_
  intro p e s m args below meth c s₁ Bd hml0 hPX hKX
  obtain ⟨rfl, hZ, hh⟩ := hPX
  have hx := Bd.exec
  have hby := Bd.bytes
  have hml : c.maxLocals = 7 := hml0
  have hown : s.vm.findClass "java/lang/StringUTF16" = some m.cls := findClass_of_methodNamed Bd.named
  have hnm := (name_of_methodNamed Bd.named Bd.method).1
  have X0 : Stand p l e ({ frames := 0, cells := 0, slots := 0, locals := 0 } : Room) s m #[(.ref cc), (.int p1), (.ref d), (.int (0 : Int32)), (.int p4)] below meth c s₁ [] 0 0 := Stand.of_body Bd
  have e0 : s₁.heap = h0 := by rw [← hh, Bd.state]; rfl
  have N0 := Fr.nil n0
  have pre0 : ∀ t, Steps p.tables e below (s₁.setTop (mkF m 0 #[rv cc, iv p1, rv d, iv (0 : Int32), iv p4, .unset, .unset] [])) t → Steps p.tables e below (s₁.setTop (entryFrame m #[(.ref cc), (.int p1), (.ref d), (.int (0 : Int32)), (.int p4)] 7)) t := fun t k => castTop (ef_33 m cc p1 d p4) k
  obtain ⟨S0, hS0⟩ : ∃ z, z = (s₁.setTop (entryFrame m #[(.ref cc), (.int p1), (.ref d), (.int (0 : Int32)), (.int p4)] 7)) := ⟨_, rfl⟩
  rw [← hS0] at pre0
  have K0 : Keep h0 h0 [d] := Keep.refl h0 _
  have pre1 : ∀ t, own_s p e below s₁ m 3 #[rv cc, iv p1, rv d, iv (0 : Int32), iv p4, iv (0 : Int32), .unset] [] t → Steps p.tables e below S0 t := by
    intro tX kX
    refine pre0 _ ?_
    show own_s p e below s₁ m 0 #[rv cc, iv p1, rv d, iv (0 : Int32), iv p4, .unset, .unset] [] _
    refine XS.iconst X0.here hx rfl (hb hby d33_0) ?_
    refine XS.istore X0.here hx rfl (hb hby d33_1) rfl (l' := #[rv cc, iv p1, rv d, iv (0 : Int32), iv p4, iv (0 : Int32), .unset]) rfl ?_
    exact kX
  have lp : ∀ (k : Nat) (i : Nat) (G1 : Nat → Int32) (sv : Int32) (dv : Int32) (ix : Int32) (w6 : Slot) (T : State) (LL : List Loc) (h : Heap), (i + k = n) → (sv.toInt = ((S + i : Nat) : Int)) → (dv.toInt = ((i : Nat) : Int)) → (ix.toInt = ((i : Nat) : Int)) → (One w6) → (∀ j, j < i → (G1 j).toInt % 256 = (g (S + j)).toInt) → Stand p l e ({ frames := 0, cells := 0, slots := 0, locals := 0 } : Room) s m #[(.ref cc), (.int p1), (.ref d), (.int (0 : Int32)), (.int p4)] below meth c T LL 0 0 → T.heap = h → Fr n0 LL → Keep h0 h [d] → own_Af Z h cc .char 256 (fun j => .int (g j)) → own_Af Z h d .byte n (fun j => .int (G1 j)) → ∃ (G' : Nat → Int32) (sv' : Int32) (dv' : Int32) (ix' : Int32) (w6' : Slot) (T' : State) (LL' : List Loc) (h' : Heap), (∀ j, j < n → (G' j).toInt % 256 = (g (S + j)).toInt) ∧ Stand p l e ({ frames := 0, cells := 0, slots := 0, locals := 0 } : Room) s m #[(.ref cc), (.int p1), (.ref d), (.int (0 : Int32)), (.int p4)] below meth c T' LL' 0 0 ∧ T'.heap = h' ∧ Fr n0 LL' ∧ Keep h0 h' [d] ∧ own_Af Z h' cc .char 256 (fun j => .int (g j)) ∧ own_Af Z h' d .byte n (fun j => .int (G' j)) ∧ ∀ tX, own_s p e below T' m 44 #[rv cc, iv (sv'), rv d, iv (dv'), iv p4, iv (ix'), w6'] [] tX → own_s p e below T m 3 #[rv cc, iv sv, rv d, iv dv, iv p4, iv ix, w6] [] tX := by
    intro k
    induction k with
    | zero =>
      intro i G1 sv dv ix w6 T LL h hik hsv hdv hix h6 hrel hXL hTL hNL hKL fL0 fL1
      have hzL : n0 ≤ h.size := Nat.le_trans Z0 hKL.1
      obtain ⟨S1, hS1⟩ : ∃ z, z = T.setTop (mkF m 3 #[rv cc, iv sv, rv d, iv dv, iv p4, iv ix, w6] []) := ⟨_, rfl⟩
      have preL : ∀ t, own_s p e below T m 3 #[rv cc, iv sv, rv d, iv dv, iv p4, iv ix, w6] [] t → Steps p.tables e below S1 t := fun tX kX => by rw [hS1]; exact kX
      have pre2 : ∀ t, own_s p e below T m 44 #[rv cc, iv sv, rv d, iv dv, iv p4, iv ix, w6] [] t → Steps p.tables e below S1 t := by
        intro tX kX
        refine preL _ ?_
        show own_s p e below T m 3 #[rv cc, iv sv, rv d, iv dv, iv p4, iv ix, w6] [] _
        refine XS.iload hXL.here hx rfl (hb hby d33_3) rfl ?_
        refine XS.iload hXL.here hx rfl (hb hby d33_5) rfl ?_
        refine XS.icmpYes hXL.here hx rfl (pc0 := 7) (pc' := 44) rfl (hb hby d33_7) rfl (flt (show ¬ (ix < p4) from fun q => absurd (show (ix).toInt < (p4).toInt from Int32.lt_iff_toInt_lt.mp q) (by omega))).2.1 (by decide) (by decide) ?_
        exact kX
      subst hS1
      exact ⟨G1, sv, dv, ix, w6, _, _, _, (fun j hj => hrel j (by omega)), hXL, hTL, hNL, hKL, fL0, fL1, pre2⟩
    | succ k ih =>
      intro i G1 sv dv ix w6 T LL h hik hsv hdv hix h6 hrel hXL hTL hNL hKL fL0 fL1
      have hzL : n0 ≤ h.size := Nat.le_trans Z0 hKL.1
      obtain ⟨S1, hS1⟩ : ∃ z, z = T.setTop (mkF m 3 #[rv cc, iv sv, rv d, iv dv, iv p4, iv ix, w6] []) := ⟨_, rfl⟩
      have preL : ∀ t, own_s p e below T m 3 #[rv cc, iv sv, rv d, iv dv, iv p4, iv ix, w6] [] t → Steps p.tables e below S1 t := fun tX kX => by rw [hS1]; exact kX
      have pre4 : ∀ t, own_s p e below T m 12 #[rv cc, iv sv, rv d, iv dv, iv p4, iv ix, w6] [(.int sv), (.ref cc)] t → Steps p.tables e below S1 t := by
        intro tX kX
        refine preL _ ?_
        show own_s p e below T m 3 #[rv cc, iv sv, rv d, iv dv, iv p4, iv ix, w6] [] _
        refine XS.iload hXL.here hx rfl (hb hby d33_3) rfl ?_
        refine XS.iload hXL.here hx rfl (hb hby d33_5) rfl ?_
        refine XS.icmpNo hXL.here hx rfl (hb hby d33_7) rfl (tlt (show ix < p4 from Int32.lt_iff_toInt_lt.mpr (by omega : (ix).toInt < (p4).toInt))).2.1 ?_
        show own_s p e below T m 10 #[rv cc, iv sv, rv d, iv dv, iv p4, iv ix, w6] [] _
        refine XS.aloadN hXL.here hx rfl (hb hby d33_10) rfl rfl ?_
        refine XS.iloadN hXL.here hx rfl (hb hby d33_11) rfl ?_
        exact kX
      obtain ⟨cl3, Ar3, S3, M3, H3⟩ := id fL0
      have pre5 : ∀ t, own_s p e below T m 15 #[rv cc, iv sv, rv d, iv dv, iv p4, iv ix, iv (g (S + i))] [] t → Steps p.tables e below S1 t := by
        intro tX kX
        refine pre4 _ ?_
        show own_s p e below T m 12 #[rv cc, iv sv, rv d, iv dv, iv p4, iv ix, w6] [(.int sv), (.ref cc)] _
        refine hXL.caload hx (j := sv) (v := (.int (g (S + i)))) (by rw [hTL]; exact Ar3.1) (State.isArrayOf_alike hZ.alike Ar3.2.1) Ar3.2.2 (own_inb S3 M3 (own_idx (by omega) (by omega))) (own_get H3 S3 (own_idx (by omega) (by omega)) (by show Value.int (g sv.toNatClampNeg) = _; rw [own_nat hsv])) (g := (mkF m 12 #[rv cc, iv sv, rv d, iv dv, iv p4, iv ix, w6] [(.int sv), (.ref cc)])) rfl rfl (hb hby d33_12) _ ?_
        refine XS.istore hXL.here hx rfl (hb hby d33_13) rfl (l' := #[rv cc, iv sv, rv d, iv dv, iv p4, iv ix, iv (g (S + i))]) (XS.store1 rfl h6 rfl) ?_
        exact kX
      obtain ⟨xx, hxx⟩ : ∃ z : Int32, z = (g (S + i)) := ⟨_, rfl⟩
      rw [← hxx] at pre5
      have bxx : 0 ≤ xx.toInt ∧ xx.toInt < 256 := by rw [hxx]; exact Bg _
      have pre6 : ∀ t, own_s p e below T m 31 #[rv cc, iv sv, rv d, iv dv, iv p4, iv ix, iv xx] [(.int (xx.toInt8.toInt32)), (.int dv), (.ref d)] t → Steps p.tables e below S1 t := by
        intro tX kX
        refine pre5 _ ?_
        show own_s p e below T m 15 #[rv cc, iv sv, rv d, iv dv, iv p4, iv ix, iv xx] [] _
        refine XS.iload hXL.here hx rfl (hb hby d33_15) rfl ?_
        refine XS.sipush hXL.here hx rfl (hb hby d33_17) ?_
        refine XS.icmpYes hXL.here hx rfl (pc0 := 20) (pc' := 26) rfl (hb hby d33_20) rfl (flt (show ¬ ((255 : Int32) < xx) from fun q => absurd (show (255 : Int) < (xx).toInt from Int32.lt_iff_toInt_lt.mp q) (by omega))).2.2.2 (by decide) (by decide) ?_
        show own_s p e below T m 26 #[rv cc, iv sv, rv d, iv dv, iv p4, iv ix, iv xx] [] _
        refine XS.aloadN hXL.here hx rfl (hb hby d33_26) rfl rfl ?_
        refine XS.iloadN hXL.here hx rfl (hb hby d33_27) rfl ?_
        refine XS.iload hXL.here hx rfl (hb hby d33_28) rfl ?_
        show own_s p e below T m 30 #[rv cc, iv sv, rv d, iv dv, iv p4, iv ix, iv xx] [(.int xx), (.int dv), (.ref d)] _
        refine XS.i2b hXL.here hx rfl (hb hby d33_30) rfl ?_
        exact kX
      obtain ⟨cl7, Ar7, S7, M7, H7⟩ := id fL1
      obtain ⟨T8, h8, X8, e8, W8, st8⟩ := stB hXL hx hZ hTL Ar7 (j := dv) (own_inb S7 M7 (own_idx (by omega) (by omega))) (g := (mkF m 31 #[rv cc, iv sv, rv d, iv dv, iv p4, iv ix, iv xx] [(.int (xx.toInt8.toInt32)), (.int dv), (.ref d)])) rfl rfl (hb hby d33_31)
      have pre9 : ∀ t, own_s p e below T8 m 32 #[rv cc, iv sv, rv d, iv dv, iv p4, iv ix, iv xx] [] t → Steps p.tables e below S1 t := fun tX kX => pre6 _ (st8 _ kX)
      obtain ⟨LL10, X10, N10⟩ : ∃ LL, Stand p l e ({ frames := 0, cells := 0, slots := 0, locals := 0 } : Room) s m #[(.ref cc), (.int p1), (.ref d), (.int (0 : Int32)), (.int p4)] below meth c T8 LL 0 0 ∧ Fr n0 LL := ⟨_, X8, Fr.snoc X8 hNL g_d⟩
      have f11_A : own_Af Z h8 cc .char 256 (fun j => .int (g j)) := fL0.other W8 (Ne.symm ne_dc)
      have Z12 : n0 ≤ h8.size := Nat.le_trans hzL (Keep.of_wr W8).1
      have K13 : Keep h0 h8 [d] := hKL.wr W8 (Or.inl (List.mem_of_getElem? (i := 0) rfl))
      have f14_A : own_Af Z h8 d .byte n (own_up (fun j => .int (G1 j)) dv.toNatClampNeg (.int (nar .byte (xx.toInt8.toInt32)))) := own_Af.set Ar7 S7 M7 H7 W8
      have f15_A : own_Af Z h8 d .byte n (fun j => .int ((own_upi G1 i (xx.toInt8.toInt32)) j)) := own_upA f14_A (own_up_eq rfl (own_nat hdv) (own_nb8 _))
      have pre16 : ∀ t, own_s p e below T8 m 3 #[rv cc, iv (sv + (1 : Int32)), rv d, iv (dv + (1 : Int32)), iv p4, iv (ix + (1 : Int32)), iv xx] [] t → Steps p.tables e below S1 t := by
        intro tX kX
        refine pre9 _ ?_
        show own_s p e below T8 m 32 #[rv cc, iv sv, rv d, iv dv, iv p4, iv ix, iv xx] [] _
        refine XS.iinc X10.here hx rfl (hb hby d33_32) rfl (l' := #[rv cc, iv (sv + (1 : Int32)), rv d, iv dv, iv p4, iv ix, iv xx]) rfl ?_
        refine XS.iinc X10.here hx rfl (hb hby d33_35) rfl (l' := #[rv cc, iv (sv + (1 : Int32)), rv d, iv (dv + (1 : Int32)), iv p4, iv ix, iv xx]) rfl ?_
        refine XS.iinc X10.here hx rfl (hb hby d33_38) rfl (l' := #[rv cc, iv (sv + (1 : Int32)), rv d, iv (dv + (1 : Int32)), iv p4, iv (ix + (1 : Int32)), iv xx]) rfl ?_
        show own_s p e below T8 m 41 #[rv cc, iv (sv + (1 : Int32)), rv d, iv (dv + (1 : Int32)), iv p4, iv (ix + (1 : Int32)), iv xx] [] _
        refine XS.goto X10.here hx rfl (pc0 := 41) (pc' := 3) rfl (hb hby d33_41) (by decide) (by decide) ?_
        exact kX
      subst hS1
      obtain ⟨x0, x1, x2, x3, x4, T', LL', h', y0, z0, z1, z2, z3, z4, z5, stL⟩ := ih (i + 1) (own_upi G1 i (xx.toInt8.toInt32)) (sv + (1 : Int32)) (dv + (1 : Int32)) (ix + (1 : Int32)) (iv xx) _ _ _ (by omega) (own_addN (a := S + i) (b := 1) hsv rfl (by omega)) (own_addN (a := i) (b := 1) hdv rfl (by omega)) (own_addN (a := i) (b := 1) hix rfl (by omega)) (One.val rfl) (fun j hj => by
          by_cases q : j = i
          · subst q; rw [own_upi_s]; have d1 := c_i2b xx; rw [← hxx]; omega
          · rw [own_upi_o q]; exact hrel j (by omega)) X10 e8 N10 K13 f11_A f15_A
      exact ⟨x0, x1, x2, x3, x4, T', LL', h', y0, z0, z1, z2, z3, z4, z5, fun tX kX => pre16 _ (stL _ kX)⟩
  obtain ⟨G17, sv17, dv17, ix17, w617, T17, LL17, h17, pl17_0, X17, e17, N17, K17, gl17_0, gl17_1, stL17⟩ := lp n 0 G p1 (0 : Int32) (0 : Int32) .unset _ _ _ (by omega) hS_ rfl rfl One.u (fun j hj => absurd hj (Nat.not_lt_zero j)) X0 e0 N0 K0 A_c A_d
  have Z17 : n0 ≤ h17.size := Nat.le_trans Z0 K17.1
  have pre18 : ∀ t, own_s p e below T17 m 44 #[rv cc, iv sv17, rv d, iv dv17, iv p4, iv ix17, w617] [] t → Steps p.tables e below S0 t := fun tX kX => pre1 _ (stL17 _ kX)
  have pre19 : ∀ t, own_s p e below T17 m 46 #[rv cc, iv sv17, rv d, iv dv17, iv p4, iv ix17, w617] [(.int p4)] t → Steps p.tables e below S0 t := by
    intro tX kX
    refine pre18 _ ?_
    show own_s p e below T17 m 44 #[rv cc, iv sv17, rv d, iv dv17, iv p4, iv ix17, w617] [] _
    refine XS.iload X17.here hx rfl (hb hby d33_44) rfl ?_
    exact kX
  subst hS0
  obtain ⟨fsX, hr, hrun, hended, hW, hsame⟩ := X17.leave (v := (some (.int p4))) (fun h => by rw [Bd.returns] at h; cases h)
  refine ⟨_, _, pre19 _ (retI X17 hx Bd.returns (hb hby d33_46) hr), hrun, hended, _, _, rfl, ?_, ⟨_, rfl⟩, hW, hsame.mono (by decide) (by decide)⟩
  show Q33 Z cc p1 d p4 g G S n h0 n0 (some (.int p4)) T17.heap _
  rw [e17]
  exact ⟨_, rfl, N17, K17, gl17_1, pl17_0⟩
theorem d34_0 : decode jdk_52_method_16_code 0 = .ok (.iload_n 2, 1) := by decide +kernel
theorem d34_1 : decode jdk_52_method_16_code 1 = .ok (.newarray .byte, 2) := by decide +kernel
theorem d34_3 : decode jdk_52_method_16_code 3 = .ok (.astore_n 3, 1) := by decide +kernel
theorem d34_4 : decode jdk_52_method_16_code 4 = .ok (.aload_n 0, 1) := by decide +kernel
theorem d34_5 : decode jdk_52_method_16_code 5 = .ok (.iload_n 1, 1) := by decide +kernel
theorem d34_6 : decode jdk_52_method_16_code 6 = .ok (.aload_n 3, 1) := by decide +kernel
theorem d34_7 : decode jdk_52_method_16_code 7 = .ok (.iconst 0, 1) := by decide +kernel
theorem d34_8 : decode jdk_52_method_16_code 8 = .ok (.iload_n 2, 1) := by decide +kernel
theorem d34_9 : decode jdk_52_method_16_code 9 = .ok (.invokestatic 115, 3) := by decide +kernel
theorem d34_12 : decode jdk_52_method_16_code 12 = .ok (.istore 4, 2) := by decide +kernel
theorem d34_14 : decode jdk_52_method_16_code 14 = .ok (.iload 4, 2) := by decide +kernel
theorem d34_16 : decode jdk_52_method_16_code 16 = .ok (.iload_n 2, 1) := by decide +kernel
theorem d34_17 : decode jdk_52_method_16_code 17 = .ok (.if_icmp .eq 40, 3) := by decide +kernel
theorem d34_57 : decode jdk_52_method_16_code 57 = .ok (.aload_n 3, 1) := by decide +kernel
theorem d34_58 : decode jdk_52_method_16_code 58 = .ok (.areturn, 1) := by decide +kernel
theorem pn_34 : plainName "java/lang/StringUTF16" = true := by first | (simp [plainName, overriddenIn]; done) | decide +kernel
theorem pd34_0 : parseMethodDescriptor "([CI[BII)I" = some ⟨[(.array .char), .int, (.array .byte), .int, .int], some .int⟩ := by decide +kernel
theorem ef_34 (m : MethodId) (cc : Addr) (p1 : Int32) (p2 : Int32) : entryFrame m #[(.ref cc), (.int p1), (.int p2)] 6 = mkF m 0 #[rv cc, iv p1, iv p2, .unset, .unset, .unset] [] := by first | (simp [entryFrame, mkF, argsToLocals, Value.category]; done) | rfl
def Q34 (Z : State) (cc : Addr) (p1 : Int32) (p2 : Int32) (g : Nat → Int32) (S : Nat) (n : Nat) (h0 : Heap) (n0 : Nat) (v : Option Value) (h : Heap) (L : List Loc) : Prop := ∃ (r : Addr) (G : Nat → Int32), v = some (.ref r) ∧ Fr n0 L ∧ Keep h0 h [] ∧ h0.size ≤ r ∧ n0 ≤ r ∧ own_Af Z h r .byte n (fun j => .int (G j)) ∧ ∀ j, j < n → (G j).toInt % 256 = (g (S + j)).toInt
set_option maxRecDepth 65536 in
set_option maxHeartbeats 40000000 in
theorem rm34 (l : Launch) (Z : State) (a0 : Array Value) (hw : ∀ d ∈ tables_1, d.before a0 Z = true) (ws : List Jvm.Cond) (cc : Addr) (p1 : Int32) (p2 : Int32) (g : Nat → Int32) (S : Nat) (n : Nat) (h0 : Heap) (n0 : Nat) (Z0 : n0 ≤ h0.size) (A_c : own_Af Z h0 cc .char 256 (fun j => .int (g j))) (Bg : own_B g) (hS_ : p1.toInt = ((S : Nat) : Int)) (hn : p2.toInt = ((n : Nat) : Int)) (hn5 : n ≤ 5) (hSn : S + n ≤ 256) :
    MetFree l (⟨"java/lang/StringUTF16", "compress", "([CII)[B"⟩ : MethodName) (head1 (Jvm.Cond.code (⟨"java/lang/StringUTF16", "compress", "([CII)[B"⟩ : MethodName) jdk_52_method_16_code 6 (some (.array .byte)) :: ws) ({ frames := 1, cells := 1, slots := 5, locals := 40 } : Room)) (fun aX UX => aX = #[(.ref cc), (.int p1), (.int p2)] ∧ Z.Warmed39 UX.vm ∧ UX.heap = h0) (fun _ _ _ _ _ => True) (fun _ UX oX UY => ∃ vX LX, oX = .returned vX ∧ Q34 Z cc p1 p2 g S n h0 n0 vX UY.heap LX ∧ FrameEnd UX oX UY LX ({ frames := 1, cells := 1, slots := 5, locals := 40 } : Room).cells ({ frames := 1, cells := 1, slots := 5, locals := 40 } : Room).slots) := by
  refine MetFree.of_bodySF (plainFor_of_name pn_34) hisR ?_
  intro p e s m args below meth c s₁ Bd hml0 hPX hKX
  obtain ⟨rfl, hZ, hh⟩ := hPX
  have hx := Bd.exec
  have hby := Bd.bytes
  have hml : c.maxLocals = 6 := hml0
  have hown : s.vm.findClass "java/lang/StringUTF16" = some m.cls := findClass_of_methodNamed Bd.named
  have hnm := (name_of_methodNamed Bd.named Bd.method).1
  have X0 : Stand p l e ({ frames := 1, cells := 1, slots := 5, locals := 40 } : Room) s m #[(.ref cc), (.int p1), (.int p2)] below meth c s₁ [] 0 0 := Stand.of_body Bd
  have e0 : s₁.heap = h0 := by rw [← hh, Bd.state]; rfl
  have N0 := Fr.nil n0
  have pre0 : ∀ t, Steps p.tables e below (s₁.setTop (mkF m 0 #[rv cc, iv p1, iv p2, .unset, .unset, .unset] [])) t → Steps p.tables e below (s₁.setTop (entryFrame m #[(.ref cc), (.int p1), (.int p2)] 6)) t := fun t k => castTop (ef_34 m cc p1 p2) k
  obtain ⟨S0, hS0⟩ : ∃ z, z = (s₁.setTop (entryFrame m #[(.ref cc), (.int p1), (.int p2)] 6)) := ⟨_, rfl⟩
  rw [← hS0] at pre0
  have K0 : Keep h0 h0 [] := Keep.refl h0 _
  have pre1 : ∀ t, own_s p e below s₁ m 1 #[rv cc, iv p1, iv p2, .unset, .unset, .unset] [(.int p2)] t → Steps p.tables e below S0 t := by
    intro tX kX
    refine pre0 _ ?_
    show own_s p e below s₁ m 0 #[rv cc, iv p1, iv p2, .unset, .unset, .unset] [] _
    refine XS.iloadN X0.here hx rfl (hb hby d34_0) rfl ?_
    exact kX
  obtain ⟨T2, h2, k2, X2, e2, E2, A2, st2⟩ := newP X0 hx hZ (hw _ (List.mem_of_getElem? (i := 52) rfl)) e0 (g := (mkF m 1 #[rv cc, iv p1, iv p2, .unset, .unset, .unset] [(.int p2)])) rfl (hb hby d34_1) rfl (own_idx (n := 6) (by omega) (by omega)).1 (cap := 5) (Nat.le_of_lt_succ (own_idx (n := 6) (by omega) (by omega)).2) (by decide) (by decide) (by decide)
  obtain ⟨b2, g2⟩ : ∃ z, z = h0.size := ⟨_, rfl⟩
  rw [← g2] at A2 st2
  have ne3 : cc ≠ b2 := Nat.ne_of_lt (Nat.lt_of_lt_of_le A_c.lt (Nat.le_of_eq g2.symm))
  have g_b2 : n0 ≤ b2 := Nat.le_trans Z0 (Nat.le_of_eq g2.symm)
  have sz_b2 : h0.size ≤ b2 := Nat.le_trans K0.1 (Nat.le_of_eq g2.symm)
  have pre4 : ∀ t, own_s p e below T2 m 3 #[rv cc, iv p1, iv p2, .unset, .unset, .unset] [(.ref b2)] t → Steps p.tables e below S0 t := fun tX kX => pre1 _ (st2 _ kX)
  have f5_A : own_Af Z h2 cc .char 256 (fun j => .int (g j)) := A_c.ext E2
  have Z6 : n0 ≤ h2.size := Nat.le_trans Z0 E2.1
  have K7 : Keep h0 h2 [] := K0.ext E2
  have f8_A : own_Af Z h2 b2 .byte n (fun _ => (.int (0 : Int32))) := own_Af.new A2 (own_idx (n := 6) (by omega) (by omega)).1 (own_nat hn)
  have pre9 : ∀ t, own_s p e below T2 m 9 #[rv cc, iv p1, iv p2, rv b2, .unset, .unset] [(.int p2), (.int (0 : Int32)), (.ref b2), (.int p1), (.ref cc)] t → Steps p.tables e below S0 t := by
    intro tX kX
    refine pre4 _ ?_
    show own_s p e below T2 m 3 #[rv cc, iv p1, iv p2, .unset, .unset, .unset] [(.ref b2)] _
    refine XS.astoreN X2.here hx rfl (hb hby d34_3) rfl rfl (l' := #[rv cc, iv p1, iv p2, rv b2, .unset, .unset]) rfl ?_
    refine XS.aloadN X2.here hx rfl (hb hby d34_4) rfl rfl ?_
    refine XS.iloadN X2.here hx rfl (hb hby d34_5) rfl ?_
    show own_s p e below T2 m 6 #[rv cc, iv p1, iv p2, rv b2, .unset, .unset] [(.int p1), (.ref cc)] _
    refine XS.aloadN X2.here hx rfl (hb hby d34_6) rfl rfl ?_
    refine XS.iconst X2.here hx rfl (hb hby d34_7) ?_
    refine XS.iloadN X2.here hx rfl (hb hby d34_8) rfl ?_
    exact kX
  obtain ⟨_, _, ⟨T10, L10, k10, n10⟩, -, X10, ⟨Lc10, hQ10, l10, y10, z10⟩, st10⟩ := Jvm.LawKit.callS X2 hx (y := (⟨"java/lang/StringUTF16", "compress", "([CI[BII)I"⟩ : MethodName)) hown (mvT hZ (hw _ (List.mem_of_getElem? (i := 134) rfl))) (mvT hZ (hw _ (List.mem_of_getElem? (i := 135) rfl))) (mvT hZ (hw _ (List.mem_of_getElem? (i := 132) rfl))) (mvT hZ (hw _ (List.mem_of_getElem? (i := 136) rfl))) (by decide) (backOf (W := 0) (rm33 l Z a0 hw [] cc p1 b2 p2 g (fun _ => (0 : Int32)) S n h2 n0 Z6 f5_A Bg f8_A hS_ hn hn5 hSn (Ne.symm ne3) g_b2) hZ (hw _ (List.mem_of_getElem? (i := 136) rfl)) (hw _ (List.mem_of_getElem? (i := 132) rfl)) (by decide) (by decide)) (g := (mkF m 9 #[rv cc, iv p1, iv p2, rv b2, .unset, .unset] [(.int p2), (.int (0 : Int32)), (.ref b2), (.int p1), (.ref cc)])) rfl (by rw [hml]; rfl) (argsL := [(.ref cc), (.int p1), (.ref b2), (.int (0 : Int32)), (.int p2)]) (rest := []) (lenOf pd34_0 rfl) rfl (by show 2 * 0 + _ ≤ _; exact Nat.le_of_eq rfl) (hb hby d34_9) (fun _ _ => ⟨rfl, e2, (by decide : 1 + 0 ≤ _), (by decide : 5 + 0 ≤ _)⟩)
  dsimp only [Pt.U, Pt.locs, Pt.cells, Pt.slots] at X10 l10 y10 z10 st10 hQ10
  subst l10 y10 z10
  obtain ⟨G10, rfl, Nq10, Kq10, fA10, R10⟩ := hQ10
  have N10 := Fr.app N0 Nq10
  have e10 : T10.heap = T10.heap := rfl
  have Z10 : n0 ≤ T10.heap.size := Nat.le_trans Z6 Kq10.1
  have K10 : Keep h0 T10.heap [] := K7.trans Kq10 (allS (Or.inr sz_b2) all0)
  have f11_A : own_Af Z T10.heap cc .char 256 (fun j => .int (g j)) := f5_A.keep Kq10 (ninS ne3 nin0)
  obtain ⟨LL12, X12, N12⟩ : ∃ LL, Stand p l e ({ frames := 1, cells := 1, slots := 5, locals := 40 } : Room) s m #[(.ref cc), (.int p1), (.int p2)] below meth c T10 LL 1 5 ∧ Fr n0 LL := ⟨_, X10, N10⟩
  have pre13 : ∀ t, own_s p e below T10 m 12 #[rv cc, iv p1, iv p2, rv b2, .unset, .unset] [(.int p2)] t → Steps p.tables e below S0 t := fun tX kX => pre9 _ (st10 _ kX)
  have pre14 : ∀ t, own_s p e below T10 m 58 #[rv cc, iv p1, iv p2, rv b2, iv p2, .unset] [(.ref b2)] t → Steps p.tables e below S0 t := by
    intro tX kX
    refine pre13 _ ?_
    show own_s p e below T10 m 12 #[rv cc, iv p1, iv p2, rv b2, .unset, .unset] [(.int p2)] _
    refine XS.istore X12.here hx rfl (hb hby d34_12) rfl (l' := #[rv cc, iv p1, iv p2, rv b2, iv p2, .unset]) rfl ?_
    refine XS.iload X12.here hx rfl (hb hby d34_14) rfl ?_
    refine XS.iloadN X12.here hx rfl (hb hby d34_16) rfl ?_
    show own_s p e below T10 m 17 #[rv cc, iv p1, iv p2, rv b2, iv p2, .unset] [(.int p2), (.int p2)] _
    refine XS.icmpYes X12.here hx rfl (pc0 := 17) (pc' := 57) rfl (hb hby d34_17) rfl (teq (rfl : p2 = p2)).1 (by decide) (by decide) ?_
    refine XS.aloadN X12.here hx rfl (hb hby d34_57) rfl rfl ?_
    exact kX
  subst hS0
  obtain ⟨fsX, hr, hrun, hended, hW, hsame⟩ := X12.leave (v := (some (.ref b2))) (fun h => by rw [Bd.returns] at h; cases h)
  refine ⟨_, _, pre14 _ (retOut X12 hx Bd.returns (own_narR rfl) (Or.inr (Or.inr (Or.inr (Or.inr ⟨rfl, rfl, rfl⟩)))) (hb hby d34_58) hr), hrun, hended, _, _, rfl, ?_, ⟨_, rfl⟩, hW, hsame.mono (by decide) (by decide)⟩
  show Q34 Z cc p1 p2 g S n h0 n0 (some (.ref b2)) T10.heap _
  rw [e10]
  exact ⟨b2, _, rfl, N12, K10, sz_b2, g_b2, fA10, R10⟩
theorem d40_0 : decode prog_157_method_3_code 0 = .ok (.aload_n 0, 1) := by decide +kernel
theorem d40_1 : decode prog_157_method_3_code 1 = .ok (.getfield 42, 3) := by decide +kernel
theorem d40_4 : decode prog_157_method_3_code 4 = .ok (.aload_n 0, 1) := by decide +kernel
theorem d40_5 : decode prog_157_method_3_code 5 = .ok (.getfield 11, 3) := by decide +kernel
theorem d40_8 : decode prog_157_method_3_code 8 = .ok (.arraylength, 1) := by decide +kernel
theorem d40_9 : decode prog_157_method_3_code 9 = .ok (.if_icmp .ne 91, 3) := by decide +kernel
theorem d40_100 : decode prog_157_method_3_code 100 = .ok (.aload_n 0, 1) := by decide +kernel
theorem d40_101 : decode prog_157_method_3_code 101 = .ok (.getfield 11, 3) := by decide +kernel
theorem d40_104 : decode prog_157_method_3_code 104 = .ok (.aload_n 0, 1) := by decide +kernel
theorem d40_105 : decode prog_157_method_3_code 105 = .ok (.getfield 42, 3) := by decide +kernel
theorem d40_108 : decode prog_157_method_3_code 108 = .ok (.aload_n 1, 1) := by decide +kernel
theorem d40_109 : decode prog_157_method_3_code 109 = .ok (.aastore, 1) := by decide +kernel
theorem d40_110 : decode prog_157_method_3_code 110 = .ok (.aload_n 0, 1) := by decide +kernel
theorem d40_111 : decode prog_157_method_3_code 111 = .ok (.getfield 15, 3) := by decide +kernel
theorem d40_114 : decode prog_157_method_3_code 114 = .ok (.aload_n 0, 1) := by decide +kernel
theorem d40_115 : decode prog_157_method_3_code 115 = .ok (.getfield 42, 3) := by decide +kernel
theorem d40_118 : decode prog_157_method_3_code 118 = .ok (.aload_n 0, 1) := by decide +kernel
theorem d40_119 : decode prog_157_method_3_code 119 = .ok (.getfield 52, 3) := by decide +kernel
theorem d40_122 : decode prog_157_method_3_code 122 = .ok (.iastore, 1) := by decide +kernel
theorem d40_123 : decode prog_157_method_3_code 123 = .ok (.aload_n 0, 1) := by decide +kernel
theorem d40_124 : decode prog_157_method_3_code 124 = .ok (.getfield 19, 3) := by decide +kernel
theorem d40_127 : decode prog_157_method_3_code 127 = .ok (.aload_n 0, 1) := by decide +kernel
theorem d40_128 : decode prog_157_method_3_code 128 = .ok (.getfield 42, 3) := by decide +kernel
theorem d40_131 : decode prog_157_method_3_code 131 = .ok (.iconst 0, 1) := by decide +kernel
theorem d40_132 : decode prog_157_method_3_code 132 = .ok (.iastore, 1) := by decide +kernel
theorem d40_133 : decode prog_157_method_3_code 133 = .ok (.aload_n 0, 1) := by decide +kernel
theorem d40_134 : decode prog_157_method_3_code 134 = .ok (.getfield 24, 3) := by decide +kernel
theorem d40_137 : decode prog_157_method_3_code 137 = .ok (.aload_n 0, 1) := by decide +kernel
theorem d40_138 : decode prog_157_method_3_code 138 = .ok (.getfield 42, 3) := by decide +kernel
theorem d40_141 : decode prog_157_method_3_code 141 = .ok (.ldc 67, 2) := by decide +kernel
theorem d40_143 : decode prog_157_method_3_code 143 = .ok (.aastore, 1) := by decide +kernel
theorem d40_144 : decode prog_157_method_3_code 144 = .ok (.aload_n 0, 1) := by decide +kernel
theorem d40_145 : decode prog_157_method_3_code 145 = .ok (.getfield 28, 3) := by decide +kernel
theorem d40_148 : decode prog_157_method_3_code 148 = .ok (.aload_n 0, 1) := by decide +kernel
theorem d40_149 : decode prog_157_method_3_code 149 = .ok (.getfield 42, 3) := by decide +kernel
theorem d40_152 : decode prog_157_method_3_code 152 = .ok (.iconst 0, 1) := by decide +kernel
theorem d40_153 : decode prog_157_method_3_code 153 = .ok (.bastore, 1) := by decide +kernel
theorem d40_154 : decode prog_157_method_3_code 154 = .ok (.aload_n 0, 1) := by decide +kernel
theorem d40_155 : decode prog_157_method_3_code 155 = .ok (.dup, 1) := by decide +kernel
theorem d40_156 : decode prog_157_method_3_code 156 = .ok (.getfield 42, 3) := by decide +kernel
theorem d40_159 : decode prog_157_method_3_code 159 = .ok (.iconst 1, 1) := by decide +kernel
theorem d40_160 : decode prog_157_method_3_code 160 = .ok (.iadd, 1) := by decide +kernel
theorem d40_161 : decode prog_157_method_3_code 161 = .ok (.putfield 42, 3) := by decide +kernel
theorem d40_164 : decode prog_157_method_3_code 164 = .ok (.return_, 1) := by decide +kernel
theorem pn_40 : plainName "com/example/weaverbird/weaverbird/model/xml/Attributes" = true := by first | (simp [plainName, overriddenIn]; done) | decide +kernel
theorem ef_40 (m : MethodId) (a : Addr) : entryFrame m #[(.ref a), .null] 3 = mkF m 0 #[rv a, .val .null, .unset] [] := by first | (simp [entryFrame, mkF, argsToLocals, Value.category]; done) | rfl
def Q40 (Z : State) (a : Addr) (nm : Addr) (sr : Addr) (ln : Addr) (ns : Addr) (dc : Addr) (sg : Addr) (vl : Addr) (ct : Int32) (vn : Int32) (fs : Nat → Int32) (fl : Nat → Int32) (fg : Nat → Value) (g : Nat → Int32) (K : Nat) (h0 : Heap) (n0 : Nat) (v : Option Value) (h : Heap) (L : List Loc) : Prop := ∃ (ct' : Int32) (fs' : Nat → Int32) (fl' : Nat → Int32), v = none ∧ Fr n0 L ∧ ct'.toInt = ((K + 1 : Nat) : Int) ∧ fs' K = vn ∧ (∀ j, j ≠ K → fs' j = fs j) ∧ fl' K = 0 ∧ (∀ j, j ≠ K → fl' j = fl j) ∧ Keep h0 h [a, nm, sr, ln, ns, dc] ∧ own_At Z h a nm sr ln ns dc sg vl ct' vn fs' fl' fg g
set_option maxRecDepth 65536 in
set_option maxHeartbeats 40000000 in
theorem rm40 (l : Launch) (Z : State) (a0 : Array Value) (hw : ∀ d ∈ tables_1, d.before a0 Z = true) (ws : List Jvm.Cond) (a : Addr) (nm : Addr) (sr : Addr) (ln : Addr) (ns : Addr) (dc : Addr) (sg : Addr) (vl : Addr) (ct : Int32) (vn : Int32) (fs : Nat → Int32) (fl : Nat → Int32) (fg : Nat → Value) (g : Nat → Int32) (K : Nat) (h0 : Heap) (n0 : Nat) (Z0 : n0 ≤ h0.size) (hAt : own_At Z h0 a nm sr ln ns dc sg vl ct vn fs fl fg g) (hO : a < nm ∧ nm < sr ∧ sr < ln ∧ ln < ns ∧ ns < dc ∧ dc < sg ∧ sg < vl) (g_a : n0 ≤ a) (Bg : own_B g) (hct : ct.toInt = ((K : Nat) : Int)) (hK : K < 8) :
    MetFree l (⟨"com/example/weaverbird/weaverbird/model/xml/Attributes", "add", "(Lcom/example/weaverbird/weaverbird/model/xml/NameTable$QualifiedName;)V"⟩ : MethodName) (head1 (Jvm.Cond.code (⟨"com/example/weaverbird/weaverbird/model/xml/Attributes", "add", "(Lcom/example/weaverbird/weaverbird/model/xml/NameTable$QualifiedName;)V"⟩ : MethodName) prog_157_method_3_code 3 none :: ws) ({ frames := 0, cells := 2, slots := 4, locals := 0 } : Room)) (fun aX UX => aX = #[(.ref a), .null] ∧ Z.Warmed39 UX.vm ∧ UX.heap = h0 ∧ CHv Z own_EL UX.vm h0) (fun _ _ _ _ _ => True) (fun _ UX oX UY => ∃ vX LX, oX = .returned vX ∧ Q40 Z a nm sr ln ns dc sg vl ct vn fs fl fg g K h0 n0 vX UY.heap LX ∧ CHr Z own_EL UX.vm UX.heap UY.vm UY.heap ∧ ReturnedEndW UX oX UY LX ({ frames := 0, cells := 2, slots := 4, locals := 0 } : Room).cells ({ frames := 0, cells := 2, slots := 4, locals := 0 } : Room).slots) := by
  refine MetFree.of_bodySF (plainFor_of_name pn_40) hisR ?_
  intro p e s m args below meth c s₁ Bd hml0 hPX hKX
  obtain ⟨rfl, hZ, hh, hC0⟩ := hPX
  have C0 : CHr Z own_EL s.vm h0 s.vm h0 := CHr.refl hC0
  have hS := own_since s 0
  have hEL := own_EW hw
  have hx := Bd.exec
  have hby := Bd.bytes
  have hml : c.maxLocals = 3 := hml0
  have hown : s.vm.findClass "com/example/weaverbird/weaverbird/model/xml/Attributes" = some m.cls := findClass_of_methodNamed Bd.named
  have hnm := (name_of_methodNamed Bd.named Bd.method).1
  have X0 : Stand p l e ({ frames := 0, cells := 2, slots := 4, locals := 0 } : Room) s m #[(.ref a), .null] below meth c s₁ [] 0 0 := Stand.of_body Bd
  have e0 : s₁.heap = h0 := by rw [← hh, Bd.state]; rfl
  have N0 := Fr.nil n0
  have pre0 : ∀ t, Steps p.tables e below (s₁.setTop (mkF m 0 #[rv a, .val .null, .unset] [])) t → Steps p.tables e below (s₁.setTop (entryFrame m #[(.ref a), .null] 3)) t := fun t k => castTop (ef_40 m a) k
  obtain ⟨S0, hS0⟩ : ∃ z, z = (s₁.setTop (entryFrame m #[(.ref a), .null] 3)) := ⟨_, rfl⟩
  rw [← hS0] at pre0
  have K0 : Keep h0 h0 [a, nm, sr, ln, ns, dc] := Keep.refl h0 _
  obtain ⟨o1, o2, o3, o4, o5, o6, o7⟩ := id hO
  obtain ⟨E_a, F_nm, F_sr, F_ln, F_ns, F_dc, F_sg, F_vl, F_ct, F_vn, ⟨fnm, A_nm⟩, A_sr, A_ln, ⟨fns, A_ns⟩, ⟨fdc, A_dc⟩, A_sg, A_vl, O_ns, O_sg⟩ := id hAt
  have ne_a_nm : a ≠ nm := Nat.ne_of_lt o1
  have ne_a_sr : a ≠ sr := Nat.ne_of_lt (Nat.lt_trans o1 o2)
  have ne_a_ln : a ≠ ln := Nat.ne_of_lt (Nat.lt_trans o1 (Nat.lt_trans o2 o3))
  have ne_a_ns : a ≠ ns := Nat.ne_of_lt (Nat.lt_trans o1 (Nat.lt_trans o2 (Nat.lt_trans o3 o4)))
  have ne_a_dc : a ≠ dc := Nat.ne_of_lt (Nat.lt_trans o1 (Nat.lt_trans o2 (Nat.lt_trans o3 (Nat.lt_trans o4 o5))))
  have ne_a_sg : a ≠ sg := Nat.ne_of_lt (Nat.lt_trans o1 (Nat.lt_trans o2 (Nat.lt_trans o3 (Nat.lt_trans o4 (Nat.lt_trans o5 o6)))))
  have ne_a_vl : a ≠ vl := Nat.ne_of_lt (Nat.lt_trans o1 (Nat.lt_trans o2 (Nat.lt_trans o3 (Nat.lt_trans o4 (Nat.lt_trans o5 (Nat.lt_trans o6 o7))))))
  have ne_nm_sr : nm ≠ sr := Nat.ne_of_lt o2
  have ne_nm_ln : nm ≠ ln := Nat.ne_of_lt (Nat.lt_trans o2 o3)
  have ne_nm_ns : nm ≠ ns := Nat.ne_of_lt (Nat.lt_trans o2 (Nat.lt_trans o3 o4))
  have ne_nm_dc : nm ≠ dc := Nat.ne_of_lt (Nat.lt_trans o2 (Nat.lt_trans o3 (Nat.lt_trans o4 o5)))
  have ne_nm_sg : nm ≠ sg := Nat.ne_of_lt (Nat.lt_trans o2 (Nat.lt_trans o3 (Nat.lt_trans o4 (Nat.lt_trans o5 o6))))
  have ne_nm_vl : nm ≠ vl := Nat.ne_of_lt (Nat.lt_trans o2 (Nat.lt_trans o3 (Nat.lt_trans o4 (Nat.lt_trans o5 (Nat.lt_trans o6 o7)))))
  have ne_sr_ln : sr ≠ ln := Nat.ne_of_lt o3
  have ne_sr_ns : sr ≠ ns := Nat.ne_of_lt (Nat.lt_trans o3 o4)
  have ne_sr_dc : sr ≠ dc := Nat.ne_of_lt (Nat.lt_trans o3 (Nat.lt_trans o4 o5))
  have ne_sr_sg : sr ≠ sg := Nat.ne_of_lt (Nat.lt_trans o3 (Nat.lt_trans o4 (Nat.lt_trans o5 o6)))
  have ne_sr_vl : sr ≠ vl := Nat.ne_of_lt (Nat.lt_trans o3 (Nat.lt_trans o4 (Nat.lt_trans o5 (Nat.lt_trans o6 o7))))
  have ne_ln_ns : ln ≠ ns := Nat.ne_of_lt o4
  have ne_ln_dc : ln ≠ dc := Nat.ne_of_lt (Nat.lt_trans o4 o5)
  have ne_ln_sg : ln ≠ sg := Nat.ne_of_lt (Nat.lt_trans o4 (Nat.lt_trans o5 o6))
  have ne_ln_vl : ln ≠ vl := Nat.ne_of_lt (Nat.lt_trans o4 (Nat.lt_trans o5 (Nat.lt_trans o6 o7)))
  have ne_ns_dc : ns ≠ dc := Nat.ne_of_lt o5
  have ne_ns_sg : ns ≠ sg := Nat.ne_of_lt (Nat.lt_trans o5 o6)
  have ne_ns_vl : ns ≠ vl := Nat.ne_of_lt (Nat.lt_trans o5 (Nat.lt_trans o6 o7))
  have ne_dc_sg : dc ≠ sg := Nat.ne_of_lt o6
  have ne_dc_vl : dc ≠ vl := Nat.ne_of_lt (Nat.lt_trans o6 o7)
  have ne_sg_vl : sg ≠ vl := Nat.ne_of_lt o7
  have g_nm : n0 ≤ nm := Nat.le_trans g_a (Nat.le_of_lt o1)
  have g_sr : n0 ≤ sr := Nat.le_trans g_a (Nat.le_of_lt (Nat.lt_trans o1 o2))
  have g_ln : n0 ≤ ln := Nat.le_trans g_a (Nat.le_of_lt (Nat.lt_trans o1 (Nat.lt_trans o2 o3)))
  have g_ns : n0 ≤ ns := Nat.le_trans g_a (Nat.le_of_lt (Nat.lt_trans o1 (Nat.lt_trans o2 (Nat.lt_trans o3 o4))))
  have g_dc : n0 ≤ dc := Nat.le_trans g_a (Nat.le_of_lt (Nat.lt_trans o1 (Nat.lt_trans o2 (Nat.lt_trans o3 (Nat.lt_trans o4 o5)))))
  have pre1 : ∀ t, own_s p e below s₁ m 1 #[rv a, .val .null, .unset] [(.ref a)] t → Steps p.tables e below S0 t := by
    intro tX kX
    refine pre0 _ ?_
    show own_s p e below s₁ m 0 #[rv a, .val .null, .unset] [] _
    refine XS.aloadN X0.here hx rfl (hb hby d40_0) rfl rfl ?_
    exact kX
  obtain ⟨T2, X2, e2, st2⟩ := getF X0 hx hZ hown (host := "") (Or.inl (hw _ (List.mem_of_getElem? (i := 45) rfl))) Via.refl e0 F_ct (g := (mkF m 1 #[rv a, .val .null, .unset] [(.ref a)])) rfl rfl (hb hby d40_1)
  have pre3 : ∀ t, own_s p e below T2 m 4 #[rv a, .val .null, .unset] [(.int ct)] t → Steps p.tables e below S0 t := fun tX kX => pre1 _ (st2 _ kX)
  have pre4 : ∀ t, own_s p e below T2 m 5 #[rv a, .val .null, .unset] [(.ref a), (.int ct)] t → Steps p.tables e below S0 t := by
    intro tX kX
    refine pre3 _ ?_
    show own_s p e below T2 m 4 #[rv a, .val .null, .unset] [(.int ct)] _
    refine XS.aloadN X2.here hx rfl (hb hby d40_4) rfl rfl ?_
    exact kX
  obtain ⟨T5, X5, e5, st5⟩ := getF X2 hx hZ hown (host := "") (Or.inl (hw _ (List.mem_of_getElem? (i := 20) rfl))) Via.refl e2 F_nm (g := (mkF m 5 #[rv a, .val .null, .unset] [(.ref a), (.int ct)])) rfl rfl (hb hby d40_5)
  have pre6 : ∀ t, own_s p e below T5 m 8 #[rv a, .val .null, .unset] [(.ref nm), (.int ct)] t → Steps p.tables e below S0 t := fun tX kX => pre4 _ (st5 _ kX)
  obtain ⟨cl7, Ar7, S7, M7, H7⟩ := id A_nm
  have pre8 : ∀ t, own_s p e below T5 m 101 #[rv a, .val .null, .unset] [(.ref a)] t → Steps p.tables e below S0 t := by
    intro tX kX
    refine pre6 _ ?_
    show own_s p e below T5 m 8 #[rv a, .val .null, .unset] [(.ref nm), (.int ct)] _
    refine X5.arraylength hx (by rw [e5]; exact Ar7.1) (State.isArrayOf_alike hZ.alike Ar7.2.1) (g := (mkF m 8 #[rv a, .val .null, .unset] [(.ref nm), (.int ct)])) rfl rfl (hb hby d40_8) _ ?_
    rw [show cl7.slots.size.toInt32 = (8 : Int32) from (congrArg Nat.toInt32 S7).trans (rfl)]
    refine XS.icmpYes X5.here hx rfl (pc0 := 9) (pc' := 100) rfl (hb hby d40_9) rfl (feq (show ¬ (ct = (8 : Int32)) from fun q => absurd (show (ct).toInt = (8 : Int) from congrArg Int32.toInt q) (by omega))).2 (by decide) (by decide) ?_
    refine XS.aloadN X5.here hx rfl (hb hby d40_100) rfl rfl ?_
    exact kX
  obtain ⟨T9, X9, e9, st9⟩ := getF X5 hx hZ hown (host := "") (Or.inl (hw _ (List.mem_of_getElem? (i := 20) rfl))) Via.refl e5 F_nm (g := (mkF m 101 #[rv a, .val .null, .unset] [(.ref a)])) rfl rfl (hb hby d40_101)
  have pre10 : ∀ t, own_s p e below T9 m 104 #[rv a, .val .null, .unset] [(.ref nm)] t → Steps p.tables e below S0 t := fun tX kX => pre8 _ (st9 _ kX)
  have pre11 : ∀ t, own_s p e below T9 m 105 #[rv a, .val .null, .unset] [(.ref a), (.ref nm)] t → Steps p.tables e below S0 t := by
    intro tX kX
    refine pre10 _ ?_
    show own_s p e below T9 m 104 #[rv a, .val .null, .unset] [(.ref nm)] _
    refine XS.aloadN X9.here hx rfl (hb hby d40_104) rfl rfl ?_
    exact kX
  obtain ⟨T12, X12, e12, st12⟩ := getF X9 hx hZ hown (host := "") (Or.inl (hw _ (List.mem_of_getElem? (i := 45) rfl))) Via.refl e9 F_ct (g := (mkF m 105 #[rv a, .val .null, .unset] [(.ref a), (.ref nm)])) rfl rfl (hb hby d40_105)
  have pre13 : ∀ t, own_s p e below T12 m 108 #[rv a, .val .null, .unset] [(.int ct), (.ref nm)] t → Steps p.tables e below S0 t := fun tX kX => pre11 _ (st12 _ kX)
  have pre14 : ∀ t, own_s p e below T12 m 109 #[rv a, .val .null, .unset] [.null, (.int ct), (.ref nm)] t → Steps p.tables e below S0 t := by
    intro tX kX
    refine pre13 _ ?_
    show own_s p e below T12 m 108 #[rv a, .val .null, .unset] [(.int ct), (.ref nm)] _
    refine XS.aloadN X12.here hx rfl (hb hby d40_108) rfl rfl ?_
    exact kX
  obtain ⟨cl15, Ar15, S15, M15, H15⟩ := id A_nm
  obtain ⟨T16, h16, X16, e16, W16, st16⟩ := Jvm.RoadKit.stR X12 hx hZ e12 Ar15 (j := ct) (own_inb S15 M15 (own_idx (by omega) (by omega))) rfl (Or.inl rfl) (g := (mkF m 109 #[rv a, .val .null, .unset] [.null, (.int ct), (.ref nm)])) rfl rfl (hb hby d40_109)
  have pre17 : ∀ t, own_s p e below T16 m 110 #[rv a, .val .null, .unset] [] t → Steps p.tables e below S0 t := fun tX kX => pre14 _ (st16 _ kX)
  obtain ⟨LL18, X18, N18⟩ : ∃ LL, Stand p l e ({ frames := 0, cells := 2, slots := 4, locals := 0 } : Room) s m #[(.ref a), .null] below meth c T16 LL 0 0 ∧ Fr n0 LL := ⟨_, X16, Fr.snoc X16 N0 g_nm⟩
  have f19_E : Exa Z h16 a "com/example/weaverbird/weaverbird/model/xml/Attributes" := E_a.wr W16
  have f20_F : Fld Z h16 a "com/example/weaverbird/weaverbird/model/xml/Attributes" "count" "I" (.int ct) := F_ct.other W16 (Or.inl ne_a_nm)
  have f21_F : Fld Z h16 a "com/example/weaverbird/weaverbird/model/xml/Attributes" "valuesLength" "I" (.int vn) := F_vn.other W16 (Or.inl ne_a_nm)
  have f22_F : Fld Z h16 a "com/example/weaverbird/weaverbird/model/xml/Attributes" "names" "[Lcom/example/weaverbird/weaverbird/model/xml/NameTable$QualifiedName;" (.ref nm) := F_nm.other W16 (Or.inl ne_a_nm)
  have f23_F : Fld Z h16 a "com/example/weaverbird/weaverbird/model/xml/Attributes" "starts" "[I" (.ref sr) := F_sr.other W16 (Or.inl ne_a_nm)
  have f24_F : Fld Z h16 a "com/example/weaverbird/weaverbird/model/xml/Attributes" "lengths" "[I" (.ref ln) := F_ln.other W16 (Or.inl ne_a_nm)
  have f25_F : Fld Z h16 a "com/example/weaverbird/weaverbird/model/xml/Attributes" "namespaces" "[Ljava/lang/String;" (.ref ns) := F_ns.other W16 (Or.inl ne_a_nm)
  have f26_F : Fld Z h16 a "com/example/weaverbird/weaverbird/model/xml/Attributes" "declarations" "[Z" (.ref dc) := F_dc.other W16 (Or.inl ne_a_nm)
  have f27_F : Fld Z h16 a "com/example/weaverbird/weaverbird/model/xml/Attributes" "strings" "[Ljava/lang/String;" (.ref sg) := F_sg.other W16 (Or.inl ne_a_nm)
  have f28_F : Fld Z h16 a "com/example/weaverbird/weaverbird/model/xml/Attributes" "values" "[C" (.ref vl) := F_vl.other W16 (Or.inl ne_a_nm)
  have f29_A : own_Af Z h16 ns (.object "java/lang/String") 8 fns := A_ns.other W16 (Ne.symm ne_nm_ns)
  have f30_A : own_Af Z h16 sg (.object "java/lang/String") 8 fg := A_sg.other W16 (Ne.symm ne_nm_sg)
  have f31_A : own_Af Z h16 dc .boolean 8 fdc := A_dc.other W16 (Ne.symm ne_nm_dc)
  have f32_A : own_Af Z h16 sr .int 8 (fun j => .int (fs j)) := A_sr.other W16 (Ne.symm ne_nm_sr)
  have f33_A : own_Af Z h16 ln .int 8 (fun j => .int (fl j)) := A_ln.other W16 (Ne.symm ne_nm_ln)
  have f34_A : own_Af Z h16 vl .char 256 (fun j => .int (g j)) := A_vl.other W16 (Ne.symm ne_nm_vl)
  have f35_B : own_Ov Z h16 ns "java/lang/String" := O_ns.wr W16
  have f36_B : own_Ov Z h16 sg "java/lang/String" := O_sg.wr W16
  have Z37 : n0 ≤ h16.size := Nat.le_trans Z0 (Keep.of_wr W16).1
  have K38 : Keep h0 h16 [a, nm, sr, ln, ns, dc] := K0.wr W16 (Or.inl (List.mem_of_getElem? (i := 1) rfl))
  have C39 : CHr Z own_EL s.vm h0 s.vm h16 := C0.trans (CHr.wr W16 (own_sfA hZ.alike A_nm (fun q => nomatch q)) C0.1)
  have f40_A : own_Af Z h16 nm (.object "com/example/weaverbird/weaverbird/model/xml/NameTable$QualifiedName") 8 (own_up fnm ct.toNatClampNeg .null) := own_Af.set Ar15 S15 M15 H15 W16
  have pre41 : ∀ t, own_s p e below T16 m 111 #[rv a, .val .null, .unset] [(.ref a)] t → Steps p.tables e below S0 t := by
    intro tX kX
    refine pre17 _ ?_
    show own_s p e below T16 m 110 #[rv a, .val .null, .unset] [] _
    refine XS.aloadN X18.here hx rfl (hb hby d40_110) rfl rfl ?_
    exact kX
  obtain ⟨T42, X42, e42, st42⟩ := getF X18 hx hZ hown (host := "") (Or.inl (hw _ (List.mem_of_getElem? (i := 23) rfl))) Via.refl e16 f23_F (g := (mkF m 111 #[rv a, .val .null, .unset] [(.ref a)])) rfl rfl (hb hby d40_111)
  have pre43 : ∀ t, own_s p e below T42 m 114 #[rv a, .val .null, .unset] [(.ref sr)] t → Steps p.tables e below S0 t := fun tX kX => pre41 _ (st42 _ kX)
  have pre44 : ∀ t, own_s p e below T42 m 115 #[rv a, .val .null, .unset] [(.ref a), (.ref sr)] t → Steps p.tables e below S0 t := by
    intro tX kX
    refine pre43 _ ?_
    show own_s p e below T42 m 114 #[rv a, .val .null, .unset] [(.ref sr)] _
    refine XS.aloadN X42.here hx rfl (hb hby d40_114) rfl rfl ?_
    exact kX
  obtain ⟨T45, X45, e45, st45⟩ := getF X42 hx hZ hown (host := "") (Or.inl (hw _ (List.mem_of_getElem? (i := 45) rfl))) Via.refl e42 f20_F (g := (mkF m 115 #[rv a, .val .null, .unset] [(.ref a), (.ref sr)])) rfl rfl (hb hby d40_115)
  have pre46 : ∀ t, own_s p e below T45 m 118 #[rv a, .val .null, .unset] [(.int ct), (.ref sr)] t → Steps p.tables e below S0 t := fun tX kX => pre44 _ (st45 _ kX)
  have pre47 : ∀ t, own_s p e below T45 m 119 #[rv a, .val .null, .unset] [(.ref a), (.int ct), (.ref sr)] t → Steps p.tables e below S0 t := by
    intro tX kX
    refine pre46 _ ?_
    show own_s p e below T45 m 118 #[rv a, .val .null, .unset] [(.int ct), (.ref sr)] _
    refine XS.aloadN X45.here hx rfl (hb hby d40_118) rfl rfl ?_
    exact kX
  obtain ⟨T48, X48, e48, st48⟩ := getF X45 hx hZ hown (host := "") (Or.inl (hw _ (List.mem_of_getElem? (i := 47) rfl))) Via.refl e45 f21_F (g := (mkF m 119 #[rv a, .val .null, .unset] [(.ref a), (.int ct), (.ref sr)])) rfl rfl (hb hby d40_119)
  have pre49 : ∀ t, own_s p e below T48 m 122 #[rv a, .val .null, .unset] [(.int vn), (.int ct), (.ref sr)] t → Steps p.tables e below S0 t := fun tX kX => pre47 _ (st48 _ kX)
  obtain ⟨cl50, Ar50, S50, M50, H50⟩ := id f32_A
  obtain ⟨T51, h51, X51, e51, W51, st51⟩ := stI X48 hx hZ e48 Ar50 (j := ct) (own_inb S50 M50 (own_idx (by omega) (by omega))) (g := (mkF m 122 #[rv a, .val .null, .unset] [(.int vn), (.int ct), (.ref sr)])) rfl rfl (hb hby d40_122)
  have pre52 : ∀ t, own_s p e below T51 m 123 #[rv a, .val .null, .unset] [] t → Steps p.tables e below S0 t := fun tX kX => pre49 _ (st51 _ kX)
  obtain ⟨LL53, X53, N53⟩ : ∃ LL, Stand p l e ({ frames := 0, cells := 2, slots := 4, locals := 0 } : Room) s m #[(.ref a), .null] below meth c T51 LL 0 0 ∧ Fr n0 LL := ⟨_, X51, Fr.snoc X51 N18 g_sr⟩
  have f54_E : Exa Z h51 a "com/example/weaverbird/weaverbird/model/xml/Attributes" := f19_E.wr W51
  have f55_F : Fld Z h51 a "com/example/weaverbird/weaverbird/model/xml/Attributes" "count" "I" (.int ct) := f20_F.other W51 (Or.inl ne_a_sr)
  have f56_F : Fld Z h51 a "com/example/weaverbird/weaverbird/model/xml/Attributes" "valuesLength" "I" (.int vn) := f21_F.other W51 (Or.inl ne_a_sr)
  have f57_F : Fld Z h51 a "com/example/weaverbird/weaverbird/model/xml/Attributes" "names" "[Lcom/example/weaverbird/weaverbird/model/xml/NameTable$QualifiedName;" (.ref nm) := f22_F.other W51 (Or.inl ne_a_sr)
  have f58_F : Fld Z h51 a "com/example/weaverbird/weaverbird/model/xml/Attributes" "starts" "[I" (.ref sr) := f23_F.other W51 (Or.inl ne_a_sr)
  have f59_F : Fld Z h51 a "com/example/weaverbird/weaverbird/model/xml/Attributes" "lengths" "[I" (.ref ln) := f24_F.other W51 (Or.inl ne_a_sr)
  have f60_F : Fld Z h51 a "com/example/weaverbird/weaverbird/model/xml/Attributes" "namespaces" "[Ljava/lang/String;" (.ref ns) := f25_F.other W51 (Or.inl ne_a_sr)
  have f61_F : Fld Z h51 a "com/example/weaverbird/weaverbird/model/xml/Attributes" "declarations" "[Z" (.ref dc) := f26_F.other W51 (Or.inl ne_a_sr)
  have f62_F : Fld Z h51 a "com/example/weaverbird/weaverbird/model/xml/Attributes" "strings" "[Ljava/lang/String;" (.ref sg) := f27_F.other W51 (Or.inl ne_a_sr)
  have f63_F : Fld Z h51 a "com/example/weaverbird/weaverbird/model/xml/Attributes" "values" "[C" (.ref vl) := f28_F.other W51 (Or.inl ne_a_sr)
  have f64_A : own_Af Z h51 nm (.object "com/example/weaverbird/weaverbird/model/xml/NameTable$QualifiedName") 8 (own_up fnm ct.toNatClampNeg .null) := f40_A.other W51 ne_nm_sr
  have f65_A : own_Af Z h51 ns (.object "java/lang/String") 8 fns := f29_A.other W51 (Ne.symm ne_sr_ns)
  have f66_A : own_Af Z h51 sg (.object "java/lang/String") 8 fg := f30_A.other W51 (Ne.symm ne_sr_sg)
  have f67_A : own_Af Z h51 dc .boolean 8 fdc := f31_A.other W51 (Ne.symm ne_sr_dc)
  have f68_A : own_Af Z h51 ln .int 8 (fun j => .int (fl j)) := f33_A.other W51 (Ne.symm ne_sr_ln)
  have f69_A : own_Af Z h51 vl .char 256 (fun j => .int (g j)) := f34_A.other W51 (Ne.symm ne_sr_vl)
  have f70_B : own_Ov Z h51 ns "java/lang/String" := f35_B.wr W51
  have f71_B : own_Ov Z h51 sg "java/lang/String" := f36_B.wr W51
  have Z72 : n0 ≤ h51.size := Nat.le_trans Z37 (Keep.of_wr W51).1
  have K73 : Keep h0 h51 [a, nm, sr, ln, ns, dc] := K38.wr W51 (Or.inl (List.mem_of_getElem? (i := 2) rfl))
  have C74 : CHr Z own_EL s.vm h0 s.vm h51 := C39.trans (CHr.wr W51 (own_sfA hZ.alike f32_A (fun q => nomatch q)) C39.1)
  have f75_A : own_Af Z h51 sr .int 8 (own_up (fun j => .int (fs j)) ct.toNatClampNeg (.int vn)) := own_Af.set Ar50 S50 M50 H50 W51
  have f76_A : own_Af Z h51 sr .int 8 (fun j => .int ((own_upi fs K vn) j)) := own_upA f75_A (own_up_eq rfl (own_nat hct) rfl)
  have pre77 : ∀ t, own_s p e below T51 m 124 #[rv a, .val .null, .unset] [(.ref a)] t → Steps p.tables e below S0 t := by
    intro tX kX
    refine pre52 _ ?_
    show own_s p e below T51 m 123 #[rv a, .val .null, .unset] [] _
    refine XS.aloadN X53.here hx rfl (hb hby d40_123) rfl rfl ?_
    exact kX
  obtain ⟨T78, X78, e78, st78⟩ := getF X53 hx hZ hown (host := "") (Or.inl (hw _ (List.mem_of_getElem? (i := 25) rfl))) Via.refl e51 f59_F (g := (mkF m 124 #[rv a, .val .null, .unset] [(.ref a)])) rfl rfl (hb hby d40_124)
  have pre79 : ∀ t, own_s p e below T78 m 127 #[rv a, .val .null, .unset] [(.ref ln)] t → Steps p.tables e below S0 t := fun tX kX => pre77 _ (st78 _ kX)
  have pre80 : ∀ t, own_s p e below T78 m 128 #[rv a, .val .null, .unset] [(.ref a), (.ref ln)] t → Steps p.tables e below S0 t := by
    intro tX kX
    refine pre79 _ ?_
    show own_s p e below T78 m 127 #[rv a, .val .null, .unset] [(.ref ln)] _
    refine XS.aloadN X78.here hx rfl (hb hby d40_127) rfl rfl ?_
    exact kX
  obtain ⟨T81, X81, e81, st81⟩ := getF X78 hx hZ hown (host := "") (Or.inl (hw _ (List.mem_of_getElem? (i := 45) rfl))) Via.refl e78 f55_F (g := (mkF m 128 #[rv a, .val .null, .unset] [(.ref a), (.ref ln)])) rfl rfl (hb hby d40_128)
  have pre82 : ∀ t, own_s p e below T81 m 131 #[rv a, .val .null, .unset] [(.int ct), (.ref ln)] t → Steps p.tables e below S0 t := fun tX kX => pre80 _ (st81 _ kX)
  have pre83 : ∀ t, own_s p e below T81 m 132 #[rv a, .val .null, .unset] [(.int (0 : Int32)), (.int ct), (.ref ln)] t → Steps p.tables e below S0 t := by
    intro tX kX
    refine pre82 _ ?_
    show own_s p e below T81 m 131 #[rv a, .val .null, .unset] [(.int ct), (.ref ln)] _
    refine XS.iconst X81.here hx rfl (hb hby d40_131) ?_
    exact kX
  obtain ⟨cl84, Ar84, S84, M84, H84⟩ := id f68_A
  obtain ⟨T85, h85, X85, e85, W85, st85⟩ := stI X81 hx hZ e81 Ar84 (j := ct) (own_inb S84 M84 (own_idx (by omega) (by omega))) (g := (mkF m 132 #[rv a, .val .null, .unset] [(.int (0 : Int32)), (.int ct), (.ref ln)])) rfl rfl (hb hby d40_132)
  have pre86 : ∀ t, own_s p e below T85 m 133 #[rv a, .val .null, .unset] [] t → Steps p.tables e below S0 t := fun tX kX => pre83 _ (st85 _ kX)
  obtain ⟨LL87, X87, N87⟩ : ∃ LL, Stand p l e ({ frames := 0, cells := 2, slots := 4, locals := 0 } : Room) s m #[(.ref a), .null] below meth c T85 LL 0 0 ∧ Fr n0 LL := ⟨_, X85, Fr.snoc X85 N53 g_ln⟩
  have f88_E : Exa Z h85 a "com/example/weaverbird/weaverbird/model/xml/Attributes" := f54_E.wr W85
  have f89_F : Fld Z h85 a "com/example/weaverbird/weaverbird/model/xml/Attributes" "count" "I" (.int ct) := f55_F.other W85 (Or.inl ne_a_ln)
  have f90_F : Fld Z h85 a "com/example/weaverbird/weaverbird/model/xml/Attributes" "valuesLength" "I" (.int vn) := f56_F.other W85 (Or.inl ne_a_ln)
  have f91_F : Fld Z h85 a "com/example/weaverbird/weaverbird/model/xml/Attributes" "names" "[Lcom/example/weaverbird/weaverbird/model/xml/NameTable$QualifiedName;" (.ref nm) := f57_F.other W85 (Or.inl ne_a_ln)
  have f92_F : Fld Z h85 a "com/example/weaverbird/weaverbird/model/xml/Attributes" "starts" "[I" (.ref sr) := f58_F.other W85 (Or.inl ne_a_ln)
  have f93_F : Fld Z h85 a "com/example/weaverbird/weaverbird/model/xml/Attributes" "lengths" "[I" (.ref ln) := f59_F.other W85 (Or.inl ne_a_ln)
  have f94_F : Fld Z h85 a "com/example/weaverbird/weaverbird/model/xml/Attributes" "namespaces" "[Ljava/lang/String;" (.ref ns) := f60_F.other W85 (Or.inl ne_a_ln)
  have f95_F : Fld Z h85 a "com/example/weaverbird/weaverbird/model/xml/Attributes" "declarations" "[Z" (.ref dc) := f61_F.other W85 (Or.inl ne_a_ln)
  have f96_F : Fld Z h85 a "com/example/weaverbird/weaverbird/model/xml/Attributes" "strings" "[Ljava/lang/String;" (.ref sg) := f62_F.other W85 (Or.inl ne_a_ln)
  have f97_F : Fld Z h85 a "com/example/weaverbird/weaverbird/model/xml/Attributes" "values" "[C" (.ref vl) := f63_F.other W85 (Or.inl ne_a_ln)
  have f98_A : own_Af Z h85 nm (.object "com/example/weaverbird/weaverbird/model/xml/NameTable$QualifiedName") 8 (own_up fnm ct.toNatClampNeg .null) := f64_A.other W85 ne_nm_ln
  have f99_A : own_Af Z h85 ns (.object "java/lang/String") 8 fns := f65_A.other W85 (Ne.symm ne_ln_ns)
  have f100_A : own_Af Z h85 sg (.object "java/lang/String") 8 fg := f66_A.other W85 (Ne.symm ne_ln_sg)
  have f101_A : own_Af Z h85 dc .boolean 8 fdc := f67_A.other W85 (Ne.symm ne_ln_dc)
  have f102_A : own_Af Z h85 sr .int 8 (fun j => .int ((own_upi fs K vn) j)) := f76_A.other W85 ne_sr_ln
  have f103_A : own_Af Z h85 vl .char 256 (fun j => .int (g j)) := f69_A.other W85 (Ne.symm ne_ln_vl)
  have f104_B : own_Ov Z h85 ns "java/lang/String" := f70_B.wr W85
  have f105_B : own_Ov Z h85 sg "java/lang/String" := f71_B.wr W85
  have Z106 : n0 ≤ h85.size := Nat.le_trans Z72 (Keep.of_wr W85).1
  have K107 : Keep h0 h85 [a, nm, sr, ln, ns, dc] := K73.wr W85 (Or.inl (List.mem_of_getElem? (i := 3) rfl))
  have C108 : CHr Z own_EL s.vm h0 s.vm h85 := C74.trans (CHr.wr W85 (own_sfA hZ.alike f68_A (fun q => nomatch q)) C74.1)
  have f109_A : own_Af Z h85 ln .int 8 (own_up (fun j => .int (fl j)) ct.toNatClampNeg (.int (0 : Int32))) := own_Af.set Ar84 S84 M84 H84 W85
  have f110_A : own_Af Z h85 ln .int 8 (fun j => .int ((own_upi fl K (0 : Int32)) j)) := own_upA f109_A (own_up_eq rfl (own_nat hct) rfl)
  have pre111 : ∀ t, own_s p e below T85 m 134 #[rv a, .val .null, .unset] [(.ref a)] t → Steps p.tables e below S0 t := by
    intro tX kX
    refine pre86 _ ?_
    show own_s p e below T85 m 133 #[rv a, .val .null, .unset] [] _
    refine XS.aloadN X87.here hx rfl (hb hby d40_133) rfl rfl ?_
    exact kX
  obtain ⟨T112, X112, e112, st112⟩ := getF X87 hx hZ hown (host := "") (Or.inl (hw _ (List.mem_of_getElem? (i := 29) rfl))) Via.refl e85 f94_F (g := (mkF m 134 #[rv a, .val .null, .unset] [(.ref a)])) rfl rfl (hb hby d40_134)
  have pre113 : ∀ t, own_s p e below T112 m 137 #[rv a, .val .null, .unset] [(.ref ns)] t → Steps p.tables e below S0 t := fun tX kX => pre111 _ (st112 _ kX)
  have pre114 : ∀ t, own_s p e below T112 m 138 #[rv a, .val .null, .unset] [(.ref a), (.ref ns)] t → Steps p.tables e below S0 t := by
    intro tX kX
    refine pre113 _ ?_
    show own_s p e below T112 m 137 #[rv a, .val .null, .unset] [(.ref ns)] _
    refine XS.aloadN X112.here hx rfl (hb hby d40_137) rfl rfl ?_
    exact kX
  obtain ⟨T115, X115, e115, st115⟩ := getF X112 hx hZ hown (host := "") (Or.inl (hw _ (List.mem_of_getElem? (i := 45) rfl))) Via.refl e112 f89_F (g := (mkF m 138 #[rv a, .val .null, .unset] [(.ref a), (.ref ns)])) rfl rfl (hb hby d40_138)
  have pre116 : ∀ t, own_s p e below T115 m 141 #[rv a, .val .null, .unset] [(.int ct), (.ref ns)] t → Steps p.tables e below S0 t := fun tX kX => pre114 _ (st115 _ kX)
  obtain ⟨sa117, T117, h117, k117, sb117, kb117, X117, e117, E117, hS, hk117, hZ, hown, sE117, sC117, sV117, sA117, -, -, Cq117, Lt117, Sf117, st117⟩ := ldcCH (s := s) (vm0 := s.vm) X115 hx hZ hown (hw _ (List.mem_of_getElem? (i := 49) rfl)) (own_wS hw) e115 hS (Nat.zero_le _) hEL (List.mem_of_getElem? (i := 0) rfl) C108.1 (vs := []) (z := (0 : Int32)) ⟨by decide, rfl⟩ (by decide) rfl (g := (mkF m 141 #[rv a, .val .null, .unset] [(.int ct), (.ref ns)])) rfl (hb hby d40_141) (n := 0) (by decide) (by decide) (by decide) (by decide)
  have pre118 : ∀ t, own_s p e below T117 m 143 #[rv a, .val .null, .unset] [(.ref sa117), (.int ct), (.ref ns)] t → Steps p.tables e below S0 t := fun tX kX => pre116 _ (st117 _ kX)
  have f119_E : Exa Z h117 a "com/example/weaverbird/weaverbird/model/xml/Attributes" := f88_E.ext E117
  have f120_F : Fld Z h117 a "com/example/weaverbird/weaverbird/model/xml/Attributes" "count" "I" (.int ct) := f89_F.ext E117
  have f121_F : Fld Z h117 a "com/example/weaverbird/weaverbird/model/xml/Attributes" "valuesLength" "I" (.int vn) := f90_F.ext E117
  have f122_F : Fld Z h117 a "com/example/weaverbird/weaverbird/model/xml/Attributes" "names" "[Lcom/example/weaverbird/weaverbird/model/xml/NameTable$QualifiedName;" (.ref nm) := f91_F.ext E117
  have f123_F : Fld Z h117 a "com/example/weaverbird/weaverbird/model/xml/Attributes" "starts" "[I" (.ref sr) := f92_F.ext E117
  have f124_F : Fld Z h117 a "com/example/weaverbird/weaverbird/model/xml/Attributes" "lengths" "[I" (.ref ln) := f93_F.ext E117
  have f125_F : Fld Z h117 a "com/example/weaverbird/weaverbird/model/xml/Attributes" "namespaces" "[Ljava/lang/String;" (.ref ns) := f94_F.ext E117
  have f126_F : Fld Z h117 a "com/example/weaverbird/weaverbird/model/xml/Attributes" "declarations" "[Z" (.ref dc) := f95_F.ext E117
  have f127_F : Fld Z h117 a "com/example/weaverbird/weaverbird/model/xml/Attributes" "strings" "[Ljava/lang/String;" (.ref sg) := f96_F.ext E117
  have f128_F : Fld Z h117 a "com/example/weaverbird/weaverbird/model/xml/Attributes" "values" "[C" (.ref vl) := f97_F.ext E117
  have f129_A : own_Af Z h117 nm (.object "com/example/weaverbird/weaverbird/model/xml/NameTable$QualifiedName") 8 (own_up fnm ct.toNatClampNeg .null) := f98_A.ext E117
  have f130_A : own_Af Z h117 ns (.object "java/lang/String") 8 fns := f99_A.ext E117
  have f131_A : own_Af Z h117 sg (.object "java/lang/String") 8 fg := f100_A.ext E117
  have f132_A : own_Af Z h117 dc .boolean 8 fdc := f101_A.ext E117
  have f133_A : own_Af Z h117 sr .int 8 (fun j => .int ((own_upi fs K vn) j)) := f102_A.ext E117
  have f134_A : own_Af Z h117 ln .int 8 (fun j => .int ((own_upi fl K (0 : Int32)) j)) := f110_A.ext E117
  have f135_A : own_Af Z h117 vl .char 256 (fun j => .int (g j)) := f103_A.ext E117
  have f136_B : own_Ov Z h117 ns "java/lang/String" := f104_B.ext E117
  have f137_B : own_Ov Z h117 sg "java/lang/String" := f105_B.ext E117
  have Z138 : n0 ≤ h117.size := Nat.le_trans Z106 E117.1
  have K139 : Keep h0 h117 [a, nm, sr, ln, ns, dc] := K107.ext E117
  have C140 : CHr Z own_EL s.vm h0 T117.vm h117 := C108.trans Cq117
  have f141_E : Exa Z h117 sa117 "java/lang/String" := sE117
  obtain ⟨cl142, Ar142, S142, M142, H142⟩ := id f130_A
  obtain ⟨T143, h143, X143, e143, W143, st143⟩ := Jvm.RoadKit.stR X117 hx hZ e117 Ar142 (j := ct) (own_inb S142 M142 (own_idx (by omega) (by omega))) rfl (own_sto Ar142 f136_B (Ins.self f141_E)) (g := (mkF m 143 #[rv a, .val .null, .unset] [(.ref sa117), (.int ct), (.ref ns)])) rfl rfl (hb hby d40_143)
  have pre144 : ∀ t, own_s p e below T143 m 144 #[rv a, .val .null, .unset] [] t → Steps p.tables e below S0 t := fun tX kX => pre118 _ (st143 _ kX)
  obtain ⟨LL145, X145, N145⟩ : ∃ LL, Stand p l e ({ frames := 0, cells := 2, slots := 4, locals := 0 } : Room) (s.setVm T117.vm) m #[(.ref a), .null] below meth c T143 LL 2 4 ∧ Fr n0 LL := ⟨_, X143, Fr.snoc X143 N87 g_ns⟩
  have f146_E : Exa Z h143 a "com/example/weaverbird/weaverbird/model/xml/Attributes" := f119_E.wr W143
  have f147_F : Fld Z h143 a "com/example/weaverbird/weaverbird/model/xml/Attributes" "count" "I" (.int ct) := f120_F.other W143 (Or.inl ne_a_ns)
  have f148_F : Fld Z h143 a "com/example/weaverbird/weaverbird/model/xml/Attributes" "valuesLength" "I" (.int vn) := f121_F.other W143 (Or.inl ne_a_ns)
  have f149_F : Fld Z h143 a "com/example/weaverbird/weaverbird/model/xml/Attributes" "names" "[Lcom/example/weaverbird/weaverbird/model/xml/NameTable$QualifiedName;" (.ref nm) := f122_F.other W143 (Or.inl ne_a_ns)
  have f150_F : Fld Z h143 a "com/example/weaverbird/weaverbird/model/xml/Attributes" "starts" "[I" (.ref sr) := f123_F.other W143 (Or.inl ne_a_ns)
  have f151_F : Fld Z h143 a "com/example/weaverbird/weaverbird/model/xml/Attributes" "lengths" "[I" (.ref ln) := f124_F.other W143 (Or.inl ne_a_ns)
  have f152_F : Fld Z h143 a "com/example/weaverbird/weaverbird/model/xml/Attributes" "namespaces" "[Ljava/lang/String;" (.ref ns) := f125_F.other W143 (Or.inl ne_a_ns)
  have f153_F : Fld Z h143 a "com/example/weaverbird/weaverbird/model/xml/Attributes" "declarations" "[Z" (.ref dc) := f126_F.other W143 (Or.inl ne_a_ns)
  have f154_F : Fld Z h143 a "com/example/weaverbird/weaverbird/model/xml/Attributes" "strings" "[Ljava/lang/String;" (.ref sg) := f127_F.other W143 (Or.inl ne_a_ns)
  have f155_F : Fld Z h143 a "com/example/weaverbird/weaverbird/model/xml/Attributes" "values" "[C" (.ref vl) := f128_F.other W143 (Or.inl ne_a_ns)
  have f156_A : own_Af Z h143 nm (.object "com/example/weaverbird/weaverbird/model/xml/NameTable$QualifiedName") 8 (own_up fnm ct.toNatClampNeg .null) := f129_A.other W143 ne_nm_ns
  have f157_A : own_Af Z h143 sg (.object "java/lang/String") 8 fg := f131_A.other W143 (Ne.symm ne_ns_sg)
  have f158_A : own_Af Z h143 dc .boolean 8 fdc := f132_A.other W143 (Ne.symm ne_ns_dc)
  have f159_A : own_Af Z h143 sr .int 8 (fun j => .int ((own_upi fs K vn) j)) := f133_A.other W143 ne_sr_ns
  have f160_A : own_Af Z h143 ln .int 8 (fun j => .int ((own_upi fl K (0 : Int32)) j)) := f134_A.other W143 ne_ln_ns
  have f161_A : own_Af Z h143 vl .char 256 (fun j => .int (g j)) := f135_A.other W143 (Ne.symm ne_ns_vl)
  have f162_B : own_Ov Z h143 ns "java/lang/String" := f136_B.wr W143
  have f163_B : own_Ov Z h143 sg "java/lang/String" := f137_B.wr W143
  have f164_E : Exa Z h143 sa117 "java/lang/String" := f141_E.wr W143
  have Z165 : n0 ≤ h143.size := Nat.le_trans Z138 (Keep.of_wr W143).1
  have K166 : Keep h0 h143 [a, nm, sr, ln, ns, dc] := K139.wr W143 (Or.inl (List.mem_of_getElem? (i := 4) rfl))
  have hk167 : k117 ≤ h143.size := Nat.le_trans hk117 (Keep.of_wr W143).1
  have C168 : CHr Z own_EL s.vm h0 T117.vm h143 := C140.trans (CHr.wr W143 (own_sfA hZ.alike f130_A (fun q => nomatch q)) C140.1)
  have f169_A : own_Af Z h143 ns (.object "java/lang/String") 8 (own_up fns ct.toNatClampNeg (.ref sa117)) := own_Af.set Ar142 S142 M142 H142 W143
  have pre170 : ∀ t, own_s p e below T143 m 145 #[rv a, .val .null, .unset] [(.ref a)] t → Steps p.tables e below S0 t := by
    intro tX kX
    refine pre144 _ ?_
    show own_s p e below T143 m 144 #[rv a, .val .null, .unset] [] _
    refine XS.aloadN X145.here hx rfl (hb hby d40_144) rfl rfl ?_
    exact kX
  obtain ⟨T171, X171, e171, st171⟩ := getF X145 hx hZ hown (host := "") (Or.inl (hw _ (List.mem_of_getElem? (i := 32) rfl))) Via.refl e143 f153_F (g := (mkF m 145 #[rv a, .val .null, .unset] [(.ref a)])) rfl rfl (hb hby d40_145)
  have pre172 : ∀ t, own_s p e below T171 m 148 #[rv a, .val .null, .unset] [(.ref dc)] t → Steps p.tables e below S0 t := fun tX kX => pre170 _ (st171 _ kX)
  have pre173 : ∀ t, own_s p e below T171 m 149 #[rv a, .val .null, .unset] [(.ref a), (.ref dc)] t → Steps p.tables e below S0 t := by
    intro tX kX
    refine pre172 _ ?_
    show own_s p e below T171 m 148 #[rv a, .val .null, .unset] [(.ref dc)] _
    refine XS.aloadN X171.here hx rfl (hb hby d40_148) rfl rfl ?_
    exact kX
  obtain ⟨T174, X174, e174, st174⟩ := getF X171 hx hZ hown (host := "") (Or.inl (hw _ (List.mem_of_getElem? (i := 45) rfl))) Via.refl e171 f147_F (g := (mkF m 149 #[rv a, .val .null, .unset] [(.ref a), (.ref dc)])) rfl rfl (hb hby d40_149)
  have pre175 : ∀ t, own_s p e below T174 m 152 #[rv a, .val .null, .unset] [(.int ct), (.ref dc)] t → Steps p.tables e below S0 t := fun tX kX => pre173 _ (st174 _ kX)
  have pre176 : ∀ t, own_s p e below T174 m 153 #[rv a, .val .null, .unset] [(.int (0 : Int32)), (.int ct), (.ref dc)] t → Steps p.tables e below S0 t := by
    intro tX kX
    refine pre175 _ ?_
    show own_s p e below T174 m 152 #[rv a, .val .null, .unset] [(.int ct), (.ref dc)] _
    refine XS.iconst X174.here hx rfl (hb hby d40_152) ?_
    exact kX
  obtain ⟨cl177, Ar177, S177, M177, H177⟩ := id f158_A
  obtain ⟨T178, h178, X178, e178, W178, st178⟩ := stZ X174 hx hZ e174 Ar177 (j := ct) (own_inb S177 M177 (own_idx (by omega) (by omega))) (g := (mkF m 153 #[rv a, .val .null, .unset] [(.int (0 : Int32)), (.int ct), (.ref dc)])) rfl rfl (hb hby d40_153)
  have pre179 : ∀ t, own_s p e below T178 m 154 #[rv a, .val .null, .unset] [] t → Steps p.tables e below S0 t := fun tX kX => pre176 _ (st178 _ kX)
  obtain ⟨LL180, X180, N180⟩ : ∃ LL, Stand p l e ({ frames := 0, cells := 2, slots := 4, locals := 0 } : Room) (s.setVm T117.vm) m #[(.ref a), .null] below meth c T178 LL 2 4 ∧ Fr n0 LL := ⟨_, X178, Fr.snoc X178 N145 g_dc⟩
  have f181_E : Exa Z h178 a "com/example/weaverbird/weaverbird/model/xml/Attributes" := f146_E.wr W178
  have f182_F : Fld Z h178 a "com/example/weaverbird/weaverbird/model/xml/Attributes" "count" "I" (.int ct) := f147_F.other W178 (Or.inl ne_a_dc)
  have f183_F : Fld Z h178 a "com/example/weaverbird/weaverbird/model/xml/Attributes" "valuesLength" "I" (.int vn) := f148_F.other W178 (Or.inl ne_a_dc)
  have f184_F : Fld Z h178 a "com/example/weaverbird/weaverbird/model/xml/Attributes" "names" "[Lcom/example/weaverbird/weaverbird/model/xml/NameTable$QualifiedName;" (.ref nm) := f149_F.other W178 (Or.inl ne_a_dc)
  have f185_F : Fld Z h178 a "com/example/weaverbird/weaverbird/model/xml/Attributes" "starts" "[I" (.ref sr) := f150_F.other W178 (Or.inl ne_a_dc)
  have f186_F : Fld Z h178 a "com/example/weaverbird/weaverbird/model/xml/Attributes" "lengths" "[I" (.ref ln) := f151_F.other W178 (Or.inl ne_a_dc)
  have f187_F : Fld Z h178 a "com/example/weaverbird/weaverbird/model/xml/Attributes" "namespaces" "[Ljava/lang/String;" (.ref ns) := f152_F.other W178 (Or.inl ne_a_dc)
  have f188_F : Fld Z h178 a "com/example/weaverbird/weaverbird/model/xml/Attributes" "declarations" "[Z" (.ref dc) := f153_F.other W178 (Or.inl ne_a_dc)
  have f189_F : Fld Z h178 a "com/example/weaverbird/weaverbird/model/xml/Attributes" "strings" "[Ljava/lang/String;" (.ref sg) := f154_F.other W178 (Or.inl ne_a_dc)
  have f190_F : Fld Z h178 a "com/example/weaverbird/weaverbird/model/xml/Attributes" "values" "[C" (.ref vl) := f155_F.other W178 (Or.inl ne_a_dc)
  have f191_A : own_Af Z h178 nm (.object "com/example/weaverbird/weaverbird/model/xml/NameTable$QualifiedName") 8 (own_up fnm ct.toNatClampNeg .null) := f156_A.other W178 ne_nm_dc
  have f192_A : own_Af Z h178 ns (.object "java/lang/String") 8 (own_up fns ct.toNatClampNeg (.ref sa117)) := f169_A.other W178 ne_ns_dc
  have f193_A : own_Af Z h178 sg (.object "java/lang/String") 8 fg := f157_A.other W178 (Ne.symm ne_dc_sg)
  have f194_A : own_Af Z h178 sr .int 8 (fun j => .int ((own_upi fs K vn) j)) := f159_A.other W178 ne_sr_dc
  have f195_A : own_Af Z h178 ln .int 8 (fun j => .int ((own_upi fl K (0 : Int32)) j)) := f160_A.other W178 ne_ln_dc
  have f196_A : own_Af Z h178 vl .char 256 (fun j => .int (g j)) := f161_A.other W178 (Ne.symm ne_dc_vl)
  have f197_B : own_Ov Z h178 ns "java/lang/String" := f162_B.wr W178
  have f198_B : own_Ov Z h178 sg "java/lang/String" := f163_B.wr W178
  have f199_E : Exa Z h178 sa117 "java/lang/String" := f164_E.wr W178
  have Z200 : n0 ≤ h178.size := Nat.le_trans Z165 (Keep.of_wr W178).1
  have K201 : Keep h0 h178 [a, nm, sr, ln, ns, dc] := K166.wr W178 (Or.inl (List.mem_of_getElem? (i := 5) rfl))
  have hk202 : k117 ≤ h178.size := Nat.le_trans hk167 (Keep.of_wr W178).1
  have C203 : CHr Z own_EL s.vm h0 T117.vm h178 := C168.trans (CHr.wr W178 (own_sfA hZ.alike f158_A (fun q => nomatch q)) C168.1)
  have f204_A : own_Af Z h178 dc .boolean 8 (own_up fdc ct.toNatClampNeg (.int (nar .boolean (0 : Int32)))) := own_Af.set Ar177 S177 M177 H177 W178
  have pre205 : ∀ t, own_s p e below T178 m 156 #[rv a, .val .null, .unset] [(.ref a), (.ref a)] t → Steps p.tables e below S0 t := by
    intro tX kX
    refine pre179 _ ?_
    show own_s p e below T178 m 154 #[rv a, .val .null, .unset] [] _
    refine XS.aloadN X180.here hx rfl (hb hby d40_154) rfl rfl ?_
    refine XS.dup X180.here hx rfl (hb hby d40_155) rfl rfl ?_
    exact kX
  obtain ⟨T206, X206, e206, st206⟩ := getF X180 hx hZ hown (host := "") (Or.inl (hw _ (List.mem_of_getElem? (i := 45) rfl))) Via.refl e178 f182_F (g := (mkF m 156 #[rv a, .val .null, .unset] [(.ref a), (.ref a)])) rfl rfl (hb hby d40_156)
  have pre207 : ∀ t, own_s p e below T206 m 159 #[rv a, .val .null, .unset] [(.int ct), (.ref a)] t → Steps p.tables e below S0 t := fun tX kX => pre205 _ (st206 _ kX)
  have pre208 : ∀ t, own_s p e below T206 m 161 #[rv a, .val .null, .unset] [(.int (ct + (1 : Int32))), (.ref a)] t → Steps p.tables e below S0 t := by
    intro tX kX
    refine pre207 _ ?_
    show own_s p e below T206 m 159 #[rv a, .val .null, .unset] [(.int ct), (.ref a)] _
    refine XS.iconst X206.here hx rfl (hb hby d40_159) ?_
    refine XS.iadd X206.here hx rfl (hb hby d40_160) rfl ?_
    exact kX
  obtain ⟨cq, hcq⟩ : ∃ z : Int32, z = (ct + (1 : Int32)) := ⟨_, rfl⟩
  rw [← hcq] at pre208
  have icq : cq.toInt = ((K + 1 : Nat) : Int) := by rw [hcq]; exact own_addN hct rfl (by omega)
  obtain ⟨T209, h209, X209, e209, W209, st209⟩ := putF X206 hx hZ hown (host := "") (Or.inl (hw _ (List.mem_of_getElem? (i := 45) rfl))) Via.refl e206 f182_F f181_E (Or.inl (hw _ (List.mem_of_getElem? (i := 46) rfl))) (hw _ (List.mem_of_getElem? (i := 10) rfl)) (ty := .int) (by decide) rfl rfl (g := (mkF m 161 #[rv a, .val .null, .unset] [(.int cq), (.ref a)])) rfl rfl (hb hby d40_161)
  have pre210 : ∀ t, own_s p e below T209 m 164 #[rv a, .val .null, .unset] [] t → Steps p.tables e below S0 t := fun tX kX => pre208 _ (st209 _ kX)
  obtain ⟨LL211, X211, N211⟩ : ∃ LL, Stand p l e ({ frames := 0, cells := 2, slots := 4, locals := 0 } : Room) (s.setVm T117.vm) m #[(.ref a), .null] below meth c T209 LL 2 4 ∧ Fr n0 LL := ⟨_, X209, Fr.snoc X209 N180 g_a⟩
  have f212_E : Exa Z h209 a "com/example/weaverbird/weaverbird/model/xml/Attributes" := f181_E.wr W209
  have f213_F : Fld Z h209 a "com/example/weaverbird/weaverbird/model/xml/Attributes" "valuesLength" "I" (.int vn) := f183_F.other W209 (Or.inr (slot_ne (Or.inl (hw _ (List.mem_of_getElem? (i := 48) rfl))) (Or.inl (hw _ (List.mem_of_getElem? (i := 46) rfl))) (by decide) (t := .int) (t' := .int) (by decide) (by decide)))
  have f214_F : Fld Z h209 a "com/example/weaverbird/weaverbird/model/xml/Attributes" "names" "[Lcom/example/weaverbird/weaverbird/model/xml/NameTable$QualifiedName;" (.ref nm) := f184_F.other W209 (Or.inr (slot_ne (Or.inl (hw _ (List.mem_of_getElem? (i := 21) rfl))) (Or.inl (hw _ (List.mem_of_getElem? (i := 46) rfl))) (by decide) (t := (.array (.object "com/example/weaverbird/weaverbird/model/xml/NameTable$QualifiedName"))) (t' := .int) (by decide) (by decide)))
  have f215_F : Fld Z h209 a "com/example/weaverbird/weaverbird/model/xml/Attributes" "starts" "[I" (.ref sr) := f185_F.other W209 (Or.inr (slot_ne (Or.inl (hw _ (List.mem_of_getElem? (i := 24) rfl))) (Or.inl (hw _ (List.mem_of_getElem? (i := 46) rfl))) (by decide) (t := (.array .int)) (t' := .int) (by decide) (by decide)))
  have f216_F : Fld Z h209 a "com/example/weaverbird/weaverbird/model/xml/Attributes" "lengths" "[I" (.ref ln) := f186_F.other W209 (Or.inr (slot_ne (Or.inl (hw _ (List.mem_of_getElem? (i := 26) rfl))) (Or.inl (hw _ (List.mem_of_getElem? (i := 46) rfl))) (by decide) (t := (.array .int)) (t' := .int) (by decide) (by decide)))
  have f217_F : Fld Z h209 a "com/example/weaverbird/weaverbird/model/xml/Attributes" "namespaces" "[Ljava/lang/String;" (.ref ns) := f187_F.other W209 (Or.inr (slot_ne (Or.inl (hw _ (List.mem_of_getElem? (i := 30) rfl))) (Or.inl (hw _ (List.mem_of_getElem? (i := 46) rfl))) (by decide) (t := (.array (.object "java/lang/String"))) (t' := .int) (by decide) (by decide)))
  have f218_F : Fld Z h209 a "com/example/weaverbird/weaverbird/model/xml/Attributes" "declarations" "[Z" (.ref dc) := f188_F.other W209 (Or.inr (slot_ne (Or.inl (hw _ (List.mem_of_getElem? (i := 33) rfl))) (Or.inl (hw _ (List.mem_of_getElem? (i := 46) rfl))) (by decide) (t := (.array .boolean)) (t' := .int) (by decide) (by decide)))
  have f219_F : Fld Z h209 a "com/example/weaverbird/weaverbird/model/xml/Attributes" "strings" "[Ljava/lang/String;" (.ref sg) := f189_F.other W209 (Or.inr (slot_ne (Or.inl (hw _ (List.mem_of_getElem? (i := 35) rfl))) (Or.inl (hw _ (List.mem_of_getElem? (i := 46) rfl))) (by decide) (t := (.array (.object "java/lang/String"))) (t' := .int) (by decide) (by decide)))
  have f220_F : Fld Z h209 a "com/example/weaverbird/weaverbird/model/xml/Attributes" "values" "[C" (.ref vl) := f190_F.other W209 (Or.inr (slot_ne (Or.inl (hw _ (List.mem_of_getElem? (i := 37) rfl))) (Or.inl (hw _ (List.mem_of_getElem? (i := 46) rfl))) (by decide) (t := (.array .char)) (t' := .int) (by decide) (by decide)))
  have f221_A : own_Af Z h209 nm (.object "com/example/weaverbird/weaverbird/model/xml/NameTable$QualifiedName") 8 (own_up fnm ct.toNatClampNeg .null) := f191_A.other W209 (Ne.symm ne_a_nm)
  have f222_A : own_Af Z h209 ns (.object "java/lang/String") 8 (own_up fns ct.toNatClampNeg (.ref sa117)) := f192_A.other W209 (Ne.symm ne_a_ns)
  have f223_A : own_Af Z h209 sg (.object "java/lang/String") 8 fg := f193_A.other W209 (Ne.symm ne_a_sg)
  have f224_A : own_Af Z h209 dc .boolean 8 (own_up fdc ct.toNatClampNeg (.int (nar .boolean (0 : Int32)))) := f204_A.other W209 (Ne.symm ne_a_dc)
  have f225_A : own_Af Z h209 sr .int 8 (fun j => .int ((own_upi fs K vn) j)) := f194_A.other W209 (Ne.symm ne_a_sr)
  have f226_A : own_Af Z h209 ln .int 8 (fun j => .int ((own_upi fl K (0 : Int32)) j)) := f195_A.other W209 (Ne.symm ne_a_ln)
  have f227_A : own_Af Z h209 vl .char 256 (fun j => .int (g j)) := f196_A.other W209 (Ne.symm ne_a_vl)
  have f228_B : own_Ov Z h209 ns "java/lang/String" := f197_B.wr W209
  have f229_B : own_Ov Z h209 sg "java/lang/String" := f198_B.wr W209
  have f230_E : Exa Z h209 sa117 "java/lang/String" := f199_E.wr W209
  have Z231 : n0 ≤ h209.size := Nat.le_trans Z200 (Keep.of_wr W209).1
  have K232 : Keep h0 h209 [a, nm, sr, ln, ns, dc] := K201.wr W209 (Or.inl (List.mem_of_getElem? (i := 0) rfl))
  have hk233 : k117 ≤ h209.size := Nat.le_trans hk202 (Keep.of_wr W209).1
  have C234 : CHr Z own_EL s.vm h0 T117.vm h209 := C203.trans (CHr.wr W209 (Safe.exa hZ.alike f181_E (by decide) (by decide)) C203.1)
  have f235_F : Fld Z h209 a "com/example/weaverbird/weaverbird/model/xml/Attributes" "count" "I" (.int cq) := f182_F.same W209
  have Xe := X211.mono (cells' := 2) (slots' := 4) (by decide) (by decide)
  subst hS0
  obtain ⟨fsX, hr, hrun, hended, hend⟩ := Xe.leaveW hS (by rw [e209]; exact hk233) (v := none) (fun _ => rfl)
  refine ⟨_, _, pre210 _ (Xe.returnOut hx Bd.returns (hb hby d40_164) hr), hrun, hended, _, _, rfl, ?_, (by rw [hh]; show CHr Z own_EL s.vm h0 T209.vm T209.heap; rw [e209]; exact C234.trans (CHv.at (s := s) (vm0 := T117.vm) Xe hZ hEL C234.1)), hend⟩
  show Q40 Z a nm sr ln ns dc sg vl ct vn fs fl fg g K h0 n0 none T209.heap _
  rw [e209]
  exact ⟨cq, _, _, rfl, N211, icq, own_upi_s, fun j hj => own_upi_o hj, own_upi_s, fun j hj => own_upi_o hj, K232, ⟨f212_E, f214_F, f215_F, f216_F, f217_F, f218_F, f219_F, f220_F, f235_F, f213_F, ⟨_, f221_A⟩, f225_A, f226_A, ⟨_, f222_A⟩, ⟨_, f224_A⟩, f223_A, f227_A, f228_B, f229_B⟩⟩
theorem d41_0 : decode jdk_42_method_149_code 0 = .ok (.aload_n 0, 1) := by decide +kernel
theorem d41_1 : decode jdk_42_method_149_code 1 = .ok (.invokespecial 1, 3) := by decide +kernel
theorem d41_4 : decode jdk_42_method_149_code 4 = .ok (.iload_n 3, 1) := by decide +kernel
theorem d41_5 : decode jdk_42_method_149_code 5 = .ok (.ifCond .ne 22, 3) := by decide +kernel
theorem d41_8 : decode jdk_42_method_149_code 8 = .ok (.aload_n 0, 1) := by decide +kernel
theorem d41_9 : decode jdk_42_method_149_code 9 = .ok (.ldc 7, 2) := by decide +kernel
theorem d41_11 : decode jdk_42_method_149_code 11 = .ok (.getfield 9, 3) := by decide +kernel
theorem d41_14 : decode jdk_42_method_149_code 14 = .ok (.putfield 9, 3) := by decide +kernel
theorem d41_17 : decode jdk_42_method_149_code 17 = .ok (.aload_n 0, 1) := by decide +kernel
theorem d41_18 : decode jdk_42_method_149_code 18 = .ok (.ldc 7, 2) := by decide +kernel
theorem d41_20 : decode jdk_42_method_149_code 20 = .ok (.getfield 15, 3) := by decide +kernel
theorem d41_23 : decode jdk_42_method_149_code 23 = .ok (.putfield 15, 3) := by decide +kernel
theorem d41_26 : decode jdk_42_method_149_code 26 = .ok (.return_, 1) := by decide +kernel
theorem d41_27 : decode jdk_42_method_149_code 27 = .ok (.getstatic 38, 3) := by decide +kernel
theorem d41_30 : decode jdk_42_method_149_code 30 = .ok (.ifCond .eq 28, 3) := by decide +kernel
theorem d41_33 : decode jdk_42_method_149_code 33 = .ok (.aload_n 1, 1) := by decide +kernel
theorem d41_34 : decode jdk_42_method_149_code 34 = .ok (.iload_n 2, 1) := by decide +kernel
theorem d41_35 : decode jdk_42_method_149_code 35 = .ok (.iload_n 3, 1) := by decide +kernel
theorem d41_36 : decode jdk_42_method_149_code 36 = .ok (.invokestatic 177, 3) := by decide +kernel
theorem d41_39 : decode jdk_42_method_149_code 39 = .ok (.astore 5, 2) := by decide +kernel
theorem d41_41 : decode jdk_42_method_149_code 41 = .ok (.aload_n 0, 1) := by decide +kernel
theorem d41_42 : decode jdk_42_method_149_code 42 = .ok (.aload 5, 2) := by decide +kernel
theorem d41_44 : decode jdk_42_method_149_code 44 = .ok (.iload_n 3, 1) := by decide +kernel
theorem d41_45 : decode jdk_42_method_149_code 45 = .ok (.invokestatic 47, 3) := by decide +kernel
theorem d41_48 : decode jdk_42_method_149_code 48 = .ok (.putfield 15, 3) := by decide +kernel
theorem d41_51 : decode jdk_42_method_149_code 51 = .ok (.aload_n 0, 1) := by decide +kernel
theorem d41_52 : decode jdk_42_method_149_code 52 = .ok (.aload 5, 2) := by decide +kernel
theorem d41_54 : decode jdk_42_method_149_code 54 = .ok (.putfield 9, 3) := by decide +kernel
theorem d41_57 : decode jdk_42_method_149_code 57 = .ok (.return_, 1) := by decide +kernel
theorem pn_41 : plainName "java/lang/String" = true := by first | (simp [plainName, overriddenIn]; done) | decide +kernel
theorem pd41_0 : parseMethodDescriptor "([CII)[B" = some ⟨[(.array .char), .int, .int], some (.array .byte)⟩ := by decide +kernel
theorem pd41_1 : parseMethodDescriptor "([BI)B" = some ⟨[(.array .byte), .int], some .byte⟩ := by decide +kernel
theorem ef_41 (m : MethodId) (a : Addr) (cc : Addr) (p2 : Int32) (p3 : Int32) : entryFrame m #[(.ref a), (.ref cc), (.int p2), (.int p3), .null] 6 = mkF m 0 #[rv a, rv cc, iv p2, iv p3, .val .null, .unset] [] := by first | (simp [entryFrame, mkF, argsToLocals, Value.category]; done) | rfl
def Q41 (Z : State) (a : Addr) (cc : Addr) (p2 : Int32) (p3 : Int32) (w : Value) (cs : Int32) (g : Nat → Int32) (S : Nat) (n : Nat) (h0 : Heap) (n0 : Nat) (v : Option Value) (h : Heap) (L : List Loc) : Prop := ∃ (b : Addr) (G : Nat → Int32), v = none ∧ Fr n0 L ∧ Keep h0 h [a] ∧ Exa Z h a "java/lang/String" ∧ Fld Z h a "java/lang/String" "coder" "B" (.int (0 : Int32)) ∧ Fld Z h a "java/lang/String" "value" "[B" (.ref b) ∧ own_Af Z h b .byte n (fun j => .int (G j)) ∧ ∀ j, j < n → (G j).toInt % 256 = (g (S + j)).toInt
set_option maxRecDepth 65536 in
set_option maxHeartbeats 40000000 in
theorem rm41 (l : Launch) (Z : State) (a0 : Array Value) (hw : ∀ d ∈ tables_1, d.before a0 Z = true) (ws : List Jvm.Cond) (a : Addr) (cc : Addr) (p2 : Int32) (p3 : Int32) (w : Value) (cs : Int32) (g : Nat → Int32) (S : Nat) (n : Nat) (h0 : Heap) (n0 : Nat) (Z0 : n0 ≤ h0.size) (hv : w.isRef = true) (S_s : own_Ss Z h0 w cs) (hc : ¬ cs = 0) (E_a : Exa Z h0 a "java/lang/String") (F_v : Fld Z h0 a "java/lang/String" "value" "[B" .null) (F_c : Fld Z h0 a "java/lang/String" "coder" "B" (.int (0 : Int32))) (A_c : own_Af Z h0 cc .char 256 (fun j => .int (g j))) (Bg : own_B g) (hS_ : p2.toInt = ((S : Nat) : Int)) (hn : p3.toInt = ((n : Nat) : Int)) (hn5 : n ≤ 5) (hSn : S + n ≤ 256) (ne_ac : a ≠ cc) (g_a : n0 ≤ a) :
    MetFree l (⟨"java/lang/String", "<init>", "([CIILjava/lang/Void;)V"⟩ : MethodName) (head1 (Jvm.Cond.code (⟨"java/lang/String", "<init>", "([CIILjava/lang/Void;)V"⟩ : MethodName) jdk_42_method_149_code 6 none :: ws) ({ frames := 2, cells := 2, slots := 8, locals := 70 } : Room)) (fun aX UX => aX = #[(.ref a), (.ref cc), (.int p2), (.int p3), .null] ∧ Z.Warmed39 UX.vm ∧ UX.heap = h0 ∧ CHv Z own_EL UX.vm h0) (fun _ _ _ _ _ => True) (fun _ UX oX UY => ∃ vX LX, oX = .returned vX ∧ Q41 Z a cc p2 p3 w cs g S n h0 n0 vX UY.heap LX ∧ CHr Z own_EL UX.vm UX.heap UY.vm UY.heap ∧ ReturnedEndW UX oX UY LX ({ frames := 2, cells := 2, slots := 8, locals := 70 } : Room).cells ({ frames := 2, cells := 2, slots := 8, locals := 70 } : Room).slots) := by
  refine MetFree.of_bodySF (plainFor_of_name pn_41) hisR ?_
  intro p e s m args below meth c s₁ Bd hml0 hPX hKX
  obtain ⟨rfl, hZ, hh, hC0⟩ := hPX
  have C0 : CHr Z own_EL s.vm h0 s.vm h0 := CHr.refl hC0
  have hS := own_since s 0
  have hEL := own_EW hw
  have hx := Bd.exec
  have hby := Bd.bytes
  have hml : c.maxLocals = 6 := hml0
  have hown : s.vm.findClass "java/lang/String" = some m.cls := findClass_of_methodNamed Bd.named
  have hnm := (name_of_methodNamed Bd.named Bd.method).1
  have X0 : Stand p l e ({ frames := 2, cells := 2, slots := 8, locals := 70 } : Room) s m #[(.ref a), (.ref cc), (.int p2), (.int p3), .null] below meth c s₁ [] 0 0 := Stand.of_body Bd
  have e0 : s₁.heap = h0 := by rw [← hh, Bd.state]; rfl
  have N0 := Fr.nil n0
  have pre0 : ∀ t, Steps p.tables e below (s₁.setTop (mkF m 0 #[rv a, rv cc, iv p2, iv p3, .val .null, .unset] [])) t → Steps p.tables e below (s₁.setTop (entryFrame m #[(.ref a), (.ref cc), (.int p2), (.int p3), .null] 6)) t := fun t k => castTop (ef_41 m a cc p2 p3) k
  obtain ⟨S0, hS0⟩ : ∃ z, z = (s₁.setTop (entryFrame m #[(.ref a), (.ref cc), (.int p2), (.int p3), .null] 6)) := ⟨_, rfl⟩
  rw [← hS0] at pre0
  have K0 : Keep h0 h0 [a] := Keep.refl h0 _
  have S_a0 : Safe Z own_EL s.vm h0 a := own_sfN hZ.alike E_a F_v
  have pre1 : ∀ t, own_s p e below s₁ m 1 #[rv a, rv cc, iv p2, iv p3, .val .null, .unset] [(.ref a)] t → Steps p.tables e below S0 t := by
    intro tX kX
    refine pre0 _ ?_
    show own_s p e below s₁ m 0 #[rv a, rv cc, iv p2, iv p3, .val .null, .unset] [] _
    refine XS.aloadN X0.here hx rfl (hb hby d41_0) rfl rfl ?_
    exact kX
  obtain ⟨T2, X2, e2, st2⟩ := initO X0 hx hZ hown (hw _ (List.mem_of_getElem? (i := 109) rfl)) (hw _ (List.mem_of_getElem? (i := 16) rfl)) (hw _ (List.mem_of_getElem? (i := 17) rfl)) e0 (g := (mkF m 1 #[rv a, rv cc, iv p2, iv p3, .val .null, .unset] [(.ref a)])) rfl (by rw [hml]; rfl) rfl (hb hby d41_1) (by decide) (W := 0) (by show 2 * 0 + _ ≤ _; exact Nat.le_of_eq rfl) (by decide)
  have pre3 : ∀ t, own_s p e below T2 m 4 #[rv a, rv cc, iv p2, iv p3, .val .null, .unset] [] t → Steps p.tables e below S0 t := fun tX kX => pre1 _ (st2 _ kX)
  have pre4 : ∀ t, own_s p e below T2 m 5 #[rv a, rv cc, iv p2, iv p3, .val .null, .unset] [(.int p3)] t → Steps p.tables e below S0 t := by
    intro tX kX
    refine pre3 _ ?_
    show own_s p e below T2 m 4 #[rv a, rv cc, iv p2, iv p3, .val .null, .unset] [] _
    refine XS.iloadN X2.here hx rfl (hb hby d41_4) rfl ?_
    exact kX
  by_cases hc5 : p3 = (0 : Int32)
  · skip
    have pre6 : ∀ t, own_s p e below T2 m 9 #[rv a, rv cc, iv p2, iv p3, .val .null, .unset] [(.ref a)] t → Steps p.tables e below S0 t := by
      intro tX kX
      refine pre4 _ ?_
      show own_s p e below T2 m 5 #[rv a, rv cc, iv p2, iv p3, .val .null, .unset] [(.int p3)] _
      refine XS.ifNo X2.here hx rfl (hb hby d41_5) rfl ((if0 _ _).trans (teq hc5).2) ?_
      refine XS.aloadN X2.here hx rfl (hb hby d41_8) rfl rfl ?_
      exact kX
    obtain ⟨sa7, T7, h7, k7, sb7, kb7, X7, e7, E7, hS, hk7, hZ, hown, sE7, sC7, sV7, sA7, -, -, Cq7, Lt7, Sf7, st7⟩ := ldcCH (s := s) (vm0 := s.vm) X2 hx hZ hown (hw _ (List.mem_of_getElem? (i := 110) rfl)) (own_wS hw) e2 hS (Nat.zero_le _) hEL (List.mem_of_getElem? (i := 1) rfl) C0.1 (vs := []) (z := (0 : Int32)) ⟨by decide, rfl⟩ (by decide) rfl (g := (mkF m 9 #[rv a, rv cc, iv p2, iv p3, .val .null, .unset] [(.ref a)])) rfl (hb hby d41_9) (n := 0) (by decide) (by decide) (by decide) (by decide)
    have pre8 : ∀ t, own_s p e below T7 m 11 #[rv a, rv cc, iv p2, iv p3, .val .null, .unset] [(.ref sa7), (.ref a)] t → Steps p.tables e below S0 t := fun tX kX => pre6 _ (st7 _ kX)
    have f9_E : Exa Z h7 a "java/lang/String" := E_a.ext E7
    have f10_F : Fld Z h7 a "java/lang/String" "value" "[B" .null := F_v.ext E7
    have f11_F : Fld Z h7 a "java/lang/String" "coder" "B" (.int (0 : Int32)) := F_c.ext E7
    have f12_A : own_Af Z h7 cc .char 256 (fun j => .int (g j)) := A_c.ext E7
    have f13_S : Sta Z h7 "jdk/internal/util/Preconditions" "SIOOBE_FORMATTER" "Ljava/util/function/BiFunction;" w := S_s.1.ext E7
    have f14_S : Sta Z h7 "java/lang/String" "COMPACT_STRINGS" "Z" (.int cs) := S_s.2.ext E7
    have Z15 : n0 ≤ h7.size := Nat.le_trans Z0 E7.1
    have K16 : Keep h0 h7 [a] := K0.ext E7
    have C17 : CHr Z own_EL s.vm h0 T7.vm h7 := C0.trans Cq7
    have f18_E : Exa Z h7 sa7 "java/lang/String" := sE7
    have sS7 := C17.safe E_a.lt S_a0
    have ne7 := (Sf7 a sS7).1
    have nf7 := (Sf7 a sS7).2
    have f19_F : Fld Z h7 sa7 "java/lang/String" "coder" "B" (.int (0 : Int32)) := sC7
    have f20_F : Fld Z h7 sa7 "java/lang/String" "value" "[B" (.ref sb7) := sV7
    have f21_A : own_Af Z h7 sb7 .byte 0 (fun j => .int ((fun _ => (0 : Int32)) j)) := own_ofarv sA7 rfl (fun j hj => absurd hj (Nat.not_lt_zero j))
    obtain ⟨T22, X22, e22, st22⟩ := getF X7 hx hZ hown (host := "") (Or.inl (hw _ (List.mem_of_getElem? (i := 111) rfl))) Via.refl e7 f20_F (g := (mkF m 11 #[rv a, rv cc, iv p2, iv p3, .val .null, .unset] [(.ref sa7), (.ref a)])) rfl rfl (hb hby d41_11)
    have pre23 : ∀ t, own_s p e below T22 m 14 #[rv a, rv cc, iv p2, iv p3, .val .null, .unset] [(.ref sb7), (.ref a)] t → Steps p.tables e below S0 t := fun tX kX => pre8 _ (st22 _ kX)
    obtain ⟨T24, h24, X24, e24, W24, st24⟩ := putF X22 hx hZ hown (host := "") (Or.inl (hw _ (List.mem_of_getElem? (i := 111) rfl))) Via.refl e22 f10_F f9_E (Or.inr ⟨(hw _ (List.mem_of_getElem? (i := 53) rfl)), rfl, hnm⟩) (hw _ (List.mem_of_getElem? (i := 51) rfl)) (ty := (.array .byte)) (by decide) rfl rfl (g := (mkF m 14 #[rv a, rv cc, iv p2, iv p3, .val .null, .unset] [(.ref sb7), (.ref a)])) rfl rfl (hb hby d41_14)
    have pre25 : ∀ t, own_s p e below T24 m 17 #[rv a, rv cc, iv p2, iv p3, .val .null, .unset] [] t → Steps p.tables e below S0 t := fun tX kX => pre23 _ (st24 _ kX)
    obtain ⟨LL26, X26, N26⟩ : ∃ LL, Stand p l e ({ frames := 2, cells := 2, slots := 8, locals := 70 } : Room) (s.setVm T7.vm) m #[(.ref a), (.ref cc), (.int p2), (.int p3), .null] below meth c T24 LL 2 4 ∧ Fr n0 LL := ⟨_, X24, Fr.snoc X24 N0 g_a⟩
    have f27_E : Exa Z h24 a "java/lang/String" := f9_E.wr W24
    have f28_F : Fld Z h24 a "java/lang/String" "coder" "B" (.int (0 : Int32)) := f11_F.other W24 (Or.inr (slot_ne (Or.inr (hw _ (List.mem_of_getElem? (i := 54) rfl))) (Or.inr (hw _ (List.mem_of_getElem? (i := 53) rfl))) (by decide) (t := .byte) (t' := (.array .byte)) (by decide) (by decide)))
    have f29_A : own_Af Z h24 cc .char 256 (fun j => .int (g j)) := f12_A.other W24 (Ne.symm ne_ac)
    have f30_S : Sta Z h24 "jdk/internal/util/Preconditions" "SIOOBE_FORMATTER" "Ljava/util/function/BiFunction;" w := f13_S.wr W24
    have f31_S : Sta Z h24 "java/lang/String" "COMPACT_STRINGS" "Z" (.int cs) := f14_S.wr W24
    have f32_E : Exa Z h24 sa7 "java/lang/String" := f18_E.wr W24
    have f33_F : Fld Z h24 sa7 "java/lang/String" "coder" "B" (.int (0 : Int32)) := f19_F.other W24 (Or.inl (Ne.symm ne7))
    have f34_F : Fld Z h24 sa7 "java/lang/String" "value" "[B" (.ref sb7) := f20_F.other W24 (Or.inl (Ne.symm ne7))
    have f35_A : own_Af Z h24 sb7 .byte 0 (fun j => .int ((fun _ => (0 : Int32)) j)) := f21_A.other W24 (Ne.symm nf7)
    have Z36 : n0 ≤ h24.size := Nat.le_trans Z15 (Keep.of_wr W24).1
    have K37 : Keep h0 h24 [a] := K16.wr W24 (Or.inl (List.mem_of_getElem? (i := 0) rfl))
    have hk38 : k7 ≤ h24.size := Nat.le_trans hk7 (Keep.of_wr W24).1
    have C39 : CHr Z own_EL s.vm h0 T7.vm h24 := C17.trans (CHr.wr W24 (C17.safe E_a.lt S_a0) C17.1)
    have f40_F : Fld Z h24 a "java/lang/String" "value" "[B" (.ref sb7) := f10_F.same W24
    have pre41 : ∀ t, own_s p e below T24 m 18 #[rv a, rv cc, iv p2, iv p3, .val .null, .unset] [(.ref a)] t → Steps p.tables e below S0 t := by
      intro tX kX
      refine pre25 _ ?_
      show own_s p e below T24 m 17 #[rv a, rv cc, iv p2, iv p3, .val .null, .unset] [] _
      refine XS.aloadN X26.here hx rfl (hb hby d41_17) rfl rfl ?_
      exact kX
    have st42 := ldcAgain (s := s) (vm0 := T7.vm) X26 hx hZ hown (hw _ (List.mem_of_getElem? (i := 110) rfl)) Lt7 (g := (mkF m 18 #[rv a, rv cc, iv p2, iv p3, .val .null, .unset] [(.ref a)])) rfl (hb hby d41_18)
    have pre43 : ∀ t, own_s p e below T24 m 20 #[rv a, rv cc, iv p2, iv p3, .val .null, .unset] [(.ref sa7), (.ref a)] t → Steps p.tables e below S0 t := fun tX kX => pre41 _ (st42 _ kX)
    obtain ⟨T44, X44, e44, st44⟩ := getF X26 hx hZ hown (host := "") (Or.inl (hw _ (List.mem_of_getElem? (i := 112) rfl))) Via.refl e24 f33_F (g := (mkF m 20 #[rv a, rv cc, iv p2, iv p3, .val .null, .unset] [(.ref sa7), (.ref a)])) rfl rfl (hb hby d41_20)
    have pre45 : ∀ t, own_s p e below T44 m 23 #[rv a, rv cc, iv p2, iv p3, .val .null, .unset] [(.int (0 : Int32)), (.ref a)] t → Steps p.tables e below S0 t := fun tX kX => pre43 _ (st44 _ kX)
    obtain ⟨T46, h46, X46, e46, W46, st46⟩ := putFN X44 hx hZ hown (hw _ (List.mem_of_getElem? (i := 112) rfl)) Via.refl e44 f28_F f27_E (Or.inr ⟨(hw _ (List.mem_of_getElem? (i := 54) rfl)), rfl, hnm⟩) (hw _ (List.mem_of_getElem? (i := 51) rfl)) (ty := .byte) (v' := (.int (0 : Int32))) (by decide) rfl rfl (g := (mkF m 23 #[rv a, rv cc, iv p2, iv p3, .val .null, .unset] [(.int (0 : Int32)), (.ref a)])) rfl rfl (hb hby d41_23)
    have pre47 : ∀ t, own_s p e below T46 m 26 #[rv a, rv cc, iv p2, iv p3, .val .null, .unset] [] t → Steps p.tables e below S0 t := fun tX kX => pre45 _ (st46 _ kX)
    obtain ⟨LL48, X48, N48⟩ : ∃ LL, Stand p l e ({ frames := 2, cells := 2, slots := 8, locals := 70 } : Room) (s.setVm T7.vm) m #[(.ref a), (.ref cc), (.int p2), (.int p3), .null] below meth c T46 LL 2 4 ∧ Fr n0 LL := ⟨_, X46, Fr.snoc X46 N26 g_a⟩
    have f49_E : Exa Z h46 a "java/lang/String" := f27_E.wr W46
    have f50_A : own_Af Z h46 cc .char 256 (fun j => .int (g j)) := f29_A.other W46 (Ne.symm ne_ac)
    have f51_S : Sta Z h46 "jdk/internal/util/Preconditions" "SIOOBE_FORMATTER" "Ljava/util/function/BiFunction;" w := f30_S.wr W46
    have f52_S : Sta Z h46 "java/lang/String" "COMPACT_STRINGS" "Z" (.int cs) := f31_S.wr W46
    have f53_E : Exa Z h46 sa7 "java/lang/String" := f32_E.wr W46
    have f54_F : Fld Z h46 sa7 "java/lang/String" "coder" "B" (.int (0 : Int32)) := f33_F.other W46 (Or.inl (Ne.symm ne7))
    have f55_F : Fld Z h46 sa7 "java/lang/String" "value" "[B" (.ref sb7) := f34_F.other W46 (Or.inl (Ne.symm ne7))
    have f56_A : own_Af Z h46 sb7 .byte 0 (fun j => .int ((fun _ => (0 : Int32)) j)) := f35_A.other W46 (Ne.symm nf7)
    have f57_F : Fld Z h46 a "java/lang/String" "value" "[B" (.ref sb7) := f40_F.other W46 (Or.inr (slot_ne (Or.inr (hw _ (List.mem_of_getElem? (i := 53) rfl))) (Or.inr (hw _ (List.mem_of_getElem? (i := 54) rfl))) (by decide) (t := (.array .byte)) (t' := .byte) (by decide) (by decide)))
    have Z58 : n0 ≤ h46.size := Nat.le_trans Z36 (Keep.of_wr W46).1
    have K59 : Keep h0 h46 [a] := K37.wr W46 (Or.inl (List.mem_of_getElem? (i := 0) rfl))
    have hk60 : k7 ≤ h46.size := Nat.le_trans hk38 (Keep.of_wr W46).1
    have C61 : CHr Z own_EL s.vm h0 T7.vm h46 := C39.trans (CHr.wr W46 (C39.safe E_a.lt S_a0) C39.1)
    have f62_F : Fld Z h46 a "java/lang/String" "coder" "B" (.int (0 : Int32)) := f28_F.same W46
    have Xe := X48.mono (cells' := 2) (slots' := 8) (by decide) (by decide)
    subst hS0
    obtain ⟨fsX, hr, hrun, hended, hend⟩ := Xe.leaveW hS (by rw [e46]; exact hk60) (v := none) (fun _ => rfl)
    refine ⟨_, _, pre47 _ (Xe.returnOut hx Bd.returns (hb hby d41_26) hr), hrun, hended, _, _, rfl, ?_, (by rw [hh]; show CHr Z own_EL s.vm h0 T46.vm T46.heap; rw [e46]; exact C61.trans (CHv.at (s := s) (vm0 := T7.vm) Xe hZ hEL C61.1)), hend⟩
    show Q41 Z a cc p2 p3 w cs g S n h0 n0 none T46.heap _
    obtain rfl : n = 0 := by have := congrArg Int32.toInt hc5; have z0 : (0 : Int32).toInt = 0 := rfl; omega
    rw [e46]
    exact ⟨sb7, (fun _ => (0 : Int32)), rfl, N48, K59, f49_E, f62_F, f57_F, f56_A, fun j hj => absurd hj (Nat.not_lt_zero j)⟩
  · skip
    have pre63 : ∀ t, own_s p e below T2 m 27 #[rv a, rv cc, iv p2, iv p3, .val .null, .unset] [] t → Steps p.tables e below S0 t := by
      intro tX kX
      refine pre4 _ ?_
      show own_s p e below T2 m 5 #[rv a, rv cc, iv p2, iv p3, .val .null, .unset] [(.int p3)] _
      refine XS.ifYes X2.here hx rfl (pc0 := 5) (pc' := 27) rfl (hb hby d41_5) rfl ((if0 _ _).trans (feq hc5).2) (by decide) (by decide) ?_
      exact kX
    obtain ⟨T64, X64, e64, st64⟩ := getS2 X2 hx hZ hown (host := "") (Or.inl (hw _ (List.mem_of_getElem? (i := 126) rfl))) Via.refl e2 S_s.2 (g := (mkF m 27 #[rv a, rv cc, iv p2, iv p3, .val .null, .unset] [])) rfl (hb hby d41_27)
    have pre65 : ∀ t, own_s p e below T64 m 30 #[rv a, rv cc, iv p2, iv p3, .val .null, .unset] [(.int cs)] t → Steps p.tables e below S0 t := fun tX kX => pre63 _ (st64 _ kX)
    have pre66 : ∀ t, own_s p e below T64 m 36 #[rv a, rv cc, iv p2, iv p3, .val .null, .unset] [(.int p3), (.int p2), (.ref cc)] t → Steps p.tables e below S0 t := by
      intro tX kX
      refine pre65 _ ?_
      show own_s p e below T64 m 30 #[rv a, rv cc, iv p2, iv p3, .val .null, .unset] [(.int cs)] _
      refine XS.ifNo X64.here hx rfl (hb hby d41_30) rfl ((if0 _ _).trans (feq hc).1) ?_
      refine XS.aloadN X64.here hx rfl (hb hby d41_33) rfl rfl ?_
      refine XS.iloadN X64.here hx rfl (hb hby d41_34) rfl ?_
      show own_s p e below T64 m 35 #[rv a, rv cc, iv p2, iv p3, .val .null, .unset] [(.int p2), (.ref cc)] _
      refine XS.iloadN X64.here hx rfl (hb hby d41_35) rfl ?_
      exact kX
    obtain ⟨_, _, ⟨T67, L67, k67, n67⟩, -, X67, ⟨Lc67, hQ67, l67, y67, z67⟩, st67⟩ := Jvm.LawKit.callS X64 hx (y := (⟨"java/lang/StringUTF16", "compress", "([CII)[B"⟩ : MethodName)) hown (mvT hZ (hw _ (List.mem_of_getElem? (i := 130) rfl))) (mvT hZ (hw _ (List.mem_of_getElem? (i := 131) rfl))) (mvT hZ (hw _ (List.mem_of_getElem? (i := 132) rfl))) (mvT hZ (hw _ (List.mem_of_getElem? (i := 133) rfl))) (by decide) (backOf (W := 0) (rm34 l Z a0 hw [] cc p2 p3 g S n h0 n0 Z0 A_c Bg hS_ hn hn5 hSn) hZ (hw _ (List.mem_of_getElem? (i := 133) rfl)) (hw _ (List.mem_of_getElem? (i := 132) rfl)) (by decide) (by decide)) (g := (mkF m 36 #[rv a, rv cc, iv p2, iv p3, .val .null, .unset] [(.int p3), (.int p2), (.ref cc)])) rfl (by rw [hml]; rfl) (argsL := [(.ref cc), (.int p2), (.int p3)]) (rest := []) (lenOf pd41_0 rfl) rfl (by show 2 * 0 + _ ≤ _; exact Nat.le_of_eq rfl) (hb hby d41_36) (fun _ _ => ⟨rfl, e64, (by decide : 0 + 1 ≤ _), (by decide : 0 + 5 ≤ _)⟩)
    dsimp only [Pt.U, Pt.locs, Pt.cells, Pt.slots] at X67 l67 y67 z67 st67 hQ67
    subst l67 y67 z67
    obtain ⟨r67, G67, rfl, Nq67, Kq67, sz_r67, g_r67, fA67, R67⟩ := hQ67
    have N67 := Fr.app N0 Nq67
    have e67 : T67.heap = T67.heap := rfl
    have ne68 : a ≠ r67 := Nat.ne_of_lt (Nat.lt_of_lt_of_le E_a.lt sz_r67)
    have ne69 : cc ≠ r67 := Nat.ne_of_lt (Nat.lt_of_lt_of_le A_c.lt sz_r67)
    have Z67 : n0 ≤ T67.heap.size := Nat.le_trans Z0 Kq67.1
    have K67 : Keep h0 T67.heap [a] := K0.trans Kq67 all0
    have C70 : CHr Z own_EL s.vm h0 s.vm T67.heap := C0.trans (CHr.keep Kq67 sf0 C0.1)
    have f71_E : Exa Z T67.heap a "java/lang/String" := E_a.keep Kq67
    have f72_F : Fld Z T67.heap a "java/lang/String" "value" "[B" .null := F_v.keep Kq67 nin0
    have f73_F : Fld Z T67.heap a "java/lang/String" "coder" "B" (.int (0 : Int32)) := F_c.keep Kq67 nin0
    have f74_A : own_Af Z T67.heap cc .char 256 (fun j => .int (g j)) := A_c.keep Kq67 nin0
    obtain ⟨LL75, X75, N75⟩ : ∃ LL, Stand p l e ({ frames := 2, cells := 2, slots := 8, locals := 70 } : Room) s m #[(.ref a), (.ref cc), (.int p2), (.int p3), .null] below meth c T67 LL 1 5 ∧ Fr n0 LL := ⟨_, X67, N67⟩
    have pre76 : ∀ t, own_s p e below T67 m 39 #[rv a, rv cc, iv p2, iv p3, .val .null, .unset] [(.ref r67)] t → Steps p.tables e below S0 t := fun tX kX => pre66 _ (st67 _ kX)
    have pre77 : ∀ t, own_s p e below T67 m 45 #[rv a, rv cc, iv p2, iv p3, .val .null, rv r67] [(.int p3), (.ref r67), (.ref a)] t → Steps p.tables e below S0 t := by
      intro tX kX
      refine pre76 _ ?_
      show own_s p e below T67 m 39 #[rv a, rv cc, iv p2, iv p3, .val .null, .unset] [(.ref r67)] _
      refine XS.astore X75.here hx rfl (hb hby d41_39) rfl rfl (l' := #[rv a, rv cc, iv p2, iv p3, .val .null, rv r67]) rfl ?_
      refine XS.aloadN X75.here hx rfl (hb hby d41_41) rfl rfl ?_
      refine XS.aload X75.here hx rfl (hb hby d41_42) rfl rfl ?_
      show own_s p e below T67 m 44 #[rv a, rv cc, iv p2, iv p3, .val .null, rv r67] [(.ref r67), (.ref a)] _
      refine XS.iloadN X75.here hx rfl (hb hby d41_44) rfl ?_
      exact kX
    obtain ⟨_, _, ⟨T78, L78, k78, n78⟩, -, X78, ⟨Lc78, hQ78, l78, y78, z78⟩, st78⟩ := Jvm.LawKit.callS X75 hx (y := (⟨"java/lang/StringUTF16", "coderFromArrayLen", "([BI)B"⟩ : MethodName)) hown (mvT hZ (hw _ (List.mem_of_getElem? (i := 137) rfl))) (mvT hZ (hw _ (List.mem_of_getElem? (i := 138) rfl))) (mvT hZ (hw _ (List.mem_of_getElem? (i := 132) rfl))) (mvT hZ (hw _ (List.mem_of_getElem? (i := 139) rfl))) (by decide) (backOf (W := 1) (rm12 l Z a0 hw [] r67 p3 (fun j => .int (G67 j)) n T67.heap n0 Z67 fA67 hn hn5) hZ (hw _ (List.mem_of_getElem? (i := 139) rfl)) (hw _ (List.mem_of_getElem? (i := 132) rfl)) (by decide) (by decide)) (g := (mkF m 45 #[rv a, rv cc, iv p2, iv p3, .val .null, rv r67] [(.int p3), (.ref r67), (.ref a)])) rfl (by rw [hml]; rfl) (argsL := [(.ref r67), (.int p3)]) (rest := [(.ref a)]) (lenOf pd41_1 rfl) rfl (by show 2 * 0 + _ ≤ _; exact Nat.le_of_eq rfl) (hb hby d41_45) (fun _ _ => ⟨rfl, e67, (by decide : 1 + 0 ≤ _), (by decide : 5 + 0 ≤ _)⟩)
    dsimp only [Pt.U, Pt.locs, Pt.cells, Pt.slots] at X78 l78 y78 z78 st78 hQ78
    subst l78 y78 z78
    obtain ⟨rfl, Nq78, e78⟩ := hQ78
    have N78 := Fr.app N75 Nq78
    obtain ⟨LL79, X79, N79⟩ : ∃ LL, Stand p l e ({ frames := 2, cells := 2, slots := 8, locals := 70 } : Room) s m #[(.ref a), (.ref cc), (.int p2), (.int p3), .null] below meth c T78 LL 1 5 ∧ Fr n0 LL := ⟨_, X78, N78⟩
    have pre80 : ∀ t, own_s p e below T78 m 48 #[rv a, rv cc, iv p2, iv p3, .val .null, rv r67] [(.int (0 : Int32)), (.ref a)] t → Steps p.tables e below S0 t := fun tX kX => pre77 _ (st78 _ kX)
    obtain ⟨T81, h81, X81, e81, W81, st81⟩ := putFN X79 hx hZ hown (hw _ (List.mem_of_getElem? (i := 112) rfl)) Via.refl e78 f73_F f71_E (Or.inr ⟨(hw _ (List.mem_of_getElem? (i := 54) rfl)), rfl, hnm⟩) (hw _ (List.mem_of_getElem? (i := 51) rfl)) (ty := .byte) (v' := (.int (0 : Int32))) (by decide) rfl rfl (g := (mkF m 48 #[rv a, rv cc, iv p2, iv p3, .val .null, rv r67] [(.int (0 : Int32)), (.ref a)])) rfl rfl (hb hby d41_48)
    have pre82 : ∀ t, own_s p e below T81 m 51 #[rv a, rv cc, iv p2, iv p3, .val .null, rv r67] [] t → Steps p.tables e below S0 t := fun tX kX => pre80 _ (st81 _ kX)
    obtain ⟨LL83, X83, N83⟩ : ∃ LL, Stand p l e ({ frames := 2, cells := 2, slots := 8, locals := 70 } : Room) s m #[(.ref a), (.ref cc), (.int p2), (.int p3), .null] below meth c T81 LL 1 5 ∧ Fr n0 LL := ⟨_, X81, Fr.snoc X81 N79 g_a⟩
    have f84_E : Exa Z h81 a "java/lang/String" := f71_E.wr W81
    have f85_F : Fld Z h81 a "java/lang/String" "value" "[B" .null := f72_F.other W81 (Or.inr (slot_ne (Or.inr (hw _ (List.mem_of_getElem? (i := 53) rfl))) (Or.inr (hw _ (List.mem_of_getElem? (i := 54) rfl))) (by decide) (t := (.array .byte)) (t' := .byte) (by decide) (by decide)))
    have f86_A : own_Af Z h81 cc .char 256 (fun j => .int (g j)) := f74_A.other W81 (Ne.symm ne_ac)
    have f87_A : own_Af Z h81 r67 .byte n (fun j => .int (G67 j)) := fA67.other W81 (Ne.symm ne68)
    have Z88 : n0 ≤ h81.size := Nat.le_trans Z67 (Keep.of_wr W81).1
    have K89 : Keep h0 h81 [a] := K67.wr W81 (Or.inl (List.mem_of_getElem? (i := 0) rfl))
    have C90 : CHr Z own_EL s.vm h0 s.vm h81 := C70.trans (CHr.wr W81 (C70.safe E_a.lt S_a0) C70.1)
    have f91_F : Fld Z h81 a "java/lang/String" "coder" "B" (.int (0 : Int32)) := f73_F.same W81
    have pre92 : ∀ t, own_s p e below T81 m 54 #[rv a, rv cc, iv p2, iv p3, .val .null, rv r67] [(.ref r67), (.ref a)] t → Steps p.tables e below S0 t := by
      intro tX kX
      refine pre82 _ ?_
      show own_s p e below T81 m 51 #[rv a, rv cc, iv p2, iv p3, .val .null, rv r67] [] _
      refine XS.aloadN X83.here hx rfl (hb hby d41_51) rfl rfl ?_
      refine XS.aload X83.here hx rfl (hb hby d41_52) rfl rfl ?_
      exact kX
    obtain ⟨T93, h93, X93, e93, W93, st93⟩ := putF X83 hx hZ hown (host := "") (Or.inl (hw _ (List.mem_of_getElem? (i := 111) rfl))) Via.refl e81 f85_F f84_E (Or.inr ⟨(hw _ (List.mem_of_getElem? (i := 53) rfl)), rfl, hnm⟩) (hw _ (List.mem_of_getElem? (i := 51) rfl)) (ty := (.array .byte)) (by decide) rfl rfl (g := (mkF m 54 #[rv a, rv cc, iv p2, iv p3, .val .null, rv r67] [(.ref r67), (.ref a)])) rfl rfl (hb hby d41_54)
    have pre94 : ∀ t, own_s p e below T93 m 57 #[rv a, rv cc, iv p2, iv p3, .val .null, rv r67] [] t → Steps p.tables e below S0 t := fun tX kX => pre92 _ (st93 _ kX)
    obtain ⟨LL95, X95, N95⟩ : ∃ LL, Stand p l e ({ frames := 2, cells := 2, slots := 8, locals := 70 } : Room) s m #[(.ref a), (.ref cc), (.int p2), (.int p3), .null] below meth c T93 LL 1 5 ∧ Fr n0 LL := ⟨_, X93, Fr.snoc X93 N83 g_a⟩
    have f96_E : Exa Z h93 a "java/lang/String" := f84_E.wr W93
    have f97_A : own_Af Z h93 cc .char 256 (fun j => .int (g j)) := f86_A.other W93 (Ne.symm ne_ac)
    have f98_A : own_Af Z h93 r67 .byte n (fun j => .int (G67 j)) := f87_A.other W93 (Ne.symm ne68)
    have f99_F : Fld Z h93 a "java/lang/String" "coder" "B" (.int (0 : Int32)) := f91_F.other W93 (Or.inr (slot_ne (Or.inr (hw _ (List.mem_of_getElem? (i := 54) rfl))) (Or.inr (hw _ (List.mem_of_getElem? (i := 53) rfl))) (by decide) (t := .byte) (t' := (.array .byte)) (by decide) (by decide)))
    have Z100 : n0 ≤ h93.size := Nat.le_trans Z88 (Keep.of_wr W93).1
    have K101 : Keep h0 h93 [a] := K89.wr W93 (Or.inl (List.mem_of_getElem? (i := 0) rfl))
    have C102 : CHr Z own_EL s.vm h0 s.vm h93 := C90.trans (CHr.wr W93 (C90.safe E_a.lt S_a0) C90.1)
    have f103_F : Fld Z h93 a "java/lang/String" "value" "[B" (.ref r67) := f85_F.same W93
    have Xe := X95.mono (cells' := 2) (slots' := 8) (by decide) (by decide)
    subst hS0
    obtain ⟨fsX, hr, hrun, hended, hend⟩ := Xe.leaveW hS (by rw [e93]; exact (Nat.zero_le _)) (v := none) (fun _ => rfl)
    refine ⟨_, _, pre94 _ (Xe.returnOut hx Bd.returns (hb hby d41_57) hr), hrun, hended, _, _, rfl, ?_, (by rw [hh]; show CHr Z own_EL s.vm h0 T93.vm T93.heap; rw [e93]; exact C102.trans (CHv.at (s := s) (vm0 := s.vm) Xe hZ hEL C102.1)), hend⟩
    show Q41 Z a cc p2 p3 w cs g S n h0 n0 none T93.heap _
    rw [e93]
    exact ⟨r67, G67, rfl, N95, K101, f96_E, f99_F, f103_F, f98_A, R67⟩
theorem d42_0 : decode jdk_42_method_4_code 0 = .ok (.aload_n 0, 1) := by decide +kernel
theorem d42_1 : decode jdk_42_method_4_code 1 = .ok (.aload_n 1, 1) := by decide +kernel
theorem d42_2 : decode jdk_42_method_4_code 2 = .ok (.iload_n 2, 1) := by decide +kernel
theorem d42_3 : decode jdk_42_method_4_code 3 = .ok (.iload_n 3, 1) := by decide +kernel
theorem d42_4 : decode jdk_42_method_4_code 4 = .ok (.aload_n 1, 1) := by decide +kernel
theorem d42_5 : decode jdk_42_method_4_code 5 = .ok (.iload_n 2, 1) := by decide +kernel
theorem d42_6 : decode jdk_42_method_4_code 6 = .ok (.iload_n 3, 1) := by decide +kernel
theorem d42_7 : decode jdk_42_method_4_code 7 = .ok (.invokestatic 30, 3) := by decide +kernel
theorem d42_10 : decode jdk_42_method_4_code 10 = .ok (.invokespecial 27, 3) := by decide +kernel
theorem d42_13 : decode jdk_42_method_4_code 13 = .ok (.return_, 1) := by decide +kernel
theorem pn_42 : plainName "java/lang/String" = true := by first | (simp [plainName, overriddenIn]; done) | decide +kernel
theorem pd42_0 : parseMethodDescriptor "([CII)Ljava/lang/Void;" = some ⟨[(.array .char), .int, .int], some (.object "java/lang/Void")⟩ := by decide +kernel
theorem pd42_1 : parseMethodDescriptor "([CIILjava/lang/Void;)V" = some ⟨[(.array .char), .int, .int, (.object "java/lang/Void")], none⟩ := by decide +kernel
theorem ef_42 (m : MethodId) (a : Addr) (cc : Addr) (p2 : Int32) (p3 : Int32) : entryFrame m #[(.ref a), (.ref cc), (.int p2), (.int p3)] 4 = mkF m 0 #[rv a, rv cc, iv p2, iv p3] [] := by first | (simp [entryFrame, mkF, argsToLocals, Value.category]; done) | rfl
def Q42 (Z : State) (a : Addr) (cc : Addr) (p2 : Int32) (p3 : Int32) (w : Value) (cs : Int32) (g : Nat → Int32) (S : Nat) (n : Nat) (h0 : Heap) (n0 : Nat) (v : Option Value) (h : Heap) (L : List Loc) : Prop := ∃ (b : Addr) (G : Nat → Int32), v = none ∧ Fr n0 L ∧ Keep h0 h [a] ∧ Exa Z h a "java/lang/String" ∧ Fld Z h a "java/lang/String" "coder" "B" (.int (0 : Int32)) ∧ Fld Z h a "java/lang/String" "value" "[B" (.ref b) ∧ own_Af Z h b .byte n (fun j => .int (G j)) ∧ ∀ j, j < n → (G j).toInt % 256 = (g (S + j)).toInt
set_option maxRecDepth 65536 in
set_option maxHeartbeats 40000000 in
theorem rm42 (l : Launch) (Z : State) (a0 : Array Value) (hw : ∀ d ∈ tables_1, d.before a0 Z = true) (ws : List Jvm.Cond) (a : Addr) (cc : Addr) (p2 : Int32) (p3 : Int32) (w : Value) (cs : Int32) (g : Nat → Int32) (S : Nat) (n : Nat) (h0 : Heap) (n0 : Nat) (Z0 : n0 ≤ h0.size) (hv : w.isRef = true) (S_s : own_Ss Z h0 w cs) (hc : ¬ cs = 0) (E_a : Exa Z h0 a "java/lang/String") (F_v : Fld Z h0 a "java/lang/String" "value" "[B" .null) (F_c : Fld Z h0 a "java/lang/String" "coder" "B" (.int (0 : Int32))) (A_c : own_Af Z h0 cc .char 256 (fun j => .int (g j))) (Bg : own_B g) (hS_ : p2.toInt = ((S : Nat) : Int)) (hn : p3.toInt = ((n : Nat) : Int)) (hn5 : n ≤ 5) (hSn : S + n ≤ 256) (ne_ac : a ≠ cc) (g_a : n0 ≤ a) :
    MetFree l (⟨"java/lang/String", "<init>", "([CII)V"⟩ : MethodName) (head1 (Jvm.Cond.code (⟨"java/lang/String", "<init>", "([CII)V"⟩ : MethodName) jdk_42_method_4_code 4 none :: ws) ({ frames := 3, cells := 2, slots := 8, locals := 95 } : Room)) (fun aX UX => aX = #[(.ref a), (.ref cc), (.int p2), (.int p3)] ∧ Z.Warmed39 UX.vm ∧ UX.heap = h0 ∧ CHv Z own_EL UX.vm h0) (fun _ _ _ _ _ => True) (fun _ UX oX UY => ∃ vX LX, oX = .returned vX ∧ Q42 Z a cc p2 p3 w cs g S n h0 n0 vX UY.heap LX ∧ CHr Z own_EL UX.vm UX.heap UY.vm UY.heap ∧ ReturnedEndW UX oX UY LX ({ frames := 3, cells := 2, slots := 8, locals := 95 } : Room).cells ({ frames := 3, cells := 2, slots := 8, locals := 95 } : Room).slots) := by
  refine MetFree.of_bodySF (plainFor_of_name pn_42) hisR ?_
  intro p e s m args below meth c s₁ Bd hml0 hPX hKX
  obtain ⟨rfl, hZ, hh, hC0⟩ := hPX
  have C0 : CHr Z own_EL s.vm h0 s.vm h0 := CHr.refl hC0
  have hS := own_since s 0
  have hEL := own_EW hw
  have hx := Bd.exec
  have hby := Bd.bytes
  have hml : c.maxLocals = 4 := hml0
  have hown : s.vm.findClass "java/lang/String" = some m.cls := findClass_of_methodNamed Bd.named
  have hnm := (name_of_methodNamed Bd.named Bd.method).1
  have X0 : Stand p l e ({ frames := 3, cells := 2, slots := 8, locals := 95 } : Room) s m #[(.ref a), (.ref cc), (.int p2), (.int p3)] below meth c s₁ [] 0 0 := Stand.of_body Bd
  have e0 : s₁.heap = h0 := by rw [← hh, Bd.state]; rfl
  have N0 := Fr.nil n0
  have pre0 : ∀ t, Steps p.tables e below (s₁.setTop (mkF m 0 #[rv a, rv cc, iv p2, iv p3] [])) t → Steps p.tables e below (s₁.setTop (entryFrame m #[(.ref a), (.ref cc), (.int p2), (.int p3)] 4)) t := fun t k => castTop (ef_42 m a cc p2 p3) k
  obtain ⟨S0, hS0⟩ : ∃ z, z = (s₁.setTop (entryFrame m #[(.ref a), (.ref cc), (.int p2), (.int p3)] 4)) := ⟨_, rfl⟩
  rw [← hS0] at pre0
  have K0 : Keep h0 h0 [a] := Keep.refl h0 _
  have pre1 : ∀ t, own_s p e below s₁ m 7 #[rv a, rv cc, iv p2, iv p3] [(.int p3), (.int p2), (.ref cc), (.int p3), (.int p2), (.ref cc), (.ref a)] t → Steps p.tables e below S0 t := by
    intro tX kX
    refine pre0 _ ?_
    show own_s p e below s₁ m 0 #[rv a, rv cc, iv p2, iv p3] [] _
    refine XS.aloadN X0.here hx rfl (hb hby d42_0) rfl rfl ?_
    refine XS.aloadN X0.here hx rfl (hb hby d42_1) rfl rfl ?_
    refine XS.iloadN X0.here hx rfl (hb hby d42_2) rfl ?_
    show own_s p e below s₁ m 3 #[rv a, rv cc, iv p2, iv p3] [(.int p2), (.ref cc), (.ref a)] _
    refine XS.iloadN X0.here hx rfl (hb hby d42_3) rfl ?_
    refine XS.aloadN X0.here hx rfl (hb hby d42_4) rfl rfl ?_
    refine XS.iloadN X0.here hx rfl (hb hby d42_5) rfl ?_
    show own_s p e below s₁ m 6 #[rv a, rv cc, iv p2, iv p3] [(.int p2), (.ref cc), (.int p3), (.int p2), (.ref cc), (.ref a)] _
    refine XS.iloadN X0.here hx rfl (hb hby d42_6) rfl ?_
    exact kX
  obtain ⟨_, _, ⟨T2, L2, k2, n2⟩, -, X2, ⟨Lc2, hQ2, l2, y2, z2⟩, st2⟩ := Jvm.LawKit.callS X0 hx (y := (⟨"java/lang/String", "rangeCheck", "([CII)Ljava/lang/Void;"⟩ : MethodName)) hown (mvT hZ (hw _ (List.mem_of_getElem? (i := 95) rfl))) (mvT hZ (hw _ (List.mem_of_getElem? (i := 96) rfl))) (mvT hZ (hw _ (List.mem_of_getElem? (i := 50) rfl))) (mvT hZ (hw _ (List.mem_of_getElem? (i := 97) rfl))) (by decide) (backOf (W := 4) (rm11 l Z a0 hw [] cc p2 p3 (fun j => .int (g j)) w cs h0 n0 Z0 hv S_s A_c (by omega) (by omega) (by omega)) hZ (hw _ (List.mem_of_getElem? (i := 97) rfl)) (hw _ (List.mem_of_getElem? (i := 50) rfl)) (by decide) (by decide)) (g := (mkF m 7 #[rv a, rv cc, iv p2, iv p3] [(.int p3), (.int p2), (.ref cc), (.int p3), (.int p2), (.ref cc), (.ref a)])) rfl (by rw [hml]; rfl) (argsL := [(.ref cc), (.int p2), (.int p3)]) (rest := [(.int p3), (.int p2), (.ref cc), (.ref a)]) (lenOf pd42_0 rfl) rfl (by show 2 * 0 + _ ≤ _; exact Nat.le_of_eq rfl) (hb hby d42_7) (fun _ _ => ⟨rfl, e0, (by decide : 0 + 0 ≤ _), (by decide : 0 + 0 ≤ _)⟩)
  dsimp only [Pt.U, Pt.locs, Pt.cells, Pt.slots] at X2 l2 y2 z2 st2 hQ2
  subst l2 y2 z2
  obtain ⟨rfl, Nq2, e2⟩ := hQ2
  have N2 := Fr.app N0 Nq2
  obtain ⟨LL3, X3, N3⟩ : ∃ LL, Stand p l e ({ frames := 3, cells := 2, slots := 8, locals := 95 } : Room) s m #[(.ref a), (.ref cc), (.int p2), (.int p3)] below meth c T2 LL 0 0 ∧ Fr n0 LL := ⟨_, X2, N2⟩
  have pre4 : ∀ t, own_s p e below T2 m 10 #[rv a, rv cc, iv p2, iv p3] [.null, (.int p3), (.int p2), (.ref cc), (.ref a)] t → Steps p.tables e below S0 t := fun tX kX => pre1 _ (st2 _ kX)
  obtain ⟨_, _, ⟨T5, L5, k5, n5⟩, -, X5, hSq5, gr5, ⟨Lc5, hQ5, l5, y5, z5, Cq5⟩, st5⟩ := X3.specialBackS hx (y := (⟨"java/lang/String", "<init>", "([CIILjava/lang/Void;)V"⟩ : MethodName)) rfl hown (mvT hZ (hw _ (List.mem_of_getElem? (i := 106) rfl))) (mvT hZ (hw _ (List.mem_of_getElem? (i := 107) rfl))) (mvT hZ (hw _ (List.mem_of_getElem? (i := 108) rfl))) (by decide) (backOfSH (s := s) (vm0 := s.vm) (W := 0) (rm41 l Z a0 hw [] a cc p2 p3 w cs g S n h0 n0 Z0 hv S_s hc E_a F_v F_c A_c Bg hS_ hn hn5 hSn ne_ac g_a) hZ (hw _ (List.mem_of_getElem? (i := 108) rfl)) (hw _ (List.mem_of_getElem? (i := 50) rfl)) (by decide) (by decide) hEL C0.1) (g := (mkF m 10 #[rv a, rv cc, iv p2, iv p3] [.null, (.int p3), (.int p2), (.ref cc), (.ref a)])) rfl (by rw [hml]; rfl) (Steps.refl _) (a := a) (argsL := [(.ref cc), (.int p2), (.int p3), .null]) (rest := []) (lenOf pd42_1 rfl) rfl (by show 2 * 0 + _ ≤ _; exact Nat.le_of_eq rfl) (hb hby d42_10) (fun _ _ => ⟨rfl, e2, (by decide : 0 + 2 ≤ _), (by decide : 0 + 8 ≤ _)⟩)
  dsimp only [Pt.U, Pt.locs, Pt.cells, Pt.slots] at X5 hSq5 gr5 l5 y5 z5 st5 hQ5 Cq5
  subst l5 y5 z5
  have hS5 : s.Since T5.vm T5.heap.size := foldS hS (by rw [e2]; exact (Nat.zero_le _)) hSq5 gr5
  have hZ5 : Z.Warmed39 (s.setVm T5.vm).vm := State.Warmed39.trans (t := (s.setVm s.vm)) hZ hSq5.1
  have hown5 : (s.setVm T5.vm).vm.findClass "java/lang/String" = some m.cls := by rw [show (s.setVm T5.vm).vm = T5.vm from rfl, hSq5.1.alike.findClass]; exact hown
  have hS := hS5
  have hZ := hZ5
  have hown := hown5
  obtain ⟨b5, G5, rfl, Nq5, Kq5, fE5, fC5, fV5, fA5, R5⟩ := hQ5
  have N5 := Fr.app N3 Nq5
  have e5 : T5.heap = T5.heap := rfl
  have Z5 : n0 ≤ T5.heap.size := Nat.le_trans Z0 Kq5.1
  have K5 : Keep h0 T5.heap [a] := K0.trans Kq5 (allS (Or.inl (List.mem_of_getElem? (i := 0) rfl)) all0)
  have C6 : CHr Z own_EL s.vm h0 T5.vm T5.heap := C0.trans Cq5
  have f7_E : Exa Z T5.heap a "java/lang/String" := E_a.keep Kq5
  have f8_A : own_Af Z T5.heap cc .char 256 (fun j => .int (g j)) := A_c.keep Kq5 (ninS (Ne.symm ne_ac) nin0)
  have f9_B : own_Ss Z T5.heap w cs := S_s.keep Kq5 (nsS (own_nsE E_a) ns0)
  have ne10 : b5 ≠ cc := own_neT fA5 f8_A (fun q => nomatch q)
  obtain ⟨LL11, X11, N11⟩ : ∃ LL, Stand p l e ({ frames := 3, cells := 2, slots := 8, locals := 95 } : Room) (s.setVm T5.vm) m #[(.ref a), (.ref cc), (.int p2), (.int p3)] below meth c T5 LL 2 8 ∧ Fr n0 LL := ⟨_, X5, N5⟩
  have pre12 : ∀ t, own_s p e below T5 m 13 #[rv a, rv cc, iv p2, iv p3] [] t → Steps p.tables e below S0 t := fun tX kX => pre4 _ (st5.trans kX)
  have Xe := X11.mono (cells' := 2) (slots' := 8) (by decide) (by decide)
  subst hS0
  obtain ⟨fsX, hr, hrun, hended, hend⟩ := Xe.leaveW hS (by rw [e5]; exact (Nat.le_refl _)) (v := none) (fun _ => rfl)
  refine ⟨_, _, pre12 _ (Xe.returnOut hx Bd.returns (hb hby d42_13) hr), hrun, hended, _, _, rfl, ?_, (by rw [hh]; show CHr Z own_EL s.vm h0 T5.vm T5.heap; rw [e5]; exact C6.trans (CHv.at (s := s) (vm0 := T5.vm) Xe hZ hEL C6.1)), hend⟩
  show Q42 Z a cc p2 p3 w cs g S n h0 n0 none T5.heap _
  exact ⟨_, _, rfl, N11, K5, fE5, fC5, fV5, fA5, R5⟩
theorem d43_0 : decode prog_157_method_8_code 0 = .ok (.aload_n 0, 1) := by decide +kernel
theorem d43_1 : decode prog_157_method_8_code 1 = .ok (.getfield 32, 3) := by decide +kernel
theorem d43_4 : decode prog_157_method_8_code 4 = .ok (.iload_n 1, 1) := by decide +kernel
theorem d43_5 : decode prog_157_method_8_code 5 = .ok (.aaload, 1) := by decide +kernel
theorem d43_6 : decode prog_157_method_8_code 6 = .ok (.ifnonnull 32, 3) := by decide +kernel
theorem d43_9 : decode prog_157_method_8_code 9 = .ok (.aload_n 0, 1) := by decide +kernel
theorem d43_10 : decode prog_157_method_8_code 10 = .ok (.getfield 32, 3) := by decide +kernel
theorem d43_13 : decode prog_157_method_8_code 13 = .ok (.iload_n 1, 1) := by decide +kernel
theorem d43_14 : decode prog_157_method_8_code 14 = .ok (.new 22, 3) := by decide +kernel
theorem d43_17 : decode prog_157_method_8_code 17 = .ok (.dup, 1) := by decide +kernel
theorem d43_18 : decode prog_157_method_8_code 18 = .ok (.aload_n 0, 1) := by decide +kernel
theorem d43_19 : decode prog_157_method_8_code 19 = .ok (.getfield 35, 3) := by decide +kernel
theorem d43_22 : decode prog_157_method_8_code 22 = .ok (.aload_n 0, 1) := by decide +kernel
theorem d43_23 : decode prog_157_method_8_code 23 = .ok (.getfield 15, 3) := by decide +kernel
theorem d43_26 : decode prog_157_method_8_code 26 = .ok (.iload_n 1, 1) := by decide +kernel
theorem d43_27 : decode prog_157_method_8_code 27 = .ok (.iaload, 1) := by decide +kernel
theorem d43_28 : decode prog_157_method_8_code 28 = .ok (.aload_n 0, 1) := by decide +kernel
theorem d43_29 : decode prog_157_method_8_code 29 = .ok (.getfield 19, 3) := by decide +kernel
theorem d43_32 : decode prog_157_method_8_code 32 = .ok (.iload_n 1, 1) := by decide +kernel
theorem d43_33 : decode prog_157_method_8_code 33 = .ok (.iaload, 1) := by decide +kernel
theorem d43_34 : decode prog_157_method_8_code 34 = .ok (.invokespecial 79, 3) := by decide +kernel
theorem d43_37 : decode prog_157_method_8_code 37 = .ok (.aastore, 1) := by decide +kernel
theorem d43_38 : decode prog_157_method_8_code 38 = .ok (.aload_n 0, 1) := by decide +kernel
theorem d43_39 : decode prog_157_method_8_code 39 = .ok (.getfield 32, 3) := by decide +kernel
theorem d43_42 : decode prog_157_method_8_code 42 = .ok (.iload_n 1, 1) := by decide +kernel
theorem d43_43 : decode prog_157_method_8_code 43 = .ok (.aaload, 1) := by decide +kernel
theorem d43_44 : decode prog_157_method_8_code 44 = .ok (.areturn, 1) := by decide +kernel
theorem pn_43 : plainName "com/example/weaverbird/weaverbird/model/xml/Attributes" = true := by first | (simp [plainName, overriddenIn]; done) | decide +kernel
theorem pd43_0 : parseMethodDescriptor "([CII)V" = some ⟨[(.array .char), .int, .int], none⟩ := by decide +kernel
theorem ef_43 (m : MethodId) (a : Addr) (p1 : Int32) : entryFrame m #[(.ref a), (.int p1)] 2 = mkF m 0 #[rv a, iv p1] [] := by first | (simp [entryFrame, mkF, argsToLocals, Value.category]; done) | rfl
def Q43 (Z : State) (a : Addr) (p1 : Int32) (nm : Addr) (sr : Addr) (ln : Addr) (ns : Addr) (dc : Addr) (sg : Addr) (vl : Addr) (ct : Int32) (vn : Int32) (fs : Nat → Int32) (fl : Nat → Int32) (fg : Nat → Value) (g : Nat → Int32) (w : Value) (cs : Int32) (S : Nat) (n : Nat) (K : Nat) (h0 : Heap) (n0 : Nat) (v : Option Value) (h : Heap) (L : List Loc) : Prop := ∃ (sa : Addr) (b : Addr) (G : Nat → Int32) (fg' : Nat → Value), v = some (.ref sa) ∧ Fr n0 L ∧ Exa Z h sa "java/lang/String" ∧ Fld Z h sa "java/lang/String" "coder" "B" (.int (0 : Int32)) ∧ Fld Z h sa "java/lang/String" "value" "[B" (.ref b) ∧ own_Af Z h b .byte n (fun j => .int (G j)) ∧ (∀ j, j < n → (G j).toInt % 256 = (g (S + j)).toInt) ∧ (∀ j, j ≠ K → fg' j = fg j) ∧ own_Ss Z h w cs ∧ Keep h0 h [sg] ∧ own_At Z h a nm sr ln ns dc sg vl ct vn fs fl fg' g
set_option maxRecDepth 65536 in
set_option maxHeartbeats 40000000 in
theorem rm43 (l : Launch) (Z : State) (a0 : Array Value) (hw : ∀ d ∈ tables_1, d.before a0 Z = true) (ws : List Jvm.Cond) (a : Addr) (p1 : Int32) (nm : Addr) (sr : Addr) (ln : Addr) (ns : Addr) (dc : Addr) (sg : Addr) (vl : Addr) (ct : Int32) (vn : Int32) (fs : Nat → Int32) (fl : Nat → Int32) (fg : Nat → Value) (g : Nat → Int32) (w : Value) (cs : Int32) (S : Nat) (n : Nat) (K : Nat) (h0 : Heap) (n0 : Nat) (Z0 : n0 ≤ h0.size) (hAt : own_At Z h0 a nm sr ln ns dc sg vl ct vn fs fl fg g) (hO : a < nm ∧ nm < sr ∧ sr < ln ∧ ln < ns ∧ ns < dc ∧ dc < sg ∧ sg < vl) (g_a : n0 ≤ a) (Bg : own_B g) (hv : w.isRef = true) (S_s : own_Ss Z h0 w cs) (hc : ¬ cs = 0) (hp : p1.toInt = ((K : Nat) : Int)) (hK : K < 8) (hgK : fg K = .null) (hfs : (fs K).toInt = ((S : Nat) : Int)) (hfl : (fl K).toInt = ((n : Nat) : Int)) (hn5 : n ≤ 5) (hSn : S + n ≤ 256) :
    MetFree l (⟨"com/example/weaverbird/weaverbird/model/xml/Attributes", "value", "(I)Ljava/lang/String;"⟩ : MethodName) (head1 (Jvm.Cond.code (⟨"com/example/weaverbird/weaverbird/model/xml/Attributes", "value", "(I)Ljava/lang/String;"⟩ : MethodName) prog_157_method_8_code 2 (some (.object "java/lang/String")) :: ws) ({ frames := 4, cells := 3, slots := 12, locals := 125 } : Room)) (fun aX UX => aX = #[(.ref a), (.int p1)] ∧ Z.Warmed39 UX.vm ∧ UX.heap = h0 ∧ CHv Z own_EL UX.vm h0) (fun _ _ _ _ _ => True) (fun _ UX oX UY => ∃ vX LX, oX = .returned vX ∧ Q43 Z a p1 nm sr ln ns dc sg vl ct vn fs fl fg g w cs S n K h0 n0 vX UY.heap LX ∧ CHr Z own_EL UX.vm UX.heap UY.vm UY.heap ∧ ReturnedEndW UX oX UY LX ({ frames := 4, cells := 3, slots := 12, locals := 125 } : Room).cells ({ frames := 4, cells := 3, slots := 12, locals := 125 } : Room).slots) := by
  refine MetFree.of_bodySF (plainFor_of_name pn_43) hisR ?_
  intro p e s m args below meth c s₁ Bd hml0 hPX hKX
  obtain ⟨rfl, hZ, hh, hC0⟩ := hPX
  have C0 : CHr Z own_EL s.vm h0 s.vm h0 := CHr.refl hC0
  have hS := own_since s 0
  have hEL := own_EW hw
  have hx := Bd.exec
  have hby := Bd.bytes
  have hml : c.maxLocals = 2 := hml0
  have hown : s.vm.findClass "com/example/weaverbird/weaverbird/model/xml/Attributes" = some m.cls := findClass_of_methodNamed Bd.named
  have hnm := (name_of_methodNamed Bd.named Bd.method).1
  have X0 : Stand p l e ({ frames := 4, cells := 3, slots := 12, locals := 125 } : Room) s m #[(.ref a), (.int p1)] below meth c s₁ [] 0 0 := Stand.of_body Bd
  have e0 : s₁.heap = h0 := by rw [← hh, Bd.state]; rfl
  have N0 := Fr.nil n0
  have pre0 : ∀ t, Steps p.tables e below (s₁.setTop (mkF m 0 #[rv a, iv p1] [])) t → Steps p.tables e below (s₁.setTop (entryFrame m #[(.ref a), (.int p1)] 2)) t := fun t k => castTop (ef_43 m a p1) k
  obtain ⟨S0, hS0⟩ : ∃ z, z = (s₁.setTop (entryFrame m #[(.ref a), (.int p1)] 2)) := ⟨_, rfl⟩
  rw [← hS0] at pre0
  have K0 : Keep h0 h0 [sg] := Keep.refl h0 _
  obtain ⟨o1, o2, o3, o4, o5, o6, o7⟩ := id hO
  obtain ⟨E_a, F_nm, F_sr, F_ln, F_ns, F_dc, F_sg, F_vl, F_ct, F_vn, ⟨fnm, A_nm⟩, A_sr, A_ln, ⟨fns, A_ns⟩, ⟨fdc, A_dc⟩, A_sg, A_vl, O_ns, O_sg⟩ := id hAt
  have ne_a_sr : a ≠ sr := Nat.ne_of_lt (Nat.lt_trans o1 o2)
  have ne_a_ln : a ≠ ln := Nat.ne_of_lt (Nat.lt_trans o1 (Nat.lt_trans o2 o3))
  have ne_a_sg : a ≠ sg := Nat.ne_of_lt (Nat.lt_trans o1 (Nat.lt_trans o2 (Nat.lt_trans o3 (Nat.lt_trans o4 (Nat.lt_trans o5 o6)))))
  have ne_a_vl : a ≠ vl := Nat.ne_of_lt (Nat.lt_trans o1 (Nat.lt_trans o2 (Nat.lt_trans o3 (Nat.lt_trans o4 (Nat.lt_trans o5 (Nat.lt_trans o6 o7))))))
  have ne_sr_ln : sr ≠ ln := Nat.ne_of_lt o3
  have ne_sr_sg : sr ≠ sg := Nat.ne_of_lt (Nat.lt_trans o3 (Nat.lt_trans o4 (Nat.lt_trans o5 o6)))
  have ne_sr_vl : sr ≠ vl := Nat.ne_of_lt (Nat.lt_trans o3 (Nat.lt_trans o4 (Nat.lt_trans o5 (Nat.lt_trans o6 o7))))
  have ne_ln_sg : ln ≠ sg := Nat.ne_of_lt (Nat.lt_trans o4 (Nat.lt_trans o5 o6))
  have ne_ln_vl : ln ≠ vl := Nat.ne_of_lt (Nat.lt_trans o4 (Nat.lt_trans o5 (Nat.lt_trans o6 o7)))
  have ne_sg_vl : sg ≠ vl := Nat.ne_of_lt o7
  have g_sg : n0 ≤ sg := Nat.le_trans g_a (Nat.le_of_lt (Nat.lt_trans o1 (Nat.lt_trans o2 (Nat.lt_trans o3 (Nat.lt_trans o4 (Nat.lt_trans o5 o6))))))
  have pre1 : ∀ t, own_s p e below s₁ m 1 #[rv a, iv p1] [(.ref a)] t → Steps p.tables e below S0 t := by
    intro tX kX
    refine pre0 _ ?_
    show own_s p e below s₁ m 0 #[rv a, iv p1] [] _
    refine XS.aloadN X0.here hx rfl (hb hby d43_0) rfl rfl ?_
    exact kX
  obtain ⟨T2, X2, e2, st2⟩ := getF X0 hx hZ hown (host := "") (Or.inl (hw _ (List.mem_of_getElem? (i := 34) rfl))) Via.refl e0 F_sg (g := (mkF m 1 #[rv a, iv p1] [(.ref a)])) rfl rfl (hb hby d43_1)
  have pre3 : ∀ t, own_s p e below T2 m 4 #[rv a, iv p1] [(.ref sg)] t → Steps p.tables e below S0 t := fun tX kX => pre1 _ (st2 _ kX)
  have pre5 : ∀ t, own_s p e below T2 m 5 #[rv a, iv p1] [(.int p1), (.ref sg)] t → Steps p.tables e below S0 t := by
    intro tX kX
    refine pre3 _ ?_
    show own_s p e below T2 m 4 #[rv a, iv p1] [(.ref sg)] _
    refine XS.iloadN X2.here hx rfl (hb hby d43_4) rfl ?_
    exact kX
  obtain ⟨cl4, Ar4, S4, M4, H4⟩ := id A_sg
  have pre6 : ∀ t, own_s p e below T2 m 10 #[rv a, iv p1] [(.ref a)] t → Steps p.tables e below S0 t := by
    intro tX kX
    refine pre5 _ ?_
    show own_s p e below T2 m 5 #[rv a, iv p1] [(.int p1), (.ref sg)] _
    refine X2.aaload hx (j := p1) (v := .null) (by rw [e2]; exact Ar4.1) (State.isArrayOf_alike hZ.alike Ar4.2.1) rfl Ar4.2.2 (own_inb S4 M4 (own_idx (by omega) (by omega))) (own_get H4 S4 (own_idx (by omega) (by omega)) (by show fg p1.toNatClampNeg = _; rw [own_nat hp]; exact hgK)) (g := (mkF m 5 #[rv a, iv p1] [(.int p1), (.ref sg)])) rfl rfl (hb hby d43_5) _ ?_
    refine XS.ifnonnullNo X2.here hx rfl (hb hby d43_6) rfl ?_
    refine XS.aloadN X2.here hx rfl (hb hby d43_9) rfl rfl ?_
    exact kX
  obtain ⟨T7, X7, e7, st7⟩ := getF X2 hx hZ hown (host := "") (Or.inl (hw _ (List.mem_of_getElem? (i := 34) rfl))) Via.refl e2 F_sg (g := (mkF m 10 #[rv a, iv p1] [(.ref a)])) rfl rfl (hb hby d43_10)
  have pre8 : ∀ t, own_s p e below T7 m 13 #[rv a, iv p1] [(.ref sg)] t → Steps p.tables e below S0 t := fun tX kX => pre6 _ (st7 _ kX)
  have pre9 : ∀ t, own_s p e below T7 m 14 #[rv a, iv p1] [(.int p1), (.ref sg)] t → Steps p.tables e below S0 t := by
    intro tX kX
    refine pre8 _ ?_
    show own_s p e below T7 m 13 #[rv a, iv p1] [(.ref sg)] _
    refine XS.iloadN X7.here hx rfl (hb hby d43_13) rfl ?_
    exact kX
  obtain ⟨T10, h10, X10, e10, E10, A10, D10, -, st10⟩ := newO X7 hx hZ hown (hw _ (List.mem_of_getElem? (i := 27) rfl)) (hw _ (List.mem_of_getElem? (i := 51) rfl)) (hw _ (List.mem_of_getElem? (i := 50) rfl)) e7 (g := (mkF m 14 #[rv a, iv p1] [(.int p1), (.ref sg)])) rfl (hb hby d43_14) (by decide) (by decide)
  obtain ⟨b10, g10⟩ : ∃ z, z = h0.size := ⟨_, rfl⟩
  rw [← g10] at A10 D10 st10
  have ne11 : a ≠ b10 := Nat.ne_of_lt (Nat.lt_of_lt_of_le E_a.lt (Nat.le_of_eq g10.symm))
  have ne12 : sg ≠ b10 := Nat.ne_of_lt (Nat.lt_of_lt_of_le A_sg.lt (Nat.le_of_eq g10.symm))
  have ne13 : sr ≠ b10 := Nat.ne_of_lt (Nat.lt_of_lt_of_le A_sr.lt (Nat.le_of_eq g10.symm))
  have ne14 : ln ≠ b10 := Nat.ne_of_lt (Nat.lt_of_lt_of_le A_ln.lt (Nat.le_of_eq g10.symm))
  have ne15 : vl ≠ b10 := Nat.ne_of_lt (Nat.lt_of_lt_of_le A_vl.lt (Nat.le_of_eq g10.symm))
  have g_b10 : n0 ≤ b10 := Nat.le_trans Z0 (Nat.le_of_eq g10.symm)
  have sz_b10 : h0.size ≤ b10 := Nat.le_trans K0.1 (Nat.le_of_eq g10.symm)
  have pre16 : ∀ t, own_s p e below T10 m 17 #[rv a, iv p1] [(.ref b10), (.int p1), (.ref sg)] t → Steps p.tables e below S0 t := fun tX kX => pre9 _ (st10 _ kX)
  have f17_E : Exa Z h10 a "com/example/weaverbird/weaverbird/model/xml/Attributes" := E_a.ext E10
  have f18_F : Fld Z h10 a "com/example/weaverbird/weaverbird/model/xml/Attributes" "starts" "[I" (.ref sr) := F_sr.ext E10
  have f19_F : Fld Z h10 a "com/example/weaverbird/weaverbird/model/xml/Attributes" "lengths" "[I" (.ref ln) := F_ln.ext E10
  have f20_F : Fld Z h10 a "com/example/weaverbird/weaverbird/model/xml/Attributes" "strings" "[Ljava/lang/String;" (.ref sg) := F_sg.ext E10
  have f21_F : Fld Z h10 a "com/example/weaverbird/weaverbird/model/xml/Attributes" "values" "[C" (.ref vl) := F_vl.ext E10
  have f22_A : own_Af Z h10 sg (.object "java/lang/String") 8 fg := A_sg.ext E10
  have f23_A : own_Af Z h10 sr .int 8 (fun j => .int (fs j)) := A_sr.ext E10
  have f24_A : own_Af Z h10 ln .int 8 (fun j => .int (fl j)) := A_ln.ext E10
  have f25_A : own_Af Z h10 vl .char 256 (fun j => .int (g j)) := A_vl.ext E10
  have f26_B : own_Ov Z h10 sg "java/lang/String" := O_sg.ext E10
  have f27_B : own_Ss Z h10 w cs := S_s.ext E10
  have Z28 : n0 ≤ h10.size := Nat.le_trans Z0 E10.1
  have K29 : Keep h0 h10 [sg] := K0.ext E10
  have C30 : CHr Z own_EL s.vm h0 s.vm h10 := C0.trans (CHr.ext E10 C0.1)
  have f31_E : Exa Z h10 b10 "java/lang/String" := A10
  have f32_F : Fld Z h10 b10 "java/lang/String" "value" "[B" .null := D10 (Or.inr (hw _ (List.mem_of_getElem? (i := 53) rfl))) (ty := (.array .byte)) (by decide)
  have f33_F : Fld Z h10 b10 "java/lang/String" "coder" "B" (.int (0 : Int32)) := D10 (Or.inr (hw _ (List.mem_of_getElem? (i := 54) rfl))) (ty := .byte) (by decide)
  have pre34 : ∀ t, own_s p e below T10 m 19 #[rv a, iv p1] [(.ref a), (.ref b10), (.ref b10), (.int p1), (.ref sg)] t → Steps p.tables e below S0 t := by
    intro tX kX
    refine pre16 _ ?_
    show own_s p e below T10 m 17 #[rv a, iv p1] [(.ref b10), (.int p1), (.ref sg)] _
    refine XS.dup X10.here hx rfl (hb hby d43_17) rfl rfl ?_
    refine XS.aloadN X10.here hx rfl (hb hby d43_18) rfl rfl ?_
    exact kX
  obtain ⟨T35, X35, e35, st35⟩ := getF X10 hx hZ hown (host := "") (Or.inl (hw _ (List.mem_of_getElem? (i := 36) rfl))) Via.refl e10 f21_F (g := (mkF m 19 #[rv a, iv p1] [(.ref a), (.ref b10), (.ref b10), (.int p1), (.ref sg)])) rfl rfl (hb hby d43_19)
  have pre36 : ∀ t, own_s p e below T35 m 22 #[rv a, iv p1] [(.ref vl), (.ref b10), (.ref b10), (.int p1), (.ref sg)] t → Steps p.tables e below S0 t := fun tX kX => pre34 _ (st35 _ kX)
  have pre37 : ∀ t, own_s p e below T35 m 23 #[rv a, iv p1] [(.ref a), (.ref vl), (.ref b10), (.ref b10), (.int p1), (.ref sg)] t → Steps p.tables e below S0 t := by
    intro tX kX
    refine pre36 _ ?_
    show own_s p e below T35 m 22 #[rv a, iv p1] [(.ref vl), (.ref b10), (.ref b10), (.int p1), (.ref sg)] _
    refine XS.aloadN X35.here hx rfl (hb hby d43_22) rfl rfl ?_
    exact kX
  obtain ⟨T38, X38, e38, st38⟩ := getF X35 hx hZ hown (host := "") (Or.inl (hw _ (List.mem_of_getElem? (i := 23) rfl))) Via.refl e35 f18_F (g := (mkF m 23 #[rv a, iv p1] [(.ref a), (.ref vl), (.ref b10), (.ref b10), (.int p1), (.ref sg)])) rfl rfl (hb hby d43_23)
  have pre39 : ∀ t, own_s p e below T38 m 26 #[rv a, iv p1] [(.ref sr), (.ref vl), (.ref b10), (.ref b10), (.int p1), (.ref sg)] t → Steps p.tables e below S0 t := fun tX kX => pre37 _ (st38 _ kX)
  have pre41 : ∀ t, own_s p e below T38 m 27 #[rv a, iv p1] [(.int p1), (.ref sr), (.ref vl), (.ref b10), (.ref b10), (.int p1), (.ref sg)] t → Steps p.tables e below S0 t := by
    intro tX kX
    refine pre39 _ ?_
    show own_s p e below T38 m 26 #[rv a, iv p1] [(.ref sr), (.ref vl), (.ref b10), (.ref b10), (.int p1), (.ref sg)] _
    refine XS.iloadN X38.here hx rfl (hb hby d43_26) rfl ?_
    exact kX
  obtain ⟨cl40, Ar40, S40, M40, H40⟩ := id f23_A
  have pre42 : ∀ t, own_s p e below T38 m 29 #[rv a, iv p1] [(.ref a), (.int (fs K)), (.ref vl), (.ref b10), (.ref b10), (.int p1), (.ref sg)] t → Steps p.tables e below S0 t := by
    intro tX kX
    refine pre41 _ ?_
    show own_s p e below T38 m 27 #[rv a, iv p1] [(.int p1), (.ref sr), (.ref vl), (.ref b10), (.ref b10), (.int p1), (.ref sg)] _
    refine X38.iaload hx (j := p1) (v := (.int (fs K))) (by rw [e38]; exact Ar40.1) (State.isArrayOf_alike hZ.alike Ar40.2.1) Ar40.2.2 (own_inb S40 M40 (own_idx (by omega) (by omega))) (own_get H40 S40 (own_idx (by omega) (by omega)) (by show Value.int (fs p1.toNatClampNeg) = _; rw [own_nat hp])) (g := (mkF m 27 #[rv a, iv p1] [(.int p1), (.ref sr), (.ref vl), (.ref b10), (.ref b10), (.int p1), (.ref sg)])) rfl rfl (hb hby d43_27) _ ?_
    refine XS.aloadN X38.here hx rfl (hb hby d43_28) rfl rfl ?_
    exact kX
  obtain ⟨T43, X43, e43, st43⟩ := getF X38 hx hZ hown (host := "") (Or.inl (hw _ (List.mem_of_getElem? (i := 25) rfl))) Via.refl e38 f19_F (g := (mkF m 29 #[rv a, iv p1] [(.ref a), (.int (fs K)), (.ref vl), (.ref b10), (.ref b10), (.int p1), (.ref sg)])) rfl rfl (hb hby d43_29)
  have pre44 : ∀ t, own_s p e below T43 m 32 #[rv a, iv p1] [(.ref ln), (.int (fs K)), (.ref vl), (.ref b10), (.ref b10), (.int p1), (.ref sg)] t → Steps p.tables e below S0 t := fun tX kX => pre42 _ (st43 _ kX)
  have pre46 : ∀ t, own_s p e below T43 m 33 #[rv a, iv p1] [(.int p1), (.ref ln), (.int (fs K)), (.ref vl), (.ref b10), (.ref b10), (.int p1), (.ref sg)] t → Steps p.tables e below S0 t := by
    intro tX kX
    refine pre44 _ ?_
    show own_s p e below T43 m 32 #[rv a, iv p1] [(.ref ln), (.int (fs K)), (.ref vl), (.ref b10), (.ref b10), (.int p1), (.ref sg)] _
    refine XS.iloadN X43.here hx rfl (hb hby d43_32) rfl ?_
    exact kX
  obtain ⟨cl45, Ar45, S45, M45, H45⟩ := id f24_A
  have pre47 : ∀ t, own_s p e below T43 m 34 #[rv a, iv p1] [(.int (fl K)), (.int (fs K)), (.ref vl), (.ref b10), (.ref b10), (.int p1), (.ref sg)] t → Steps p.tables e below S0 t := by
    intro tX kX
    refine pre46 _ ?_
    show own_s p e below T43 m 33 #[rv a, iv p1] [(.int p1), (.ref ln), (.int (fs K)), (.ref vl), (.ref b10), (.ref b10), (.int p1), (.ref sg)] _
    refine X43.iaload hx (j := p1) (v := (.int (fl K))) (by rw [e43]; exact Ar45.1) (State.isArrayOf_alike hZ.alike Ar45.2.1) Ar45.2.2 (own_inb S45 M45 (own_idx (by omega) (by omega))) (own_get H45 S45 (own_idx (by omega) (by omega)) (by show Value.int (fl p1.toNatClampNeg) = _; rw [own_nat hp])) (g := (mkF m 33 #[rv a, iv p1] [(.int p1), (.ref ln), (.int (fs K)), (.ref vl), (.ref b10), (.ref b10), (.int p1), (.ref sg)])) rfl rfl (hb hby d43_33) _ ?_
    exact kX
  obtain ⟨pl_, hpl_⟩ : ∃ z : Int32, z = (fl K) := ⟨_, rfl⟩
  rw [← hpl_] at pre47
  have hn : pl_.toInt = ((n : Nat) : Int) := by rw [hpl_]; exact hfl
  obtain ⟨ps_, hps_⟩ : ∃ z : Int32, z = (fs K) := ⟨_, rfl⟩
  rw [← hps_] at pre47
  have hS_ : ps_.toInt = ((S : Nat) : Int) := by rw [hps_]; exact hfs
  obtain ⟨_, _, ⟨T48, L48, k48, n48⟩, -, X48, hSq48, gr48, ⟨Lc48, hQ48, l48, y48, z48, Cq48⟩, st48⟩ := X43.specialBackS hx (y := (⟨"java/lang/String", "<init>", "([CII)V"⟩ : MethodName)) rfl hown (mvT hZ (hw _ (List.mem_of_getElem? (i := 92) rfl))) (mvT hZ (hw _ (List.mem_of_getElem? (i := 93) rfl))) (mvT hZ (hw _ (List.mem_of_getElem? (i := 94) rfl))) (by decide) (backOfSH (s := s) (vm0 := s.vm) (W := 3) (rm42 l Z a0 hw [] b10 vl ps_ pl_ w cs g S n h10 n0 Z28 hv f27_B hc f31_E f32_F f33_F f25_A Bg hS_ hn hn5 hSn (Ne.symm ne15) g_b10) hZ (hw _ (List.mem_of_getElem? (i := 94) rfl)) (hw _ (List.mem_of_getElem? (i := 50) rfl)) (by decide) (by decide) hEL C30.1) (g := (mkF m 34 #[rv a, iv p1] [(.int pl_), (.int ps_), (.ref vl), (.ref b10), (.ref b10), (.int p1), (.ref sg)])) rfl (by rw [hml]; rfl) (Steps.refl _) (a := b10) (argsL := [(.ref vl), (.int ps_), (.int pl_)]) (rest := [(.ref b10), (.int p1), (.ref sg)]) (lenOf pd43_0 rfl) rfl (by show 2 * 0 + _ ≤ _; exact Nat.le_of_eq rfl) (hb hby d43_34) (fun _ _ => ⟨rfl, e43, (by decide : 1 + 2 ≤ _), (by decide : 4 + 8 ≤ _)⟩)
  dsimp only [Pt.U, Pt.locs, Pt.cells, Pt.slots] at X48 hSq48 gr48 l48 y48 z48 st48 hQ48 Cq48
  subst l48 y48 z48
  have hS48 : s.Since T48.vm T48.heap.size := foldS hS (by rw [e43]; exact (Nat.zero_le _)) hSq48 gr48
  have hZ48 : Z.Warmed39 (s.setVm T48.vm).vm := State.Warmed39.trans (t := (s.setVm s.vm)) hZ hSq48.1
  have hown48 : (s.setVm T48.vm).vm.findClass "com/example/weaverbird/weaverbird/model/xml/Attributes" = some m.cls := by rw [show (s.setVm T48.vm).vm = T48.vm from rfl, hSq48.1.alike.findClass]; exact hown
  have hS := hS48
  have hZ := hZ48
  have hown := hown48
  obtain ⟨b48, G48, rfl, Nq48, Kq48, fE48, fC48, fV48, fA48, R48⟩ := hQ48
  have N48 := Fr.app N0 Nq48
  have e48 : T48.heap = T48.heap := rfl
  have Z48 : n0 ≤ T48.heap.size := Nat.le_trans Z28 Kq48.1
  have K48 : Keep h0 T48.heap [sg] := K29.trans Kq48 (allS (Or.inr sz_b10) all0)
  have C49 : CHr Z own_EL s.vm h0 T48.vm T48.heap := C30.trans Cq48
  have f50_E : Exa Z T48.heap a "com/example/weaverbird/weaverbird/model/xml/Attributes" := f17_E.keep Kq48
  have f51_F : Fld Z T48.heap a "com/example/weaverbird/weaverbird/model/xml/Attributes" "starts" "[I" (.ref sr) := f18_F.keep Kq48 (ninS ne11 nin0)
  have f52_F : Fld Z T48.heap a "com/example/weaverbird/weaverbird/model/xml/Attributes" "lengths" "[I" (.ref ln) := f19_F.keep Kq48 (ninS ne11 nin0)
  have f53_F : Fld Z T48.heap a "com/example/weaverbird/weaverbird/model/xml/Attributes" "strings" "[Ljava/lang/String;" (.ref sg) := f20_F.keep Kq48 (ninS ne11 nin0)
  have f54_F : Fld Z T48.heap a "com/example/weaverbird/weaverbird/model/xml/Attributes" "values" "[C" (.ref vl) := f21_F.keep Kq48 (ninS ne11 nin0)
  have f55_A : own_Af Z T48.heap sg (.object "java/lang/String") 8 fg := f22_A.keep Kq48 (ninS ne12 nin0)
  have f56_A : own_Af Z T48.heap sr .int 8 (fun j => .int (fs j)) := f23_A.keep Kq48 (ninS ne13 nin0)
  have f57_A : own_Af Z T48.heap ln .int 8 (fun j => .int (fl j)) := f24_A.keep Kq48 (ninS ne14 nin0)
  have f58_A : own_Af Z T48.heap vl .char 256 (fun j => .int (g j)) := f25_A.keep Kq48 (ninS ne15 nin0)
  have f59_B : own_Ov Z T48.heap sg "java/lang/String" := f26_B.keep Kq48
  have f60_B : own_Ss Z T48.heap w cs := f27_B.keep Kq48 (nsS (own_nsE f31_E) ns0)
  have f61_E : Exa Z T48.heap b10 "java/lang/String" := f31_E.keep Kq48
  have ne62 : b48 ≠ sg := own_neT fA48 f55_A (fun q => nomatch q)
  have ne63 : b48 ≠ sr := own_neT fA48 f56_A (fun q => nomatch q)
  have ne64 : b48 ≠ ln := own_neT fA48 f57_A (fun q => nomatch q)
  have ne65 : b48 ≠ vl := own_neT fA48 f58_A (fun q => nomatch q)
  obtain ⟨LL66, X66, N66⟩ : ∃ LL, Stand p l e ({ frames := 4, cells := 3, slots := 12, locals := 125 } : Room) (s.setVm T48.vm) m #[(.ref a), (.int p1)] below meth c T48 LL 3 12 ∧ Fr n0 LL := ⟨_, X48, N48⟩
  have pre67 : ∀ t, own_s p e below T48 m 37 #[rv a, iv p1] [(.ref b10), (.int p1), (.ref sg)] t → Steps p.tables e below S0 t := fun tX kX => pre47 _ (st48.trans kX)
  obtain ⟨cl68, Ar68, S68, M68, H68⟩ := id f55_A
  obtain ⟨T69, h69, X69, e69, W69, st69⟩ := Jvm.RoadKit.stR X66 hx hZ e48 Ar68 (j := p1) (own_inb S68 M68 (own_idx (by omega) (by omega))) rfl (own_sto Ar68 f59_B (Ins.self fE48)) (g := (mkF m 37 #[rv a, iv p1] [(.ref b10), (.int p1), (.ref sg)])) rfl rfl (hb hby d43_37)
  have pre70 : ∀ t, own_s p e below T69 m 38 #[rv a, iv p1] [] t → Steps p.tables e below S0 t := fun tX kX => pre67 _ (st69 _ kX)
  obtain ⟨LL71, X71, N71⟩ : ∃ LL, Stand p l e ({ frames := 4, cells := 3, slots := 12, locals := 125 } : Room) (s.setVm T48.vm) m #[(.ref a), (.int p1)] below meth c T69 LL 3 12 ∧ Fr n0 LL := ⟨_, X69, Fr.snoc X69 N66 g_sg⟩
  have f72_E : Exa Z h69 a "com/example/weaverbird/weaverbird/model/xml/Attributes" := f50_E.wr W69
  have f73_F : Fld Z h69 a "com/example/weaverbird/weaverbird/model/xml/Attributes" "starts" "[I" (.ref sr) := f51_F.other W69 (Or.inl ne_a_sg)
  have f74_F : Fld Z h69 a "com/example/weaverbird/weaverbird/model/xml/Attributes" "lengths" "[I" (.ref ln) := f52_F.other W69 (Or.inl ne_a_sg)
  have f75_F : Fld Z h69 a "com/example/weaverbird/weaverbird/model/xml/Attributes" "strings" "[Ljava/lang/String;" (.ref sg) := f53_F.other W69 (Or.inl ne_a_sg)
  have f76_F : Fld Z h69 a "com/example/weaverbird/weaverbird/model/xml/Attributes" "values" "[C" (.ref vl) := f54_F.other W69 (Or.inl ne_a_sg)
  have f77_A : own_Af Z h69 sr .int 8 (fun j => .int (fs j)) := f56_A.other W69 ne_sr_sg
  have f78_A : own_Af Z h69 ln .int 8 (fun j => .int (fl j)) := f57_A.other W69 ne_ln_sg
  have f79_A : own_Af Z h69 vl .char 256 (fun j => .int (g j)) := f58_A.other W69 (Ne.symm ne_sg_vl)
  have f80_B : own_Ov Z h69 sg "java/lang/String" := f59_B.wr W69
  have f81_B : own_Ss Z h69 w cs := f60_B.wr W69
  have f82_E : Exa Z h69 b10 "java/lang/String" := fE48.wr W69
  have f83_F : Fld Z h69 b10 "java/lang/String" "coder" "B" (.int (0 : Int32)) := fC48.other W69 (Or.inl (Ne.symm ne12))
  have f84_F : Fld Z h69 b10 "java/lang/String" "value" "[B" (.ref b48) := fV48.other W69 (Or.inl (Ne.symm ne12))
  have f85_A : own_Af Z h69 b48 .byte n (fun j => .int (G48 j)) := fA48.other W69 ne62
  have Z86 : n0 ≤ h69.size := Nat.le_trans Z48 (Keep.of_wr W69).1
  have K87 : Keep h0 h69 [sg] := K48.wr W69 (Or.inl (List.mem_of_getElem? (i := 0) rfl))
  have hk88 : T48.heap.size ≤ h69.size := Nat.le_trans (Nat.le_refl _) (Keep.of_wr W69).1
  have C89 : CHr Z own_EL s.vm h0 T48.vm h69 := C49.trans (CHr.wr W69 (own_sfA hZ.alike f55_A (fun q => nomatch q)) C49.1)
  have f90_A : own_Af Z h69 sg (.object "java/lang/String") 8 (own_up fg p1.toNatClampNeg (.ref b10)) := own_Af.set Ar68 S68 M68 H68 W69
  have pre91 : ∀ t, own_s p e below T69 m 39 #[rv a, iv p1] [(.ref a)] t → Steps p.tables e below S0 t := by
    intro tX kX
    refine pre70 _ ?_
    show own_s p e below T69 m 38 #[rv a, iv p1] [] _
    refine XS.aloadN X71.here hx rfl (hb hby d43_38) rfl rfl ?_
    exact kX
  obtain ⟨T92, X92, e92, st92⟩ := getF X71 hx hZ hown (host := "") (Or.inl (hw _ (List.mem_of_getElem? (i := 34) rfl))) Via.refl e69 f75_F (g := (mkF m 39 #[rv a, iv p1] [(.ref a)])) rfl rfl (hb hby d43_39)
  have pre93 : ∀ t, own_s p e below T92 m 42 #[rv a, iv p1] [(.ref sg)] t → Steps p.tables e below S0 t := fun tX kX => pre91 _ (st92 _ kX)
  have pre95 : ∀ t, own_s p e below T92 m 43 #[rv a, iv p1] [(.int p1), (.ref sg)] t → Steps p.tables e below S0 t := by
    intro tX kX
    refine pre93 _ ?_
    show own_s p e below T92 m 42 #[rv a, iv p1] [(.ref sg)] _
    refine XS.iloadN X92.here hx rfl (hb hby d43_42) rfl ?_
    exact kX
  obtain ⟨cl94, Ar94, S94, M94, H94⟩ := id f90_A
  have pre96 : ∀ t, own_s p e below T92 m 44 #[rv a, iv p1] [(.ref b10)] t → Steps p.tables e below S0 t := by
    intro tX kX
    refine pre95 _ ?_
    show own_s p e below T92 m 43 #[rv a, iv p1] [(.int p1), (.ref sg)] _
    refine X92.aaload hx (j := p1) (v := (.ref b10)) (by rw [e92]; exact Ar94.1) (State.isArrayOf_alike hZ.alike Ar94.2.1) rfl Ar94.2.2 (own_inb S94 M94 (own_idx (by omega) (by omega))) (own_get H94 S94 (own_idx (by omega) (by omega)) (if_pos rfl)) (g := (mkF m 43 #[rv a, iv p1] [(.int p1), (.ref sg)])) rfl rfl (hb hby d43_43) _ ?_
    exact kX
  have Xe := X92.mono (cells' := 3) (slots' := 12) (by decide) (by decide)
  subst hS0
  obtain ⟨fsX, hr, hrun, hended, hend⟩ := Xe.leaveW hS (by rw [e92]; exact hk88) (v := (some (.ref b10))) (fun h => by rw [Bd.returns] at h; cases h)
  refine ⟨_, _, pre96 _ (retOut Xe hx Bd.returns (own_narR rfl) (Or.inr (Or.inr (Or.inr (Or.inr ⟨rfl, rfl, rfl⟩)))) (hb hby d43_44) hr), hrun, hended, _, _, rfl, ?_, (by rw [hh]; show CHr Z own_EL s.vm h0 T92.vm T92.heap; rw [e92]; exact C89.trans (CHv.at (s := s) (vm0 := T48.vm) Xe hZ hEL C89.1)), hend⟩
  show Q43 Z a p1 nm sr ln ns dc sg vl ct vn fs fl fg g w cs S n K h0 n0 (some (.ref b10)) T92.heap _
  rw [e92]
  exact ⟨b10, b48, G48, _, rfl, N71, f82_E, f83_F, f84_F, f85_A, R48, fun j hj => if_neg (by rw [own_nat hp]; exact hj), f81_B, K87, own_At.kpS hAt hO K87 f90_A⟩
theorem pn_0 : plainName "com/example/weaverbird/weaverbird/model/xml/AttributesCollapsePinLaw" = true := by first | (simp [plainName, overriddenIn]; done) | decide +kernel
theorem pd0_0 : parseMethodDescriptor "(J)[C" = some ⟨[.long], some (.array .char)⟩ := by decide +kernel
theorem pd0_1 : parseMethodDescriptor "()V" = some ⟨[], none⟩ := by decide +kernel
theorem pd0_2 : parseMethodDescriptor "(Lcom/example/weaverbird/weaverbird/model/xml/NameTable$QualifiedName;)V" = some ⟨[(.object "com/example/weaverbird/weaverbird/model/xml/NameTable$QualifiedName")], none⟩ := by decide +kernel
theorem pd0_3 : parseMethodDescriptor "([CII)V" = some ⟨[(.array .char), .int, .int], none⟩ := by decide +kernel
theorem pd0_4 : parseMethodDescriptor "(I)V" = some ⟨[.int], none⟩ := by decide +kernel
theorem pd0_5 : parseMethodDescriptor "([CII)Z" = some ⟨[(.array .char), .int, .int], some .boolean⟩ := by decide +kernel
theorem pd0_6 : parseMethodDescriptor "([CI[CZI)I" = some ⟨[(.array .char), .int, (.array .char), .boolean, .int], some .int⟩ := by decide +kernel
theorem pd0_7 : parseMethodDescriptor "()I" = some ⟨[], some .int⟩ := by decide +kernel
theorem pd0_8 : parseMethodDescriptor "(I)Ljava/lang/String;" = some ⟨[.int], some (.object "java/lang/String")⟩ := by decide +kernel
theorem pd0_9 : parseMethodDescriptor "(Ljava/lang/String;[CI)Z" = some ⟨[(.object "java/lang/String"), (.array .char), .int], some .boolean⟩ := by decide +kernel
theorem ef_0 (m : MethodId) (i0 : Int64) (i1 : Int64) (i2 : Int32) (i3 : Int32) : entryFrame m #[(.long i0), (.long i1), (.int i2), (.int i3)] maxLocals = mkF m 0 #[.val (.long i0), .second, .val (.long i1), .second, iv i2, iv i3, .unset, .unset, .unset, .unset, .unset, .unset, .unset, .unset, .unset, .unset, .unset, .unset] [] := by first | (simp [entryFrame, mkF, argsToLocals, Value.category, maxLocals]; done) | rfl
set_option maxRecDepth 65536 in
set_option maxHeartbeats 40000000 in
theorem rm0 (l : Launch) (Z : State) (a0 : Array Value) (hw : ∀ d ∈ tables_1, d.before a0 Z = true) (ws : List Jvm.Cond) (i0 : Int64) (i1 : Int64) (i2 : Int32) (i3 : Int32) (w : Value) (cs : Int32) (hv : w.isRef = true) (S_s0 : own_Ss Z Z.heap w cs) (hc : ¬ cs = 0) (hheld : ∀ q ∈ consts_1, Jvm.Lit.constHeld Z q.1 q.2) (hcw : Jvm.Lit.compactW.before a0 Z = true) :
    MetFree l x (head1 (Jvm.Cond.code x code maxLocals ret :: ws) room_1) (fun aX UX => aX = #[(.long i0), (.long i1), (.int i2), (.int i3)] ∧ UX = Z) (fun _ _ _ _ _ => True) (fun _ U o U' => ∃ v L, o = .returned v ∧ (v = some (.int 1) ∧ Fr U.heap.size L) ∧ ReturnedEndW U o U' L 22 361) := by
  refine MetFree.of_bodySF (plainFor_of_name pn_0) hisR ?_
  intro p e s m args below meth c s₁ Bd hml0 hPX hKX
  obtain ⟨rfl, rfl⟩ := hPX
  have hZ : s.Warmed39 s.vm := State.Warmed39.refl s
  obtain ⟨h0, hh⟩ : ∃ z, s.heap = z := ⟨_, rfl⟩
  obtain ⟨n0, hn0⟩ : ∃ z, z = s.heap.size := ⟨_, rfl⟩
  have Z0 : n0 ≤ h0.size := by rw [hn0, hh]; exact Nat.le_refl _
  have hS := own_since s 0
  have hEL := own_EW hw
  have hC0 := CHv.start hEL (fun p hp => hheld p hp) hcw (hw _ (List.mem_of_getElem? (i := 52) rfl)) (hw _ (List.mem_of_getElem? (i := 51) rfl))
  have C0 : CHr s own_EL s.vm h0 s.vm h0 := CHr.refl (hh ▸ hC0)
  have S_s := hh ▸ S_s0
  have hx := Bd.exec
  have hby := Bd.bytes
  have hml : c.maxLocals = 18 := hml0
  have hown : s.vm.findClass "com/example/weaverbird/weaverbird/model/xml/AttributesCollapsePinLaw" = some m.cls := findClass_of_methodNamed Bd.named
  have hnm := (name_of_methodNamed Bd.named Bd.method).1
  have X0 : Stand p l e room_1 s m #[(.long i0), (.long i1), (.int i2), (.int i3)] below meth c s₁ [] 0 0 := Stand.of_body Bd
  have e0 : s₁.heap = h0 := by rw [← hh, Bd.state]; rfl
  have N0 := Fr.nil n0
  have pre0 : ∀ t, Steps p.tables e below (s₁.setTop (mkF m 0 #[.val (.long i0), .second, .val (.long i1), .second, iv i2, iv i3, .unset, .unset, .unset, .unset, .unset, .unset, .unset, .unset, .unset, .unset, .unset, .unset] [])) t → Steps p.tables e below (s₁.setTop (entryFrame m #[(.long i0), (.long i1), (.int i2), (.int i3)] maxLocals)) t := fun t k => castTop (ef_0 m i0 i1 i2 i3) k
  obtain ⟨S0, hS0⟩ : ∃ z, z = (s₁.setTop (entryFrame m #[(.long i0), (.long i1), (.int i2), (.int i3)] maxLocals)) := ⟨_, rfl⟩
  rw [← hS0] at pre0
  have pre1 : ∀ t, own_s p e below s₁ m 1 #[.val (.long i0), .second, .val (.long i1), .second, iv i2, iv i3, .unset, .unset, .unset, .unset, .unset, .unset, .unset, .unset, .unset, .unset, .unset, .unset] [(.long i0)] t → Steps p.tables e below S0 t := by
    intro tX kX
    refine pre0 _ ?_
    show own_s p e below s₁ m 0 #[.val (.long i0), .second, .val (.long i1), .second, iv i2, iv i3, .unset, .unset, .unset, .unset, .unset, .unset, .unset, .unset, .unset, .unset, .unset, .unset] [] _
    refine XS.lloadN X0.here hx rfl (hb hby at_0) rfl ?_
    exact kX
  obtain ⟨_, _, ⟨T2, L2, k2, n2⟩, -, X2, ⟨Lc2, hQ2, l2, y2, z2⟩, st2⟩ := Jvm.LawKit.callS X0 hx (y := (⟨"com/example/weaverbird/weaverbird/model/xml/AttributesCollapsePinLaw", "draw", "(J)[C"⟩ : MethodName)) hown (mvT hZ (hw _ (List.mem_of_getElem? (i := 0) rfl))) (mvT hZ (hw _ (List.mem_of_getElem? (i := 1) rfl))) (mvT hZ (hw _ (List.mem_of_getElem? (i := 2) rfl))) (mvT hZ (hw _ (List.mem_of_getElem? (i := 3) rfl))) (by decide) (backOf (W := 0) (rm2 l s a0 hw [] i0  h0 n0 Z0 ) hZ (hw _ (List.mem_of_getElem? (i := 3) rfl)) (hw _ (List.mem_of_getElem? (i := 2) rfl)) (by decide) (by decide)) (g := (mkF m 1 #[.val (.long i0), .second, .val (.long i1), .second, iv i2, iv i3, .unset, .unset, .unset, .unset, .unset, .unset, .unset, .unset, .unset, .unset, .unset, .unset] [(.long i0)])) rfl (by rw [hml]; rfl) (argsL := [(.long i0)]) (rest := []) (lenOf pd0_0 rfl) rfl (by show 2 * 0 + _ ≤ _; exact Nat.le_of_eq rfl) (hb hby at_1) (fun _ _ => ⟨rfl, e0, (by decide : 0 + 1 ≤ _), (by decide : 0 + 5 ≤ _)⟩)
  dsimp only [Pt.U, Pt.locs, Pt.cells, Pt.slots] at X2 l2 y2 z2 st2 hQ2
  subst l2 y2 z2
  obtain ⟨r2, gd2, rfl, Nq2, Kq2, sz_r2, g_r2, fA2, fB2⟩ := hQ2
  have N2 := Fr.app N0 Nq2
  have e2 : T2.heap = T2.heap := rfl
  have Z2 : n0 ≤ T2.heap.size := Nat.le_trans Z0 Kq2.1
  have C3 : CHr s own_EL s.vm h0 s.vm T2.heap := C0.trans (CHr.keep Kq2 sf0 C0.1)
  have f4_B : own_Ss s T2.heap w cs := S_s.keep Kq2 ns0
  obtain ⟨LL5, X5, N5⟩ : ∃ LL, Stand p l e room_1 s m #[(.long i0), (.long i1), (.int i2), (.int i3)] below meth c T2 LL 1 5 ∧ Fr n0 LL := ⟨_, X2, N2⟩
  have pre6 : ∀ t, own_s p e below T2 m 4 #[.val (.long i0), .second, .val (.long i1), .second, iv i2, iv i3, .unset, .unset, .unset, .unset, .unset, .unset, .unset, .unset, .unset, .unset, .unset, .unset] [(.ref r2)] t → Steps p.tables e below S0 t := fun tX kX => pre1 _ (st2 _ kX)
  have pre7 : ∀ t, own_s p e below T2 m 7 #[.val (.long i0), .second, .val (.long i1), .second, iv i2, iv i3, rv r2, .unset, .unset, .unset, .unset, .unset, .unset, .unset, .unset, .unset, .unset, .unset] [(.long i1)] t → Steps p.tables e below S0 t := by
    intro tX kX
    refine pre6 _ ?_
    show own_s p e below T2 m 4 #[.val (.long i0), .second, .val (.long i1), .second, iv i2, iv i3, .unset, .unset, .unset, .unset, .unset, .unset, .unset, .unset, .unset, .unset, .unset, .unset] [(.ref r2)] _
    refine XS.astore X5.here hx rfl (hb hby at_4) rfl rfl (l' := #[.val (.long i0), .second, .val (.long i1), .second, iv i2, iv i3, rv r2, .unset, .unset, .unset, .unset, .unset, .unset, .unset, .unset, .unset, .unset, .unset]) rfl ?_
    refine XS.lloadN X5.here hx rfl (hb hby at_6) rfl ?_
    exact kX
  obtain ⟨_, _, ⟨T8, L8, k8, n8⟩, -, X8, ⟨Lc8, hQ8, l8, y8, z8⟩, st8⟩ := Jvm.LawKit.callS X5 hx (y := (⟨"com/example/weaverbird/weaverbird/model/xml/AttributesCollapsePinLaw", "draw", "(J)[C"⟩ : MethodName)) hown (mvT hZ (hw _ (List.mem_of_getElem? (i := 0) rfl))) (mvT hZ (hw _ (List.mem_of_getElem? (i := 1) rfl))) (mvT hZ (hw _ (List.mem_of_getElem? (i := 2) rfl))) (mvT hZ (hw _ (List.mem_of_getElem? (i := 3) rfl))) (by decide) (backOf (W := 0) (rm2 l s a0 hw [] i1  T2.heap n0 Z2 ) hZ (hw _ (List.mem_of_getElem? (i := 3) rfl)) (hw _ (List.mem_of_getElem? (i := 2) rfl)) (by decide) (by decide)) (g := (mkF m 7 #[.val (.long i0), .second, .val (.long i1), .second, iv i2, iv i3, rv r2, .unset, .unset, .unset, .unset, .unset, .unset, .unset, .unset, .unset, .unset, .unset] [(.long i1)])) rfl (by rw [hml]; rfl) (argsL := [(.long i1)]) (rest := []) (lenOf pd0_0 rfl) rfl (by show 2 * 0 + _ ≤ _; exact Nat.le_of_eq rfl) (hb hby at_7) (fun _ _ => ⟨rfl, e2, (by decide : 1 + 1 ≤ _), (by decide : 5 + 5 ≤ _)⟩)
  dsimp only [Pt.U, Pt.locs, Pt.cells, Pt.slots] at X8 l8 y8 z8 st8 hQ8
  subst l8 y8 z8
  obtain ⟨r8, gd8, rfl, Nq8, Kq8, sz_r8, g_r8, fA8, fB8⟩ := hQ8
  have N8 := Fr.app N5 Nq8
  have e8 : T8.heap = T8.heap := rfl
  have Z8 : n0 ≤ T8.heap.size := Nat.le_trans Z2 Kq8.1
  have C9 : CHr s own_EL s.vm h0 s.vm T8.heap := C3.trans (CHr.keep Kq8 sf0 C3.1)
  have f10_B : own_Ss s T8.heap w cs := f4_B.keep Kq8 ns0
  have f11_A : own_Af s T8.heap r2 .char 5 (fun j => .int (gd2 j)) := fA2.keep Kq8 nin0
  obtain ⟨LL12, X12, N12⟩ : ∃ LL, Stand p l e room_1 s m #[(.long i0), (.long i1), (.int i2), (.int i3)] below meth c T8 LL 2 10 ∧ Fr n0 LL := ⟨_, X8, N8⟩
  have pre13 : ∀ t, own_s p e below T8 m 10 #[.val (.long i0), .second, .val (.long i1), .second, iv i2, iv i3, rv r2, .unset, .unset, .unset, .unset, .unset, .unset, .unset, .unset, .unset, .unset, .unset] [(.ref r8)] t → Steps p.tables e below S0 t := fun tX kX => pre7 _ (st8 _ kX)
  have pre14 : ∀ t, own_s p e below T8 m 20 #[.val (.long i0), .second, .val (.long i1), .second, iv i2, iv i3, rv r2, rv r8, .unset, .unset, .unset, .unset, .unset, .unset, .unset, .unset, .unset, .unset] [(.int ((i2 &&& (2147483647 : Int32)) % (6 : Int32)))] t → Steps p.tables e below S0 t := by
    intro tX kX
    refine pre13 _ ?_
    show own_s p e below T8 m 10 #[.val (.long i0), .second, .val (.long i1), .second, iv i2, iv i3, rv r2, .unset, .unset, .unset, .unset, .unset, .unset, .unset, .unset, .unset, .unset, .unset] [(.ref r8)] _
    refine XS.astore X12.here hx rfl (hb hby at_10) rfl rfl (l' := #[.val (.long i0), .second, .val (.long i1), .second, iv i2, iv i3, rv r2, rv r8, .unset, .unset, .unset, .unset, .unset, .unset, .unset, .unset, .unset, .unset]) rfl ?_
    refine XS.iload X12.here hx rfl (hb hby at_12) rfl ?_
    refine X12.ldcInt hx hown (mvT hZ (hw _ (List.mem_of_getElem? (i := 8) rfl))) (g := (mkF m 14 #[.val (.long i0), .second, .val (.long i1), .second, iv i2, iv i3, rv r2, rv r8, .unset, .unset, .unset, .unset, .unset, .unset, .unset, .unset, .unset, .unset] [(.int i2)])) rfl (hb hby at_14) _ ?_
    show own_s p e below T8 m 16 #[.val (.long i0), .second, .val (.long i1), .second, iv i2, iv i3, rv r2, rv r8, .unset, .unset, .unset, .unset, .unset, .unset, .unset, .unset, .unset, .unset] [(.int (2147483647 : Int32)), (.int i2)] _
    refine XS.iand X12.here hx rfl (hb hby at_16) rfl ?_
    refine XS.bipush X12.here hx rfl (hb hby at_17) ?_
    refine iremM X12 hx rfl (hb hby at_19) rfl (by decide) ?_
    exact kX
  obtain ⟨na, hna⟩ : ∃ z : Int32, z = ((i2 &&& (2147483647 : Int32)) % (6 : Int32)) := ⟨_, rfl⟩
  rw [← hna] at pre14
  have mkA := c_mask i2 2147483647 31 (by decide) (by decide)
  have rrA := (c_irem (i2 &&& (2147483647 : Int32)) 6 6 rfl).1 (by omega)
  rw [← hna] at rrA
  obtain ⟨A, hA, hA5⟩ : ∃ z : Nat, na.toInt = ((z : Nat) : Int) ∧ z ≤ 5 := ⟨na.toInt.toNat, by omega, by omega⟩
  have pre15 : ∀ t, own_s p e below T8 m 33 #[.val (.long i0), .second, .val (.long i1), .second, iv i2, iv i3, rv r2, rv r8, iv na, .unset, .unset, .unset, .unset, .unset, .unset, .unset, .unset, .unset] [(.int ((((i2.toUInt32 >>> ((8 : Int32) &&& 31).toUInt32).toInt32) &&& (2147483647 : Int32)) % (6 : Int32)))] t → Steps p.tables e below S0 t := by
    intro tX kX
    refine pre14 _ ?_
    show own_s p e below T8 m 20 #[.val (.long i0), .second, .val (.long i1), .second, iv i2, iv i3, rv r2, rv r8, .unset, .unset, .unset, .unset, .unset, .unset, .unset, .unset, .unset, .unset] [(.int na)] _
    refine XS.istore X12.here hx rfl (hb hby at_20) rfl (l' := #[.val (.long i0), .second, .val (.long i1), .second, iv i2, iv i3, rv r2, rv r8, iv na, .unset, .unset, .unset, .unset, .unset, .unset, .unset, .unset, .unset]) rfl ?_
    refine XS.iload X12.here hx rfl (hb hby at_22) rfl ?_
    refine XS.bipush X12.here hx rfl (hb hby at_24) ?_
    show own_s p e below T8 m 26 #[.val (.long i0), .second, .val (.long i1), .second, iv i2, iv i3, rv r2, rv r8, iv na, .unset, .unset, .unset, .unset, .unset, .unset, .unset, .unset, .unset] [(.int (8 : Int32)), (.int i2)] _
    refine XS.iushr X12.here hx rfl (hb hby at_26) rfl ?_
    refine X12.ldcInt hx hown (mvT hZ (hw _ (List.mem_of_getElem? (i := 8) rfl))) (g := (mkF m 27 #[.val (.long i0), .second, .val (.long i1), .second, iv i2, iv i3, rv r2, rv r8, iv na, .unset, .unset, .unset, .unset, .unset, .unset, .unset, .unset, .unset] [(.int ((i2.toUInt32 >>> ((8 : Int32) &&& 31).toUInt32).toInt32))])) rfl (hb hby at_27) _ ?_
    refine XS.iand X12.here hx rfl (hb hby at_29) rfl ?_
    show own_s p e below T8 m 30 #[.val (.long i0), .second, .val (.long i1), .second, iv i2, iv i3, rv r2, rv r8, iv na, .unset, .unset, .unset, .unset, .unset, .unset, .unset, .unset, .unset] [(.int (((i2.toUInt32 >>> ((8 : Int32) &&& 31).toUInt32).toInt32) &&& (2147483647 : Int32)))] _
    refine XS.bipush X12.here hx rfl (hb hby at_30) ?_
    refine iremM X12 hx rfl (hb hby at_32) rfl (by decide) ?_
    exact kX
  obtain ⟨nb_, hnb_⟩ : ∃ z : Int32, z = ((((i2.toUInt32 >>> ((8 : Int32) &&& 31).toUInt32).toInt32) &&& (2147483647 : Int32)) % (6 : Int32)) := ⟨_, rfl⟩
  rw [← hnb_] at pre15
  have mkB := c_mask ((i2.toUInt32 >>> ((8 : Int32) &&& 31).toUInt32).toInt32) 2147483647 31 (by decide) (by decide)
  have rrB := (c_irem (((i2.toUInt32 >>> ((8 : Int32) &&& 31).toUInt32).toInt32) &&& (2147483647 : Int32)) 6 6 rfl).1 (by omega)
  rw [← hnb_] at rrB
  obtain ⟨B, hB, hB5⟩ : ∃ z : Nat, nb_.toInt = ((z : Nat) : Int) ∧ z ≤ 5 := ⟨nb_.toInt.toNat, by omega, by omega⟩
  have pre16 : ∀ t, own_s p e below T8 m 39 #[.val (.long i0), .second, .val (.long i1), .second, iv i2, iv i3, rv r2, rv r8, iv na, iv nb_, .unset, .unset, .unset, .unset, .unset, .unset, .unset, .unset] [(.int (i3 &&& (1 : Int32)))] t → Steps p.tables e below S0 t := by
    intro tX kX
    refine pre15 _ ?_
    show own_s p e below T8 m 33 #[.val (.long i0), .second, .val (.long i1), .second, iv i2, iv i3, rv r2, rv r8, iv na, .unset, .unset, .unset, .unset, .unset, .unset, .unset, .unset, .unset] [(.int nb_)] _
    refine XS.istore X12.here hx rfl (hb hby at_33) rfl (l' := #[.val (.long i0), .second, .val (.long i1), .second, iv i2, iv i3, rv r2, rv r8, iv na, iv nb_, .unset, .unset, .unset, .unset, .unset, .unset, .unset, .unset]) rfl ?_
    refine XS.iload X12.here hx rfl (hb hby at_35) rfl ?_
    refine XS.iconst X12.here hx rfl (hb hby at_37) ?_
    show own_s p e below T8 m 38 #[.val (.long i0), .second, .val (.long i1), .second, iv i2, iv i3, rv r2, rv r8, iv na, iv nb_, .unset, .unset, .unset, .unset, .unset, .unset, .unset, .unset] [(.int (1 : Int32)), (.int i3)] _
    refine XS.iand X12.here hx rfl (hb hby at_38) rfl ?_
    exact kX
  obtain ⟨id_, hid_⟩ : ∃ z : Int32, z = (i3 &&& (1 : Int32)) := ⟨_, rfl⟩
  rw [← hid_] at pre16
  have mki := c_mask i3 1 1 (by decide) (by decide)
  rw [← hid_] at mki
  have pre17 : ∀ t, own_s p e below T8 m 41 #[.val (.long i0), .second, .val (.long i1), .second, iv i2, iv i3, rv r2, rv r8, iv na, iv nb_, iv id_, .unset, .unset, .unset, .unset, .unset, .unset, .unset] [] t → Steps p.tables e below S0 t := by
    intro tX kX
    refine pre16 _ ?_
    show own_s p e below T8 m 39 #[.val (.long i0), .second, .val (.long i1), .second, iv i2, iv i3, rv r2, rv r8, iv na, iv nb_, .unset, .unset, .unset, .unset, .unset, .unset, .unset, .unset] [(.int id_)] _
    refine XS.istore X12.here hx rfl (hb hby at_39) rfl (l' := #[.val (.long i0), .second, .val (.long i1), .second, iv i2, iv i3, rv r2, rv r8, iv na, iv nb_, iv id_, .unset, .unset, .unset, .unset, .unset, .unset, .unset]) rfl ?_
    exact kX
  obtain ⟨T18, h18, X18, e18, E18, A18, D18, -, st18⟩ := newO X12 hx hZ hown (hw _ (List.mem_of_getElem? (i := 9) rfl)) (hw _ (List.mem_of_getElem? (i := 10) rfl)) (hw _ (List.mem_of_getElem? (i := 11) rfl)) e8 (g := (mkF m 41 #[.val (.long i0), .second, .val (.long i1), .second, iv i2, iv i3, rv r2, rv r8, iv na, iv nb_, iv id_, .unset, .unset, .unset, .unset, .unset, .unset, .unset] [])) rfl (hb hby at_41) (by decide) (by decide)
  obtain ⟨b18, g18⟩ : ∃ z, z = T8.heap.size := ⟨_, rfl⟩
  rw [← g18] at A18 D18 st18
  have ne19 : r2 ≠ b18 := Nat.ne_of_lt (Nat.lt_of_lt_of_le f11_A.lt (Nat.le_of_eq g18.symm))
  have ne20 : r8 ≠ b18 := Nat.ne_of_lt (Nat.lt_of_lt_of_le fA8.lt (Nat.le_of_eq g18.symm))
  have g_b18 : n0 ≤ b18 := Nat.le_trans Z8 (Nat.le_of_eq g18.symm)
  have lt_r2_b18 : r2 < b18 := Nat.lt_of_lt_of_le f11_A.lt (Nat.le_of_eq g18.symm)
  have lt_r8_b18 : r8 < b18 := Nat.lt_of_lt_of_le fA8.lt (Nat.le_of_eq g18.symm)
  have pre21 : ∀ t, own_s p e below T18 m 44 #[.val (.long i0), .second, .val (.long i1), .second, iv i2, iv i3, rv r2, rv r8, iv na, iv nb_, iv id_, .unset, .unset, .unset, .unset, .unset, .unset, .unset] [(.ref b18)] t → Steps p.tables e below S0 t := fun tX kX => pre17 _ (st18 _ kX)
  have f22_B : own_Ss s h18 w cs := f10_B.ext E18
  have f23_A : own_Af s h18 r2 .char 5 (fun j => .int (gd2 j)) := f11_A.ext E18
  have f24_A : own_Af s h18 r8 .char 5 (fun j => .int (gd8 j)) := fA8.ext E18
  have Z25 : n0 ≤ h18.size := Nat.le_trans Z8 E18.1
  have C26 : CHr s own_EL s.vm h0 s.vm h18 := C9.trans (CHr.ext E18 C9.1)
  have f27_E : Exa s h18 b18 "com/example/weaverbird/weaverbird/model/xml/Attributes" := A18
  have f28_F : Fld s h18 b18 "com/example/weaverbird/weaverbird/model/xml/Attributes" "names" "[Lcom/example/weaverbird/weaverbird/model/xml/NameTable$QualifiedName;" .null := D18 (Or.inl (hw _ (List.mem_of_getElem? (i := 21) rfl))) (ty := (.array (.object "com/example/weaverbird/weaverbird/model/xml/NameTable$QualifiedName"))) (by decide)
  have f29_F : Fld s h18 b18 "com/example/weaverbird/weaverbird/model/xml/Attributes" "starts" "[I" .null := D18 (Or.inl (hw _ (List.mem_of_getElem? (i := 24) rfl))) (ty := (.array .int)) (by decide)
  have f30_F : Fld s h18 b18 "com/example/weaverbird/weaverbird/model/xml/Attributes" "lengths" "[I" .null := D18 (Or.inl (hw _ (List.mem_of_getElem? (i := 26) rfl))) (ty := (.array .int)) (by decide)
  have f31_F : Fld s h18 b18 "com/example/weaverbird/weaverbird/model/xml/Attributes" "namespaces" "[Ljava/lang/String;" .null := D18 (Or.inl (hw _ (List.mem_of_getElem? (i := 30) rfl))) (ty := (.array (.object "java/lang/String"))) (by decide)
  have f32_F : Fld s h18 b18 "com/example/weaverbird/weaverbird/model/xml/Attributes" "declarations" "[Z" .null := D18 (Or.inl (hw _ (List.mem_of_getElem? (i := 33) rfl))) (ty := (.array .boolean)) (by decide)
  have f33_F : Fld s h18 b18 "com/example/weaverbird/weaverbird/model/xml/Attributes" "strings" "[Ljava/lang/String;" .null := D18 (Or.inl (hw _ (List.mem_of_getElem? (i := 35) rfl))) (ty := (.array (.object "java/lang/String"))) (by decide)
  have f34_F : Fld s h18 b18 "com/example/weaverbird/weaverbird/model/xml/Attributes" "values" "[C" .null := D18 (Or.inl (hw _ (List.mem_of_getElem? (i := 37) rfl))) (ty := (.array .char)) (by decide)
  have f35_F : Fld s h18 b18 "com/example/weaverbird/weaverbird/model/xml/Attributes" "slots" "[I" .null := D18 (Or.inl (hw _ (List.mem_of_getElem? (i := 39) rfl))) (ty := (.array .int)) (by decide)
  have f36_F : Fld s h18 b18 "com/example/weaverbird/weaverbird/model/xml/Attributes" "count" "I" (.int (0 : Int32)) := D18 (Or.inl (hw _ (List.mem_of_getElem? (i := 46) rfl))) (ty := .int) (by decide)
  have f37_F : Fld s h18 b18 "com/example/weaverbird/weaverbird/model/xml/Attributes" "valuesLength" "I" (.int (0 : Int32)) := D18 (Or.inl (hw _ (List.mem_of_getElem? (i := 48) rfl))) (ty := .int) (by decide)
  have pre38 : ∀ t, own_s p e below T18 m 45 #[.val (.long i0), .second, .val (.long i1), .second, iv i2, iv i3, rv r2, rv r8, iv na, iv nb_, iv id_, .unset, .unset, .unset, .unset, .unset, .unset, .unset] [(.ref b18), (.ref b18)] t → Steps p.tables e below S0 t := by
    intro tX kX
    refine pre21 _ ?_
    show own_s p e below T18 m 44 #[.val (.long i0), .second, .val (.long i1), .second, iv i2, iv i3, rv r2, rv r8, iv na, iv nb_, iv id_, .unset, .unset, .unset, .unset, .unset, .unset, .unset] [(.ref b18)] _
    refine XS.dup X18.here hx rfl (hb hby at_44) rfl rfl ?_
    exact kX
  obtain ⟨_, _, ⟨T39, L39, k39, n39⟩, -, X39, ⟨Lc39, hQ39, l39, y39, z39⟩, st39⟩ := X18.specialBack hx (y := (⟨"com/example/weaverbird/weaverbird/model/xml/Attributes", "<init>", "()V"⟩ : MethodName)) rfl hown (mvT hZ (hw _ (List.mem_of_getElem? (i := 12) rfl))) (mvT hZ (hw _ (List.mem_of_getElem? (i := 13) rfl))) (mvT hZ (hw _ (List.mem_of_getElem? (i := 14) rfl))) (by decide) (backOf (W := 1) (rm30 l s a0 hw [] b18  h18 n0 Z25 f27_E f28_F f29_F f30_F f31_F f32_F f33_F f34_F f35_F f36_F f37_F g_b18) hZ (hw _ (List.mem_of_getElem? (i := 14) rfl)) (hw _ (List.mem_of_getElem? (i := 11) rfl)) (by decide) (by decide)) (g := (mkF m 45 #[.val (.long i0), .second, .val (.long i1), .second, iv i2, iv i3, rv r2, rv r8, iv na, iv nb_, iv id_, .unset, .unset, .unset, .unset, .unset, .unset, .unset] [(.ref b18), (.ref b18)])) rfl (by rw [hml]; rfl) (Steps.refl _) (a := b18) (argsL := []) (rest := [(.ref b18)]) (lenOf pd0_1 rfl) rfl (by show 2 * 0 + _ ≤ _; exact Nat.le_of_eq rfl) (hb hby at_45) (fun _ _ => ⟨rfl, e18, (by decide : 3 + 8 ≤ _), (by decide : 20 + 304 ≤ _)⟩)
  dsimp only [Pt.U, Pt.locs, Pt.cells, Pt.slots] at X39 l39 y39 z39 st39 hQ39
  subst l39 y39 z39
  obtain ⟨nm39, sr39, ln39, ns39, dc39, sg39, vl39, rfl, Nq39, Kq39, szn39, hO39, At39⟩ := hQ39
  have N39 := Fr.app N12 Nq39
  have e39 : T39.heap = T39.heap := rfl
  have hO : b18 < nm39 ∧ nm39 < sr39 ∧ sr39 < ln39 ∧ ln39 < ns39 ∧ ns39 < dc39 ∧ dc39 < sg39 ∧ sg39 < vl39 := ⟨Nat.lt_of_lt_of_le f27_E.lt szn39, hO39⟩
  obtain ⟨o1, o2, o3, o4, o5, o6, o7⟩ := id hO
  have Z39 : n0 ≤ T39.heap.size := Nat.le_trans Z25 Kq39.1
  have C40 : CHr s own_EL s.vm h0 s.vm T39.heap := C26.trans (CHr.keep Kq39 (sfS (Safe.exa hZ.alike f27_E (by decide) (by decide)) sf0) C26.1)
  have f41_B : own_Ss s T39.heap w cs := f22_B.keep Kq39 (nsS (own_nsE f27_E) ns0)
  have f42_A : own_Af s T39.heap r2 .char 5 (fun j => .int (gd2 j)) := f23_A.keep Kq39 (ninS ne19 nin0)
  have f43_A : own_Af s T39.heap r8 .char 5 (fun j => .int (gd8 j)) := f24_A.keep Kq39 (ninS ne20 nin0)
  have f44_E : Exa s T39.heap b18 "com/example/weaverbird/weaverbird/model/xml/Attributes" := f27_E.keep Kq39
  have ne45 : r2 ≠ b18 := Nat.ne_of_lt lt_r2_b18
  have ne46 : r2 ≠ nm39 := Nat.ne_of_lt (Nat.lt_trans lt_r2_b18 o1)
  have ne47 : r2 ≠ sr39 := Nat.ne_of_lt (Nat.lt_trans lt_r2_b18 (Nat.lt_trans o1 o2))
  have ne48 : r2 ≠ ln39 := Nat.ne_of_lt (Nat.lt_trans lt_r2_b18 (Nat.lt_trans o1 (Nat.lt_trans o2 o3)))
  have ne49 : r2 ≠ ns39 := Nat.ne_of_lt (Nat.lt_trans lt_r2_b18 (Nat.lt_trans o1 (Nat.lt_trans o2 (Nat.lt_trans o3 o4))))
  have ne50 : r2 ≠ dc39 := Nat.ne_of_lt (Nat.lt_trans lt_r2_b18 (Nat.lt_trans o1 (Nat.lt_trans o2 (Nat.lt_trans o3 (Nat.lt_trans o4 o5)))))
  have ne51 : r2 ≠ sg39 := Nat.ne_of_lt (Nat.lt_trans lt_r2_b18 (Nat.lt_trans o1 (Nat.lt_trans o2 (Nat.lt_trans o3 (Nat.lt_trans o4 (Nat.lt_trans o5 o6))))))
  have ne52 : r2 ≠ vl39 := Nat.ne_of_lt (Nat.lt_trans lt_r2_b18 (Nat.lt_trans o1 (Nat.lt_trans o2 (Nat.lt_trans o3 (Nat.lt_trans o4 (Nat.lt_trans o5 (Nat.lt_trans o6 o7)))))))
  have ne53 : r8 ≠ b18 := Nat.ne_of_lt lt_r8_b18
  have ne54 : r8 ≠ nm39 := Nat.ne_of_lt (Nat.lt_trans lt_r8_b18 o1)
  have ne55 : r8 ≠ sr39 := Nat.ne_of_lt (Nat.lt_trans lt_r8_b18 (Nat.lt_trans o1 o2))
  have ne56 : r8 ≠ ln39 := Nat.ne_of_lt (Nat.lt_trans lt_r8_b18 (Nat.lt_trans o1 (Nat.lt_trans o2 o3)))
  have ne57 : r8 ≠ ns39 := Nat.ne_of_lt (Nat.lt_trans lt_r8_b18 (Nat.lt_trans o1 (Nat.lt_trans o2 (Nat.lt_trans o3 o4))))
  have ne58 : r8 ≠ dc39 := Nat.ne_of_lt (Nat.lt_trans lt_r8_b18 (Nat.lt_trans o1 (Nat.lt_trans o2 (Nat.lt_trans o3 (Nat.lt_trans o4 o5)))))
  have ne59 : r8 ≠ sg39 := Nat.ne_of_lt (Nat.lt_trans lt_r8_b18 (Nat.lt_trans o1 (Nat.lt_trans o2 (Nat.lt_trans o3 (Nat.lt_trans o4 (Nat.lt_trans o5 o6))))))
  have ne60 : r8 ≠ vl39 := Nat.ne_of_lt (Nat.lt_trans lt_r8_b18 (Nat.lt_trans o1 (Nat.lt_trans o2 (Nat.lt_trans o3 (Nat.lt_trans o4 (Nat.lt_trans o5 (Nat.lt_trans o6 o7)))))))
  obtain ⟨LL61, X61, N61⟩ : ∃ LL, Stand p l e room_1 s m #[(.long i0), (.long i1), (.int i2), (.int i3)] below meth c T39 LL 11 324 ∧ Fr n0 LL := ⟨_, X39, N39⟩
  have pre62 : ∀ t, own_s p e below T39 m 48 #[.val (.long i0), .second, .val (.long i1), .second, iv i2, iv i3, rv r2, rv r8, iv na, iv nb_, iv id_, .unset, .unset, .unset, .unset, .unset, .unset, .unset] [(.ref b18)] t → Steps p.tables e below S0 t := fun tX kX => pre38 _ (st39.trans kX)
  have pre63 : ∀ t, own_s p e below T39 m 53 #[.val (.long i0), .second, .val (.long i1), .second, iv i2, iv i3, rv r2, rv r8, iv na, iv nb_, iv id_, rv b18, .unset, .unset, .unset, .unset, .unset, .unset] [.null, (.ref b18)] t → Steps p.tables e below S0 t := by
    intro tX kX
    refine pre62 _ ?_
    show own_s p e below T39 m 48 #[.val (.long i0), .second, .val (.long i1), .second, iv i2, iv i3, rv r2, rv r8, iv na, iv nb_, iv id_, .unset, .unset, .unset, .unset, .unset, .unset, .unset] [(.ref b18)] _
    refine XS.astore X61.here hx rfl (hb hby at_48) rfl rfl (l' := #[.val (.long i0), .second, .val (.long i1), .second, iv i2, iv i3, rv r2, rv r8, iv na, iv nb_, iv id_, rv b18, .unset, .unset, .unset, .unset, .unset, .unset]) rfl ?_
    refine XS.aload X61.here hx rfl (hb hby at_50) rfl rfl ?_
    refine XS.aconstNull X61.here hx rfl (hb hby at_52) ?_
    exact kX
  obtain ⟨cq64, kq64, q64a, q64b, q64c⟩ := isOf hZ e39 At39.1
  obtain ⟨_, _, ⟨T64, L64, k64, n64⟩, -, X64, hSq64, gr64, ⟨Lc64, hQ64, l64, y64, z64, Cq64⟩, st64⟩ := X61.virtualBackS hx (y := (⟨"com/example/weaverbird/weaverbird/model/xml/Attributes", "add", "(Lcom/example/weaverbird/weaverbird/model/xml/NameTable$QualifiedName;)V"⟩ : MethodName)) (z := (⟨"com/example/weaverbird/weaverbird/model/xml/Attributes", "add", "(Lcom/example/weaverbird/weaverbird/model/xml/NameTable$QualifiedName;)V"⟩ : MethodName)) hown (mvT hZ (hw _ (List.mem_of_getElem? (i := 40) rfl))) (mvT hZ (hw _ (List.mem_of_getElem? (i := 41) rfl))) (notFace_of_selects (args := #[]) (mvT hZ (hw _ (List.mem_of_getElem? (i := 43) rfl)))) (mvT hZ (hw _ (List.mem_of_getElem? (i := 43) rfl))) (mvT hZ (hw _ (List.mem_of_getElem? (i := 42) rfl))) (by decide) (backOfSH (s := s) (vm0 := s.vm) (W := 0) (rm40 l s a0 hw [] b18 nm39 sr39 ln39 ns39 dc39 sg39 vl39 0 0 (fun _ => 0) (fun _ => 0) (fun _ => .null) (fun _ => 0) 0 T39.heap n0 Z39 At39 hO g_b18 own_B.z (by rfl) (by decide)) hZ (hw _ (List.mem_of_getElem? (i := 44) rfl)) (hw _ (List.mem_of_getElem? (i := 11) rfl)) (by decide) (by decide) hEL C40.1) q64a q64c (g := (mkF m 53 #[.val (.long i0), .second, .val (.long i1), .second, iv i2, iv i3, rv r2, rv r8, iv na, iv nb_, iv id_, rv b18, .unset, .unset, .unset, .unset, .unset, .unset] [.null, (.ref b18)])) rfl (by rw [hml]; rfl) (Steps.refl _) (argsL := [.null]) (rest := []) (lenOf pd0_2 rfl) rfl (by show 2 * 0 + _ ≤ _; exact Nat.le_of_eq rfl) (hb hby at_53) (fun _ _ => ⟨rfl, e39, (by decide : 11 + 2 ≤ _), (by decide : 324 + 4 ≤ _)⟩)
  dsimp only [Pt.U, Pt.locs, Pt.cells, Pt.slots] at X64 hSq64 gr64 l64 y64 z64 st64 hQ64 Cq64
  subst l64 y64 z64
  have hS64 : s.Since T64.vm T64.heap.size := foldS hS (by rw [e39]; exact (Nat.zero_le _)) hSq64 gr64
  have hZ64 : s.Warmed39 (s.setVm T64.vm).vm := State.Warmed39.trans (t := (s.setVm s.vm)) hZ hSq64.1
  have hown64 : (s.setVm T64.vm).vm.findClass "com/example/weaverbird/weaverbird/model/xml/AttributesCollapsePinLaw" = some m.cls := by rw [show (s.setVm T64.vm).vm = T64.vm from rfl, hSq64.1.alike.findClass]; exact hown
  have hS := hS64
  have hZ := hZ64
  have hown := hown64
  obtain ⟨ct64, fs64, fl64, rfl, Nq64, hct64, hs64, hso64, hl64, hlo64, Kq64, At64⟩ := hQ64
  have N64 := Fr.app N61 Nq64
  have e64 : T64.heap = T64.heap := rfl
  have Z64 : n0 ≤ T64.heap.size := Nat.le_trans Z39 Kq64.1
  have C65 : CHr s own_EL s.vm h0 T64.vm T64.heap := C40.trans Cq64
  have f66_B : own_Ss s T64.heap w cs := f41_B.keep Kq64 (nsS (own_nsE At39.1) (nsS (own_nsX At39.2.2.2.2.2.2.2.2.2.2.1) (nsS (own_ns At39.2.2.2.2.2.2.2.2.2.2.2.1) (nsS (own_ns At39.2.2.2.2.2.2.2.2.2.2.2.2.1) (nsS (own_nsX At39.2.2.2.2.2.2.2.2.2.2.2.2.2.1) (nsS (own_nsX At39.2.2.2.2.2.2.2.2.2.2.2.2.2.2.1) ns0))))))
  have f67_A : own_Af s T64.heap r2 .char 5 (fun j => .int (gd2 j)) := f42_A.keep Kq64 (ninS ne45 (ninS ne46 (ninS ne47 (ninS ne48 (ninS ne49 (ninS ne50 nin0))))))
  have f68_A : own_Af s T64.heap r8 .char 5 (fun j => .int (gd8 j)) := f43_A.keep Kq64 (ninS ne53 (ninS ne54 (ninS ne55 (ninS ne56 (ninS ne57 (ninS ne58 nin0))))))
  have f69_E : Exa s T64.heap b18 "com/example/weaverbird/weaverbird/model/xml/Attributes" := At39.1.keep Kq64
  obtain ⟨LL70, X70, N70⟩ : ∃ LL, Stand p l e room_1 (s.setVm T64.vm) m #[(.long i0), (.long i1), (.int i2), (.int i3)] below meth c T64 LL 13 328 ∧ Fr n0 LL := ⟨_, X64, N64⟩
  have pre71 : ∀ t, own_s p e below T64 m 56 #[.val (.long i0), .second, .val (.long i1), .second, iv i2, iv i3, rv r2, rv r8, iv na, iv nb_, iv id_, rv b18, .unset, .unset, .unset, .unset, .unset, .unset] [] t → Steps p.tables e below S0 t := fun tX kX => pre63 _ (st64.trans kX)
  have pre72 : ∀ t, own_s p e below T64 m 63 #[.val (.long i0), .second, .val (.long i1), .second, iv i2, iv i3, rv r2, rv r8, iv na, iv nb_, iv id_, rv b18, .unset, .unset, .unset, .unset, .unset, .unset] [(.int na), (.int (0 : Int32)), (.ref r2), (.ref b18)] t → Steps p.tables e below S0 t := by
    intro tX kX
    refine pre71 _ ?_
    show own_s p e below T64 m 56 #[.val (.long i0), .second, .val (.long i1), .second, iv i2, iv i3, rv r2, rv r8, iv na, iv nb_, iv id_, rv b18, .unset, .unset, .unset, .unset, .unset, .unset] [] _
    refine XS.aload X70.here hx rfl (hb hby at_56) rfl rfl ?_
    refine XS.aload X70.here hx rfl (hb hby at_58) rfl rfl ?_
    refine XS.iconst X70.here hx rfl (hb hby at_60) ?_
    show own_s p e below T64 m 61 #[.val (.long i0), .second, .val (.long i1), .second, iv i2, iv i3, rv r2, rv r8, iv na, iv nb_, iv id_, rv b18, .unset, .unset, .unset, .unset, .unset, .unset] [(.int (0 : Int32)), (.ref r2), (.ref b18)] _
    refine XS.iload X70.here hx rfl (hb hby at_61) rfl ?_
    exact kX
  obtain ⟨cq73, kq73, q73a, q73b, q73c⟩ := isOf hZ e64 At64.1
  obtain ⟨_, _, ⟨T73, L73, k73, n73⟩, -, X73, ⟨Lc73, hQ73, l73, y73, z73⟩, st73⟩ := X70.virtualBack hx (y := (⟨"com/example/weaverbird/weaverbird/model/xml/Attributes", "append", "([CII)V"⟩ : MethodName)) (z := (⟨"com/example/weaverbird/weaverbird/model/xml/Attributes", "append", "([CII)V"⟩ : MethodName)) hown (mvT hZ (hw _ (List.mem_of_getElem? (i := 58) rfl))) (mvT hZ (hw _ (List.mem_of_getElem? (i := 59) rfl))) (notFace_of_selects (args := #[]) (mvT hZ (hw _ (List.mem_of_getElem? (i := 61) rfl)))) (mvT hZ (hw _ (List.mem_of_getElem? (i := 61) rfl))) (mvT hZ (hw _ (List.mem_of_getElem? (i := 60) rfl))) (by decide) (backOf (W := 0) (rm31 l s a0 hw [] b18 r2 na nm39 sr39 ln39 ns39 dc39 sg39 vl39 ct64 0 fs64 fl64 (fun _ => .null) (fun _ => 0) gd2 A 0 0 T64.heap n0 Z64 At64 hO g_b18 own_B.z f67_A fB2 hA hA5 (by rfl) (by omega) hct64 (by decide) (by rw [hl64]; rfl) lt_r2_b18) hZ (hw _ (List.mem_of_getElem? (i := 62) rfl)) (hw _ (List.mem_of_getElem? (i := 11) rfl)) (by decide) (by decide)) q73a q73c (g := (mkF m 63 #[.val (.long i0), .second, .val (.long i1), .second, iv i2, iv i3, rv r2, rv r8, iv na, iv nb_, iv id_, rv b18, .unset, .unset, .unset, .unset, .unset, .unset] [(.int na), (.int (0 : Int32)), (.ref r2), (.ref b18)])) rfl (by rw [hml]; rfl) (Steps.refl _) (argsL := [(.ref r2), (.int (0 : Int32)), (.int na)]) (rest := []) (lenOf pd0_3 rfl) rfl (by show 2 * 0 + _ ≤ _; exact Nat.le_of_eq rfl) (hb hby at_63) (fun _ _ => ⟨rfl, e64, (by decide : 13 + 0 ≤ _), (by decide : 328 + 0 ≤ _)⟩)
  dsimp only [Pt.U, Pt.locs, Pt.cells, Pt.slots] at X73 l73 y73 z73 st73 hQ73
  subst l73 y73 z73
  obtain ⟨vn73, fm73, rfl, Nq73, hvn73, hm73, hmo73, Kq73, At73⟩ := hQ73
  have N73 := Fr.app N70 Nq73
  have e73 : T73.heap = T73.heap := rfl
  have Z73 : n0 ≤ T73.heap.size := Nat.le_trans Z64 Kq73.1
  have hk74 : T64.heap.size ≤ T73.heap.size := Nat.le_trans (Nat.le_refl _) Kq73.1
  have C75 : CHr s own_EL s.vm h0 T64.vm T73.heap := C65.trans (CHr.keep Kq73 (sfS (Safe.exa hZ.alike At64.1 (by decide) (by decide)) (sfS (own_sfA hZ.alike At64.2.2.2.2.2.2.2.2.2.2.2.2.1 (fun q => nomatch q)) (sfS (own_sfA hZ.alike At64.2.2.2.2.2.2.2.2.2.2.2.2.2.2.2.2.1 (fun q => nomatch q)) sf0))) C65.1)
  have f76_B : own_Ss s T73.heap w cs := f66_B.keep Kq73 (nsS (own_nsE At64.1) (nsS (own_ns At64.2.2.2.2.2.2.2.2.2.2.2.2.1) (nsS (own_ns At64.2.2.2.2.2.2.2.2.2.2.2.2.2.2.2.2.1) ns0)))
  have f77_A : own_Af s T73.heap r2 .char 5 (fun j => .int (gd2 j)) := f67_A.keep Kq73 (ninS ne45 (ninS ne48 (ninS ne52 nin0)))
  have f78_A : own_Af s T73.heap r8 .char 5 (fun j => .int (gd8 j)) := f68_A.keep Kq73 (ninS ne53 (ninS ne56 (ninS ne60 nin0)))
  have f79_E : Exa s T73.heap b18 "com/example/weaverbird/weaverbird/model/xml/Attributes" := At64.1.keep Kq73
  obtain ⟨LL80, X80, N80⟩ : ∃ LL, Stand p l e room_1 (s.setVm T64.vm) m #[(.long i0), (.long i1), (.int i2), (.int i3)] below meth c T73 LL 13 328 ∧ Fr n0 LL := ⟨_, X73, N73⟩
  have pre81 : ∀ t, own_s p e below T73 m 66 #[.val (.long i0), .second, .val (.long i1), .second, iv i2, iv i3, rv r2, rv r8, iv na, iv nb_, iv id_, rv b18, .unset, .unset, .unset, .unset, .unset, .unset] [] t → Steps p.tables e below S0 t := fun tX kX => pre72 _ (st73.trans kX)
  have pre82 : ∀ t, own_s p e below T73 m 69 #[.val (.long i0), .second, .val (.long i1), .second, iv i2, iv i3, rv r2, rv r8, iv na, iv nb_, iv id_, rv b18, .unset, .unset, .unset, .unset, .unset, .unset] [.null, (.ref b18)] t → Steps p.tables e below S0 t := by
    intro tX kX
    refine pre81 _ ?_
    show own_s p e below T73 m 66 #[.val (.long i0), .second, .val (.long i1), .second, iv i2, iv i3, rv r2, rv r8, iv na, iv nb_, iv id_, rv b18, .unset, .unset, .unset, .unset, .unset, .unset] [] _
    refine XS.aload X80.here hx rfl (hb hby at_66) rfl rfl ?_
    refine XS.aconstNull X80.here hx rfl (hb hby at_68) ?_
    exact kX
  obtain ⟨cq83, kq83, q83a, q83b, q83c⟩ := isOf hZ e73 At73.1
  obtain ⟨_, _, ⟨T83, L83, k83, n83⟩, -, X83, hSq83, gr83, ⟨Lc83, hQ83, l83, y83, z83, Cq83⟩, st83⟩ := X80.virtualBackS hx (y := (⟨"com/example/weaverbird/weaverbird/model/xml/Attributes", "add", "(Lcom/example/weaverbird/weaverbird/model/xml/NameTable$QualifiedName;)V"⟩ : MethodName)) (z := (⟨"com/example/weaverbird/weaverbird/model/xml/Attributes", "add", "(Lcom/example/weaverbird/weaverbird/model/xml/NameTable$QualifiedName;)V"⟩ : MethodName)) hown (mvT hZ (hw _ (List.mem_of_getElem? (i := 40) rfl))) (mvT hZ (hw _ (List.mem_of_getElem? (i := 41) rfl))) (notFace_of_selects (args := #[]) (mvT hZ (hw _ (List.mem_of_getElem? (i := 43) rfl)))) (mvT hZ (hw _ (List.mem_of_getElem? (i := 43) rfl))) (mvT hZ (hw _ (List.mem_of_getElem? (i := 42) rfl))) (by decide) (backOfSH (s := s) (vm0 := T64.vm) (W := 0) (rm40 l s a0 hw [] b18 nm39 sr39 ln39 ns39 dc39 sg39 vl39 ct64 vn73 fs64 fm73 (fun _ => .null) (own_cpf (fun _ => 0) 0 A gd2) 1 T73.heap n0 Z73 At73 hO g_b18 (own_B.z.cpf fB2 _ _) (by have := hct64; omega) (by decide)) hZ (hw _ (List.mem_of_getElem? (i := 44) rfl)) (hw _ (List.mem_of_getElem? (i := 11) rfl)) (by decide) (by decide) hEL C75.1) q83a q83c (g := (mkF m 69 #[.val (.long i0), .second, .val (.long i1), .second, iv i2, iv i3, rv r2, rv r8, iv na, iv nb_, iv id_, rv b18, .unset, .unset, .unset, .unset, .unset, .unset] [.null, (.ref b18)])) rfl (by rw [hml]; rfl) (Steps.refl _) (argsL := [.null]) (rest := []) (lenOf pd0_2 rfl) rfl (by show 2 * 0 + _ ≤ _; exact Nat.le_of_eq rfl) (hb hby at_69) (fun _ _ => ⟨rfl, e73, (by decide : 13 + 2 ≤ _), (by decide : 328 + 4 ≤ _)⟩)
  dsimp only [Pt.U, Pt.locs, Pt.cells, Pt.slots] at X83 hSq83 gr83 l83 y83 z83 st83 hQ83 Cq83
  subst l83 y83 z83
  have hS83 : s.Since T83.vm T83.heap.size := foldS hS (by rw [e73]; exact hk74) hSq83 gr83
  have hZ83 : s.Warmed39 (s.setVm T83.vm).vm := State.Warmed39.trans (t := (s.setVm T64.vm)) hZ hSq83.1
  have hown83 : (s.setVm T83.vm).vm.findClass "com/example/weaverbird/weaverbird/model/xml/AttributesCollapsePinLaw" = some m.cls := by rw [show (s.setVm T83.vm).vm = T83.vm from rfl, hSq83.1.alike.findClass]; exact hown
  have hS := hS83
  have hZ := hZ83
  have hown := hown83
  obtain ⟨ct83, fs83, fl83, rfl, Nq83, hct83, hs83, hso83, hl83, hlo83, Kq83, At83⟩ := hQ83
  have N83 := Fr.app N80 Nq83
  have e83 : T83.heap = T83.heap := rfl
  have Z83 : n0 ≤ T83.heap.size := Nat.le_trans Z73 Kq83.1
  have C84 : CHr s own_EL s.vm h0 T83.vm T83.heap := C75.trans Cq83
  have f85_B : own_Ss s T83.heap w cs := f76_B.keep Kq83 (nsS (own_nsE At73.1) (nsS (own_nsX At73.2.2.2.2.2.2.2.2.2.2.1) (nsS (own_ns At73.2.2.2.2.2.2.2.2.2.2.2.1) (nsS (own_ns At73.2.2.2.2.2.2.2.2.2.2.2.2.1) (nsS (own_nsX At73.2.2.2.2.2.2.2.2.2.2.2.2.2.1) (nsS (own_nsX At73.2.2.2.2.2.2.2.2.2.2.2.2.2.2.1) ns0))))))
  have f86_A : own_Af s T83.heap r2 .char 5 (fun j => .int (gd2 j)) := f77_A.keep Kq83 (ninS ne45 (ninS ne46 (ninS ne47 (ninS ne48 (ninS ne49 (ninS ne50 nin0))))))
  have f87_A : own_Af s T83.heap r8 .char 5 (fun j => .int (gd8 j)) := f78_A.keep Kq83 (ninS ne53 (ninS ne54 (ninS ne55 (ninS ne56 (ninS ne57 (ninS ne58 nin0))))))
  have f88_E : Exa s T83.heap b18 "com/example/weaverbird/weaverbird/model/xml/Attributes" := At73.1.keep Kq83
  obtain ⟨LL89, X89, N89⟩ : ∃ LL, Stand p l e room_1 (s.setVm T83.vm) m #[(.long i0), (.long i1), (.int i2), (.int i3)] below meth c T83 LL 15 332 ∧ Fr n0 LL := ⟨_, X83, N83⟩
  have pre90 : ∀ t, own_s p e below T83 m 72 #[.val (.long i0), .second, .val (.long i1), .second, iv i2, iv i3, rv r2, rv r8, iv na, iv nb_, iv id_, rv b18, .unset, .unset, .unset, .unset, .unset, .unset] [] t → Steps p.tables e below S0 t := fun tX kX => pre82 _ (st83.trans kX)
  have pre91 : ∀ t, own_s p e below T83 m 79 #[.val (.long i0), .second, .val (.long i1), .second, iv i2, iv i3, rv r2, rv r8, iv na, iv nb_, iv id_, rv b18, .unset, .unset, .unset, .unset, .unset, .unset] [(.int nb_), (.int (0 : Int32)), (.ref r8), (.ref b18)] t → Steps p.tables e below S0 t := by
    intro tX kX
    refine pre90 _ ?_
    show own_s p e below T83 m 72 #[.val (.long i0), .second, .val (.long i1), .second, iv i2, iv i3, rv r2, rv r8, iv na, iv nb_, iv id_, rv b18, .unset, .unset, .unset, .unset, .unset, .unset] [] _
    refine XS.aload X89.here hx rfl (hb hby at_72) rfl rfl ?_
    refine XS.aload X89.here hx rfl (hb hby at_74) rfl rfl ?_
    refine XS.iconst X89.here hx rfl (hb hby at_76) ?_
    show own_s p e below T83 m 77 #[.val (.long i0), .second, .val (.long i1), .second, iv i2, iv i3, rv r2, rv r8, iv na, iv nb_, iv id_, rv b18, .unset, .unset, .unset, .unset, .unset, .unset] [(.int (0 : Int32)), (.ref r8), (.ref b18)] _
    refine XS.iload X89.here hx rfl (hb hby at_77) rfl ?_
    exact kX
  obtain ⟨cq92, kq92, q92a, q92b, q92c⟩ := isOf hZ e83 At83.1
  obtain ⟨_, _, ⟨T92, L92, k92, n92⟩, -, X92, ⟨Lc92, hQ92, l92, y92, z92⟩, st92⟩ := X89.virtualBack hx (y := (⟨"com/example/weaverbird/weaverbird/model/xml/Attributes", "append", "([CII)V"⟩ : MethodName)) (z := (⟨"com/example/weaverbird/weaverbird/model/xml/Attributes", "append", "([CII)V"⟩ : MethodName)) hown (mvT hZ (hw _ (List.mem_of_getElem? (i := 58) rfl))) (mvT hZ (hw _ (List.mem_of_getElem? (i := 59) rfl))) (notFace_of_selects (args := #[]) (mvT hZ (hw _ (List.mem_of_getElem? (i := 61) rfl)))) (mvT hZ (hw _ (List.mem_of_getElem? (i := 61) rfl))) (mvT hZ (hw _ (List.mem_of_getElem? (i := 60) rfl))) (by decide) (backOf (W := 0) (rm31 l s a0 hw [] b18 r8 nb_ nm39 sr39 ln39 ns39 dc39 sg39 vl39 ct83 vn73 fs83 fl83 (fun _ => .null) (own_cpf (fun _ => 0) 0 A gd2) gd8 B A 1 T83.heap n0 Z83 At83 hO g_b18 (own_B.z.cpf fB2 _ _) f87_A fB8 hB hB5 (by have := hvn73; omega) (by omega) hct83 (by decide) (by rw [hl83]; rfl) lt_r8_b18) hZ (hw _ (List.mem_of_getElem? (i := 62) rfl)) (hw _ (List.mem_of_getElem? (i := 11) rfl)) (by decide) (by decide)) q92a q92c (g := (mkF m 79 #[.val (.long i0), .second, .val (.long i1), .second, iv i2, iv i3, rv r2, rv r8, iv na, iv nb_, iv id_, rv b18, .unset, .unset, .unset, .unset, .unset, .unset] [(.int nb_), (.int (0 : Int32)), (.ref r8), (.ref b18)])) rfl (by rw [hml]; rfl) (Steps.refl _) (argsL := [(.ref r8), (.int (0 : Int32)), (.int nb_)]) (rest := []) (lenOf pd0_3 rfl) rfl (by show 2 * 0 + _ ≤ _; exact Nat.le_of_eq rfl) (hb hby at_79) (fun _ _ => ⟨rfl, e83, (by decide : 15 + 0 ≤ _), (by decide : 332 + 0 ≤ _)⟩)
  dsimp only [Pt.U, Pt.locs, Pt.cells, Pt.slots] at X92 l92 y92 z92 st92 hQ92
  subst l92 y92 z92
  obtain ⟨vn92, fm92, rfl, Nq92, hvn92, hm92, hmo92, Kq92, At92⟩ := hQ92
  have N92 := Fr.app N89 Nq92
  have e92 : T92.heap = T92.heap := rfl
  have Z92 : n0 ≤ T92.heap.size := Nat.le_trans Z83 Kq92.1
  have hk93 : T83.heap.size ≤ T92.heap.size := Nat.le_trans (Nat.le_refl _) Kq92.1
  have C94 : CHr s own_EL s.vm h0 T83.vm T92.heap := C84.trans (CHr.keep Kq92 (sfS (Safe.exa hZ.alike At83.1 (by decide) (by decide)) (sfS (own_sfA hZ.alike At83.2.2.2.2.2.2.2.2.2.2.2.2.1 (fun q => nomatch q)) (sfS (own_sfA hZ.alike At83.2.2.2.2.2.2.2.2.2.2.2.2.2.2.2.2.1 (fun q => nomatch q)) sf0))) C84.1)
  have f95_B : own_Ss s T92.heap w cs := f85_B.keep Kq92 (nsS (own_nsE At83.1) (nsS (own_ns At83.2.2.2.2.2.2.2.2.2.2.2.2.1) (nsS (own_ns At83.2.2.2.2.2.2.2.2.2.2.2.2.2.2.2.2.1) ns0)))
  have f96_A : own_Af s T92.heap r2 .char 5 (fun j => .int (gd2 j)) := f86_A.keep Kq92 (ninS ne45 (ninS ne48 (ninS ne52 nin0)))
  have f97_A : own_Af s T92.heap r8 .char 5 (fun j => .int (gd8 j)) := f87_A.keep Kq92 (ninS ne53 (ninS ne56 (ninS ne60 nin0)))
  have f98_E : Exa s T92.heap b18 "com/example/weaverbird/weaverbird/model/xml/Attributes" := At83.1.keep Kq92
  obtain ⟨gv, hgv⟩ : ∃ z, z = (own_cpf (own_cpf (fun _ => 0) 0 A gd2) A B gd8) := ⟨_, rfl⟩
  have Bv : own_B gv := by rw [hgv]; exact ((own_B.z.cpf fB2 _ _).cpf fB8 _ _)
  have At99 : own_At s T92.heap b18 nm39 sr39 ln39 ns39 dc39 sg39 vl39 ct83 vn92 fs83 fm92 (fun _ => .null) gv := by rw [hgv]; exact At92
  have cA : ∀ j, j < A → gv j = gd2 j := fun j hj => by rw [hgv, own_cpf_out (Or.inl hj), own_cpf_in ⟨Nat.zero_le _, by omega⟩]; rfl
  have cB : ∀ j, j < B → gv (A + j) = gd8 j := fun j hj => by rw [hgv, own_cpf_in ⟨by omega, by omega⟩, Nat.add_sub_cancel_left]
  have s0 : (fs83 0).toInt = ((0 : Nat) : Int) := by rw [hso83 0 (by decide), hs64]; rfl
  have s1 : (fs83 1).toInt = ((A : Nat) : Int) := by rw [hs83]; have := hvn73; omega
  have l0 : (fm92 0).toInt = ((A : Nat) : Int) := by rw [hmo92 0 (by decide), hlo83 0 (by decide)]; exact hm73
  have l1 : (fm92 1).toInt = ((B : Nat) : Int) := hm92
  obtain ⟨LL100, X100, N100⟩ : ∃ LL, Stand p l e room_1 (s.setVm T83.vm) m #[(.long i0), (.long i1), (.int i2), (.int i3)] below meth c T92 LL 15 332 ∧ Fr n0 LL := ⟨_, X92, N92⟩
  have pre101 : ∀ t, own_s p e below T92 m 82 #[.val (.long i0), .second, .val (.long i1), .second, iv i2, iv i3, rv r2, rv r8, iv na, iv nb_, iv id_, rv b18, .unset, .unset, .unset, .unset, .unset, .unset] [] t → Steps p.tables e below S0 t := fun tX kX => pre91 _ (st92.trans kX)
  rcases (by omega : id_.toInt = 0 ∨ id_.toInt = 1) with hid | hid
  · skip
    obtain rfl : id_ = (0 : Int32) := own_eqI hid
    have pre102 : ∀ t, own_s p e below T92 m 86 #[.val (.long i0), .second, .val (.long i1), .second, iv i2, iv i3, rv r2, rv r8, iv na, iv nb_, iv (0 : Int32), rv b18, .unset, .unset, .unset, .unset, .unset, .unset] [(.int (0 : Int32)), (.ref b18)] t → Steps p.tables e below S0 t := by
      intro tX kX
      refine pre101 _ ?_
      show own_s p e below T92 m 82 #[.val (.long i0), .second, .val (.long i1), .second, iv i2, iv i3, rv r2, rv r8, iv na, iv nb_, iv (0 : Int32), rv b18, .unset, .unset, .unset, .unset, .unset, .unset] [] _
      refine XS.aload X100.here hx rfl (hb hby at_82) rfl rfl ?_
      refine XS.iload X100.here hx rfl (hb hby at_84) rfl ?_
      exact kX
    obtain ⟨cq103, kq103, q103a, q103b, q103c⟩ := isOf hZ e92 At92.1
    obtain ⟨_, _, ⟨T103, L103, k103, n103⟩, -, X103, ⟨Lc103, hQ103, l103, y103, z103⟩, st103⟩ := X100.virtualBack hx (y := (⟨"com/example/weaverbird/weaverbird/model/xml/Attributes", "collapse", "(I)V"⟩ : MethodName)) (z := (⟨"com/example/weaverbird/weaverbird/model/xml/Attributes", "collapse", "(I)V"⟩ : MethodName)) hown (mvT hZ (hw _ (List.mem_of_getElem? (i := 71) rfl))) (mvT hZ (hw _ (List.mem_of_getElem? (i := 72) rfl))) (notFace_of_selects (args := #[]) (mvT hZ (hw _ (List.mem_of_getElem? (i := 74) rfl)))) (mvT hZ (hw _ (List.mem_of_getElem? (i := 74) rfl))) (mvT hZ (hw _ (List.mem_of_getElem? (i := 73) rfl))) (by decide) (backOf (W := 0) (rm32 l s a0 hw [] b18 (0 : Int32) nm39 sr39 ln39 ns39 dc39 sg39 vl39 ct83 vn92 fs83 fm92 (fun _ => .null) gv 0 A 0 T92.heap n0 Z92 At99 hO g_b18 Bv rfl (by decide) s0 l0 (by omega)) hZ (hw _ (List.mem_of_getElem? (i := 75) rfl)) (hw _ (List.mem_of_getElem? (i := 11) rfl)) (by decide) (by decide)) q103a q103c (g := (mkF m 86 #[.val (.long i0), .second, .val (.long i1), .second, iv i2, iv i3, rv r2, rv r8, iv na, iv nb_, iv (0 : Int32), rv b18, .unset, .unset, .unset, .unset, .unset, .unset] [(.int (0 : Int32)), (.ref b18)])) rfl (by rw [hml]; rfl) (Steps.refl _) (argsL := [(.int (0 : Int32))]) (rest := []) (lenOf pd0_4 rfl) rfl (by show 2 * 0 + _ ≤ _; exact Nat.le_of_eq rfl) (hb hby at_86) (fun _ _ => ⟨rfl, e92, (by decide : 15 + 0 ≤ _), (by decide : 332 + 0 ≤ _)⟩)
    dsimp only [Pt.U, Pt.locs, Pt.cells, Pt.slots] at X103 l103 y103 z103 st103 hQ103
    subst l103 y103 z103
    obtain ⟨fk103, rfl, Nq103, hk103, hko103, Bk103, Kq103, At103⟩ := hQ103
    have N103 := Fr.app N100 Nq103
    have e103 : T103.heap = T103.heap := rfl
    have Z103 : n0 ≤ T103.heap.size := Nat.le_trans Z92 Kq103.1
    have hk104 : T83.heap.size ≤ T103.heap.size := Nat.le_trans hk93 Kq103.1
    have C105 : CHr s own_EL s.vm h0 T83.vm T103.heap := C94.trans (CHr.keep Kq103 (sfS (own_sfA hZ.alike At99.2.2.2.2.2.2.2.2.2.2.2.2.1 (fun q => nomatch q)) (sfS (own_sfA hZ.alike At99.2.2.2.2.2.2.2.2.2.2.2.2.2.2.2.2.1 (fun q => nomatch q)) sf0)) C94.1)
    have f106_B : own_Ss s T103.heap w cs := f95_B.keep Kq103 (nsS (own_ns At99.2.2.2.2.2.2.2.2.2.2.2.2.1) (nsS (own_ns At99.2.2.2.2.2.2.2.2.2.2.2.2.2.2.2.2.1) ns0))
    have f107_A : own_Af s T103.heap r2 .char 5 (fun j => .int (gd2 j)) := f96_A.keep Kq103 (ninS ne48 (ninS ne52 nin0))
    have f108_A : own_Af s T103.heap r8 .char 5 (fun j => .int (gd8 j)) := f97_A.keep Kq103 (ninS ne56 (ninS ne60 nin0))
    have f109_E : Exa s T103.heap b18 "com/example/weaverbird/weaverbird/model/xml/Attributes" := At92.1.keep Kq103
    obtain ⟨rl, hrl⟩ : ∃ z, z = own_loop 0 A 0 0 true gv := ⟨_, rfl⟩
    have Brl : own_B rl.2 := by rw [hrl]; exact Bk103
    have hend : (fk103 0).toInt = ((own_end 0 rl : Nat) : Int) := by rw [hrl]; exact hk103
    have At110 : own_At s T103.heap b18 nm39 sr39 ln39 ns39 dc39 sg39 vl39 ct83 vn92 fs83 fk103 (fun _ => .null) rl.2 := by rw [hrl]; exact At103
    have hcc : ∀ j, j < A → gd2 j = gv (0 + j) := fun j hj => by rw [Nat.zero_add]; exact (cA j hj).symm
    obtain ⟨bt, hbt⟩ : ∃ z, z = own_bits [decide (gd2 0 ≠ 32), decide (gd2 1 ≠ 32), decide (gd2 2 ≠ 32), decide (gd2 3 ≠ 32), decide (gd2 4 ≠ 32)] := ⟨_, rfl⟩
    have hbE : ∀ i, i < A → bt i = decide (gd2 i ≠ 32) := fun i hi => by rw [hbt]; exact own_bitsE (by omega) i hi
    obtain ⟨LL111, X111, N111⟩ : ∃ LL, Stand p l e room_1 (s.setVm T83.vm) m #[(.long i0), (.long i1), (.int i2), (.int i3)] below meth c T103 LL 15 332 ∧ Fr n0 LL := ⟨_, X103, N103⟩
    have pre112 : ∀ t, own_s p e below T103 m 89 #[.val (.long i0), .second, .val (.long i1), .second, iv i2, iv i3, rv r2, rv r8, iv na, iv nb_, iv (0 : Int32), rv b18, .unset, .unset, .unset, .unset, .unset, .unset] [] t → Steps p.tables e below S0 t := fun tX kX => pre102 _ (st103.trans kX)
    have pre113 : ∀ t, own_s p e below T103 m 146 #[.val (.long i0), .second, .val (.long i1), .second, iv i2, iv i3, rv r2, rv r8, iv na, iv nb_, iv (0 : Int32), rv b18, rv r2, iv na, rv r8, iv nb_, .unset, .unset] [(.int (5 : Int32))] t → Steps p.tables e below S0 t := by
      intro tX kX
      refine pre112 _ ?_
      show own_s p e below T103 m 89 #[.val (.long i0), .second, .val (.long i1), .second, iv i2, iv i3, rv r2, rv r8, iv na, iv nb_, iv (0 : Int32), rv b18, .unset, .unset, .unset, .unset, .unset, .unset] [] _
      refine XS.iload X111.here hx rfl (hb hby at_89) rfl ?_
      refine XS.ifNo X111.here hx rfl (hb hby at_91) rfl ((if0 _ _).trans (teq (by decide : (0 : Int32) = (0 : Int32))).2) ?_
      refine XS.aload X111.here hx rfl (hb hby at_94) rfl rfl ?_
      show own_s p e below T103 m 96 #[.val (.long i0), .second, .val (.long i1), .second, iv i2, iv i3, rv r2, rv r8, iv na, iv nb_, iv (0 : Int32), rv b18, .unset, .unset, .unset, .unset, .unset, .unset] [(.ref r2)] _
      refine XS.goto X111.here hx rfl (pc0 := 96) (pc' := 101) rfl (hb hby at_96) (by decide) (by decide) ?_
      refine XS.astore X111.here hx rfl (hb hby at_101) rfl rfl (l' := #[.val (.long i0), .second, .val (.long i1), .second, iv i2, iv i3, rv r2, rv r8, iv na, iv nb_, iv (0 : Int32), rv b18, rv r2, .unset, .unset, .unset, .unset, .unset]) rfl ?_
      refine XS.iload X111.here hx rfl (hb hby at_103) rfl ?_
      show own_s p e below T103 m 105 #[.val (.long i0), .second, .val (.long i1), .second, iv i2, iv i3, rv r2, rv r8, iv na, iv nb_, iv (0 : Int32), rv b18, rv r2, .unset, .unset, .unset, .unset, .unset] [(.int (0 : Int32))] _
      refine XS.ifNo X111.here hx rfl (hb hby at_105) rfl ((if0 _ _).trans (teq (by decide : (0 : Int32) = (0 : Int32))).2) ?_
      refine XS.iload X111.here hx rfl (hb hby at_108) rfl ?_
      refine XS.goto X111.here hx rfl (pc0 := 110) (pc' := 115) rfl (hb hby at_110) (by decide) (by decide) ?_
      show own_s p e below T103 m 115 #[.val (.long i0), .second, .val (.long i1), .second, iv i2, iv i3, rv r2, rv r8, iv na, iv nb_, iv (0 : Int32), rv b18, rv r2, .unset, .unset, .unset, .unset, .unset] [(.int na)] _
      refine XS.istore X111.here hx rfl (hb hby at_115) rfl (l' := #[.val (.long i0), .second, .val (.long i1), .second, iv i2, iv i3, rv r2, rv r8, iv na, iv nb_, iv (0 : Int32), rv b18, rv r2, iv na, .unset, .unset, .unset, .unset]) rfl ?_
      refine XS.iload X111.here hx rfl (hb hby at_117) rfl ?_
      refine XS.ifNo X111.here hx rfl (hb hby at_119) rfl ((if0 _ _).trans (teq (by decide : (0 : Int32) = (0 : Int32))).2) ?_
      show own_s p e below T103 m 122 #[.val (.long i0), .second, .val (.long i1), .second, iv i2, iv i3, rv r2, rv r8, iv na, iv nb_, iv (0 : Int32), rv b18, rv r2, iv na, .unset, .unset, .unset, .unset] [] _
      refine XS.aload X111.here hx rfl (hb hby at_122) rfl rfl ?_
      refine XS.goto X111.here hx rfl (pc0 := 124) (pc' := 129) rfl (hb hby at_124) (by decide) (by decide) ?_
      refine XS.astore X111.here hx rfl (hb hby at_129) rfl rfl (l' := #[.val (.long i0), .second, .val (.long i1), .second, iv i2, iv i3, rv r2, rv r8, iv na, iv nb_, iv (0 : Int32), rv b18, rv r2, iv na, rv r8, .unset, .unset, .unset]) rfl ?_
      show own_s p e below T103 m 131 #[.val (.long i0), .second, .val (.long i1), .second, iv i2, iv i3, rv r2, rv r8, iv na, iv nb_, iv (0 : Int32), rv b18, rv r2, iv na, rv r8, .unset, .unset, .unset] [] _
      refine XS.iload X111.here hx rfl (hb hby at_131) rfl ?_
      refine XS.ifNo X111.here hx rfl (hb hby at_133) rfl ((if0 _ _).trans (teq (by decide : (0 : Int32) = (0 : Int32))).2) ?_
      refine XS.iload X111.here hx rfl (hb hby at_136) rfl ?_
      show own_s p e below T103 m 138 #[.val (.long i0), .second, .val (.long i1), .second, iv i2, iv i3, rv r2, rv r8, iv na, iv nb_, iv (0 : Int32), rv b18, rv r2, iv na, rv r8, .unset, .unset, .unset] [(.int nb_)] _
      refine XS.goto X111.here hx rfl (pc0 := 138) (pc' := 143) rfl (hb hby at_138) (by decide) (by decide) ?_
      refine XS.istore X111.here hx rfl (hb hby at_143) rfl (l' := #[.val (.long i0), .second, .val (.long i1), .second, iv i2, iv i3, rv r2, rv r8, iv na, iv nb_, iv (0 : Int32), rv b18, rv r2, iv na, rv r8, iv nb_, .unset, .unset]) rfl ?_
      refine XS.iconst X111.here hx rfl (hb hby at_145) ?_
      exact kX
    obtain ⟨T114, h114, k114, X114, e114, E114, A114, st114⟩ := newP X111 hx hZ (hw _ (List.mem_of_getElem? (i := 4) rfl)) e103 (g := (mkF m 146 #[.val (.long i0), .second, .val (.long i1), .second, iv i2, iv i3, rv r2, rv r8, iv na, iv nb_, iv (0 : Int32), rv b18, rv r2, iv na, rv r8, iv nb_, .unset, .unset] [(.int (5 : Int32))])) rfl (hb hby at_146) rfl (by decide) (cap := 5) (by decide) (by decide) (by decide) (by decide)
    obtain ⟨b114, g114⟩ : ∃ z, z = T103.heap.size := ⟨_, rfl⟩
    rw [← g114] at A114 st114
    have ne115 : r2 ≠ b114 := Nat.ne_of_lt (Nat.lt_of_lt_of_le f107_A.lt (Nat.le_of_eq g114.symm))
    have ne116 : r8 ≠ b114 := Nat.ne_of_lt (Nat.lt_of_lt_of_le f108_A.lt (Nat.le_of_eq g114.symm))
    have ne117 : b18 ≠ b114 := Nat.ne_of_lt (Nat.lt_of_lt_of_le At103.1.lt (Nat.le_of_eq g114.symm))
    have g_b114 : n0 ≤ b114 := Nat.le_trans Z103 (Nat.le_of_eq g114.symm)
    have lt_r2_b114 : r2 < b114 := Nat.lt_of_lt_of_le f107_A.lt (Nat.le_of_eq g114.symm)
    have lt_r8_b114 : r8 < b114 := Nat.lt_of_lt_of_le f108_A.lt (Nat.le_of_eq g114.symm)
    have lt_vl_b114 : vl39 < b114 := Nat.lt_of_lt_of_le At110.2.2.2.2.2.2.2.2.2.2.2.2.2.2.2.2.1.lt (Nat.le_of_eq g114.symm)
    have ne118 : b18 ≠ b114 := Nat.ne_of_lt (Nat.lt_trans (Nat.lt_trans o1 (Nat.lt_trans o2 (Nat.lt_trans o3 (Nat.lt_trans o4 (Nat.lt_trans o5 (Nat.lt_trans o6 o7)))))) lt_vl_b114)
    have ne119 : nm39 ≠ b114 := Nat.ne_of_lt (Nat.lt_trans (Nat.lt_trans o2 (Nat.lt_trans o3 (Nat.lt_trans o4 (Nat.lt_trans o5 (Nat.lt_trans o6 o7))))) lt_vl_b114)
    have ne120 : sr39 ≠ b114 := Nat.ne_of_lt (Nat.lt_trans (Nat.lt_trans o3 (Nat.lt_trans o4 (Nat.lt_trans o5 (Nat.lt_trans o6 o7)))) lt_vl_b114)
    have ne121 : ln39 ≠ b114 := Nat.ne_of_lt (Nat.lt_trans (Nat.lt_trans o4 (Nat.lt_trans o5 (Nat.lt_trans o6 o7))) lt_vl_b114)
    have ne122 : ns39 ≠ b114 := Nat.ne_of_lt (Nat.lt_trans (Nat.lt_trans o5 (Nat.lt_trans o6 o7)) lt_vl_b114)
    have ne123 : dc39 ≠ b114 := Nat.ne_of_lt (Nat.lt_trans (Nat.lt_trans o6 o7) lt_vl_b114)
    have ne124 : sg39 ≠ b114 := Nat.ne_of_lt (Nat.lt_trans o7 lt_vl_b114)
    have ne125 : vl39 ≠ b114 := Nat.ne_of_lt lt_vl_b114
    have pre126 : ∀ t, own_s p e below T114 m 148 #[.val (.long i0), .second, .val (.long i1), .second, iv i2, iv i3, rv r2, rv r8, iv na, iv nb_, iv (0 : Int32), rv b18, rv r2, iv na, rv r8, iv nb_, .unset, .unset] [(.ref b114)] t → Steps p.tables e below S0 t := fun tX kX => pre113 _ (st114 _ kX)
    have f127_B : own_Ss s h114 w cs := f106_B.ext E114
    have f128_A : own_Af s h114 r2 .char 5 (fun j => .int (gd2 j)) := f107_A.ext E114
    have f129_A : own_Af s h114 r8 .char 5 (fun j => .int (gd8 j)) := f108_A.ext E114
    have f130_E : Exa s h114 b18 "com/example/weaverbird/weaverbird/model/xml/Attributes" := At103.1.ext E114
    have Z131 : n0 ≤ h114.size := Nat.le_trans Z103 E114.1
    have hk132 : T83.heap.size ≤ h114.size := Nat.le_trans hk104 E114.1
    have C133 : CHr s own_EL s.vm h0 T83.vm h114 := C105.trans (CHr.ext E114 C105.1)
    have At134 : own_At s h114 b18 nm39 sr39 ln39 ns39 dc39 sg39 vl39 ct83 vn92 fs83 fk103 (fun _ => .null) rl.2 := own_At.ko At110 ((Keep.refl _ []).ext E114) (fun _ _ _ => nin0) hO
    have f135_A : own_Af s h114 b114 .char 5 (fun _ => (.int (0 : Int32))) := own_Af.new A114 (by decide) rfl
    have pre136 : ∀ t, own_s p e below T114 m 164 #[.val (.long i0), .second, .val (.long i1), .second, iv i2, iv i3, rv r2, rv r8, iv na, iv nb_, iv (0 : Int32), rv b18, rv r2, iv na, rv r8, iv nb_, rv b114, iv (0 : Int32)] [(.int (0 : Int32)), (.int na), (.ref r2), (.ref r2), (.int (0 : Int32)), (.ref b114)] t → Steps p.tables e below S0 t := by
      intro tX kX
      refine pre126 _ ?_
      show own_s p e below T114 m 148 #[.val (.long i0), .second, .val (.long i1), .second, iv i2, iv i3, rv r2, rv r8, iv na, iv nb_, iv (0 : Int32), rv b18, rv r2, iv na, rv r8, iv nb_, .unset, .unset] [(.ref b114)] _
      refine XS.astore X114.here hx rfl (hb hby at_148) rfl rfl (l' := #[.val (.long i0), .second, .val (.long i1), .second, iv i2, iv i3, rv r2, rv r8, iv na, iv nb_, iv (0 : Int32), rv b18, rv r2, iv na, rv r8, iv nb_, rv b114, .unset]) rfl ?_
      refine XS.iconst X114.here hx rfl (hb hby at_150) ?_
      refine XS.istore X114.here hx rfl (hb hby at_151) rfl (l' := #[.val (.long i0), .second, .val (.long i1), .second, iv i2, iv i3, rv r2, rv r8, iv na, iv nb_, iv (0 : Int32), rv b18, rv r2, iv na, rv r8, iv nb_, rv b114, iv (0 : Int32)]) rfl ?_
      show own_s p e below T114 m 153 #[.val (.long i0), .second, .val (.long i1), .second, iv i2, iv i3, rv r2, rv r8, iv na, iv nb_, iv (0 : Int32), rv b18, rv r2, iv na, rv r8, iv nb_, rv b114, iv (0 : Int32)] [] _
      refine XS.aload X114.here hx rfl (hb hby at_153) rfl rfl ?_
      refine XS.iload X114.here hx rfl (hb hby at_155) rfl ?_
      refine XS.aload X114.here hx rfl (hb hby at_157) rfl rfl ?_
      show own_s p e below T114 m 159 #[.val (.long i0), .second, .val (.long i1), .second, iv i2, iv i3, rv r2, rv r8, iv na, iv nb_, iv (0 : Int32), rv b18, rv r2, iv na, rv r8, iv nb_, rv b114, iv (0 : Int32)] [(.ref r2), (.int (0 : Int32)), (.ref b114)] _
      refine XS.aload X114.here hx rfl (hb hby at_159) rfl rfl ?_
      refine XS.iload X114.here hx rfl (hb hby at_161) rfl ?_
      refine XS.iconst X114.here hx rfl (hb hby at_163) ?_
      exact kX
    obtain ⟨_, _, ⟨T137, L137, k137, n137⟩, -, X137, ⟨Lc137, hQ137, l137, y137, z137⟩, st137⟩ := Jvm.LawKit.callS X114 hx (y := (⟨"com/example/weaverbird/weaverbird/model/xml/AttributesCollapsePinLaw", "keep", "([CII)Z"⟩ : MethodName)) hown (mvT hZ (hw _ (List.mem_of_getElem? (i := 76) rfl))) (mvT hZ (hw _ (List.mem_of_getElem? (i := 77) rfl))) (mvT hZ (hw _ (List.mem_of_getElem? (i := 2) rfl))) (mvT hZ (hw _ (List.mem_of_getElem? (i := 78) rfl))) (by decide) (backOf (W := 3) (rm5 l s a0 hw [] r2 na (0 : Int32) gd2 bt A 0 h114 n0 Z131 f128_A hbE hA hA5 rfl (by decide)) hZ (hw _ (List.mem_of_getElem? (i := 78) rfl)) (hw _ (List.mem_of_getElem? (i := 2) rfl)) (by decide) (by decide)) (g := (mkF m 164 #[.val (.long i0), .second, .val (.long i1), .second, iv i2, iv i3, rv r2, rv r8, iv na, iv nb_, iv (0 : Int32), rv b18, rv r2, iv na, rv r8, iv nb_, rv b114, iv (0 : Int32)] [(.int (0 : Int32)), (.int na), (.ref r2), (.ref r2), (.int (0 : Int32)), (.ref b114)])) rfl (by rw [hml]; rfl) (argsL := [(.ref r2), (.int na), (.int (0 : Int32))]) (rest := [(.ref r2), (.int (0 : Int32)), (.ref b114)]) (lenOf pd0_5 rfl) rfl (by show 2 * 0 + _ ≤ _; exact Nat.le_of_eq rfl) (hb hby at_164) (fun _ _ => ⟨rfl, e114, (by decide : 16 + 0 ≤ _), (by decide : 337 + 0 ≤ _)⟩)
    dsimp only [Pt.U, Pt.locs, Pt.cells, Pt.slots] at X137 l137 y137 z137 st137 hQ137
    subst l137 y137 z137
    obtain ⟨rfl, Nq137, e137⟩ := hQ137
    have N137 := Fr.app N111 Nq137
    obtain ⟨LL138, X138, N138⟩ : ∃ LL, Stand p l e room_1 (s.setVm T83.vm) m #[(.long i0), (.long i1), (.int i2), (.int i3)] below meth c T137 LL 16 337 ∧ Fr n0 LL := ⟨_, X137, N137⟩
    have pre139 : ∀ t, own_s p e below T137 m 167 #[.val (.long i0), .second, .val (.long i1), .second, iv i2, iv i3, rv r2, rv r8, iv na, iv nb_, iv (0 : Int32), rv b18, rv r2, iv na, rv r8, iv nb_, rv b114, iv (0 : Int32)] [(.int (own_bi (own_kp bt A 0))), (.ref r2), (.int (0 : Int32)), (.ref b114)] t → Steps p.tables e below S0 t := fun tX kX => pre136 _ (st137 _ kX)
    have pre140 : ∀ t, own_s p e below T137 m 168 #[.val (.long i0), .second, .val (.long i1), .second, iv i2, iv i3, rv r2, rv r8, iv na, iv nb_, iv (0 : Int32), rv b18, rv r2, iv na, rv r8, iv nb_, rv b114, iv (0 : Int32)] [(.int (0 : Int32)), (.int (own_bi (own_kp bt A 0))), (.ref r2), (.int (0 : Int32)), (.ref b114)] t → Steps p.tables e below S0 t := by
      intro tX kX
      refine pre139 _ ?_
      show own_s p e below T137 m 167 #[.val (.long i0), .second, .val (.long i1), .second, iv i2, iv i3, rv r2, rv r8, iv na, iv nb_, iv (0 : Int32), rv b18, rv r2, iv na, rv r8, iv nb_, rv b114, iv (0 : Int32)] [(.int (own_bi (own_kp bt A 0))), (.ref r2), (.int (0 : Int32)), (.ref b114)] _
      refine XS.iconst X138.here hx rfl (hb hby at_167) ?_
      exact kX
    obtain ⟨_, _, ⟨T141, L141, k141, n141⟩, -, X141, ⟨Lc141, hQ141, l141, y141, z141⟩, st141⟩ := Jvm.LawKit.callS X138 hx (y := (⟨"com/example/weaverbird/weaverbird/model/xml/AttributesCollapsePinLaw", "put", "([CI[CZI)I"⟩ : MethodName)) hown (mvT hZ (hw _ (List.mem_of_getElem? (i := 79) rfl))) (mvT hZ (hw _ (List.mem_of_getElem? (i := 80) rfl))) (mvT hZ (hw _ (List.mem_of_getElem? (i := 2) rfl))) (mvT hZ (hw _ (List.mem_of_getElem? (i := 81) rfl))) (by decide) (backOf (W := 0) (rm6 l s a0 hw [] b114 (0 : Int32) r2 (own_bi (own_kp bt A 0)) (0 : Int32) (fun _ => (0 : Int32)) gd2 0 (own_kp bt A 0) 0 h114 n0 Z131 f135_A f128_A own_B.z fB2 rfl (by omega) rfl rfl (by decide) (Ne.symm ne115) g_b114) hZ (hw _ (List.mem_of_getElem? (i := 81) rfl)) (hw _ (List.mem_of_getElem? (i := 2) rfl)) (by decide) (by decide)) (g := (mkF m 168 #[.val (.long i0), .second, .val (.long i1), .second, iv i2, iv i3, rv r2, rv r8, iv na, iv nb_, iv (0 : Int32), rv b18, rv r2, iv na, rv r8, iv nb_, rv b114, iv (0 : Int32)] [(.int (0 : Int32)), (.int (own_bi (own_kp bt A 0))), (.ref r2), (.int (0 : Int32)), (.ref b114)])) rfl (by rw [hml]; rfl) (argsL := [(.ref b114), (.int (0 : Int32)), (.ref r2), (.int (own_bi (own_kp bt A 0))), (.int (0 : Int32))]) (rest := []) (lenOf pd0_6 rfl) rfl (by show 2 * 0 + _ ≤ _; exact Nat.le_of_eq rfl) (hb hby at_168) (fun _ _ => ⟨rfl, e137, (by decide : 16 + 0 ≤ _), (by decide : 337 + 0 ≤ _)⟩)
    dsimp only [Pt.U, Pt.locs, Pt.cells, Pt.slots] at X141 l141 y141 z141 st141 hQ141
    subst l141 y141 z141
    obtain ⟨⟨v141, rfl, hp_141⟩, Nq141, Kq141, fA141⟩ := hQ141
    have N141 := Fr.app N138 Nq141
    have e141 : T141.heap = T141.heap := rfl
    have Z141 : n0 ≤ T141.heap.size := Nat.le_trans Z131 Kq141.1
    have hk142 : T83.heap.size ≤ T141.heap.size := Nat.le_trans hk132 Kq141.1
    have C143 : CHr s own_EL s.vm h0 T83.vm T141.heap := C133.trans (CHr.keep Kq141 (sfS (own_sfA hZ.alike f135_A (fun q => nomatch q)) sf0) C133.1)
    have f144_B : own_Ss s T141.heap w cs := f127_B.keep Kq141 (nsS (own_ns f135_A) ns0)
    have f145_A : own_Af s T141.heap r2 .char 5 (fun j => .int (gd2 j)) := f128_A.keep Kq141 (ninS ne115 nin0)
    have f146_A : own_Af s T141.heap r8 .char 5 (fun j => .int (gd8 j)) := f129_A.keep Kq141 (ninS ne116 nin0)
    have f147_E : Exa s T141.heap b18 "com/example/weaverbird/weaverbird/model/xml/Attributes" := f130_E.keep Kq141
    have At148 : own_At s T141.heap b18 nm39 sr39 ln39 ns39 dc39 sg39 vl39 ct83 vn92 fs83 fk103 (fun _ => .null) rl.2 := own_At.ko At134 Kq141 (fun x _ q => ninS (Nat.ne_of_lt (Nat.lt_of_le_of_lt q lt_vl_b114)) nin0) hO
    obtain ⟨Pp141, hPp141⟩ : ∃ z, z = own_p (own_kp bt A 0) 0 := ⟨_, rfl⟩
    have hp141 : v141.toInt = ((Pp141 : Nat) : Int) := by rw [hPp141]; exact hp_141
    have bP141 := own_p_le (own_kp bt A 0) 0
    rw [← hPp141] at bP141
    obtain ⟨oo141, hoo141⟩ : ∃ z, z = own_o (own_kp bt A 0) 0 (gd2 0) (fun _ => (0 : Int32)) := ⟨_, rfl⟩
    have Bo141 : own_B oo141 := by rw [hoo141]; exact own_B.o own_B.z (fB2 _)
    have f149_A : own_Af s T141.heap b114 .char 5 (fun j => .int (oo141 j)) := by rw [hoo141]; exact fA141
    obtain ⟨LL150, X150, N150⟩ : ∃ LL, Stand p l e room_1 (s.setVm T83.vm) m #[(.long i0), (.long i1), (.int i2), (.int i3)] below meth c T141 LL 16 337 ∧ Fr n0 LL := ⟨_, X141, N141⟩
    have pre151 : ∀ t, own_s p e below T141 m 171 #[.val (.long i0), .second, .val (.long i1), .second, iv i2, iv i3, rv r2, rv r8, iv na, iv nb_, iv (0 : Int32), rv b18, rv r2, iv na, rv r8, iv nb_, rv b114, iv (0 : Int32)] [(.int v141)] t → Steps p.tables e below S0 t := fun tX kX => pre140 _ (st141 _ kX)
    have pre152 : ∀ t, own_s p e below T141 m 184 #[.val (.long i0), .second, .val (.long i1), .second, iv i2, iv i3, rv r2, rv r8, iv na, iv nb_, iv (0 : Int32), rv b18, rv r2, iv na, rv r8, iv nb_, rv b114, iv v141] [(.int (1 : Int32)), (.int na), (.ref r2), (.ref r2), (.int v141), (.ref b114)] t → Steps p.tables e below S0 t := by
      intro tX kX
      refine pre151 _ ?_
      show own_s p e below T141 m 171 #[.val (.long i0), .second, .val (.long i1), .second, iv i2, iv i3, rv r2, rv r8, iv na, iv nb_, iv (0 : Int32), rv b18, rv r2, iv na, rv r8, iv nb_, rv b114, iv (0 : Int32)] [(.int v141)] _
      refine XS.istore X150.here hx rfl (hb hby at_171) rfl (l' := #[.val (.long i0), .second, .val (.long i1), .second, iv i2, iv i3, rv r2, rv r8, iv na, iv nb_, iv (0 : Int32), rv b18, rv r2, iv na, rv r8, iv nb_, rv b114, iv v141]) rfl ?_
      refine XS.aload X150.here hx rfl (hb hby at_173) rfl rfl ?_
      refine XS.iload X150.here hx rfl (hb hby at_175) rfl ?_
      show own_s p e below T141 m 177 #[.val (.long i0), .second, .val (.long i1), .second, iv i2, iv i3, rv r2, rv r8, iv na, iv nb_, iv (0 : Int32), rv b18, rv r2, iv na, rv r8, iv nb_, rv b114, iv v141] [(.int v141), (.ref b114)] _
      refine XS.aload X150.here hx rfl (hb hby at_177) rfl rfl ?_
      refine XS.aload X150.here hx rfl (hb hby at_179) rfl rfl ?_
      refine XS.iload X150.here hx rfl (hb hby at_181) rfl ?_
      show own_s p e below T141 m 183 #[.val (.long i0), .second, .val (.long i1), .second, iv i2, iv i3, rv r2, rv r8, iv na, iv nb_, iv (0 : Int32), rv b18, rv r2, iv na, rv r8, iv nb_, rv b114, iv v141] [(.int na), (.ref r2), (.ref r2), (.int v141), (.ref b114)] _
      refine XS.iconst X150.here hx rfl (hb hby at_183) ?_
      exact kX
    obtain ⟨_, _, ⟨T153, L153, k153, n153⟩, -, X153, ⟨Lc153, hQ153, l153, y153, z153⟩, st153⟩ := Jvm.LawKit.callS X150 hx (y := (⟨"com/example/weaverbird/weaverbird/model/xml/AttributesCollapsePinLaw", "keep", "([CII)Z"⟩ : MethodName)) hown (mvT hZ (hw _ (List.mem_of_getElem? (i := 76) rfl))) (mvT hZ (hw _ (List.mem_of_getElem? (i := 77) rfl))) (mvT hZ (hw _ (List.mem_of_getElem? (i := 2) rfl))) (mvT hZ (hw _ (List.mem_of_getElem? (i := 78) rfl))) (by decide) (backOf (W := 3) (rm5 l s a0 hw [] r2 na (1 : Int32) gd2 bt A 1 T141.heap n0 Z141 f145_A hbE hA hA5 rfl (by decide)) hZ (hw _ (List.mem_of_getElem? (i := 78) rfl)) (hw _ (List.mem_of_getElem? (i := 2) rfl)) (by decide) (by decide)) (g := (mkF m 184 #[.val (.long i0), .second, .val (.long i1), .second, iv i2, iv i3, rv r2, rv r8, iv na, iv nb_, iv (0 : Int32), rv b18, rv r2, iv na, rv r8, iv nb_, rv b114, iv v141] [(.int (1 : Int32)), (.int na), (.ref r2), (.ref r2), (.int v141), (.ref b114)])) rfl (by rw [hml]; rfl) (argsL := [(.ref r2), (.int na), (.int (1 : Int32))]) (rest := [(.ref r2), (.int v141), (.ref b114)]) (lenOf pd0_5 rfl) rfl (by show 2 * 0 + _ ≤ _; exact Nat.le_of_eq rfl) (hb hby at_184) (fun _ _ => ⟨rfl, e141, (by decide : 16 + 0 ≤ _), (by decide : 337 + 0 ≤ _)⟩)
    dsimp only [Pt.U, Pt.locs, Pt.cells, Pt.slots] at X153 l153 y153 z153 st153 hQ153
    subst l153 y153 z153
    obtain ⟨rfl, Nq153, e153⟩ := hQ153
    have N153 := Fr.app N150 Nq153
    obtain ⟨LL154, X154, N154⟩ : ∃ LL, Stand p l e room_1 (s.setVm T83.vm) m #[(.long i0), (.long i1), (.int i2), (.int i3)] below meth c T153 LL 16 337 ∧ Fr n0 LL := ⟨_, X153, N153⟩
    have pre155 : ∀ t, own_s p e below T153 m 187 #[.val (.long i0), .second, .val (.long i1), .second, iv i2, iv i3, rv r2, rv r8, iv na, iv nb_, iv (0 : Int32), rv b18, rv r2, iv na, rv r8, iv nb_, rv b114, iv v141] [(.int (own_bi (own_kp bt A 1))), (.ref r2), (.int v141), (.ref b114)] t → Steps p.tables e below S0 t := fun tX kX => pre152 _ (st153 _ kX)
    have pre156 : ∀ t, own_s p e below T153 m 188 #[.val (.long i0), .second, .val (.long i1), .second, iv i2, iv i3, rv r2, rv r8, iv na, iv nb_, iv (0 : Int32), rv b18, rv r2, iv na, rv r8, iv nb_, rv b114, iv v141] [(.int (1 : Int32)), (.int (own_bi (own_kp bt A 1))), (.ref r2), (.int v141), (.ref b114)] t → Steps p.tables e below S0 t := by
      intro tX kX
      refine pre155 _ ?_
      show own_s p e below T153 m 187 #[.val (.long i0), .second, .val (.long i1), .second, iv i2, iv i3, rv r2, rv r8, iv na, iv nb_, iv (0 : Int32), rv b18, rv r2, iv na, rv r8, iv nb_, rv b114, iv v141] [(.int (own_bi (own_kp bt A 1))), (.ref r2), (.int v141), (.ref b114)] _
      refine XS.iconst X154.here hx rfl (hb hby at_187) ?_
      exact kX
    obtain ⟨_, _, ⟨T157, L157, k157, n157⟩, -, X157, ⟨Lc157, hQ157, l157, y157, z157⟩, st157⟩ := Jvm.LawKit.callS X154 hx (y := (⟨"com/example/weaverbird/weaverbird/model/xml/AttributesCollapsePinLaw", "put", "([CI[CZI)I"⟩ : MethodName)) hown (mvT hZ (hw _ (List.mem_of_getElem? (i := 79) rfl))) (mvT hZ (hw _ (List.mem_of_getElem? (i := 80) rfl))) (mvT hZ (hw _ (List.mem_of_getElem? (i := 2) rfl))) (mvT hZ (hw _ (List.mem_of_getElem? (i := 81) rfl))) (by decide) (backOf (W := 0) (rm6 l s a0 hw [] b114 v141 r2 (own_bi (own_kp bt A 1)) (1 : Int32) oo141 gd2 Pp141 (own_kp bt A 1) 1 T141.heap n0 Z141 f149_A f145_A Bo141 fB2 hp141 (by omega) rfl rfl (by decide) (Ne.symm ne115) g_b114) hZ (hw _ (List.mem_of_getElem? (i := 81) rfl)) (hw _ (List.mem_of_getElem? (i := 2) rfl)) (by decide) (by decide)) (g := (mkF m 188 #[.val (.long i0), .second, .val (.long i1), .second, iv i2, iv i3, rv r2, rv r8, iv na, iv nb_, iv (0 : Int32), rv b18, rv r2, iv na, rv r8, iv nb_, rv b114, iv v141] [(.int (1 : Int32)), (.int (own_bi (own_kp bt A 1))), (.ref r2), (.int v141), (.ref b114)])) rfl (by rw [hml]; rfl) (argsL := [(.ref b114), (.int v141), (.ref r2), (.int (own_bi (own_kp bt A 1))), (.int (1 : Int32))]) (rest := []) (lenOf pd0_6 rfl) rfl (by show 2 * 0 + _ ≤ _; exact Nat.le_of_eq rfl) (hb hby at_188) (fun _ _ => ⟨rfl, e153, (by decide : 16 + 0 ≤ _), (by decide : 337 + 0 ≤ _)⟩)
    dsimp only [Pt.U, Pt.locs, Pt.cells, Pt.slots] at X157 l157 y157 z157 st157 hQ157
    subst l157 y157 z157
    obtain ⟨⟨v157, rfl, hp_157⟩, Nq157, Kq157, fA157⟩ := hQ157
    have N157 := Fr.app N154 Nq157
    have e157 : T157.heap = T157.heap := rfl
    have Z157 : n0 ≤ T157.heap.size := Nat.le_trans Z141 Kq157.1
    have hk158 : T83.heap.size ≤ T157.heap.size := Nat.le_trans hk142 Kq157.1
    have C159 : CHr s own_EL s.vm h0 T83.vm T157.heap := C143.trans (CHr.keep Kq157 (sfS (own_sfA hZ.alike f149_A (fun q => nomatch q)) sf0) C143.1)
    have f160_B : own_Ss s T157.heap w cs := f144_B.keep Kq157 (nsS (own_ns f149_A) ns0)
    have f161_A : own_Af s T157.heap r2 .char 5 (fun j => .int (gd2 j)) := f145_A.keep Kq157 (ninS ne115 nin0)
    have f162_A : own_Af s T157.heap r8 .char 5 (fun j => .int (gd8 j)) := f146_A.keep Kq157 (ninS ne116 nin0)
    have f163_E : Exa s T157.heap b18 "com/example/weaverbird/weaverbird/model/xml/Attributes" := At148.1.keep Kq157
    have At164 : own_At s T157.heap b18 nm39 sr39 ln39 ns39 dc39 sg39 vl39 ct83 vn92 fs83 fk103 (fun _ => .null) rl.2 := own_At.ko At148 Kq157 (fun x _ q => ninS (Nat.ne_of_lt (Nat.lt_of_le_of_lt q lt_vl_b114)) nin0) hO
    obtain ⟨Pp157, hPp157⟩ : ∃ z, z = own_p (own_kp bt A 1) Pp141 := ⟨_, rfl⟩
    have hp157 : v157.toInt = ((Pp157 : Nat) : Int) := by rw [hPp157]; exact hp_157
    have bP157 := own_p_le (own_kp bt A 1) Pp141
    rw [← hPp157] at bP157
    obtain ⟨oo157, hoo157⟩ : ∃ z, z = own_o (own_kp bt A 1) Pp141 (gd2 1) oo141 := ⟨_, rfl⟩
    have Bo157 : own_B oo157 := by rw [hoo157]; exact own_B.o Bo141 (fB2 _)
    have f165_A : own_Af s T157.heap b114 .char 5 (fun j => .int (oo157 j)) := by rw [hoo157]; exact fA157
    obtain ⟨LL166, X166, N166⟩ : ∃ LL, Stand p l e room_1 (s.setVm T83.vm) m #[(.long i0), (.long i1), (.int i2), (.int i3)] below meth c T157 LL 16 337 ∧ Fr n0 LL := ⟨_, X157, N157⟩
    have pre167 : ∀ t, own_s p e below T157 m 191 #[.val (.long i0), .second, .val (.long i1), .second, iv i2, iv i3, rv r2, rv r8, iv na, iv nb_, iv (0 : Int32), rv b18, rv r2, iv na, rv r8, iv nb_, rv b114, iv v141] [(.int v157)] t → Steps p.tables e below S0 t := fun tX kX => pre156 _ (st157 _ kX)
    have pre168 : ∀ t, own_s p e below T157 m 204 #[.val (.long i0), .second, .val (.long i1), .second, iv i2, iv i3, rv r2, rv r8, iv na, iv nb_, iv (0 : Int32), rv b18, rv r2, iv na, rv r8, iv nb_, rv b114, iv v157] [(.int (2 : Int32)), (.int na), (.ref r2), (.ref r2), (.int v157), (.ref b114)] t → Steps p.tables e below S0 t := by
      intro tX kX
      refine pre167 _ ?_
      show own_s p e below T157 m 191 #[.val (.long i0), .second, .val (.long i1), .second, iv i2, iv i3, rv r2, rv r8, iv na, iv nb_, iv (0 : Int32), rv b18, rv r2, iv na, rv r8, iv nb_, rv b114, iv v141] [(.int v157)] _
      refine XS.istore X166.here hx rfl (hb hby at_191) rfl (l' := #[.val (.long i0), .second, .val (.long i1), .second, iv i2, iv i3, rv r2, rv r8, iv na, iv nb_, iv (0 : Int32), rv b18, rv r2, iv na, rv r8, iv nb_, rv b114, iv v157]) rfl ?_
      refine XS.aload X166.here hx rfl (hb hby at_193) rfl rfl ?_
      refine XS.iload X166.here hx rfl (hb hby at_195) rfl ?_
      show own_s p e below T157 m 197 #[.val (.long i0), .second, .val (.long i1), .second, iv i2, iv i3, rv r2, rv r8, iv na, iv nb_, iv (0 : Int32), rv b18, rv r2, iv na, rv r8, iv nb_, rv b114, iv v157] [(.int v157), (.ref b114)] _
      refine XS.aload X166.here hx rfl (hb hby at_197) rfl rfl ?_
      refine XS.aload X166.here hx rfl (hb hby at_199) rfl rfl ?_
      refine XS.iload X166.here hx rfl (hb hby at_201) rfl ?_
      show own_s p e below T157 m 203 #[.val (.long i0), .second, .val (.long i1), .second, iv i2, iv i3, rv r2, rv r8, iv na, iv nb_, iv (0 : Int32), rv b18, rv r2, iv na, rv r8, iv nb_, rv b114, iv v157] [(.int na), (.ref r2), (.ref r2), (.int v157), (.ref b114)] _
      refine XS.iconst X166.here hx rfl (hb hby at_203) ?_
      exact kX
    obtain ⟨_, _, ⟨T169, L169, k169, n169⟩, -, X169, ⟨Lc169, hQ169, l169, y169, z169⟩, st169⟩ := Jvm.LawKit.callS X166 hx (y := (⟨"com/example/weaverbird/weaverbird/model/xml/AttributesCollapsePinLaw", "keep", "([CII)Z"⟩ : MethodName)) hown (mvT hZ (hw _ (List.mem_of_getElem? (i := 76) rfl))) (mvT hZ (hw _ (List.mem_of_getElem? (i := 77) rfl))) (mvT hZ (hw _ (List.mem_of_getElem? (i := 2) rfl))) (mvT hZ (hw _ (List.mem_of_getElem? (i := 78) rfl))) (by decide) (backOf (W := 3) (rm5 l s a0 hw [] r2 na (2 : Int32) gd2 bt A 2 T157.heap n0 Z157 f161_A hbE hA hA5 rfl (by decide)) hZ (hw _ (List.mem_of_getElem? (i := 78) rfl)) (hw _ (List.mem_of_getElem? (i := 2) rfl)) (by decide) (by decide)) (g := (mkF m 204 #[.val (.long i0), .second, .val (.long i1), .second, iv i2, iv i3, rv r2, rv r8, iv na, iv nb_, iv (0 : Int32), rv b18, rv r2, iv na, rv r8, iv nb_, rv b114, iv v157] [(.int (2 : Int32)), (.int na), (.ref r2), (.ref r2), (.int v157), (.ref b114)])) rfl (by rw [hml]; rfl) (argsL := [(.ref r2), (.int na), (.int (2 : Int32))]) (rest := [(.ref r2), (.int v157), (.ref b114)]) (lenOf pd0_5 rfl) rfl (by show 2 * 0 + _ ≤ _; exact Nat.le_of_eq rfl) (hb hby at_204) (fun _ _ => ⟨rfl, e157, (by decide : 16 + 0 ≤ _), (by decide : 337 + 0 ≤ _)⟩)
    dsimp only [Pt.U, Pt.locs, Pt.cells, Pt.slots] at X169 l169 y169 z169 st169 hQ169
    subst l169 y169 z169
    obtain ⟨rfl, Nq169, e169⟩ := hQ169
    have N169 := Fr.app N166 Nq169
    obtain ⟨LL170, X170, N170⟩ : ∃ LL, Stand p l e room_1 (s.setVm T83.vm) m #[(.long i0), (.long i1), (.int i2), (.int i3)] below meth c T169 LL 16 337 ∧ Fr n0 LL := ⟨_, X169, N169⟩
    have pre171 : ∀ t, own_s p e below T169 m 207 #[.val (.long i0), .second, .val (.long i1), .second, iv i2, iv i3, rv r2, rv r8, iv na, iv nb_, iv (0 : Int32), rv b18, rv r2, iv na, rv r8, iv nb_, rv b114, iv v157] [(.int (own_bi (own_kp bt A 2))), (.ref r2), (.int v157), (.ref b114)] t → Steps p.tables e below S0 t := fun tX kX => pre168 _ (st169 _ kX)
    have pre172 : ∀ t, own_s p e below T169 m 208 #[.val (.long i0), .second, .val (.long i1), .second, iv i2, iv i3, rv r2, rv r8, iv na, iv nb_, iv (0 : Int32), rv b18, rv r2, iv na, rv r8, iv nb_, rv b114, iv v157] [(.int (2 : Int32)), (.int (own_bi (own_kp bt A 2))), (.ref r2), (.int v157), (.ref b114)] t → Steps p.tables e below S0 t := by
      intro tX kX
      refine pre171 _ ?_
      show own_s p e below T169 m 207 #[.val (.long i0), .second, .val (.long i1), .second, iv i2, iv i3, rv r2, rv r8, iv na, iv nb_, iv (0 : Int32), rv b18, rv r2, iv na, rv r8, iv nb_, rv b114, iv v157] [(.int (own_bi (own_kp bt A 2))), (.ref r2), (.int v157), (.ref b114)] _
      refine XS.iconst X170.here hx rfl (hb hby at_207) ?_
      exact kX
    obtain ⟨_, _, ⟨T173, L173, k173, n173⟩, -, X173, ⟨Lc173, hQ173, l173, y173, z173⟩, st173⟩ := Jvm.LawKit.callS X170 hx (y := (⟨"com/example/weaverbird/weaverbird/model/xml/AttributesCollapsePinLaw", "put", "([CI[CZI)I"⟩ : MethodName)) hown (mvT hZ (hw _ (List.mem_of_getElem? (i := 79) rfl))) (mvT hZ (hw _ (List.mem_of_getElem? (i := 80) rfl))) (mvT hZ (hw _ (List.mem_of_getElem? (i := 2) rfl))) (mvT hZ (hw _ (List.mem_of_getElem? (i := 81) rfl))) (by decide) (backOf (W := 0) (rm6 l s a0 hw [] b114 v157 r2 (own_bi (own_kp bt A 2)) (2 : Int32) oo157 gd2 Pp157 (own_kp bt A 2) 2 T157.heap n0 Z157 f165_A f161_A Bo157 fB2 hp157 (by omega) rfl rfl (by decide) (Ne.symm ne115) g_b114) hZ (hw _ (List.mem_of_getElem? (i := 81) rfl)) (hw _ (List.mem_of_getElem? (i := 2) rfl)) (by decide) (by decide)) (g := (mkF m 208 #[.val (.long i0), .second, .val (.long i1), .second, iv i2, iv i3, rv r2, rv r8, iv na, iv nb_, iv (0 : Int32), rv b18, rv r2, iv na, rv r8, iv nb_, rv b114, iv v157] [(.int (2 : Int32)), (.int (own_bi (own_kp bt A 2))), (.ref r2), (.int v157), (.ref b114)])) rfl (by rw [hml]; rfl) (argsL := [(.ref b114), (.int v157), (.ref r2), (.int (own_bi (own_kp bt A 2))), (.int (2 : Int32))]) (rest := []) (lenOf pd0_6 rfl) rfl (by show 2 * 0 + _ ≤ _; exact Nat.le_of_eq rfl) (hb hby at_208) (fun _ _ => ⟨rfl, e169, (by decide : 16 + 0 ≤ _), (by decide : 337 + 0 ≤ _)⟩)
    dsimp only [Pt.U, Pt.locs, Pt.cells, Pt.slots] at X173 l173 y173 z173 st173 hQ173
    subst l173 y173 z173
    obtain ⟨⟨v173, rfl, hp_173⟩, Nq173, Kq173, fA173⟩ := hQ173
    have N173 := Fr.app N170 Nq173
    have e173 : T173.heap = T173.heap := rfl
    have Z173 : n0 ≤ T173.heap.size := Nat.le_trans Z157 Kq173.1
    have hk174 : T83.heap.size ≤ T173.heap.size := Nat.le_trans hk158 Kq173.1
    have C175 : CHr s own_EL s.vm h0 T83.vm T173.heap := C159.trans (CHr.keep Kq173 (sfS (own_sfA hZ.alike f165_A (fun q => nomatch q)) sf0) C159.1)
    have f176_B : own_Ss s T173.heap w cs := f160_B.keep Kq173 (nsS (own_ns f165_A) ns0)
    have f177_A : own_Af s T173.heap r2 .char 5 (fun j => .int (gd2 j)) := f161_A.keep Kq173 (ninS ne115 nin0)
    have f178_A : own_Af s T173.heap r8 .char 5 (fun j => .int (gd8 j)) := f162_A.keep Kq173 (ninS ne116 nin0)
    have f179_E : Exa s T173.heap b18 "com/example/weaverbird/weaverbird/model/xml/Attributes" := At164.1.keep Kq173
    have At180 : own_At s T173.heap b18 nm39 sr39 ln39 ns39 dc39 sg39 vl39 ct83 vn92 fs83 fk103 (fun _ => .null) rl.2 := own_At.ko At164 Kq173 (fun x _ q => ninS (Nat.ne_of_lt (Nat.lt_of_le_of_lt q lt_vl_b114)) nin0) hO
    obtain ⟨Pp173, hPp173⟩ : ∃ z, z = own_p (own_kp bt A 2) Pp157 := ⟨_, rfl⟩
    have hp173 : v173.toInt = ((Pp173 : Nat) : Int) := by rw [hPp173]; exact hp_173
    have bP173 := own_p_le (own_kp bt A 2) Pp157
    rw [← hPp173] at bP173
    obtain ⟨oo173, hoo173⟩ : ∃ z, z = own_o (own_kp bt A 2) Pp157 (gd2 2) oo157 := ⟨_, rfl⟩
    have Bo173 : own_B oo173 := by rw [hoo173]; exact own_B.o Bo157 (fB2 _)
    have f181_A : own_Af s T173.heap b114 .char 5 (fun j => .int (oo173 j)) := by rw [hoo173]; exact fA173
    obtain ⟨LL182, X182, N182⟩ : ∃ LL, Stand p l e room_1 (s.setVm T83.vm) m #[(.long i0), (.long i1), (.int i2), (.int i3)] below meth c T173 LL 16 337 ∧ Fr n0 LL := ⟨_, X173, N173⟩
    have pre183 : ∀ t, own_s p e below T173 m 211 #[.val (.long i0), .second, .val (.long i1), .second, iv i2, iv i3, rv r2, rv r8, iv na, iv nb_, iv (0 : Int32), rv b18, rv r2, iv na, rv r8, iv nb_, rv b114, iv v157] [(.int v173)] t → Steps p.tables e below S0 t := fun tX kX => pre172 _ (st173 _ kX)
    have pre184 : ∀ t, own_s p e below T173 m 224 #[.val (.long i0), .second, .val (.long i1), .second, iv i2, iv i3, rv r2, rv r8, iv na, iv nb_, iv (0 : Int32), rv b18, rv r2, iv na, rv r8, iv nb_, rv b114, iv v173] [(.int (3 : Int32)), (.int na), (.ref r2), (.ref r2), (.int v173), (.ref b114)] t → Steps p.tables e below S0 t := by
      intro tX kX
      refine pre183 _ ?_
      show own_s p e below T173 m 211 #[.val (.long i0), .second, .val (.long i1), .second, iv i2, iv i3, rv r2, rv r8, iv na, iv nb_, iv (0 : Int32), rv b18, rv r2, iv na, rv r8, iv nb_, rv b114, iv v157] [(.int v173)] _
      refine XS.istore X182.here hx rfl (hb hby at_211) rfl (l' := #[.val (.long i0), .second, .val (.long i1), .second, iv i2, iv i3, rv r2, rv r8, iv na, iv nb_, iv (0 : Int32), rv b18, rv r2, iv na, rv r8, iv nb_, rv b114, iv v173]) rfl ?_
      refine XS.aload X182.here hx rfl (hb hby at_213) rfl rfl ?_
      refine XS.iload X182.here hx rfl (hb hby at_215) rfl ?_
      show own_s p e below T173 m 217 #[.val (.long i0), .second, .val (.long i1), .second, iv i2, iv i3, rv r2, rv r8, iv na, iv nb_, iv (0 : Int32), rv b18, rv r2, iv na, rv r8, iv nb_, rv b114, iv v173] [(.int v173), (.ref b114)] _
      refine XS.aload X182.here hx rfl (hb hby at_217) rfl rfl ?_
      refine XS.aload X182.here hx rfl (hb hby at_219) rfl rfl ?_
      refine XS.iload X182.here hx rfl (hb hby at_221) rfl ?_
      show own_s p e below T173 m 223 #[.val (.long i0), .second, .val (.long i1), .second, iv i2, iv i3, rv r2, rv r8, iv na, iv nb_, iv (0 : Int32), rv b18, rv r2, iv na, rv r8, iv nb_, rv b114, iv v173] [(.int na), (.ref r2), (.ref r2), (.int v173), (.ref b114)] _
      refine XS.iconst X182.here hx rfl (hb hby at_223) ?_
      exact kX
    obtain ⟨_, _, ⟨T185, L185, k185, n185⟩, -, X185, ⟨Lc185, hQ185, l185, y185, z185⟩, st185⟩ := Jvm.LawKit.callS X182 hx (y := (⟨"com/example/weaverbird/weaverbird/model/xml/AttributesCollapsePinLaw", "keep", "([CII)Z"⟩ : MethodName)) hown (mvT hZ (hw _ (List.mem_of_getElem? (i := 76) rfl))) (mvT hZ (hw _ (List.mem_of_getElem? (i := 77) rfl))) (mvT hZ (hw _ (List.mem_of_getElem? (i := 2) rfl))) (mvT hZ (hw _ (List.mem_of_getElem? (i := 78) rfl))) (by decide) (backOf (W := 3) (rm5 l s a0 hw [] r2 na (3 : Int32) gd2 bt A 3 T173.heap n0 Z173 f177_A hbE hA hA5 rfl (by decide)) hZ (hw _ (List.mem_of_getElem? (i := 78) rfl)) (hw _ (List.mem_of_getElem? (i := 2) rfl)) (by decide) (by decide)) (g := (mkF m 224 #[.val (.long i0), .second, .val (.long i1), .second, iv i2, iv i3, rv r2, rv r8, iv na, iv nb_, iv (0 : Int32), rv b18, rv r2, iv na, rv r8, iv nb_, rv b114, iv v173] [(.int (3 : Int32)), (.int na), (.ref r2), (.ref r2), (.int v173), (.ref b114)])) rfl (by rw [hml]; rfl) (argsL := [(.ref r2), (.int na), (.int (3 : Int32))]) (rest := [(.ref r2), (.int v173), (.ref b114)]) (lenOf pd0_5 rfl) rfl (by show 2 * 0 + _ ≤ _; exact Nat.le_of_eq rfl) (hb hby at_224) (fun _ _ => ⟨rfl, e173, (by decide : 16 + 0 ≤ _), (by decide : 337 + 0 ≤ _)⟩)
    dsimp only [Pt.U, Pt.locs, Pt.cells, Pt.slots] at X185 l185 y185 z185 st185 hQ185
    subst l185 y185 z185
    obtain ⟨rfl, Nq185, e185⟩ := hQ185
    have N185 := Fr.app N182 Nq185
    obtain ⟨LL186, X186, N186⟩ : ∃ LL, Stand p l e room_1 (s.setVm T83.vm) m #[(.long i0), (.long i1), (.int i2), (.int i3)] below meth c T185 LL 16 337 ∧ Fr n0 LL := ⟨_, X185, N185⟩
    have pre187 : ∀ t, own_s p e below T185 m 227 #[.val (.long i0), .second, .val (.long i1), .second, iv i2, iv i3, rv r2, rv r8, iv na, iv nb_, iv (0 : Int32), rv b18, rv r2, iv na, rv r8, iv nb_, rv b114, iv v173] [(.int (own_bi (own_kp bt A 3))), (.ref r2), (.int v173), (.ref b114)] t → Steps p.tables e below S0 t := fun tX kX => pre184 _ (st185 _ kX)
    have pre188 : ∀ t, own_s p e below T185 m 228 #[.val (.long i0), .second, .val (.long i1), .second, iv i2, iv i3, rv r2, rv r8, iv na, iv nb_, iv (0 : Int32), rv b18, rv r2, iv na, rv r8, iv nb_, rv b114, iv v173] [(.int (3 : Int32)), (.int (own_bi (own_kp bt A 3))), (.ref r2), (.int v173), (.ref b114)] t → Steps p.tables e below S0 t := by
      intro tX kX
      refine pre187 _ ?_
      show own_s p e below T185 m 227 #[.val (.long i0), .second, .val (.long i1), .second, iv i2, iv i3, rv r2, rv r8, iv na, iv nb_, iv (0 : Int32), rv b18, rv r2, iv na, rv r8, iv nb_, rv b114, iv v173] [(.int (own_bi (own_kp bt A 3))), (.ref r2), (.int v173), (.ref b114)] _
      refine XS.iconst X186.here hx rfl (hb hby at_227) ?_
      exact kX
    obtain ⟨_, _, ⟨T189, L189, k189, n189⟩, -, X189, ⟨Lc189, hQ189, l189, y189, z189⟩, st189⟩ := Jvm.LawKit.callS X186 hx (y := (⟨"com/example/weaverbird/weaverbird/model/xml/AttributesCollapsePinLaw", "put", "([CI[CZI)I"⟩ : MethodName)) hown (mvT hZ (hw _ (List.mem_of_getElem? (i := 79) rfl))) (mvT hZ (hw _ (List.mem_of_getElem? (i := 80) rfl))) (mvT hZ (hw _ (List.mem_of_getElem? (i := 2) rfl))) (mvT hZ (hw _ (List.mem_of_getElem? (i := 81) rfl))) (by decide) (backOf (W := 0) (rm6 l s a0 hw [] b114 v173 r2 (own_bi (own_kp bt A 3)) (3 : Int32) oo173 gd2 Pp173 (own_kp bt A 3) 3 T173.heap n0 Z173 f181_A f177_A Bo173 fB2 hp173 (by omega) rfl rfl (by decide) (Ne.symm ne115) g_b114) hZ (hw _ (List.mem_of_getElem? (i := 81) rfl)) (hw _ (List.mem_of_getElem? (i := 2) rfl)) (by decide) (by decide)) (g := (mkF m 228 #[.val (.long i0), .second, .val (.long i1), .second, iv i2, iv i3, rv r2, rv r8, iv na, iv nb_, iv (0 : Int32), rv b18, rv r2, iv na, rv r8, iv nb_, rv b114, iv v173] [(.int (3 : Int32)), (.int (own_bi (own_kp bt A 3))), (.ref r2), (.int v173), (.ref b114)])) rfl (by rw [hml]; rfl) (argsL := [(.ref b114), (.int v173), (.ref r2), (.int (own_bi (own_kp bt A 3))), (.int (3 : Int32))]) (rest := []) (lenOf pd0_6 rfl) rfl (by show 2 * 0 + _ ≤ _; exact Nat.le_of_eq rfl) (hb hby at_228) (fun _ _ => ⟨rfl, e185, (by decide : 16 + 0 ≤ _), (by decide : 337 + 0 ≤ _)⟩)
    dsimp only [Pt.U, Pt.locs, Pt.cells, Pt.slots] at X189 l189 y189 z189 st189 hQ189
    subst l189 y189 z189
    obtain ⟨⟨v189, rfl, hp_189⟩, Nq189, Kq189, fA189⟩ := hQ189
    have N189 := Fr.app N186 Nq189
    have e189 : T189.heap = T189.heap := rfl
    have Z189 : n0 ≤ T189.heap.size := Nat.le_trans Z173 Kq189.1
    have hk190 : T83.heap.size ≤ T189.heap.size := Nat.le_trans hk174 Kq189.1
    have C191 : CHr s own_EL s.vm h0 T83.vm T189.heap := C175.trans (CHr.keep Kq189 (sfS (own_sfA hZ.alike f181_A (fun q => nomatch q)) sf0) C175.1)
    have f192_B : own_Ss s T189.heap w cs := f176_B.keep Kq189 (nsS (own_ns f181_A) ns0)
    have f193_A : own_Af s T189.heap r2 .char 5 (fun j => .int (gd2 j)) := f177_A.keep Kq189 (ninS ne115 nin0)
    have f194_A : own_Af s T189.heap r8 .char 5 (fun j => .int (gd8 j)) := f178_A.keep Kq189 (ninS ne116 nin0)
    have f195_E : Exa s T189.heap b18 "com/example/weaverbird/weaverbird/model/xml/Attributes" := At180.1.keep Kq189
    have At196 : own_At s T189.heap b18 nm39 sr39 ln39 ns39 dc39 sg39 vl39 ct83 vn92 fs83 fk103 (fun _ => .null) rl.2 := own_At.ko At180 Kq189 (fun x _ q => ninS (Nat.ne_of_lt (Nat.lt_of_le_of_lt q lt_vl_b114)) nin0) hO
    obtain ⟨Pp189, hPp189⟩ : ∃ z, z = own_p (own_kp bt A 3) Pp173 := ⟨_, rfl⟩
    have hp189 : v189.toInt = ((Pp189 : Nat) : Int) := by rw [hPp189]; exact hp_189
    have bP189 := own_p_le (own_kp bt A 3) Pp173
    rw [← hPp189] at bP189
    obtain ⟨oo189, hoo189⟩ : ∃ z, z = own_o (own_kp bt A 3) Pp173 (gd2 3) oo173 := ⟨_, rfl⟩
    have Bo189 : own_B oo189 := by rw [hoo189]; exact own_B.o Bo173 (fB2 _)
    have f197_A : own_Af s T189.heap b114 .char 5 (fun j => .int (oo189 j)) := by rw [hoo189]; exact fA189
    obtain ⟨LL198, X198, N198⟩ : ∃ LL, Stand p l e room_1 (s.setVm T83.vm) m #[(.long i0), (.long i1), (.int i2), (.int i3)] below meth c T189 LL 16 337 ∧ Fr n0 LL := ⟨_, X189, N189⟩
    have pre199 : ∀ t, own_s p e below T189 m 231 #[.val (.long i0), .second, .val (.long i1), .second, iv i2, iv i3, rv r2, rv r8, iv na, iv nb_, iv (0 : Int32), rv b18, rv r2, iv na, rv r8, iv nb_, rv b114, iv v173] [(.int v189)] t → Steps p.tables e below S0 t := fun tX kX => pre188 _ (st189 _ kX)
    have pre200 : ∀ t, own_s p e below T189 m 244 #[.val (.long i0), .second, .val (.long i1), .second, iv i2, iv i3, rv r2, rv r8, iv na, iv nb_, iv (0 : Int32), rv b18, rv r2, iv na, rv r8, iv nb_, rv b114, iv v189] [(.int (4 : Int32)), (.int na), (.ref r2), (.ref r2), (.int v189), (.ref b114)] t → Steps p.tables e below S0 t := by
      intro tX kX
      refine pre199 _ ?_
      show own_s p e below T189 m 231 #[.val (.long i0), .second, .val (.long i1), .second, iv i2, iv i3, rv r2, rv r8, iv na, iv nb_, iv (0 : Int32), rv b18, rv r2, iv na, rv r8, iv nb_, rv b114, iv v173] [(.int v189)] _
      refine XS.istore X198.here hx rfl (hb hby at_231) rfl (l' := #[.val (.long i0), .second, .val (.long i1), .second, iv i2, iv i3, rv r2, rv r8, iv na, iv nb_, iv (0 : Int32), rv b18, rv r2, iv na, rv r8, iv nb_, rv b114, iv v189]) rfl ?_
      refine XS.aload X198.here hx rfl (hb hby at_233) rfl rfl ?_
      refine XS.iload X198.here hx rfl (hb hby at_235) rfl ?_
      show own_s p e below T189 m 237 #[.val (.long i0), .second, .val (.long i1), .second, iv i2, iv i3, rv r2, rv r8, iv na, iv nb_, iv (0 : Int32), rv b18, rv r2, iv na, rv r8, iv nb_, rv b114, iv v189] [(.int v189), (.ref b114)] _
      refine XS.aload X198.here hx rfl (hb hby at_237) rfl rfl ?_
      refine XS.aload X198.here hx rfl (hb hby at_239) rfl rfl ?_
      refine XS.iload X198.here hx rfl (hb hby at_241) rfl ?_
      show own_s p e below T189 m 243 #[.val (.long i0), .second, .val (.long i1), .second, iv i2, iv i3, rv r2, rv r8, iv na, iv nb_, iv (0 : Int32), rv b18, rv r2, iv na, rv r8, iv nb_, rv b114, iv v189] [(.int na), (.ref r2), (.ref r2), (.int v189), (.ref b114)] _
      refine XS.iconst X198.here hx rfl (hb hby at_243) ?_
      exact kX
    obtain ⟨_, _, ⟨T201, L201, k201, n201⟩, -, X201, ⟨Lc201, hQ201, l201, y201, z201⟩, st201⟩ := Jvm.LawKit.callS X198 hx (y := (⟨"com/example/weaverbird/weaverbird/model/xml/AttributesCollapsePinLaw", "keep", "([CII)Z"⟩ : MethodName)) hown (mvT hZ (hw _ (List.mem_of_getElem? (i := 76) rfl))) (mvT hZ (hw _ (List.mem_of_getElem? (i := 77) rfl))) (mvT hZ (hw _ (List.mem_of_getElem? (i := 2) rfl))) (mvT hZ (hw _ (List.mem_of_getElem? (i := 78) rfl))) (by decide) (backOf (W := 3) (rm5 l s a0 hw [] r2 na (4 : Int32) gd2 bt A 4 T189.heap n0 Z189 f193_A hbE hA hA5 rfl (by decide)) hZ (hw _ (List.mem_of_getElem? (i := 78) rfl)) (hw _ (List.mem_of_getElem? (i := 2) rfl)) (by decide) (by decide)) (g := (mkF m 244 #[.val (.long i0), .second, .val (.long i1), .second, iv i2, iv i3, rv r2, rv r8, iv na, iv nb_, iv (0 : Int32), rv b18, rv r2, iv na, rv r8, iv nb_, rv b114, iv v189] [(.int (4 : Int32)), (.int na), (.ref r2), (.ref r2), (.int v189), (.ref b114)])) rfl (by rw [hml]; rfl) (argsL := [(.ref r2), (.int na), (.int (4 : Int32))]) (rest := [(.ref r2), (.int v189), (.ref b114)]) (lenOf pd0_5 rfl) rfl (by show 2 * 0 + _ ≤ _; exact Nat.le_of_eq rfl) (hb hby at_244) (fun _ _ => ⟨rfl, e189, (by decide : 16 + 0 ≤ _), (by decide : 337 + 0 ≤ _)⟩)
    dsimp only [Pt.U, Pt.locs, Pt.cells, Pt.slots] at X201 l201 y201 z201 st201 hQ201
    subst l201 y201 z201
    obtain ⟨rfl, Nq201, e201⟩ := hQ201
    have N201 := Fr.app N198 Nq201
    obtain ⟨LL202, X202, N202⟩ : ∃ LL, Stand p l e room_1 (s.setVm T83.vm) m #[(.long i0), (.long i1), (.int i2), (.int i3)] below meth c T201 LL 16 337 ∧ Fr n0 LL := ⟨_, X201, N201⟩
    have pre203 : ∀ t, own_s p e below T201 m 247 #[.val (.long i0), .second, .val (.long i1), .second, iv i2, iv i3, rv r2, rv r8, iv na, iv nb_, iv (0 : Int32), rv b18, rv r2, iv na, rv r8, iv nb_, rv b114, iv v189] [(.int (own_bi (own_kp bt A 4))), (.ref r2), (.int v189), (.ref b114)] t → Steps p.tables e below S0 t := fun tX kX => pre200 _ (st201 _ kX)
    have pre204 : ∀ t, own_s p e below T201 m 248 #[.val (.long i0), .second, .val (.long i1), .second, iv i2, iv i3, rv r2, rv r8, iv na, iv nb_, iv (0 : Int32), rv b18, rv r2, iv na, rv r8, iv nb_, rv b114, iv v189] [(.int (4 : Int32)), (.int (own_bi (own_kp bt A 4))), (.ref r2), (.int v189), (.ref b114)] t → Steps p.tables e below S0 t := by
      intro tX kX
      refine pre203 _ ?_
      show own_s p e below T201 m 247 #[.val (.long i0), .second, .val (.long i1), .second, iv i2, iv i3, rv r2, rv r8, iv na, iv nb_, iv (0 : Int32), rv b18, rv r2, iv na, rv r8, iv nb_, rv b114, iv v189] [(.int (own_bi (own_kp bt A 4))), (.ref r2), (.int v189), (.ref b114)] _
      refine XS.iconst X202.here hx rfl (hb hby at_247) ?_
      exact kX
    obtain ⟨_, _, ⟨T205, L205, k205, n205⟩, -, X205, ⟨Lc205, hQ205, l205, y205, z205⟩, st205⟩ := Jvm.LawKit.callS X202 hx (y := (⟨"com/example/weaverbird/weaverbird/model/xml/AttributesCollapsePinLaw", "put", "([CI[CZI)I"⟩ : MethodName)) hown (mvT hZ (hw _ (List.mem_of_getElem? (i := 79) rfl))) (mvT hZ (hw _ (List.mem_of_getElem? (i := 80) rfl))) (mvT hZ (hw _ (List.mem_of_getElem? (i := 2) rfl))) (mvT hZ (hw _ (List.mem_of_getElem? (i := 81) rfl))) (by decide) (backOf (W := 0) (rm6 l s a0 hw [] b114 v189 r2 (own_bi (own_kp bt A 4)) (4 : Int32) oo189 gd2 Pp189 (own_kp bt A 4) 4 T189.heap n0 Z189 f197_A f193_A Bo189 fB2 hp189 (by omega) rfl rfl (by decide) (Ne.symm ne115) g_b114) hZ (hw _ (List.mem_of_getElem? (i := 81) rfl)) (hw _ (List.mem_of_getElem? (i := 2) rfl)) (by decide) (by decide)) (g := (mkF m 248 #[.val (.long i0), .second, .val (.long i1), .second, iv i2, iv i3, rv r2, rv r8, iv na, iv nb_, iv (0 : Int32), rv b18, rv r2, iv na, rv r8, iv nb_, rv b114, iv v189] [(.int (4 : Int32)), (.int (own_bi (own_kp bt A 4))), (.ref r2), (.int v189), (.ref b114)])) rfl (by rw [hml]; rfl) (argsL := [(.ref b114), (.int v189), (.ref r2), (.int (own_bi (own_kp bt A 4))), (.int (4 : Int32))]) (rest := []) (lenOf pd0_6 rfl) rfl (by show 2 * 0 + _ ≤ _; exact Nat.le_of_eq rfl) (hb hby at_248) (fun _ _ => ⟨rfl, e201, (by decide : 16 + 0 ≤ _), (by decide : 337 + 0 ≤ _)⟩)
    dsimp only [Pt.U, Pt.locs, Pt.cells, Pt.slots] at X205 l205 y205 z205 st205 hQ205
    subst l205 y205 z205
    obtain ⟨⟨v205, rfl, hp_205⟩, Nq205, Kq205, fA205⟩ := hQ205
    have N205 := Fr.app N202 Nq205
    have e205 : T205.heap = T205.heap := rfl
    have Z205 : n0 ≤ T205.heap.size := Nat.le_trans Z189 Kq205.1
    have hk206 : T83.heap.size ≤ T205.heap.size := Nat.le_trans hk190 Kq205.1
    have C207 : CHr s own_EL s.vm h0 T83.vm T205.heap := C191.trans (CHr.keep Kq205 (sfS (own_sfA hZ.alike f197_A (fun q => nomatch q)) sf0) C191.1)
    have f208_B : own_Ss s T205.heap w cs := f192_B.keep Kq205 (nsS (own_ns f197_A) ns0)
    have f209_A : own_Af s T205.heap r2 .char 5 (fun j => .int (gd2 j)) := f193_A.keep Kq205 (ninS ne115 nin0)
    have f210_A : own_Af s T205.heap r8 .char 5 (fun j => .int (gd8 j)) := f194_A.keep Kq205 (ninS ne116 nin0)
    have f211_E : Exa s T205.heap b18 "com/example/weaverbird/weaverbird/model/xml/Attributes" := At196.1.keep Kq205
    have At212 : own_At s T205.heap b18 nm39 sr39 ln39 ns39 dc39 sg39 vl39 ct83 vn92 fs83 fk103 (fun _ => .null) rl.2 := own_At.ko At196 Kq205 (fun x _ q => ninS (Nat.ne_of_lt (Nat.lt_of_le_of_lt q lt_vl_b114)) nin0) hO
    obtain ⟨Pp205, hPp205⟩ : ∃ z, z = own_p (own_kp bt A 4) Pp189 := ⟨_, rfl⟩
    have hp205 : v205.toInt = ((Pp205 : Nat) : Int) := by rw [hPp205]; exact hp_205
    have bP205 := own_p_le (own_kp bt A 4) Pp189
    rw [← hPp205] at bP205
    obtain ⟨oo205, hoo205⟩ : ∃ z, z = own_o (own_kp bt A 4) Pp189 (gd2 4) oo189 := ⟨_, rfl⟩
    have Bo205 : own_B oo205 := by rw [hoo205]; exact own_B.o Bo189 (fB2 _)
    have f213_A : own_Af s T205.heap b114 .char 5 (fun j => .int (oo205 j)) := by rw [hoo205]; exact fA205
    have inv := own_inv5 (c := gd2) (b := bt) (n := A) hPp141 hPp157 hPp173 hPp189 hPp205 hoo141 hoo157 hoo173 hoo189 hoo205
    rw [hbt] at inv
    obtain ⟨q1, q2, q3, q4⟩ := own_law (S := 0) (n := A) (g0 := gv) (by omega) hrl (fun i hi => by rw [← hbt, hbE i hi, hcc i hi]) hcc inv
    rw [q1] at hend
    obtain ⟨LL214, X214, N214⟩ : ∃ LL, Stand p l e room_1 (s.setVm T83.vm) m #[(.long i0), (.long i1), (.int i2), (.int i3)] below meth c T205 LL 16 337 ∧ Fr n0 LL := ⟨_, X205, N205⟩
    have pre215 : ∀ t, own_s p e below T205 m 251 #[.val (.long i0), .second, .val (.long i1), .second, iv i2, iv i3, rv r2, rv r8, iv na, iv nb_, iv (0 : Int32), rv b18, rv r2, iv na, rv r8, iv nb_, rv b114, iv v189] [(.int v205)] t → Steps p.tables e below S0 t := fun tX kX => pre204 _ (st205 _ kX)
    have pre216 : ∀ t, own_s p e below T205 m 255 #[.val (.long i0), .second, .val (.long i1), .second, iv i2, iv i3, rv r2, rv r8, iv na, iv nb_, iv (0 : Int32), rv b18, rv r2, iv na, rv r8, iv nb_, rv b114, iv v205] [(.ref b18)] t → Steps p.tables e below S0 t := by
      intro tX kX
      refine pre215 _ ?_
      show own_s p e below T205 m 251 #[.val (.long i0), .second, .val (.long i1), .second, iv i2, iv i3, rv r2, rv r8, iv na, iv nb_, iv (0 : Int32), rv b18, rv r2, iv na, rv r8, iv nb_, rv b114, iv v189] [(.int v205)] _
      refine XS.istore X214.here hx rfl (hb hby at_251) rfl (l' := #[.val (.long i0), .second, .val (.long i1), .second, iv i2, iv i3, rv r2, rv r8, iv na, iv nb_, iv (0 : Int32), rv b18, rv r2, iv na, rv r8, iv nb_, rv b114, iv v205]) rfl ?_
      refine XS.aload X214.here hx rfl (hb hby at_253) rfl rfl ?_
      exact kX
    obtain ⟨cq217, kq217, q217a, q217b, q217c⟩ := isOf hZ e205 At212.1
    obtain ⟨_, _, ⟨T217, L217, k217, n217⟩, -, X217, ⟨Lc217, hQ217, l217, y217, z217⟩, st217⟩ := X214.virtualBack hx (y := (⟨"com/example/weaverbird/weaverbird/model/xml/Attributes", "count", "()I"⟩ : MethodName)) (z := (⟨"com/example/weaverbird/weaverbird/model/xml/Attributes", "count", "()I"⟩ : MethodName)) hown (mvT hZ (hw _ (List.mem_of_getElem? (i := 82) rfl))) (mvT hZ (hw _ (List.mem_of_getElem? (i := 83) rfl))) (notFace_of_selects (args := #[]) (mvT hZ (hw _ (List.mem_of_getElem? (i := 85) rfl)))) (mvT hZ (hw _ (List.mem_of_getElem? (i := 85) rfl))) (mvT hZ (hw _ (List.mem_of_getElem? (i := 84) rfl))) (by decide) (backOf (W := 0) (rm7 l s a0 hw [] b18 ct83 T205.heap n0 Z205 At212.2.2.2.2.2.2.2.2.1) hZ (hw _ (List.mem_of_getElem? (i := 86) rfl)) (hw _ (List.mem_of_getElem? (i := 11) rfl)) (by decide) (by decide)) q217a q217c (g := (mkF m 255 #[.val (.long i0), .second, .val (.long i1), .second, iv i2, iv i3, rv r2, rv r8, iv na, iv nb_, iv (0 : Int32), rv b18, rv r2, iv na, rv r8, iv nb_, rv b114, iv v205] [(.ref b18)])) rfl (by rw [hml]; rfl) (Steps.refl _) (argsL := []) (rest := []) (lenOf pd0_7 rfl) rfl (by show 2 * 0 + _ ≤ _; exact Nat.le_of_eq rfl) (hb hby at_255) (fun _ _ => ⟨rfl, e205, (by decide : 16 + 0 ≤ _), (by decide : 337 + 0 ≤ _)⟩)
    dsimp only [Pt.U, Pt.locs, Pt.cells, Pt.slots] at X217 l217 y217 z217 st217 hQ217
    subst l217 y217 z217
    obtain ⟨rfl, Nq217, e217⟩ := hQ217
    have N217 := Fr.app N214 Nq217
    obtain ⟨LL218, X218, N218⟩ : ∃ LL, Stand p l e room_1 (s.setVm T83.vm) m #[(.long i0), (.long i1), (.int i2), (.int i3)] below meth c T217 LL 16 337 ∧ Fr n0 LL := ⟨_, X217, N217⟩
    have pre219 : ∀ t, own_s p e below T217 m 258 #[.val (.long i0), .second, .val (.long i1), .second, iv i2, iv i3, rv r2, rv r8, iv na, iv nb_, iv (0 : Int32), rv b18, rv r2, iv na, rv r8, iv nb_, rv b114, iv v205] [(.int ct83)] t → Steps p.tables e below S0 t := fun tX kX => pre216 _ (st217.trans kX)
    have i2c : (2 : Int32).toInt = 2 := rfl
    have hct2 := hct83
    have pre220 : ∀ t, own_s p e below T217 m 266 #[.val (.long i0), .second, .val (.long i1), .second, iv i2, iv i3, rv r2, rv r8, iv na, iv nb_, iv (0 : Int32), rv b18, rv r2, iv na, rv r8, iv nb_, rv b114, iv v205] [(.int (0 : Int32)), (.ref b18)] t → Steps p.tables e below S0 t := by
      intro tX kX
      refine pre219 _ ?_
      show own_s p e below T217 m 258 #[.val (.long i0), .second, .val (.long i1), .second, iv i2, iv i3, rv r2, rv r8, iv na, iv nb_, iv (0 : Int32), rv b18, rv r2, iv na, rv r8, iv nb_, rv b114, iv v205] [(.int ct83)] _
      refine XS.iconst X218.here hx rfl (hb hby at_258) ?_
      refine XS.icmpNo X218.here hx rfl (hb hby at_259) rfl (teq (own_eqI (show (ct83).toInt = ((2 : Int32)).toInt from (by omega : (ct83).toInt = (2 : Int))))).2 ?_
      refine XS.aload X218.here hx rfl (hb hby at_262) rfl rfl ?_
      show own_s p e below T217 m 264 #[.val (.long i0), .second, .val (.long i1), .second, iv i2, iv i3, rv r2, rv r8, iv na, iv nb_, iv (0 : Int32), rv b18, rv r2, iv na, rv r8, iv nb_, rv b114, iv v205] [(.ref b18)] _
      refine XS.iload X218.here hx rfl (hb hby at_264) rfl ?_
      exact kX
    obtain ⟨cq221, kq221, q221a, q221b, q221c⟩ := isOf hZ e217 At212.1
    obtain ⟨_, _, ⟨T221, L221, k221, n221⟩, -, X221, hSq221, gr221, ⟨Lc221, hQ221, l221, y221, z221, Cq221⟩, st221⟩ := X218.virtualBackS hx (y := (⟨"com/example/weaverbird/weaverbird/model/xml/Attributes", "value", "(I)Ljava/lang/String;"⟩ : MethodName)) (z := (⟨"com/example/weaverbird/weaverbird/model/xml/Attributes", "value", "(I)Ljava/lang/String;"⟩ : MethodName)) hown (mvT hZ (hw _ (List.mem_of_getElem? (i := 87) rfl))) (mvT hZ (hw _ (List.mem_of_getElem? (i := 88) rfl))) (notFace_of_selects (args := #[]) (mvT hZ (hw _ (List.mem_of_getElem? (i := 90) rfl)))) (mvT hZ (hw _ (List.mem_of_getElem? (i := 90) rfl))) (mvT hZ (hw _ (List.mem_of_getElem? (i := 89) rfl))) (by decide) (backOfSH (s := s) (vm0 := T83.vm) (W := 0) (rm43 l s a0 hw [] b18 (0 : Int32) nm39 sr39 ln39 ns39 dc39 sg39 vl39 ct83 vn92 fs83 fk103 (fun _ => .null) rl.2 w cs 0 Pp205 0 T205.heap n0 Z205 At212 hO g_b18 Brl hv f208_B hc rfl (by decide) rfl s0 hend (by omega) (by omega)) hZ (hw _ (List.mem_of_getElem? (i := 91) rfl)) (hw _ (List.mem_of_getElem? (i := 11) rfl)) (by decide) (by decide) hEL C207.1) q221a q221c (g := (mkF m 266 #[.val (.long i0), .second, .val (.long i1), .second, iv i2, iv i3, rv r2, rv r8, iv na, iv nb_, iv (0 : Int32), rv b18, rv r2, iv na, rv r8, iv nb_, rv b114, iv v205] [(.int (0 : Int32)), (.ref b18)])) rfl (by rw [hml]; rfl) (Steps.refl _) (argsL := [(.int (0 : Int32))]) (rest := []) (lenOf pd0_8 rfl) rfl (by show 2 * 0 + _ ≤ _; exact Nat.le_of_eq rfl) (hb hby at_266) (fun _ _ => ⟨rfl, e217, (by decide : 16 + 3 ≤ _), (by decide : 337 + 12 ≤ _)⟩)
    dsimp only [Pt.U, Pt.locs, Pt.cells, Pt.slots] at X221 hSq221 gr221 l221 y221 z221 st221 hQ221 Cq221
    subst l221 y221 z221
    have hS221 : s.Since T221.vm T221.heap.size := foldS hS (by rw [e217]; exact hk206) hSq221 gr221
    have hZ221 : s.Warmed39 (s.setVm T221.vm).vm := State.Warmed39.trans (t := (s.setVm T83.vm)) hZ hSq221.1
    have hown221 : (s.setVm T221.vm).vm.findClass "com/example/weaverbird/weaverbird/model/xml/AttributesCollapsePinLaw" = some m.cls := by rw [show (s.setVm T221.vm).vm = T221.vm from rfl, hSq221.1.alike.findClass]; exact hown
    have hS := hS221
    have hZ := hZ221
    have hown := hown221
    obtain ⟨sa221, sb221, G221, fg221, rfl, Nq221, sE221, sC221, sV221, sA221, R221, hgo221, Ssq221, Kq221, At221⟩ := hQ221
    have N221 := Fr.app N218 Nq221
    have e221 : T221.heap = T221.heap := rfl
    have Z221 : n0 ≤ T221.heap.size := Nat.le_trans Z205 Kq221.1
    have C222 : CHr s own_EL s.vm h0 T221.vm T221.heap := C207.trans Cq221
    have f223_B : own_Ss s T221.heap w cs := f208_B.keep Kq221 (nsS (own_ns At212.2.2.2.2.2.2.2.2.2.2.2.2.2.2.2.1) ns0)
    have f224_A : own_Af s T221.heap r2 .char 5 (fun j => .int (gd2 j)) := f209_A.keep Kq221 (ninS ne51 nin0)
    have f225_A : own_Af s T221.heap r8 .char 5 (fun j => .int (gd8 j)) := f210_A.keep Kq221 (ninS ne59 nin0)
    have f226_E : Exa s T221.heap b18 "com/example/weaverbird/weaverbird/model/xml/Attributes" := At212.1.keep Kq221
    have f227_A : own_Af s T221.heap b114 .char 5 (fun j => .int (oo205 j)) := f213_A.keep Kq221 (ninS (Ne.symm ne124) nin0)
    obtain ⟨LL228, X228, N228⟩ : ∃ LL, Stand p l e room_1 (s.setVm T221.vm) m #[(.long i0), (.long i1), (.int i2), (.int i3)] below meth c T221 LL 19 349 ∧ Fr n0 LL := ⟨_, X221, N221⟩
    have pre229 : ∀ t, own_s p e below T221 m 269 #[.val (.long i0), .second, .val (.long i1), .second, iv i2, iv i3, rv r2, rv r8, iv na, iv nb_, iv (0 : Int32), rv b18, rv r2, iv na, rv r8, iv nb_, rv b114, iv v205] [(.ref sa221)] t → Steps p.tables e below S0 t := fun tX kX => pre220 _ (st221.trans kX)
    have pre230 : ∀ t, own_s p e below T221 m 273 #[.val (.long i0), .second, .val (.long i1), .second, iv i2, iv i3, rv r2, rv r8, iv na, iv nb_, iv (0 : Int32), rv b18, rv r2, iv na, rv r8, iv nb_, rv b114, iv v205] [(.int v205), (.ref b114), (.ref sa221)] t → Steps p.tables e below S0 t := by
      intro tX kX
      refine pre229 _ ?_
      show own_s p e below T221 m 269 #[.val (.long i0), .second, .val (.long i1), .second, iv i2, iv i3, rv r2, rv r8, iv na, iv nb_, iv (0 : Int32), rv b18, rv r2, iv na, rv r8, iv nb_, rv b114, iv v205] [(.ref sa221)] _
      refine XS.aload X228.here hx rfl (hb hby at_269) rfl rfl ?_
      refine XS.iload X228.here hx rfl (hb hby at_271) rfl ?_
      exact kX
    obtain ⟨_, _, ⟨T231, L231, k231, n231⟩, -, X231, ⟨Lc231, hQ231, l231, y231, z231⟩, st231⟩ := Jvm.LawKit.callS X228 hx (y := (⟨"com/example/weaverbird/weaverbird/model/xml/AttributesCollapsePinLaw", "same", "(Ljava/lang/String;[CI)Z"⟩ : MethodName)) hown (mvT hZ (hw _ (List.mem_of_getElem? (i := 113) rfl))) (mvT hZ (hw _ (List.mem_of_getElem? (i := 114) rfl))) (mvT hZ (hw _ (List.mem_of_getElem? (i := 2) rfl))) (mvT hZ (hw _ (List.mem_of_getElem? (i := 115) rfl))) (by decide) (backOf (W := 0) (rm21 l s a0 hw [] sa221 b114 v205 sb221 Pp205 G221 w cs oo205 T221.heap n0 Z221 hv f223_B hc sE221 sC221 sV221 sA221 f227_A hp205 (by omega) (fun j hj => by rw [← q3 j hj]; exact R221 j hj)) hZ (hw _ (List.mem_of_getElem? (i := 115) rfl)) (hw _ (List.mem_of_getElem? (i := 2) rfl)) (by decide) (by decide)) (g := (mkF m 273 #[.val (.long i0), .second, .val (.long i1), .second, iv i2, iv i3, rv r2, rv r8, iv na, iv nb_, iv (0 : Int32), rv b18, rv r2, iv na, rv r8, iv nb_, rv b114, iv v205] [(.int v205), (.ref b114), (.ref sa221)])) rfl (by rw [hml]; rfl) (argsL := [(.ref sa221), (.ref b114), (.int v205)]) (rest := []) (lenOf pd0_9 rfl) rfl (by show 2 * 0 + _ ≤ _; exact Nat.le_of_eq rfl) (hb hby at_273) (fun _ _ => ⟨rfl, e221, (by decide : 19 + 0 ≤ _), (by decide : 349 + 0 ≤ _)⟩)
    dsimp only [Pt.U, Pt.locs, Pt.cells, Pt.slots] at X231 l231 y231 z231 st231 hQ231
    subst l231 y231 z231
    obtain ⟨rfl, Nq231, e231⟩ := hQ231
    have N231 := Fr.app N228 Nq231
    obtain ⟨LL232, X232, N232⟩ : ∃ LL, Stand p l e room_1 (s.setVm T221.vm) m #[(.long i0), (.long i1), (.int i2), (.int i3)] below meth c T231 LL 19 349 ∧ Fr n0 LL := ⟨_, X231, N231⟩
    have pre233 : ∀ t, own_s p e below T231 m 276 #[.val (.long i0), .second, .val (.long i1), .second, iv i2, iv i3, rv r2, rv r8, iv na, iv nb_, iv (0 : Int32), rv b18, rv r2, iv na, rv r8, iv nb_, rv b114, iv v205] [(.int (1 : Int32))] t → Steps p.tables e below S0 t := fun tX kX => pre230 _ (st231 _ kX)
    have pre234 : ∀ t, own_s p e below T231 m 285 #[.val (.long i0), .second, .val (.long i1), .second, iv i2, iv i3, rv r2, rv r8, iv na, iv nb_, iv (0 : Int32), rv b18, rv r2, iv na, rv r8, iv nb_, rv b114, iv v205] [(.int ((1 : Int32) - (0 : Int32))), (.ref b18)] t → Steps p.tables e below S0 t := by
      intro tX kX
      refine pre233 _ ?_
      show own_s p e below T231 m 276 #[.val (.long i0), .second, .val (.long i1), .second, iv i2, iv i3, rv r2, rv r8, iv na, iv nb_, iv (0 : Int32), rv b18, rv r2, iv na, rv r8, iv nb_, rv b114, iv v205] [(.int (1 : Int32))] _
      refine XS.ifNo X232.here hx rfl (hb hby at_276) rfl ((if0 _ _).trans (feq (by decide : ¬ ((1 : Int32) = (0 : Int32)))).1) ?_
      refine XS.aload X232.here hx rfl (hb hby at_279) rfl rfl ?_
      refine XS.iconst X232.here hx rfl (hb hby at_281) ?_
      show own_s p e below T231 m 282 #[.val (.long i0), .second, .val (.long i1), .second, iv i2, iv i3, rv r2, rv r8, iv na, iv nb_, iv (0 : Int32), rv b18, rv r2, iv na, rv r8, iv nb_, rv b114, iv v205] [(.int (1 : Int32)), (.ref b18)] _
      refine XS.iload X232.here hx rfl (hb hby at_282) rfl ?_
      refine XS.isub X232.here hx rfl (hb hby at_284) rfl ?_
      exact kX
    rw [show ((1 : Int32) - (0 : Int32)) = (1 : Int32) from by decide] at pre234
    obtain ⟨cq235, kq235, q235a, q235b, q235c⟩ := isOf hZ e231 At221.1
    obtain ⟨_, _, ⟨T235, L235, k235, n235⟩, -, X235, hSq235, gr235, ⟨Lc235, hQ235, l235, y235, z235, Cq235⟩, st235⟩ := X232.virtualBackS hx (y := (⟨"com/example/weaverbird/weaverbird/model/xml/Attributes", "value", "(I)Ljava/lang/String;"⟩ : MethodName)) (z := (⟨"com/example/weaverbird/weaverbird/model/xml/Attributes", "value", "(I)Ljava/lang/String;"⟩ : MethodName)) hown (mvT hZ (hw _ (List.mem_of_getElem? (i := 87) rfl))) (mvT hZ (hw _ (List.mem_of_getElem? (i := 88) rfl))) (notFace_of_selects (args := #[]) (mvT hZ (hw _ (List.mem_of_getElem? (i := 90) rfl)))) (mvT hZ (hw _ (List.mem_of_getElem? (i := 90) rfl))) (mvT hZ (hw _ (List.mem_of_getElem? (i := 89) rfl))) (by decide) (backOfSH (s := s) (vm0 := T221.vm) (W := 0) (rm43 l s a0 hw [] b18 (1 : Int32) nm39 sr39 ln39 ns39 dc39 sg39 vl39 ct83 vn92 fs83 fk103 fg221 rl.2 w cs A B 1 T221.heap n0 Z221 At221 hO g_b18 Brl hv f223_B hc rfl (by decide) (hgo221 1 (by decide)) s1 (by rw [hko103 1 (by decide)]; exact l1) (by omega) (by omega)) hZ (hw _ (List.mem_of_getElem? (i := 91) rfl)) (hw _ (List.mem_of_getElem? (i := 11) rfl)) (by decide) (by decide) hEL C222.1) q235a q235c (g := (mkF m 285 #[.val (.long i0), .second, .val (.long i1), .second, iv i2, iv i3, rv r2, rv r8, iv na, iv nb_, iv (0 : Int32), rv b18, rv r2, iv na, rv r8, iv nb_, rv b114, iv v205] [(.int (1 : Int32)), (.ref b18)])) rfl (by rw [hml]; rfl) (Steps.refl _) (argsL := [(.int (1 : Int32))]) (rest := []) (lenOf pd0_8 rfl) rfl (by show 2 * 0 + _ ≤ _; exact Nat.le_of_eq rfl) (hb hby at_285) (fun _ _ => ⟨rfl, e231, (by decide : 19 + 3 ≤ _), (by decide : 349 + 12 ≤ _)⟩)
    dsimp only [Pt.U, Pt.locs, Pt.cells, Pt.slots] at X235 hSq235 gr235 l235 y235 z235 st235 hQ235 Cq235
    subst l235 y235 z235
    have hS235 : s.Since T235.vm T235.heap.size := foldS hS (by rw [e231]; exact (Nat.le_refl _)) hSq235 gr235
    have hZ235 : s.Warmed39 (s.setVm T235.vm).vm := State.Warmed39.trans (t := (s.setVm T221.vm)) hZ hSq235.1
    have hown235 : (s.setVm T235.vm).vm.findClass "com/example/weaverbird/weaverbird/model/xml/AttributesCollapsePinLaw" = some m.cls := by rw [show (s.setVm T235.vm).vm = T235.vm from rfl, hSq235.1.alike.findClass]; exact hown
    have hS := hS235
    have hZ := hZ235
    have hown := hown235
    obtain ⟨sa235, sb235, G235, fg235, rfl, Nq235, sE235, sC235, sV235, sA235, R235, hgo235, Ssq235, Kq235, At235⟩ := hQ235
    have N235 := Fr.app N232 Nq235
    have e235 : T235.heap = T235.heap := rfl
    have Z235 : n0 ≤ T235.heap.size := Nat.le_trans Z221 Kq235.1
    have C236 : CHr s own_EL s.vm h0 T235.vm T235.heap := C222.trans Cq235
    have f237_B : own_Ss s T235.heap w cs := f223_B.keep Kq235 (nsS (own_ns At221.2.2.2.2.2.2.2.2.2.2.2.2.2.2.2.1) ns0)
    have f238_A : own_Af s T235.heap r2 .char 5 (fun j => .int (gd2 j)) := f224_A.keep Kq235 (ninS ne51 nin0)
    have f239_A : own_Af s T235.heap r8 .char 5 (fun j => .int (gd8 j)) := f225_A.keep Kq235 (ninS ne59 nin0)
    have f240_E : Exa s T235.heap b18 "com/example/weaverbird/weaverbird/model/xml/Attributes" := At221.1.keep Kq235
    have f241_A : own_Af s T235.heap b114 .char 5 (fun j => .int (oo205 j)) := f227_A.keep Kq235 (ninS (Ne.symm ne124) nin0)
    obtain ⟨LL242, X242, N242⟩ : ∃ LL, Stand p l e room_1 (s.setVm T235.vm) m #[(.long i0), (.long i1), (.int i2), (.int i3)] below meth c T235 LL 22 361 ∧ Fr n0 LL := ⟨_, X235, N235⟩
    have pre243 : ∀ t, own_s p e below T235 m 288 #[.val (.long i0), .second, .val (.long i1), .second, iv i2, iv i3, rv r2, rv r8, iv na, iv nb_, iv (0 : Int32), rv b18, rv r2, iv na, rv r8, iv nb_, rv b114, iv v205] [(.ref sa235)] t → Steps p.tables e below S0 t := fun tX kX => pre234 _ (st235.trans kX)
    have pre244 : ∀ t, own_s p e below T235 m 292 #[.val (.long i0), .second, .val (.long i1), .second, iv i2, iv i3, rv r2, rv r8, iv na, iv nb_, iv (0 : Int32), rv b18, rv r2, iv na, rv r8, iv nb_, rv b114, iv v205] [(.int nb_), (.ref r8), (.ref sa235)] t → Steps p.tables e below S0 t := by
      intro tX kX
      refine pre243 _ ?_
      show own_s p e below T235 m 288 #[.val (.long i0), .second, .val (.long i1), .second, iv i2, iv i3, rv r2, rv r8, iv na, iv nb_, iv (0 : Int32), rv b18, rv r2, iv na, rv r8, iv nb_, rv b114, iv v205] [(.ref sa235)] _
      refine XS.aload X242.here hx rfl (hb hby at_288) rfl rfl ?_
      refine XS.iload X242.here hx rfl (hb hby at_290) rfl ?_
      exact kX
    obtain ⟨_, _, ⟨T245, L245, k245, n245⟩, -, X245, ⟨Lc245, hQ245, l245, y245, z245⟩, st245⟩ := Jvm.LawKit.callS X242 hx (y := (⟨"com/example/weaverbird/weaverbird/model/xml/AttributesCollapsePinLaw", "same", "(Ljava/lang/String;[CI)Z"⟩ : MethodName)) hown (mvT hZ (hw _ (List.mem_of_getElem? (i := 113) rfl))) (mvT hZ (hw _ (List.mem_of_getElem? (i := 114) rfl))) (mvT hZ (hw _ (List.mem_of_getElem? (i := 2) rfl))) (mvT hZ (hw _ (List.mem_of_getElem? (i := 115) rfl))) (by decide) (backOf (W := 0) (rm21 l s a0 hw [] sa235 r8 nb_ sb235 B G235 w cs gd8 T235.heap n0 Z235 hv f237_B hc sE235 sC235 sV235 sA235 f239_A hB (by omega) (fun j hj => by rw [← cB j hj, ← q4 (A + j) (by omega)]; exact R235 j hj)) hZ (hw _ (List.mem_of_getElem? (i := 115) rfl)) (hw _ (List.mem_of_getElem? (i := 2) rfl)) (by decide) (by decide)) (g := (mkF m 292 #[.val (.long i0), .second, .val (.long i1), .second, iv i2, iv i3, rv r2, rv r8, iv na, iv nb_, iv (0 : Int32), rv b18, rv r2, iv na, rv r8, iv nb_, rv b114, iv v205] [(.int nb_), (.ref r8), (.ref sa235)])) rfl (by rw [hml]; rfl) (argsL := [(.ref sa235), (.ref r8), (.int nb_)]) (rest := []) (lenOf pd0_9 rfl) rfl (by show 2 * 0 + _ ≤ _; exact Nat.le_of_eq rfl) (hb hby at_292) (fun _ _ => ⟨rfl, e235, (by decide : 22 + 0 ≤ _), (by decide : 361 + 0 ≤ _)⟩)
    dsimp only [Pt.U, Pt.locs, Pt.cells, Pt.slots] at X245 l245 y245 z245 st245 hQ245
    subst l245 y245 z245
    obtain ⟨rfl, Nq245, e245⟩ := hQ245
    have N245 := Fr.app N242 Nq245
    obtain ⟨LL246, X246, N246⟩ : ∃ LL, Stand p l e room_1 (s.setVm T235.vm) m #[(.long i0), (.long i1), (.int i2), (.int i3)] below meth c T245 LL 22 361 ∧ Fr n0 LL := ⟨_, X245, N245⟩
    have pre247 : ∀ t, own_s p e below T245 m 295 #[.val (.long i0), .second, .val (.long i1), .second, iv i2, iv i3, rv r2, rv r8, iv na, iv nb_, iv (0 : Int32), rv b18, rv r2, iv na, rv r8, iv nb_, rv b114, iv v205] [(.int (1 : Int32))] t → Steps p.tables e below S0 t := fun tX kX => pre244 _ (st245 _ kX)
    have pre248 : ∀ t, own_s p e below T245 m 303 #[.val (.long i0), .second, .val (.long i1), .second, iv i2, iv i3, rv r2, rv r8, iv na, iv nb_, iv (0 : Int32), rv b18, rv r2, iv na, rv r8, iv nb_, rv b114, iv v205] [(.int (1 : Int32))] t → Steps p.tables e below S0 t := by
      intro tX kX
      refine pre247 _ ?_
      show own_s p e below T245 m 295 #[.val (.long i0), .second, .val (.long i1), .second, iv i2, iv i3, rv r2, rv r8, iv na, iv nb_, iv (0 : Int32), rv b18, rv r2, iv na, rv r8, iv nb_, rv b114, iv v205] [(.int (1 : Int32))] _
      refine XS.ifNo X246.here hx rfl (hb hby at_295) rfl ((if0 _ _).trans (feq (by decide : ¬ ((1 : Int32) = (0 : Int32)))).1) ?_
      refine XS.iconst X246.here hx rfl (hb hby at_298) ?_
      refine XS.goto X246.here hx rfl (pc0 := 299) (pc' := 303) rfl (hb hby at_299) (by decide) (by decide) ?_
      exact kX
    subst hS0
    have Xe := X246.mono (cells' := 22) (slots' := 361) (by decide) (by decide)
    obtain ⟨fsX, hr, hrun, hended, hend⟩ := Xe.leaveW hS (by rw [e245]; exact (Nat.le_refl _)) (v := (some (.int (1 : Int32)))) (fun h => by rw [Bd.returns] at h; cases h)
    exact ⟨_, _, pre248 _ (retN Xe hx (t := .boolean) Bd.returns (by simp) (hb hby at_303) hr), hrun, hended, _, _, rfl, ⟨rfl, hn0 ▸ N246⟩, hend⟩
  · skip
    obtain rfl : id_ = (1 : Int32) := own_eqI hid
    have pre249 : ∀ t, own_s p e below T92 m 86 #[.val (.long i0), .second, .val (.long i1), .second, iv i2, iv i3, rv r2, rv r8, iv na, iv nb_, iv (1 : Int32), rv b18, .unset, .unset, .unset, .unset, .unset, .unset] [(.int (1 : Int32)), (.ref b18)] t → Steps p.tables e below S0 t := by
      intro tX kX
      refine pre101 _ ?_
      show own_s p e below T92 m 82 #[.val (.long i0), .second, .val (.long i1), .second, iv i2, iv i3, rv r2, rv r8, iv na, iv nb_, iv (1 : Int32), rv b18, .unset, .unset, .unset, .unset, .unset, .unset] [] _
      refine XS.aload X100.here hx rfl (hb hby at_82) rfl rfl ?_
      refine XS.iload X100.here hx rfl (hb hby at_84) rfl ?_
      exact kX
    obtain ⟨cq250, kq250, q250a, q250b, q250c⟩ := isOf hZ e92 At92.1
    obtain ⟨_, _, ⟨T250, L250, k250, n250⟩, -, X250, ⟨Lc250, hQ250, l250, y250, z250⟩, st250⟩ := X100.virtualBack hx (y := (⟨"com/example/weaverbird/weaverbird/model/xml/Attributes", "collapse", "(I)V"⟩ : MethodName)) (z := (⟨"com/example/weaverbird/weaverbird/model/xml/Attributes", "collapse", "(I)V"⟩ : MethodName)) hown (mvT hZ (hw _ (List.mem_of_getElem? (i := 71) rfl))) (mvT hZ (hw _ (List.mem_of_getElem? (i := 72) rfl))) (notFace_of_selects (args := #[]) (mvT hZ (hw _ (List.mem_of_getElem? (i := 74) rfl)))) (mvT hZ (hw _ (List.mem_of_getElem? (i := 74) rfl))) (mvT hZ (hw _ (List.mem_of_getElem? (i := 73) rfl))) (by decide) (backOf (W := 0) (rm32 l s a0 hw [] b18 (1 : Int32) nm39 sr39 ln39 ns39 dc39 sg39 vl39 ct83 vn92 fs83 fm92 (fun _ => .null) gv A B 1 T92.heap n0 Z92 At99 hO g_b18 Bv rfl (by decide) s1 l1 (by omega)) hZ (hw _ (List.mem_of_getElem? (i := 75) rfl)) (hw _ (List.mem_of_getElem? (i := 11) rfl)) (by decide) (by decide)) q250a q250c (g := (mkF m 86 #[.val (.long i0), .second, .val (.long i1), .second, iv i2, iv i3, rv r2, rv r8, iv na, iv nb_, iv (1 : Int32), rv b18, .unset, .unset, .unset, .unset, .unset, .unset] [(.int (1 : Int32)), (.ref b18)])) rfl (by rw [hml]; rfl) (Steps.refl _) (argsL := [(.int (1 : Int32))]) (rest := []) (lenOf pd0_4 rfl) rfl (by show 2 * 0 + _ ≤ _; exact Nat.le_of_eq rfl) (hb hby at_86) (fun _ _ => ⟨rfl, e92, (by decide : 15 + 0 ≤ _), (by decide : 332 + 0 ≤ _)⟩)
    dsimp only [Pt.U, Pt.locs, Pt.cells, Pt.slots] at X250 l250 y250 z250 st250 hQ250
    subst l250 y250 z250
    obtain ⟨fk250, rfl, Nq250, hk250, hko250, Bk250, Kq250, At250⟩ := hQ250
    have N250 := Fr.app N100 Nq250
    have e250 : T250.heap = T250.heap := rfl
    have Z250 : n0 ≤ T250.heap.size := Nat.le_trans Z92 Kq250.1
    have hk251 : T83.heap.size ≤ T250.heap.size := Nat.le_trans hk93 Kq250.1
    have C252 : CHr s own_EL s.vm h0 T83.vm T250.heap := C94.trans (CHr.keep Kq250 (sfS (own_sfA hZ.alike At99.2.2.2.2.2.2.2.2.2.2.2.2.1 (fun q => nomatch q)) (sfS (own_sfA hZ.alike At99.2.2.2.2.2.2.2.2.2.2.2.2.2.2.2.2.1 (fun q => nomatch q)) sf0)) C94.1)
    have f253_B : own_Ss s T250.heap w cs := f95_B.keep Kq250 (nsS (own_ns At99.2.2.2.2.2.2.2.2.2.2.2.2.1) (nsS (own_ns At99.2.2.2.2.2.2.2.2.2.2.2.2.2.2.2.2.1) ns0))
    have f254_A : own_Af s T250.heap r2 .char 5 (fun j => .int (gd2 j)) := f96_A.keep Kq250 (ninS ne48 (ninS ne52 nin0))
    have f255_A : own_Af s T250.heap r8 .char 5 (fun j => .int (gd8 j)) := f97_A.keep Kq250 (ninS ne56 (ninS ne60 nin0))
    have f256_E : Exa s T250.heap b18 "com/example/weaverbird/weaverbird/model/xml/Attributes" := At92.1.keep Kq250
    obtain ⟨rl, hrl⟩ : ∃ z, z = own_loop A B 0 0 true gv := ⟨_, rfl⟩
    have Brl : own_B rl.2 := by rw [hrl]; exact Bk250
    have hend : (fk250 1).toInt = ((own_end A rl : Nat) : Int) := by rw [hrl]; exact hk250
    have At257 : own_At s T250.heap b18 nm39 sr39 ln39 ns39 dc39 sg39 vl39 ct83 vn92 fs83 fk250 (fun _ => .null) rl.2 := by rw [hrl]; exact At250
    have hcc : ∀ j, j < B → gd8 j = gv (A + j) := fun j hj => (cB j hj).symm
    obtain ⟨bt, hbt⟩ : ∃ z, z = own_bits [decide (gd8 0 ≠ 32), decide (gd8 1 ≠ 32), decide (gd8 2 ≠ 32), decide (gd8 3 ≠ 32), decide (gd8 4 ≠ 32)] := ⟨_, rfl⟩
    have hbE : ∀ i, i < B → bt i = decide (gd8 i ≠ 32) := fun i hi => by rw [hbt]; exact own_bitsE (by omega) i hi
    obtain ⟨LL258, X258, N258⟩ : ∃ LL, Stand p l e room_1 (s.setVm T83.vm) m #[(.long i0), (.long i1), (.int i2), (.int i3)] below meth c T250 LL 15 332 ∧ Fr n0 LL := ⟨_, X250, N250⟩
    have pre259 : ∀ t, own_s p e below T250 m 89 #[.val (.long i0), .second, .val (.long i1), .second, iv i2, iv i3, rv r2, rv r8, iv na, iv nb_, iv (1 : Int32), rv b18, .unset, .unset, .unset, .unset, .unset, .unset] [] t → Steps p.tables e below S0 t := fun tX kX => pre249 _ (st250.trans kX)
    have pre260 : ∀ t, own_s p e below T250 m 146 #[.val (.long i0), .second, .val (.long i1), .second, iv i2, iv i3, rv r2, rv r8, iv na, iv nb_, iv (1 : Int32), rv b18, rv r8, iv nb_, rv r2, iv na, .unset, .unset] [(.int (5 : Int32))] t → Steps p.tables e below S0 t := by
      intro tX kX
      refine pre259 _ ?_
      show own_s p e below T250 m 89 #[.val (.long i0), .second, .val (.long i1), .second, iv i2, iv i3, rv r2, rv r8, iv na, iv nb_, iv (1 : Int32), rv b18, .unset, .unset, .unset, .unset, .unset, .unset] [] _
      refine XS.iload X258.here hx rfl (hb hby at_89) rfl ?_
      refine XS.ifYes X258.here hx rfl (pc0 := 91) (pc' := 99) rfl (hb hby at_91) rfl ((if0 _ _).trans (feq (by decide : ¬ ((1 : Int32) = (0 : Int32)))).2) (by decide) (by decide) ?_
      refine XS.aload X258.here hx rfl (hb hby at_99) rfl rfl ?_
      show own_s p e below T250 m 101 #[.val (.long i0), .second, .val (.long i1), .second, iv i2, iv i3, rv r2, rv r8, iv na, iv nb_, iv (1 : Int32), rv b18, .unset, .unset, .unset, .unset, .unset, .unset] [(.ref r8)] _
      refine XS.astore X258.here hx rfl (hb hby at_101) rfl rfl (l' := #[.val (.long i0), .second, .val (.long i1), .second, iv i2, iv i3, rv r2, rv r8, iv na, iv nb_, iv (1 : Int32), rv b18, rv r8, .unset, .unset, .unset, .unset, .unset]) rfl ?_
      refine XS.iload X258.here hx rfl (hb hby at_103) rfl ?_
      refine XS.ifYes X258.here hx rfl (pc0 := 105) (pc' := 113) rfl (hb hby at_105) rfl ((if0 _ _).trans (feq (by decide : ¬ ((1 : Int32) = (0 : Int32)))).2) (by decide) (by decide) ?_
      show own_s p e below T250 m 113 #[.val (.long i0), .second, .val (.long i1), .second, iv i2, iv i3, rv r2, rv r8, iv na, iv nb_, iv (1 : Int32), rv b18, rv r8, .unset, .unset, .unset, .unset, .unset] [] _
      refine XS.iload X258.here hx rfl (hb hby at_113) rfl ?_
      refine XS.istore X258.here hx rfl (hb hby at_115) rfl (l' := #[.val (.long i0), .second, .val (.long i1), .second, iv i2, iv i3, rv r2, rv r8, iv na, iv nb_, iv (1 : Int32), rv b18, rv r8, iv nb_, .unset, .unset, .unset, .unset]) rfl ?_
      refine XS.iload X258.here hx rfl (hb hby at_117) rfl ?_
      show own_s p e below T250 m 119 #[.val (.long i0), .second, .val (.long i1), .second, iv i2, iv i3, rv r2, rv r8, iv na, iv nb_, iv (1 : Int32), rv b18, rv r8, iv nb_, .unset, .unset, .unset, .unset] [(.int (1 : Int32))] _
      refine XS.ifYes X258.here hx rfl (pc0 := 119) (pc' := 127) rfl (hb hby at_119) rfl ((if0 _ _).trans (feq (by decide : ¬ ((1 : Int32) = (0 : Int32)))).2) (by decide) (by decide) ?_
      refine XS.aload X258.here hx rfl (hb hby at_127) rfl rfl ?_
      refine XS.astore X258.here hx rfl (hb hby at_129) rfl rfl (l' := #[.val (.long i0), .second, .val (.long i1), .second, iv i2, iv i3, rv r2, rv r8, iv na, iv nb_, iv (1 : Int32), rv b18, rv r8, iv nb_, rv r2, .unset, .unset, .unset]) rfl ?_
      show own_s p e below T250 m 131 #[.val (.long i0), .second, .val (.long i1), .second, iv i2, iv i3, rv r2, rv r8, iv na, iv nb_, iv (1 : Int32), rv b18, rv r8, iv nb_, rv r2, .unset, .unset, .unset] [] _
      refine XS.iload X258.here hx rfl (hb hby at_131) rfl ?_
      refine XS.ifYes X258.here hx rfl (pc0 := 133) (pc' := 141) rfl (hb hby at_133) rfl ((if0 _ _).trans (feq (by decide : ¬ ((1 : Int32) = (0 : Int32)))).2) (by decide) (by decide) ?_
      refine XS.iload X258.here hx rfl (hb hby at_141) rfl ?_
      show own_s p e below T250 m 143 #[.val (.long i0), .second, .val (.long i1), .second, iv i2, iv i3, rv r2, rv r8, iv na, iv nb_, iv (1 : Int32), rv b18, rv r8, iv nb_, rv r2, .unset, .unset, .unset] [(.int na)] _
      refine XS.istore X258.here hx rfl (hb hby at_143) rfl (l' := #[.val (.long i0), .second, .val (.long i1), .second, iv i2, iv i3, rv r2, rv r8, iv na, iv nb_, iv (1 : Int32), rv b18, rv r8, iv nb_, rv r2, iv na, .unset, .unset]) rfl ?_
      refine XS.iconst X258.here hx rfl (hb hby at_145) ?_
      exact kX
    obtain ⟨T261, h261, k261, X261, e261, E261, A261, st261⟩ := newP X258 hx hZ (hw _ (List.mem_of_getElem? (i := 4) rfl)) e250 (g := (mkF m 146 #[.val (.long i0), .second, .val (.long i1), .second, iv i2, iv i3, rv r2, rv r8, iv na, iv nb_, iv (1 : Int32), rv b18, rv r8, iv nb_, rv r2, iv na, .unset, .unset] [(.int (5 : Int32))])) rfl (hb hby at_146) rfl (by decide) (cap := 5) (by decide) (by decide) (by decide) (by decide)
    obtain ⟨b261, g261⟩ : ∃ z, z = T250.heap.size := ⟨_, rfl⟩
    rw [← g261] at A261 st261
    have ne262 : r2 ≠ b261 := Nat.ne_of_lt (Nat.lt_of_lt_of_le f254_A.lt (Nat.le_of_eq g261.symm))
    have ne263 : r8 ≠ b261 := Nat.ne_of_lt (Nat.lt_of_lt_of_le f255_A.lt (Nat.le_of_eq g261.symm))
    have ne264 : b18 ≠ b261 := Nat.ne_of_lt (Nat.lt_of_lt_of_le At250.1.lt (Nat.le_of_eq g261.symm))
    have g_b261 : n0 ≤ b261 := Nat.le_trans Z250 (Nat.le_of_eq g261.symm)
    have lt_r2_b261 : r2 < b261 := Nat.lt_of_lt_of_le f254_A.lt (Nat.le_of_eq g261.symm)
    have lt_r8_b261 : r8 < b261 := Nat.lt_of_lt_of_le f255_A.lt (Nat.le_of_eq g261.symm)
    have lt_vl_b261 : vl39 < b261 := Nat.lt_of_lt_of_le At257.2.2.2.2.2.2.2.2.2.2.2.2.2.2.2.2.1.lt (Nat.le_of_eq g261.symm)
    have ne265 : b18 ≠ b261 := Nat.ne_of_lt (Nat.lt_trans (Nat.lt_trans o1 (Nat.lt_trans o2 (Nat.lt_trans o3 (Nat.lt_trans o4 (Nat.lt_trans o5 (Nat.lt_trans o6 o7)))))) lt_vl_b261)
    have ne266 : nm39 ≠ b261 := Nat.ne_of_lt (Nat.lt_trans (Nat.lt_trans o2 (Nat.lt_trans o3 (Nat.lt_trans o4 (Nat.lt_trans o5 (Nat.lt_trans o6 o7))))) lt_vl_b261)
    have ne267 : sr39 ≠ b261 := Nat.ne_of_lt (Nat.lt_trans (Nat.lt_trans o3 (Nat.lt_trans o4 (Nat.lt_trans o5 (Nat.lt_trans o6 o7)))) lt_vl_b261)
    have ne268 : ln39 ≠ b261 := Nat.ne_of_lt (Nat.lt_trans (Nat.lt_trans o4 (Nat.lt_trans o5 (Nat.lt_trans o6 o7))) lt_vl_b261)
    have ne269 : ns39 ≠ b261 := Nat.ne_of_lt (Nat.lt_trans (Nat.lt_trans o5 (Nat.lt_trans o6 o7)) lt_vl_b261)
    have ne270 : dc39 ≠ b261 := Nat.ne_of_lt (Nat.lt_trans (Nat.lt_trans o6 o7) lt_vl_b261)
    have ne271 : sg39 ≠ b261 := Nat.ne_of_lt (Nat.lt_trans o7 lt_vl_b261)
    have ne272 : vl39 ≠ b261 := Nat.ne_of_lt lt_vl_b261
    have pre273 : ∀ t, own_s p e below T261 m 148 #[.val (.long i0), .second, .val (.long i1), .second, iv i2, iv i3, rv r2, rv r8, iv na, iv nb_, iv (1 : Int32), rv b18, rv r8, iv nb_, rv r2, iv na, .unset, .unset] [(.ref b261)] t → Steps p.tables e below S0 t := fun tX kX => pre260 _ (st261 _ kX)
    have f274_B : own_Ss s h261 w cs := f253_B.ext E261
    have f275_A : own_Af s h261 r2 .char 5 (fun j => .int (gd2 j)) := f254_A.ext E261
    have f276_A : own_Af s h261 r8 .char 5 (fun j => .int (gd8 j)) := f255_A.ext E261
    have f277_E : Exa s h261 b18 "com/example/weaverbird/weaverbird/model/xml/Attributes" := At250.1.ext E261
    have Z278 : n0 ≤ h261.size := Nat.le_trans Z250 E261.1
    have hk279 : T83.heap.size ≤ h261.size := Nat.le_trans hk251 E261.1
    have C280 : CHr s own_EL s.vm h0 T83.vm h261 := C252.trans (CHr.ext E261 C252.1)
    have At281 : own_At s h261 b18 nm39 sr39 ln39 ns39 dc39 sg39 vl39 ct83 vn92 fs83 fk250 (fun _ => .null) rl.2 := own_At.ko At257 ((Keep.refl _ []).ext E261) (fun _ _ _ => nin0) hO
    have f282_A : own_Af s h261 b261 .char 5 (fun _ => (.int (0 : Int32))) := own_Af.new A261 (by decide) rfl
    have pre283 : ∀ t, own_s p e below T261 m 164 #[.val (.long i0), .second, .val (.long i1), .second, iv i2, iv i3, rv r2, rv r8, iv na, iv nb_, iv (1 : Int32), rv b18, rv r8, iv nb_, rv r2, iv na, rv b261, iv (0 : Int32)] [(.int (0 : Int32)), (.int nb_), (.ref r8), (.ref r8), (.int (0 : Int32)), (.ref b261)] t → Steps p.tables e below S0 t := by
      intro tX kX
      refine pre273 _ ?_
      show own_s p e below T261 m 148 #[.val (.long i0), .second, .val (.long i1), .second, iv i2, iv i3, rv r2, rv r8, iv na, iv nb_, iv (1 : Int32), rv b18, rv r8, iv nb_, rv r2, iv na, .unset, .unset] [(.ref b261)] _
      refine XS.astore X261.here hx rfl (hb hby at_148) rfl rfl (l' := #[.val (.long i0), .second, .val (.long i1), .second, iv i2, iv i3, rv r2, rv r8, iv na, iv nb_, iv (1 : Int32), rv b18, rv r8, iv nb_, rv r2, iv na, rv b261, .unset]) rfl ?_
      refine XS.iconst X261.here hx rfl (hb hby at_150) ?_
      refine XS.istore X261.here hx rfl (hb hby at_151) rfl (l' := #[.val (.long i0), .second, .val (.long i1), .second, iv i2, iv i3, rv r2, rv r8, iv na, iv nb_, iv (1 : Int32), rv b18, rv r8, iv nb_, rv r2, iv na, rv b261, iv (0 : Int32)]) rfl ?_
      show own_s p e below T261 m 153 #[.val (.long i0), .second, .val (.long i1), .second, iv i2, iv i3, rv r2, rv r8, iv na, iv nb_, iv (1 : Int32), rv b18, rv r8, iv nb_, rv r2, iv na, rv b261, iv (0 : Int32)] [] _
      refine XS.aload X261.here hx rfl (hb hby at_153) rfl rfl ?_
      refine XS.iload X261.here hx rfl (hb hby at_155) rfl ?_
      refine XS.aload X261.here hx rfl (hb hby at_157) rfl rfl ?_
      show own_s p e below T261 m 159 #[.val (.long i0), .second, .val (.long i1), .second, iv i2, iv i3, rv r2, rv r8, iv na, iv nb_, iv (1 : Int32), rv b18, rv r8, iv nb_, rv r2, iv na, rv b261, iv (0 : Int32)] [(.ref r8), (.int (0 : Int32)), (.ref b261)] _
      refine XS.aload X261.here hx rfl (hb hby at_159) rfl rfl ?_
      refine XS.iload X261.here hx rfl (hb hby at_161) rfl ?_
      refine XS.iconst X261.here hx rfl (hb hby at_163) ?_
      exact kX
    obtain ⟨_, _, ⟨T284, L284, k284, n284⟩, -, X284, ⟨Lc284, hQ284, l284, y284, z284⟩, st284⟩ := Jvm.LawKit.callS X261 hx (y := (⟨"com/example/weaverbird/weaverbird/model/xml/AttributesCollapsePinLaw", "keep", "([CII)Z"⟩ : MethodName)) hown (mvT hZ (hw _ (List.mem_of_getElem? (i := 76) rfl))) (mvT hZ (hw _ (List.mem_of_getElem? (i := 77) rfl))) (mvT hZ (hw _ (List.mem_of_getElem? (i := 2) rfl))) (mvT hZ (hw _ (List.mem_of_getElem? (i := 78) rfl))) (by decide) (backOf (W := 3) (rm5 l s a0 hw [] r8 nb_ (0 : Int32) gd8 bt B 0 h261 n0 Z278 f276_A hbE hB hB5 rfl (by decide)) hZ (hw _ (List.mem_of_getElem? (i := 78) rfl)) (hw _ (List.mem_of_getElem? (i := 2) rfl)) (by decide) (by decide)) (g := (mkF m 164 #[.val (.long i0), .second, .val (.long i1), .second, iv i2, iv i3, rv r2, rv r8, iv na, iv nb_, iv (1 : Int32), rv b18, rv r8, iv nb_, rv r2, iv na, rv b261, iv (0 : Int32)] [(.int (0 : Int32)), (.int nb_), (.ref r8), (.ref r8), (.int (0 : Int32)), (.ref b261)])) rfl (by rw [hml]; rfl) (argsL := [(.ref r8), (.int nb_), (.int (0 : Int32))]) (rest := [(.ref r8), (.int (0 : Int32)), (.ref b261)]) (lenOf pd0_5 rfl) rfl (by show 2 * 0 + _ ≤ _; exact Nat.le_of_eq rfl) (hb hby at_164) (fun _ _ => ⟨rfl, e261, (by decide : 16 + 0 ≤ _), (by decide : 337 + 0 ≤ _)⟩)
    dsimp only [Pt.U, Pt.locs, Pt.cells, Pt.slots] at X284 l284 y284 z284 st284 hQ284
    subst l284 y284 z284
    obtain ⟨rfl, Nq284, e284⟩ := hQ284
    have N284 := Fr.app N258 Nq284
    obtain ⟨LL285, X285, N285⟩ : ∃ LL, Stand p l e room_1 (s.setVm T83.vm) m #[(.long i0), (.long i1), (.int i2), (.int i3)] below meth c T284 LL 16 337 ∧ Fr n0 LL := ⟨_, X284, N284⟩
    have pre286 : ∀ t, own_s p e below T284 m 167 #[.val (.long i0), .second, .val (.long i1), .second, iv i2, iv i3, rv r2, rv r8, iv na, iv nb_, iv (1 : Int32), rv b18, rv r8, iv nb_, rv r2, iv na, rv b261, iv (0 : Int32)] [(.int (own_bi (own_kp bt B 0))), (.ref r8), (.int (0 : Int32)), (.ref b261)] t → Steps p.tables e below S0 t := fun tX kX => pre283 _ (st284 _ kX)
    have pre287 : ∀ t, own_s p e below T284 m 168 #[.val (.long i0), .second, .val (.long i1), .second, iv i2, iv i3, rv r2, rv r8, iv na, iv nb_, iv (1 : Int32), rv b18, rv r8, iv nb_, rv r2, iv na, rv b261, iv (0 : Int32)] [(.int (0 : Int32)), (.int (own_bi (own_kp bt B 0))), (.ref r8), (.int (0 : Int32)), (.ref b261)] t → Steps p.tables e below S0 t := by
      intro tX kX
      refine pre286 _ ?_
      show own_s p e below T284 m 167 #[.val (.long i0), .second, .val (.long i1), .second, iv i2, iv i3, rv r2, rv r8, iv na, iv nb_, iv (1 : Int32), rv b18, rv r8, iv nb_, rv r2, iv na, rv b261, iv (0 : Int32)] [(.int (own_bi (own_kp bt B 0))), (.ref r8), (.int (0 : Int32)), (.ref b261)] _
      refine XS.iconst X285.here hx rfl (hb hby at_167) ?_
      exact kX
    obtain ⟨_, _, ⟨T288, L288, k288, n288⟩, -, X288, ⟨Lc288, hQ288, l288, y288, z288⟩, st288⟩ := Jvm.LawKit.callS X285 hx (y := (⟨"com/example/weaverbird/weaverbird/model/xml/AttributesCollapsePinLaw", "put", "([CI[CZI)I"⟩ : MethodName)) hown (mvT hZ (hw _ (List.mem_of_getElem? (i := 79) rfl))) (mvT hZ (hw _ (List.mem_of_getElem? (i := 80) rfl))) (mvT hZ (hw _ (List.mem_of_getElem? (i := 2) rfl))) (mvT hZ (hw _ (List.mem_of_getElem? (i := 81) rfl))) (by decide) (backOf (W := 0) (rm6 l s a0 hw [] b261 (0 : Int32) r8 (own_bi (own_kp bt B 0)) (0 : Int32) (fun _ => (0 : Int32)) gd8 0 (own_kp bt B 0) 0 h261 n0 Z278 f282_A f276_A own_B.z fB8 rfl (by omega) rfl rfl (by decide) (Ne.symm ne263) g_b261) hZ (hw _ (List.mem_of_getElem? (i := 81) rfl)) (hw _ (List.mem_of_getElem? (i := 2) rfl)) (by decide) (by decide)) (g := (mkF m 168 #[.val (.long i0), .second, .val (.long i1), .second, iv i2, iv i3, rv r2, rv r8, iv na, iv nb_, iv (1 : Int32), rv b18, rv r8, iv nb_, rv r2, iv na, rv b261, iv (0 : Int32)] [(.int (0 : Int32)), (.int (own_bi (own_kp bt B 0))), (.ref r8), (.int (0 : Int32)), (.ref b261)])) rfl (by rw [hml]; rfl) (argsL := [(.ref b261), (.int (0 : Int32)), (.ref r8), (.int (own_bi (own_kp bt B 0))), (.int (0 : Int32))]) (rest := []) (lenOf pd0_6 rfl) rfl (by show 2 * 0 + _ ≤ _; exact Nat.le_of_eq rfl) (hb hby at_168) (fun _ _ => ⟨rfl, e284, (by decide : 16 + 0 ≤ _), (by decide : 337 + 0 ≤ _)⟩)
    dsimp only [Pt.U, Pt.locs, Pt.cells, Pt.slots] at X288 l288 y288 z288 st288 hQ288
    subst l288 y288 z288
    obtain ⟨⟨v288, rfl, hp_288⟩, Nq288, Kq288, fA288⟩ := hQ288
    have N288 := Fr.app N285 Nq288
    have e288 : T288.heap = T288.heap := rfl
    have Z288 : n0 ≤ T288.heap.size := Nat.le_trans Z278 Kq288.1
    have hk289 : T83.heap.size ≤ T288.heap.size := Nat.le_trans hk279 Kq288.1
    have C290 : CHr s own_EL s.vm h0 T83.vm T288.heap := C280.trans (CHr.keep Kq288 (sfS (own_sfA hZ.alike f282_A (fun q => nomatch q)) sf0) C280.1)
    have f291_B : own_Ss s T288.heap w cs := f274_B.keep Kq288 (nsS (own_ns f282_A) ns0)
    have f292_A : own_Af s T288.heap r2 .char 5 (fun j => .int (gd2 j)) := f275_A.keep Kq288 (ninS ne262 nin0)
    have f293_A : own_Af s T288.heap r8 .char 5 (fun j => .int (gd8 j)) := f276_A.keep Kq288 (ninS ne263 nin0)
    have f294_E : Exa s T288.heap b18 "com/example/weaverbird/weaverbird/model/xml/Attributes" := f277_E.keep Kq288
    have At295 : own_At s T288.heap b18 nm39 sr39 ln39 ns39 dc39 sg39 vl39 ct83 vn92 fs83 fk250 (fun _ => .null) rl.2 := own_At.ko At281 Kq288 (fun x _ q => ninS (Nat.ne_of_lt (Nat.lt_of_le_of_lt q lt_vl_b261)) nin0) hO
    obtain ⟨Pp288, hPp288⟩ : ∃ z, z = own_p (own_kp bt B 0) 0 := ⟨_, rfl⟩
    have hp288 : v288.toInt = ((Pp288 : Nat) : Int) := by rw [hPp288]; exact hp_288
    have bP288 := own_p_le (own_kp bt B 0) 0
    rw [← hPp288] at bP288
    obtain ⟨oo288, hoo288⟩ : ∃ z, z = own_o (own_kp bt B 0) 0 (gd8 0) (fun _ => (0 : Int32)) := ⟨_, rfl⟩
    have Bo288 : own_B oo288 := by rw [hoo288]; exact own_B.o own_B.z (fB8 _)
    have f296_A : own_Af s T288.heap b261 .char 5 (fun j => .int (oo288 j)) := by rw [hoo288]; exact fA288
    obtain ⟨LL297, X297, N297⟩ : ∃ LL, Stand p l e room_1 (s.setVm T83.vm) m #[(.long i0), (.long i1), (.int i2), (.int i3)] below meth c T288 LL 16 337 ∧ Fr n0 LL := ⟨_, X288, N288⟩
    have pre298 : ∀ t, own_s p e below T288 m 171 #[.val (.long i0), .second, .val (.long i1), .second, iv i2, iv i3, rv r2, rv r8, iv na, iv nb_, iv (1 : Int32), rv b18, rv r8, iv nb_, rv r2, iv na, rv b261, iv (0 : Int32)] [(.int v288)] t → Steps p.tables e below S0 t := fun tX kX => pre287 _ (st288 _ kX)
    have pre299 : ∀ t, own_s p e below T288 m 184 #[.val (.long i0), .second, .val (.long i1), .second, iv i2, iv i3, rv r2, rv r8, iv na, iv nb_, iv (1 : Int32), rv b18, rv r8, iv nb_, rv r2, iv na, rv b261, iv v288] [(.int (1 : Int32)), (.int nb_), (.ref r8), (.ref r8), (.int v288), (.ref b261)] t → Steps p.tables e below S0 t := by
      intro tX kX
      refine pre298 _ ?_
      show own_s p e below T288 m 171 #[.val (.long i0), .second, .val (.long i1), .second, iv i2, iv i3, rv r2, rv r8, iv na, iv nb_, iv (1 : Int32), rv b18, rv r8, iv nb_, rv r2, iv na, rv b261, iv (0 : Int32)] [(.int v288)] _
      refine XS.istore X297.here hx rfl (hb hby at_171) rfl (l' := #[.val (.long i0), .second, .val (.long i1), .second, iv i2, iv i3, rv r2, rv r8, iv na, iv nb_, iv (1 : Int32), rv b18, rv r8, iv nb_, rv r2, iv na, rv b261, iv v288]) rfl ?_
      refine XS.aload X297.here hx rfl (hb hby at_173) rfl rfl ?_
      refine XS.iload X297.here hx rfl (hb hby at_175) rfl ?_
      show own_s p e below T288 m 177 #[.val (.long i0), .second, .val (.long i1), .second, iv i2, iv i3, rv r2, rv r8, iv na, iv nb_, iv (1 : Int32), rv b18, rv r8, iv nb_, rv r2, iv na, rv b261, iv v288] [(.int v288), (.ref b261)] _
      refine XS.aload X297.here hx rfl (hb hby at_177) rfl rfl ?_
      refine XS.aload X297.here hx rfl (hb hby at_179) rfl rfl ?_
      refine XS.iload X297.here hx rfl (hb hby at_181) rfl ?_
      show own_s p e below T288 m 183 #[.val (.long i0), .second, .val (.long i1), .second, iv i2, iv i3, rv r2, rv r8, iv na, iv nb_, iv (1 : Int32), rv b18, rv r8, iv nb_, rv r2, iv na, rv b261, iv v288] [(.int nb_), (.ref r8), (.ref r8), (.int v288), (.ref b261)] _
      refine XS.iconst X297.here hx rfl (hb hby at_183) ?_
      exact kX
    obtain ⟨_, _, ⟨T300, L300, k300, n300⟩, -, X300, ⟨Lc300, hQ300, l300, y300, z300⟩, st300⟩ := Jvm.LawKit.callS X297 hx (y := (⟨"com/example/weaverbird/weaverbird/model/xml/AttributesCollapsePinLaw", "keep", "([CII)Z"⟩ : MethodName)) hown (mvT hZ (hw _ (List.mem_of_getElem? (i := 76) rfl))) (mvT hZ (hw _ (List.mem_of_getElem? (i := 77) rfl))) (mvT hZ (hw _ (List.mem_of_getElem? (i := 2) rfl))) (mvT hZ (hw _ (List.mem_of_getElem? (i := 78) rfl))) (by decide) (backOf (W := 3) (rm5 l s a0 hw [] r8 nb_ (1 : Int32) gd8 bt B 1 T288.heap n0 Z288 f293_A hbE hB hB5 rfl (by decide)) hZ (hw _ (List.mem_of_getElem? (i := 78) rfl)) (hw _ (List.mem_of_getElem? (i := 2) rfl)) (by decide) (by decide)) (g := (mkF m 184 #[.val (.long i0), .second, .val (.long i1), .second, iv i2, iv i3, rv r2, rv r8, iv na, iv nb_, iv (1 : Int32), rv b18, rv r8, iv nb_, rv r2, iv na, rv b261, iv v288] [(.int (1 : Int32)), (.int nb_), (.ref r8), (.ref r8), (.int v288), (.ref b261)])) rfl (by rw [hml]; rfl) (argsL := [(.ref r8), (.int nb_), (.int (1 : Int32))]) (rest := [(.ref r8), (.int v288), (.ref b261)]) (lenOf pd0_5 rfl) rfl (by show 2 * 0 + _ ≤ _; exact Nat.le_of_eq rfl) (hb hby at_184) (fun _ _ => ⟨rfl, e288, (by decide : 16 + 0 ≤ _), (by decide : 337 + 0 ≤ _)⟩)
    dsimp only [Pt.U, Pt.locs, Pt.cells, Pt.slots] at X300 l300 y300 z300 st300 hQ300
    subst l300 y300 z300
    obtain ⟨rfl, Nq300, e300⟩ := hQ300
    have N300 := Fr.app N297 Nq300
    obtain ⟨LL301, X301, N301⟩ : ∃ LL, Stand p l e room_1 (s.setVm T83.vm) m #[(.long i0), (.long i1), (.int i2), (.int i3)] below meth c T300 LL 16 337 ∧ Fr n0 LL := ⟨_, X300, N300⟩
    have pre302 : ∀ t, own_s p e below T300 m 187 #[.val (.long i0), .second, .val (.long i1), .second, iv i2, iv i3, rv r2, rv r8, iv na, iv nb_, iv (1 : Int32), rv b18, rv r8, iv nb_, rv r2, iv na, rv b261, iv v288] [(.int (own_bi (own_kp bt B 1))), (.ref r8), (.int v288), (.ref b261)] t → Steps p.tables e below S0 t := fun tX kX => pre299 _ (st300 _ kX)
    have pre303 : ∀ t, own_s p e below T300 m 188 #[.val (.long i0), .second, .val (.long i1), .second, iv i2, iv i3, rv r2, rv r8, iv na, iv nb_, iv (1 : Int32), rv b18, rv r8, iv nb_, rv r2, iv na, rv b261, iv v288] [(.int (1 : Int32)), (.int (own_bi (own_kp bt B 1))), (.ref r8), (.int v288), (.ref b261)] t → Steps p.tables e below S0 t := by
      intro tX kX
      refine pre302 _ ?_
      show own_s p e below T300 m 187 #[.val (.long i0), .second, .val (.long i1), .second, iv i2, iv i3, rv r2, rv r8, iv na, iv nb_, iv (1 : Int32), rv b18, rv r8, iv nb_, rv r2, iv na, rv b261, iv v288] [(.int (own_bi (own_kp bt B 1))), (.ref r8), (.int v288), (.ref b261)] _
      refine XS.iconst X301.here hx rfl (hb hby at_187) ?_
      exact kX
    obtain ⟨_, _, ⟨T304, L304, k304, n304⟩, -, X304, ⟨Lc304, hQ304, l304, y304, z304⟩, st304⟩ := Jvm.LawKit.callS X301 hx (y := (⟨"com/example/weaverbird/weaverbird/model/xml/AttributesCollapsePinLaw", "put", "([CI[CZI)I"⟩ : MethodName)) hown (mvT hZ (hw _ (List.mem_of_getElem? (i := 79) rfl))) (mvT hZ (hw _ (List.mem_of_getElem? (i := 80) rfl))) (mvT hZ (hw _ (List.mem_of_getElem? (i := 2) rfl))) (mvT hZ (hw _ (List.mem_of_getElem? (i := 81) rfl))) (by decide) (backOf (W := 0) (rm6 l s a0 hw [] b261 v288 r8 (own_bi (own_kp bt B 1)) (1 : Int32) oo288 gd8 Pp288 (own_kp bt B 1) 1 T288.heap n0 Z288 f296_A f293_A Bo288 fB8 hp288 (by omega) rfl rfl (by decide) (Ne.symm ne263) g_b261) hZ (hw _ (List.mem_of_getElem? (i := 81) rfl)) (hw _ (List.mem_of_getElem? (i := 2) rfl)) (by decide) (by decide)) (g := (mkF m 188 #[.val (.long i0), .second, .val (.long i1), .second, iv i2, iv i3, rv r2, rv r8, iv na, iv nb_, iv (1 : Int32), rv b18, rv r8, iv nb_, rv r2, iv na, rv b261, iv v288] [(.int (1 : Int32)), (.int (own_bi (own_kp bt B 1))), (.ref r8), (.int v288), (.ref b261)])) rfl (by rw [hml]; rfl) (argsL := [(.ref b261), (.int v288), (.ref r8), (.int (own_bi (own_kp bt B 1))), (.int (1 : Int32))]) (rest := []) (lenOf pd0_6 rfl) rfl (by show 2 * 0 + _ ≤ _; exact Nat.le_of_eq rfl) (hb hby at_188) (fun _ _ => ⟨rfl, e300, (by decide : 16 + 0 ≤ _), (by decide : 337 + 0 ≤ _)⟩)
    dsimp only [Pt.U, Pt.locs, Pt.cells, Pt.slots] at X304 l304 y304 z304 st304 hQ304
    subst l304 y304 z304
    obtain ⟨⟨v304, rfl, hp_304⟩, Nq304, Kq304, fA304⟩ := hQ304
    have N304 := Fr.app N301 Nq304
    have e304 : T304.heap = T304.heap := rfl
    have Z304 : n0 ≤ T304.heap.size := Nat.le_trans Z288 Kq304.1
    have hk305 : T83.heap.size ≤ T304.heap.size := Nat.le_trans hk289 Kq304.1
    have C306 : CHr s own_EL s.vm h0 T83.vm T304.heap := C290.trans (CHr.keep Kq304 (sfS (own_sfA hZ.alike f296_A (fun q => nomatch q)) sf0) C290.1)
    have f307_B : own_Ss s T304.heap w cs := f291_B.keep Kq304 (nsS (own_ns f296_A) ns0)
    have f308_A : own_Af s T304.heap r2 .char 5 (fun j => .int (gd2 j)) := f292_A.keep Kq304 (ninS ne262 nin0)
    have f309_A : own_Af s T304.heap r8 .char 5 (fun j => .int (gd8 j)) := f293_A.keep Kq304 (ninS ne263 nin0)
    have f310_E : Exa s T304.heap b18 "com/example/weaverbird/weaverbird/model/xml/Attributes" := At295.1.keep Kq304
    have At311 : own_At s T304.heap b18 nm39 sr39 ln39 ns39 dc39 sg39 vl39 ct83 vn92 fs83 fk250 (fun _ => .null) rl.2 := own_At.ko At295 Kq304 (fun x _ q => ninS (Nat.ne_of_lt (Nat.lt_of_le_of_lt q lt_vl_b261)) nin0) hO
    obtain ⟨Pp304, hPp304⟩ : ∃ z, z = own_p (own_kp bt B 1) Pp288 := ⟨_, rfl⟩
    have hp304 : v304.toInt = ((Pp304 : Nat) : Int) := by rw [hPp304]; exact hp_304
    have bP304 := own_p_le (own_kp bt B 1) Pp288
    rw [← hPp304] at bP304
    obtain ⟨oo304, hoo304⟩ : ∃ z, z = own_o (own_kp bt B 1) Pp288 (gd8 1) oo288 := ⟨_, rfl⟩
    have Bo304 : own_B oo304 := by rw [hoo304]; exact own_B.o Bo288 (fB8 _)
    have f312_A : own_Af s T304.heap b261 .char 5 (fun j => .int (oo304 j)) := by rw [hoo304]; exact fA304
    obtain ⟨LL313, X313, N313⟩ : ∃ LL, Stand p l e room_1 (s.setVm T83.vm) m #[(.long i0), (.long i1), (.int i2), (.int i3)] below meth c T304 LL 16 337 ∧ Fr n0 LL := ⟨_, X304, N304⟩
    have pre314 : ∀ t, own_s p e below T304 m 191 #[.val (.long i0), .second, .val (.long i1), .second, iv i2, iv i3, rv r2, rv r8, iv na, iv nb_, iv (1 : Int32), rv b18, rv r8, iv nb_, rv r2, iv na, rv b261, iv v288] [(.int v304)] t → Steps p.tables e below S0 t := fun tX kX => pre303 _ (st304 _ kX)
    have pre315 : ∀ t, own_s p e below T304 m 204 #[.val (.long i0), .second, .val (.long i1), .second, iv i2, iv i3, rv r2, rv r8, iv na, iv nb_, iv (1 : Int32), rv b18, rv r8, iv nb_, rv r2, iv na, rv b261, iv v304] [(.int (2 : Int32)), (.int nb_), (.ref r8), (.ref r8), (.int v304), (.ref b261)] t → Steps p.tables e below S0 t := by
      intro tX kX
      refine pre314 _ ?_
      show own_s p e below T304 m 191 #[.val (.long i0), .second, .val (.long i1), .second, iv i2, iv i3, rv r2, rv r8, iv na, iv nb_, iv (1 : Int32), rv b18, rv r8, iv nb_, rv r2, iv na, rv b261, iv v288] [(.int v304)] _
      refine XS.istore X313.here hx rfl (hb hby at_191) rfl (l' := #[.val (.long i0), .second, .val (.long i1), .second, iv i2, iv i3, rv r2, rv r8, iv na, iv nb_, iv (1 : Int32), rv b18, rv r8, iv nb_, rv r2, iv na, rv b261, iv v304]) rfl ?_
      refine XS.aload X313.here hx rfl (hb hby at_193) rfl rfl ?_
      refine XS.iload X313.here hx rfl (hb hby at_195) rfl ?_
      show own_s p e below T304 m 197 #[.val (.long i0), .second, .val (.long i1), .second, iv i2, iv i3, rv r2, rv r8, iv na, iv nb_, iv (1 : Int32), rv b18, rv r8, iv nb_, rv r2, iv na, rv b261, iv v304] [(.int v304), (.ref b261)] _
      refine XS.aload X313.here hx rfl (hb hby at_197) rfl rfl ?_
      refine XS.aload X313.here hx rfl (hb hby at_199) rfl rfl ?_
      refine XS.iload X313.here hx rfl (hb hby at_201) rfl ?_
      show own_s p e below T304 m 203 #[.val (.long i0), .second, .val (.long i1), .second, iv i2, iv i3, rv r2, rv r8, iv na, iv nb_, iv (1 : Int32), rv b18, rv r8, iv nb_, rv r2, iv na, rv b261, iv v304] [(.int nb_), (.ref r8), (.ref r8), (.int v304), (.ref b261)] _
      refine XS.iconst X313.here hx rfl (hb hby at_203) ?_
      exact kX
    obtain ⟨_, _, ⟨T316, L316, k316, n316⟩, -, X316, ⟨Lc316, hQ316, l316, y316, z316⟩, st316⟩ := Jvm.LawKit.callS X313 hx (y := (⟨"com/example/weaverbird/weaverbird/model/xml/AttributesCollapsePinLaw", "keep", "([CII)Z"⟩ : MethodName)) hown (mvT hZ (hw _ (List.mem_of_getElem? (i := 76) rfl))) (mvT hZ (hw _ (List.mem_of_getElem? (i := 77) rfl))) (mvT hZ (hw _ (List.mem_of_getElem? (i := 2) rfl))) (mvT hZ (hw _ (List.mem_of_getElem? (i := 78) rfl))) (by decide) (backOf (W := 3) (rm5 l s a0 hw [] r8 nb_ (2 : Int32) gd8 bt B 2 T304.heap n0 Z304 f309_A hbE hB hB5 rfl (by decide)) hZ (hw _ (List.mem_of_getElem? (i := 78) rfl)) (hw _ (List.mem_of_getElem? (i := 2) rfl)) (by decide) (by decide)) (g := (mkF m 204 #[.val (.long i0), .second, .val (.long i1), .second, iv i2, iv i3, rv r2, rv r8, iv na, iv nb_, iv (1 : Int32), rv b18, rv r8, iv nb_, rv r2, iv na, rv b261, iv v304] [(.int (2 : Int32)), (.int nb_), (.ref r8), (.ref r8), (.int v304), (.ref b261)])) rfl (by rw [hml]; rfl) (argsL := [(.ref r8), (.int nb_), (.int (2 : Int32))]) (rest := [(.ref r8), (.int v304), (.ref b261)]) (lenOf pd0_5 rfl) rfl (by show 2 * 0 + _ ≤ _; exact Nat.le_of_eq rfl) (hb hby at_204) (fun _ _ => ⟨rfl, e304, (by decide : 16 + 0 ≤ _), (by decide : 337 + 0 ≤ _)⟩)
    dsimp only [Pt.U, Pt.locs, Pt.cells, Pt.slots] at X316 l316 y316 z316 st316 hQ316
    subst l316 y316 z316
    obtain ⟨rfl, Nq316, e316⟩ := hQ316
    have N316 := Fr.app N313 Nq316
    obtain ⟨LL317, X317, N317⟩ : ∃ LL, Stand p l e room_1 (s.setVm T83.vm) m #[(.long i0), (.long i1), (.int i2), (.int i3)] below meth c T316 LL 16 337 ∧ Fr n0 LL := ⟨_, X316, N316⟩
    have pre318 : ∀ t, own_s p e below T316 m 207 #[.val (.long i0), .second, .val (.long i1), .second, iv i2, iv i3, rv r2, rv r8, iv na, iv nb_, iv (1 : Int32), rv b18, rv r8, iv nb_, rv r2, iv na, rv b261, iv v304] [(.int (own_bi (own_kp bt B 2))), (.ref r8), (.int v304), (.ref b261)] t → Steps p.tables e below S0 t := fun tX kX => pre315 _ (st316 _ kX)
    have pre319 : ∀ t, own_s p e below T316 m 208 #[.val (.long i0), .second, .val (.long i1), .second, iv i2, iv i3, rv r2, rv r8, iv na, iv nb_, iv (1 : Int32), rv b18, rv r8, iv nb_, rv r2, iv na, rv b261, iv v304] [(.int (2 : Int32)), (.int (own_bi (own_kp bt B 2))), (.ref r8), (.int v304), (.ref b261)] t → Steps p.tables e below S0 t := by
      intro tX kX
      refine pre318 _ ?_
      show own_s p e below T316 m 207 #[.val (.long i0), .second, .val (.long i1), .second, iv i2, iv i3, rv r2, rv r8, iv na, iv nb_, iv (1 : Int32), rv b18, rv r8, iv nb_, rv r2, iv na, rv b261, iv v304] [(.int (own_bi (own_kp bt B 2))), (.ref r8), (.int v304), (.ref b261)] _
      refine XS.iconst X317.here hx rfl (hb hby at_207) ?_
      exact kX
    obtain ⟨_, _, ⟨T320, L320, k320, n320⟩, -, X320, ⟨Lc320, hQ320, l320, y320, z320⟩, st320⟩ := Jvm.LawKit.callS X317 hx (y := (⟨"com/example/weaverbird/weaverbird/model/xml/AttributesCollapsePinLaw", "put", "([CI[CZI)I"⟩ : MethodName)) hown (mvT hZ (hw _ (List.mem_of_getElem? (i := 79) rfl))) (mvT hZ (hw _ (List.mem_of_getElem? (i := 80) rfl))) (mvT hZ (hw _ (List.mem_of_getElem? (i := 2) rfl))) (mvT hZ (hw _ (List.mem_of_getElem? (i := 81) rfl))) (by decide) (backOf (W := 0) (rm6 l s a0 hw [] b261 v304 r8 (own_bi (own_kp bt B 2)) (2 : Int32) oo304 gd8 Pp304 (own_kp bt B 2) 2 T304.heap n0 Z304 f312_A f309_A Bo304 fB8 hp304 (by omega) rfl rfl (by decide) (Ne.symm ne263) g_b261) hZ (hw _ (List.mem_of_getElem? (i := 81) rfl)) (hw _ (List.mem_of_getElem? (i := 2) rfl)) (by decide) (by decide)) (g := (mkF m 208 #[.val (.long i0), .second, .val (.long i1), .second, iv i2, iv i3, rv r2, rv r8, iv na, iv nb_, iv (1 : Int32), rv b18, rv r8, iv nb_, rv r2, iv na, rv b261, iv v304] [(.int (2 : Int32)), (.int (own_bi (own_kp bt B 2))), (.ref r8), (.int v304), (.ref b261)])) rfl (by rw [hml]; rfl) (argsL := [(.ref b261), (.int v304), (.ref r8), (.int (own_bi (own_kp bt B 2))), (.int (2 : Int32))]) (rest := []) (lenOf pd0_6 rfl) rfl (by show 2 * 0 + _ ≤ _; exact Nat.le_of_eq rfl) (hb hby at_208) (fun _ _ => ⟨rfl, e316, (by decide : 16 + 0 ≤ _), (by decide : 337 + 0 ≤ _)⟩)
    dsimp only [Pt.U, Pt.locs, Pt.cells, Pt.slots] at X320 l320 y320 z320 st320 hQ320
    subst l320 y320 z320
    obtain ⟨⟨v320, rfl, hp_320⟩, Nq320, Kq320, fA320⟩ := hQ320
    have N320 := Fr.app N317 Nq320
    have e320 : T320.heap = T320.heap := rfl
    have Z320 : n0 ≤ T320.heap.size := Nat.le_trans Z304 Kq320.1
    have hk321 : T83.heap.size ≤ T320.heap.size := Nat.le_trans hk305 Kq320.1
    have C322 : CHr s own_EL s.vm h0 T83.vm T320.heap := C306.trans (CHr.keep Kq320 (sfS (own_sfA hZ.alike f312_A (fun q => nomatch q)) sf0) C306.1)
    have f323_B : own_Ss s T320.heap w cs := f307_B.keep Kq320 (nsS (own_ns f312_A) ns0)
    have f324_A : own_Af s T320.heap r2 .char 5 (fun j => .int (gd2 j)) := f308_A.keep Kq320 (ninS ne262 nin0)
    have f325_A : own_Af s T320.heap r8 .char 5 (fun j => .int (gd8 j)) := f309_A.keep Kq320 (ninS ne263 nin0)
    have f326_E : Exa s T320.heap b18 "com/example/weaverbird/weaverbird/model/xml/Attributes" := At311.1.keep Kq320
    have At327 : own_At s T320.heap b18 nm39 sr39 ln39 ns39 dc39 sg39 vl39 ct83 vn92 fs83 fk250 (fun _ => .null) rl.2 := own_At.ko At311 Kq320 (fun x _ q => ninS (Nat.ne_of_lt (Nat.lt_of_le_of_lt q lt_vl_b261)) nin0) hO
    obtain ⟨Pp320, hPp320⟩ : ∃ z, z = own_p (own_kp bt B 2) Pp304 := ⟨_, rfl⟩
    have hp320 : v320.toInt = ((Pp320 : Nat) : Int) := by rw [hPp320]; exact hp_320
    have bP320 := own_p_le (own_kp bt B 2) Pp304
    rw [← hPp320] at bP320
    obtain ⟨oo320, hoo320⟩ : ∃ z, z = own_o (own_kp bt B 2) Pp304 (gd8 2) oo304 := ⟨_, rfl⟩
    have Bo320 : own_B oo320 := by rw [hoo320]; exact own_B.o Bo304 (fB8 _)
    have f328_A : own_Af s T320.heap b261 .char 5 (fun j => .int (oo320 j)) := by rw [hoo320]; exact fA320
    obtain ⟨LL329, X329, N329⟩ : ∃ LL, Stand p l e room_1 (s.setVm T83.vm) m #[(.long i0), (.long i1), (.int i2), (.int i3)] below meth c T320 LL 16 337 ∧ Fr n0 LL := ⟨_, X320, N320⟩
    have pre330 : ∀ t, own_s p e below T320 m 211 #[.val (.long i0), .second, .val (.long i1), .second, iv i2, iv i3, rv r2, rv r8, iv na, iv nb_, iv (1 : Int32), rv b18, rv r8, iv nb_, rv r2, iv na, rv b261, iv v304] [(.int v320)] t → Steps p.tables e below S0 t := fun tX kX => pre319 _ (st320 _ kX)
    have pre331 : ∀ t, own_s p e below T320 m 224 #[.val (.long i0), .second, .val (.long i1), .second, iv i2, iv i3, rv r2, rv r8, iv na, iv nb_, iv (1 : Int32), rv b18, rv r8, iv nb_, rv r2, iv na, rv b261, iv v320] [(.int (3 : Int32)), (.int nb_), (.ref r8), (.ref r8), (.int v320), (.ref b261)] t → Steps p.tables e below S0 t := by
      intro tX kX
      refine pre330 _ ?_
      show own_s p e below T320 m 211 #[.val (.long i0), .second, .val (.long i1), .second, iv i2, iv i3, rv r2, rv r8, iv na, iv nb_, iv (1 : Int32), rv b18, rv r8, iv nb_, rv r2, iv na, rv b261, iv v304] [(.int v320)] _
      refine XS.istore X329.here hx rfl (hb hby at_211) rfl (l' := #[.val (.long i0), .second, .val (.long i1), .second, iv i2, iv i3, rv r2, rv r8, iv na, iv nb_, iv (1 : Int32), rv b18, rv r8, iv nb_, rv r2, iv na, rv b261, iv v320]) rfl ?_
      refine XS.aload X329.here hx rfl (hb hby at_213) rfl rfl ?_
      refine XS.iload X329.here hx rfl (hb hby at_215) rfl ?_
      show own_s p e below T320 m 217 #[.val (.long i0), .second, .val (.long i1), .second, iv i2, iv i3, rv r2, rv r8, iv na, iv nb_, iv (1 : Int32), rv b18, rv r8, iv nb_, rv r2, iv na, rv b261, iv v320] [(.int v320), (.ref b261)] _
      refine XS.aload X329.here hx rfl (hb hby at_217) rfl rfl ?_
      refine XS.aload X329.here hx rfl (hb hby at_219) rfl rfl ?_
      refine XS.iload X329.here hx rfl (hb hby at_221) rfl ?_
      show own_s p e below T320 m 223 #[.val (.long i0), .second, .val (.long i1), .second, iv i2, iv i3, rv r2, rv r8, iv na, iv nb_, iv (1 : Int32), rv b18, rv r8, iv nb_, rv r2, iv na, rv b261, iv v320] [(.int nb_), (.ref r8), (.ref r8), (.int v320), (.ref b261)] _
      refine XS.iconst X329.here hx rfl (hb hby at_223) ?_
      exact kX
    obtain ⟨_, _, ⟨T332, L332, k332, n332⟩, -, X332, ⟨Lc332, hQ332, l332, y332, z332⟩, st332⟩ := Jvm.LawKit.callS X329 hx (y := (⟨"com/example/weaverbird/weaverbird/model/xml/AttributesCollapsePinLaw", "keep", "([CII)Z"⟩ : MethodName)) hown (mvT hZ (hw _ (List.mem_of_getElem? (i := 76) rfl))) (mvT hZ (hw _ (List.mem_of_getElem? (i := 77) rfl))) (mvT hZ (hw _ (List.mem_of_getElem? (i := 2) rfl))) (mvT hZ (hw _ (List.mem_of_getElem? (i := 78) rfl))) (by decide) (backOf (W := 3) (rm5 l s a0 hw [] r8 nb_ (3 : Int32) gd8 bt B 3 T320.heap n0 Z320 f325_A hbE hB hB5 rfl (by decide)) hZ (hw _ (List.mem_of_getElem? (i := 78) rfl)) (hw _ (List.mem_of_getElem? (i := 2) rfl)) (by decide) (by decide)) (g := (mkF m 224 #[.val (.long i0), .second, .val (.long i1), .second, iv i2, iv i3, rv r2, rv r8, iv na, iv nb_, iv (1 : Int32), rv b18, rv r8, iv nb_, rv r2, iv na, rv b261, iv v320] [(.int (3 : Int32)), (.int nb_), (.ref r8), (.ref r8), (.int v320), (.ref b261)])) rfl (by rw [hml]; rfl) (argsL := [(.ref r8), (.int nb_), (.int (3 : Int32))]) (rest := [(.ref r8), (.int v320), (.ref b261)]) (lenOf pd0_5 rfl) rfl (by show 2 * 0 + _ ≤ _; exact Nat.le_of_eq rfl) (hb hby at_224) (fun _ _ => ⟨rfl, e320, (by decide : 16 + 0 ≤ _), (by decide : 337 + 0 ≤ _)⟩)
    dsimp only [Pt.U, Pt.locs, Pt.cells, Pt.slots] at X332 l332 y332 z332 st332 hQ332
    subst l332 y332 z332
    obtain ⟨rfl, Nq332, e332⟩ := hQ332
    have N332 := Fr.app N329 Nq332
    obtain ⟨LL333, X333, N333⟩ : ∃ LL, Stand p l e room_1 (s.setVm T83.vm) m #[(.long i0), (.long i1), (.int i2), (.int i3)] below meth c T332 LL 16 337 ∧ Fr n0 LL := ⟨_, X332, N332⟩
    have pre334 : ∀ t, own_s p e below T332 m 227 #[.val (.long i0), .second, .val (.long i1), .second, iv i2, iv i3, rv r2, rv r8, iv na, iv nb_, iv (1 : Int32), rv b18, rv r8, iv nb_, rv r2, iv na, rv b261, iv v320] [(.int (own_bi (own_kp bt B 3))), (.ref r8), (.int v320), (.ref b261)] t → Steps p.tables e below S0 t := fun tX kX => pre331 _ (st332 _ kX)
    have pre335 : ∀ t, own_s p e below T332 m 228 #[.val (.long i0), .second, .val (.long i1), .second, iv i2, iv i3, rv r2, rv r8, iv na, iv nb_, iv (1 : Int32), rv b18, rv r8, iv nb_, rv r2, iv na, rv b261, iv v320] [(.int (3 : Int32)), (.int (own_bi (own_kp bt B 3))), (.ref r8), (.int v320), (.ref b261)] t → Steps p.tables e below S0 t := by
      intro tX kX
      refine pre334 _ ?_
      show own_s p e below T332 m 227 #[.val (.long i0), .second, .val (.long i1), .second, iv i2, iv i3, rv r2, rv r8, iv na, iv nb_, iv (1 : Int32), rv b18, rv r8, iv nb_, rv r2, iv na, rv b261, iv v320] [(.int (own_bi (own_kp bt B 3))), (.ref r8), (.int v320), (.ref b261)] _
      refine XS.iconst X333.here hx rfl (hb hby at_227) ?_
      exact kX
    obtain ⟨_, _, ⟨T336, L336, k336, n336⟩, -, X336, ⟨Lc336, hQ336, l336, y336, z336⟩, st336⟩ := Jvm.LawKit.callS X333 hx (y := (⟨"com/example/weaverbird/weaverbird/model/xml/AttributesCollapsePinLaw", "put", "([CI[CZI)I"⟩ : MethodName)) hown (mvT hZ (hw _ (List.mem_of_getElem? (i := 79) rfl))) (mvT hZ (hw _ (List.mem_of_getElem? (i := 80) rfl))) (mvT hZ (hw _ (List.mem_of_getElem? (i := 2) rfl))) (mvT hZ (hw _ (List.mem_of_getElem? (i := 81) rfl))) (by decide) (backOf (W := 0) (rm6 l s a0 hw [] b261 v320 r8 (own_bi (own_kp bt B 3)) (3 : Int32) oo320 gd8 Pp320 (own_kp bt B 3) 3 T320.heap n0 Z320 f328_A f325_A Bo320 fB8 hp320 (by omega) rfl rfl (by decide) (Ne.symm ne263) g_b261) hZ (hw _ (List.mem_of_getElem? (i := 81) rfl)) (hw _ (List.mem_of_getElem? (i := 2) rfl)) (by decide) (by decide)) (g := (mkF m 228 #[.val (.long i0), .second, .val (.long i1), .second, iv i2, iv i3, rv r2, rv r8, iv na, iv nb_, iv (1 : Int32), rv b18, rv r8, iv nb_, rv r2, iv na, rv b261, iv v320] [(.int (3 : Int32)), (.int (own_bi (own_kp bt B 3))), (.ref r8), (.int v320), (.ref b261)])) rfl (by rw [hml]; rfl) (argsL := [(.ref b261), (.int v320), (.ref r8), (.int (own_bi (own_kp bt B 3))), (.int (3 : Int32))]) (rest := []) (lenOf pd0_6 rfl) rfl (by show 2 * 0 + _ ≤ _; exact Nat.le_of_eq rfl) (hb hby at_228) (fun _ _ => ⟨rfl, e332, (by decide : 16 + 0 ≤ _), (by decide : 337 + 0 ≤ _)⟩)
    dsimp only [Pt.U, Pt.locs, Pt.cells, Pt.slots] at X336 l336 y336 z336 st336 hQ336
    subst l336 y336 z336
    obtain ⟨⟨v336, rfl, hp_336⟩, Nq336, Kq336, fA336⟩ := hQ336
    have N336 := Fr.app N333 Nq336
    have e336 : T336.heap = T336.heap := rfl
    have Z336 : n0 ≤ T336.heap.size := Nat.le_trans Z320 Kq336.1
    have hk337 : T83.heap.size ≤ T336.heap.size := Nat.le_trans hk321 Kq336.1
    have C338 : CHr s own_EL s.vm h0 T83.vm T336.heap := C322.trans (CHr.keep Kq336 (sfS (own_sfA hZ.alike f328_A (fun q => nomatch q)) sf0) C322.1)
    have f339_B : own_Ss s T336.heap w cs := f323_B.keep Kq336 (nsS (own_ns f328_A) ns0)
    have f340_A : own_Af s T336.heap r2 .char 5 (fun j => .int (gd2 j)) := f324_A.keep Kq336 (ninS ne262 nin0)
    have f341_A : own_Af s T336.heap r8 .char 5 (fun j => .int (gd8 j)) := f325_A.keep Kq336 (ninS ne263 nin0)
    have f342_E : Exa s T336.heap b18 "com/example/weaverbird/weaverbird/model/xml/Attributes" := At327.1.keep Kq336
    have At343 : own_At s T336.heap b18 nm39 sr39 ln39 ns39 dc39 sg39 vl39 ct83 vn92 fs83 fk250 (fun _ => .null) rl.2 := own_At.ko At327 Kq336 (fun x _ q => ninS (Nat.ne_of_lt (Nat.lt_of_le_of_lt q lt_vl_b261)) nin0) hO
    obtain ⟨Pp336, hPp336⟩ : ∃ z, z = own_p (own_kp bt B 3) Pp320 := ⟨_, rfl⟩
    have hp336 : v336.toInt = ((Pp336 : Nat) : Int) := by rw [hPp336]; exact hp_336
    have bP336 := own_p_le (own_kp bt B 3) Pp320
    rw [← hPp336] at bP336
    obtain ⟨oo336, hoo336⟩ : ∃ z, z = own_o (own_kp bt B 3) Pp320 (gd8 3) oo320 := ⟨_, rfl⟩
    have Bo336 : own_B oo336 := by rw [hoo336]; exact own_B.o Bo320 (fB8 _)
    have f344_A : own_Af s T336.heap b261 .char 5 (fun j => .int (oo336 j)) := by rw [hoo336]; exact fA336
    obtain ⟨LL345, X345, N345⟩ : ∃ LL, Stand p l e room_1 (s.setVm T83.vm) m #[(.long i0), (.long i1), (.int i2), (.int i3)] below meth c T336 LL 16 337 ∧ Fr n0 LL := ⟨_, X336, N336⟩
    have pre346 : ∀ t, own_s p e below T336 m 231 #[.val (.long i0), .second, .val (.long i1), .second, iv i2, iv i3, rv r2, rv r8, iv na, iv nb_, iv (1 : Int32), rv b18, rv r8, iv nb_, rv r2, iv na, rv b261, iv v320] [(.int v336)] t → Steps p.tables e below S0 t := fun tX kX => pre335 _ (st336 _ kX)
    have pre347 : ∀ t, own_s p e below T336 m 244 #[.val (.long i0), .second, .val (.long i1), .second, iv i2, iv i3, rv r2, rv r8, iv na, iv nb_, iv (1 : Int32), rv b18, rv r8, iv nb_, rv r2, iv na, rv b261, iv v336] [(.int (4 : Int32)), (.int nb_), (.ref r8), (.ref r8), (.int v336), (.ref b261)] t → Steps p.tables e below S0 t := by
      intro tX kX
      refine pre346 _ ?_
      show own_s p e below T336 m 231 #[.val (.long i0), .second, .val (.long i1), .second, iv i2, iv i3, rv r2, rv r8, iv na, iv nb_, iv (1 : Int32), rv b18, rv r8, iv nb_, rv r2, iv na, rv b261, iv v320] [(.int v336)] _
      refine XS.istore X345.here hx rfl (hb hby at_231) rfl (l' := #[.val (.long i0), .second, .val (.long i1), .second, iv i2, iv i3, rv r2, rv r8, iv na, iv nb_, iv (1 : Int32), rv b18, rv r8, iv nb_, rv r2, iv na, rv b261, iv v336]) rfl ?_
      refine XS.aload X345.here hx rfl (hb hby at_233) rfl rfl ?_
      refine XS.iload X345.here hx rfl (hb hby at_235) rfl ?_
      show own_s p e below T336 m 237 #[.val (.long i0), .second, .val (.long i1), .second, iv i2, iv i3, rv r2, rv r8, iv na, iv nb_, iv (1 : Int32), rv b18, rv r8, iv nb_, rv r2, iv na, rv b261, iv v336] [(.int v336), (.ref b261)] _
      refine XS.aload X345.here hx rfl (hb hby at_237) rfl rfl ?_
      refine XS.aload X345.here hx rfl (hb hby at_239) rfl rfl ?_
      refine XS.iload X345.here hx rfl (hb hby at_241) rfl ?_
      show own_s p e below T336 m 243 #[.val (.long i0), .second, .val (.long i1), .second, iv i2, iv i3, rv r2, rv r8, iv na, iv nb_, iv (1 : Int32), rv b18, rv r8, iv nb_, rv r2, iv na, rv b261, iv v336] [(.int nb_), (.ref r8), (.ref r8), (.int v336), (.ref b261)] _
      refine XS.iconst X345.here hx rfl (hb hby at_243) ?_
      exact kX
    obtain ⟨_, _, ⟨T348, L348, k348, n348⟩, -, X348, ⟨Lc348, hQ348, l348, y348, z348⟩, st348⟩ := Jvm.LawKit.callS X345 hx (y := (⟨"com/example/weaverbird/weaverbird/model/xml/AttributesCollapsePinLaw", "keep", "([CII)Z"⟩ : MethodName)) hown (mvT hZ (hw _ (List.mem_of_getElem? (i := 76) rfl))) (mvT hZ (hw _ (List.mem_of_getElem? (i := 77) rfl))) (mvT hZ (hw _ (List.mem_of_getElem? (i := 2) rfl))) (mvT hZ (hw _ (List.mem_of_getElem? (i := 78) rfl))) (by decide) (backOf (W := 3) (rm5 l s a0 hw [] r8 nb_ (4 : Int32) gd8 bt B 4 T336.heap n0 Z336 f341_A hbE hB hB5 rfl (by decide)) hZ (hw _ (List.mem_of_getElem? (i := 78) rfl)) (hw _ (List.mem_of_getElem? (i := 2) rfl)) (by decide) (by decide)) (g := (mkF m 244 #[.val (.long i0), .second, .val (.long i1), .second, iv i2, iv i3, rv r2, rv r8, iv na, iv nb_, iv (1 : Int32), rv b18, rv r8, iv nb_, rv r2, iv na, rv b261, iv v336] [(.int (4 : Int32)), (.int nb_), (.ref r8), (.ref r8), (.int v336), (.ref b261)])) rfl (by rw [hml]; rfl) (argsL := [(.ref r8), (.int nb_), (.int (4 : Int32))]) (rest := [(.ref r8), (.int v336), (.ref b261)]) (lenOf pd0_5 rfl) rfl (by show 2 * 0 + _ ≤ _; exact Nat.le_of_eq rfl) (hb hby at_244) (fun _ _ => ⟨rfl, e336, (by decide : 16 + 0 ≤ _), (by decide : 337 + 0 ≤ _)⟩)
    dsimp only [Pt.U, Pt.locs, Pt.cells, Pt.slots] at X348 l348 y348 z348 st348 hQ348
    subst l348 y348 z348
    obtain ⟨rfl, Nq348, e348⟩ := hQ348
    have N348 := Fr.app N345 Nq348
    obtain ⟨LL349, X349, N349⟩ : ∃ LL, Stand p l e room_1 (s.setVm T83.vm) m #[(.long i0), (.long i1), (.int i2), (.int i3)] below meth c T348 LL 16 337 ∧ Fr n0 LL := ⟨_, X348, N348⟩
    have pre350 : ∀ t, own_s p e below T348 m 247 #[.val (.long i0), .second, .val (.long i1), .second, iv i2, iv i3, rv r2, rv r8, iv na, iv nb_, iv (1 : Int32), rv b18, rv r8, iv nb_, rv r2, iv na, rv b261, iv v336] [(.int (own_bi (own_kp bt B 4))), (.ref r8), (.int v336), (.ref b261)] t → Steps p.tables e below S0 t := fun tX kX => pre347 _ (st348 _ kX)
    have pre351 : ∀ t, own_s p e below T348 m 248 #[.val (.long i0), .second, .val (.long i1), .second, iv i2, iv i3, rv r2, rv r8, iv na, iv nb_, iv (1 : Int32), rv b18, rv r8, iv nb_, rv r2, iv na, rv b261, iv v336] [(.int (4 : Int32)), (.int (own_bi (own_kp bt B 4))), (.ref r8), (.int v336), (.ref b261)] t → Steps p.tables e below S0 t := by
      intro tX kX
      refine pre350 _ ?_
      show own_s p e below T348 m 247 #[.val (.long i0), .second, .val (.long i1), .second, iv i2, iv i3, rv r2, rv r8, iv na, iv nb_, iv (1 : Int32), rv b18, rv r8, iv nb_, rv r2, iv na, rv b261, iv v336] [(.int (own_bi (own_kp bt B 4))), (.ref r8), (.int v336), (.ref b261)] _
      refine XS.iconst X349.here hx rfl (hb hby at_247) ?_
      exact kX
    obtain ⟨_, _, ⟨T352, L352, k352, n352⟩, -, X352, ⟨Lc352, hQ352, l352, y352, z352⟩, st352⟩ := Jvm.LawKit.callS X349 hx (y := (⟨"com/example/weaverbird/weaverbird/model/xml/AttributesCollapsePinLaw", "put", "([CI[CZI)I"⟩ : MethodName)) hown (mvT hZ (hw _ (List.mem_of_getElem? (i := 79) rfl))) (mvT hZ (hw _ (List.mem_of_getElem? (i := 80) rfl))) (mvT hZ (hw _ (List.mem_of_getElem? (i := 2) rfl))) (mvT hZ (hw _ (List.mem_of_getElem? (i := 81) rfl))) (by decide) (backOf (W := 0) (rm6 l s a0 hw [] b261 v336 r8 (own_bi (own_kp bt B 4)) (4 : Int32) oo336 gd8 Pp336 (own_kp bt B 4) 4 T336.heap n0 Z336 f344_A f341_A Bo336 fB8 hp336 (by omega) rfl rfl (by decide) (Ne.symm ne263) g_b261) hZ (hw _ (List.mem_of_getElem? (i := 81) rfl)) (hw _ (List.mem_of_getElem? (i := 2) rfl)) (by decide) (by decide)) (g := (mkF m 248 #[.val (.long i0), .second, .val (.long i1), .second, iv i2, iv i3, rv r2, rv r8, iv na, iv nb_, iv (1 : Int32), rv b18, rv r8, iv nb_, rv r2, iv na, rv b261, iv v336] [(.int (4 : Int32)), (.int (own_bi (own_kp bt B 4))), (.ref r8), (.int v336), (.ref b261)])) rfl (by rw [hml]; rfl) (argsL := [(.ref b261), (.int v336), (.ref r8), (.int (own_bi (own_kp bt B 4))), (.int (4 : Int32))]) (rest := []) (lenOf pd0_6 rfl) rfl (by show 2 * 0 + _ ≤ _; exact Nat.le_of_eq rfl) (hb hby at_248) (fun _ _ => ⟨rfl, e348, (by decide : 16 + 0 ≤ _), (by decide : 337 + 0 ≤ _)⟩)
    dsimp only [Pt.U, Pt.locs, Pt.cells, Pt.slots] at X352 l352 y352 z352 st352 hQ352
    subst l352 y352 z352
    obtain ⟨⟨v352, rfl, hp_352⟩, Nq352, Kq352, fA352⟩ := hQ352
    have N352 := Fr.app N349 Nq352
    have e352 : T352.heap = T352.heap := rfl
    have Z352 : n0 ≤ T352.heap.size := Nat.le_trans Z336 Kq352.1
    have hk353 : T83.heap.size ≤ T352.heap.size := Nat.le_trans hk337 Kq352.1
    have C354 : CHr s own_EL s.vm h0 T83.vm T352.heap := C338.trans (CHr.keep Kq352 (sfS (own_sfA hZ.alike f344_A (fun q => nomatch q)) sf0) C338.1)
    have f355_B : own_Ss s T352.heap w cs := f339_B.keep Kq352 (nsS (own_ns f344_A) ns0)
    have f356_A : own_Af s T352.heap r2 .char 5 (fun j => .int (gd2 j)) := f340_A.keep Kq352 (ninS ne262 nin0)
    have f357_A : own_Af s T352.heap r8 .char 5 (fun j => .int (gd8 j)) := f341_A.keep Kq352 (ninS ne263 nin0)
    have f358_E : Exa s T352.heap b18 "com/example/weaverbird/weaverbird/model/xml/Attributes" := At343.1.keep Kq352
    have At359 : own_At s T352.heap b18 nm39 sr39 ln39 ns39 dc39 sg39 vl39 ct83 vn92 fs83 fk250 (fun _ => .null) rl.2 := own_At.ko At343 Kq352 (fun x _ q => ninS (Nat.ne_of_lt (Nat.lt_of_le_of_lt q lt_vl_b261)) nin0) hO
    obtain ⟨Pp352, hPp352⟩ : ∃ z, z = own_p (own_kp bt B 4) Pp336 := ⟨_, rfl⟩
    have hp352 : v352.toInt = ((Pp352 : Nat) : Int) := by rw [hPp352]; exact hp_352
    have bP352 := own_p_le (own_kp bt B 4) Pp336
    rw [← hPp352] at bP352
    obtain ⟨oo352, hoo352⟩ : ∃ z, z = own_o (own_kp bt B 4) Pp336 (gd8 4) oo336 := ⟨_, rfl⟩
    have Bo352 : own_B oo352 := by rw [hoo352]; exact own_B.o Bo336 (fB8 _)
    have f360_A : own_Af s T352.heap b261 .char 5 (fun j => .int (oo352 j)) := by rw [hoo352]; exact fA352
    have inv := own_inv5 (c := gd8) (b := bt) (n := B) hPp288 hPp304 hPp320 hPp336 hPp352 hoo288 hoo304 hoo320 hoo336 hoo352
    rw [hbt] at inv
    obtain ⟨q1, q2, q3, q4⟩ := own_law (S := A) (n := B) (g0 := gv) (by omega) hrl (fun i hi => by rw [← hbt, hbE i hi, hcc i hi]) hcc inv
    rw [q1] at hend
    obtain ⟨LL361, X361, N361⟩ : ∃ LL, Stand p l e room_1 (s.setVm T83.vm) m #[(.long i0), (.long i1), (.int i2), (.int i3)] below meth c T352 LL 16 337 ∧ Fr n0 LL := ⟨_, X352, N352⟩
    have pre362 : ∀ t, own_s p e below T352 m 251 #[.val (.long i0), .second, .val (.long i1), .second, iv i2, iv i3, rv r2, rv r8, iv na, iv nb_, iv (1 : Int32), rv b18, rv r8, iv nb_, rv r2, iv na, rv b261, iv v336] [(.int v352)] t → Steps p.tables e below S0 t := fun tX kX => pre351 _ (st352 _ kX)
    have pre363 : ∀ t, own_s p e below T352 m 255 #[.val (.long i0), .second, .val (.long i1), .second, iv i2, iv i3, rv r2, rv r8, iv na, iv nb_, iv (1 : Int32), rv b18, rv r8, iv nb_, rv r2, iv na, rv b261, iv v352] [(.ref b18)] t → Steps p.tables e below S0 t := by
      intro tX kX
      refine pre362 _ ?_
      show own_s p e below T352 m 251 #[.val (.long i0), .second, .val (.long i1), .second, iv i2, iv i3, rv r2, rv r8, iv na, iv nb_, iv (1 : Int32), rv b18, rv r8, iv nb_, rv r2, iv na, rv b261, iv v336] [(.int v352)] _
      refine XS.istore X361.here hx rfl (hb hby at_251) rfl (l' := #[.val (.long i0), .second, .val (.long i1), .second, iv i2, iv i3, rv r2, rv r8, iv na, iv nb_, iv (1 : Int32), rv b18, rv r8, iv nb_, rv r2, iv na, rv b261, iv v352]) rfl ?_
      refine XS.aload X361.here hx rfl (hb hby at_253) rfl rfl ?_
      exact kX
    obtain ⟨cq364, kq364, q364a, q364b, q364c⟩ := isOf hZ e352 At359.1
    obtain ⟨_, _, ⟨T364, L364, k364, n364⟩, -, X364, ⟨Lc364, hQ364, l364, y364, z364⟩, st364⟩ := X361.virtualBack hx (y := (⟨"com/example/weaverbird/weaverbird/model/xml/Attributes", "count", "()I"⟩ : MethodName)) (z := (⟨"com/example/weaverbird/weaverbird/model/xml/Attributes", "count", "()I"⟩ : MethodName)) hown (mvT hZ (hw _ (List.mem_of_getElem? (i := 82) rfl))) (mvT hZ (hw _ (List.mem_of_getElem? (i := 83) rfl))) (notFace_of_selects (args := #[]) (mvT hZ (hw _ (List.mem_of_getElem? (i := 85) rfl)))) (mvT hZ (hw _ (List.mem_of_getElem? (i := 85) rfl))) (mvT hZ (hw _ (List.mem_of_getElem? (i := 84) rfl))) (by decide) (backOf (W := 0) (rm7 l s a0 hw [] b18 ct83 T352.heap n0 Z352 At359.2.2.2.2.2.2.2.2.1) hZ (hw _ (List.mem_of_getElem? (i := 86) rfl)) (hw _ (List.mem_of_getElem? (i := 11) rfl)) (by decide) (by decide)) q364a q364c (g := (mkF m 255 #[.val (.long i0), .second, .val (.long i1), .second, iv i2, iv i3, rv r2, rv r8, iv na, iv nb_, iv (1 : Int32), rv b18, rv r8, iv nb_, rv r2, iv na, rv b261, iv v352] [(.ref b18)])) rfl (by rw [hml]; rfl) (Steps.refl _) (argsL := []) (rest := []) (lenOf pd0_7 rfl) rfl (by show 2 * 0 + _ ≤ _; exact Nat.le_of_eq rfl) (hb hby at_255) (fun _ _ => ⟨rfl, e352, (by decide : 16 + 0 ≤ _), (by decide : 337 + 0 ≤ _)⟩)
    dsimp only [Pt.U, Pt.locs, Pt.cells, Pt.slots] at X364 l364 y364 z364 st364 hQ364
    subst l364 y364 z364
    obtain ⟨rfl, Nq364, e364⟩ := hQ364
    have N364 := Fr.app N361 Nq364
    obtain ⟨LL365, X365, N365⟩ : ∃ LL, Stand p l e room_1 (s.setVm T83.vm) m #[(.long i0), (.long i1), (.int i2), (.int i3)] below meth c T364 LL 16 337 ∧ Fr n0 LL := ⟨_, X364, N364⟩
    have pre366 : ∀ t, own_s p e below T364 m 258 #[.val (.long i0), .second, .val (.long i1), .second, iv i2, iv i3, rv r2, rv r8, iv na, iv nb_, iv (1 : Int32), rv b18, rv r8, iv nb_, rv r2, iv na, rv b261, iv v352] [(.int ct83)] t → Steps p.tables e below S0 t := fun tX kX => pre363 _ (st364.trans kX)
    have i2c : (2 : Int32).toInt = 2 := rfl
    have hct2 := hct83
    have pre367 : ∀ t, own_s p e below T364 m 266 #[.val (.long i0), .second, .val (.long i1), .second, iv i2, iv i3, rv r2, rv r8, iv na, iv nb_, iv (1 : Int32), rv b18, rv r8, iv nb_, rv r2, iv na, rv b261, iv v352] [(.int (1 : Int32)), (.ref b18)] t → Steps p.tables e below S0 t := by
      intro tX kX
      refine pre366 _ ?_
      show own_s p e below T364 m 258 #[.val (.long i0), .second, .val (.long i1), .second, iv i2, iv i3, rv r2, rv r8, iv na, iv nb_, iv (1 : Int32), rv b18, rv r8, iv nb_, rv r2, iv na, rv b261, iv v352] [(.int ct83)] _
      refine XS.iconst X365.here hx rfl (hb hby at_258) ?_
      refine XS.icmpNo X365.here hx rfl (hb hby at_259) rfl (teq (own_eqI (show (ct83).toInt = ((2 : Int32)).toInt from (by omega : (ct83).toInt = (2 : Int))))).2 ?_
      refine XS.aload X365.here hx rfl (hb hby at_262) rfl rfl ?_
      show own_s p e below T364 m 264 #[.val (.long i0), .second, .val (.long i1), .second, iv i2, iv i3, rv r2, rv r8, iv na, iv nb_, iv (1 : Int32), rv b18, rv r8, iv nb_, rv r2, iv na, rv b261, iv v352] [(.ref b18)] _
      refine XS.iload X365.here hx rfl (hb hby at_264) rfl ?_
      exact kX
    obtain ⟨cq368, kq368, q368a, q368b, q368c⟩ := isOf hZ e364 At359.1
    obtain ⟨_, _, ⟨T368, L368, k368, n368⟩, -, X368, hSq368, gr368, ⟨Lc368, hQ368, l368, y368, z368, Cq368⟩, st368⟩ := X365.virtualBackS hx (y := (⟨"com/example/weaverbird/weaverbird/model/xml/Attributes", "value", "(I)Ljava/lang/String;"⟩ : MethodName)) (z := (⟨"com/example/weaverbird/weaverbird/model/xml/Attributes", "value", "(I)Ljava/lang/String;"⟩ : MethodName)) hown (mvT hZ (hw _ (List.mem_of_getElem? (i := 87) rfl))) (mvT hZ (hw _ (List.mem_of_getElem? (i := 88) rfl))) (notFace_of_selects (args := #[]) (mvT hZ (hw _ (List.mem_of_getElem? (i := 90) rfl)))) (mvT hZ (hw _ (List.mem_of_getElem? (i := 90) rfl))) (mvT hZ (hw _ (List.mem_of_getElem? (i := 89) rfl))) (by decide) (backOfSH (s := s) (vm0 := T83.vm) (W := 0) (rm43 l s a0 hw [] b18 (1 : Int32) nm39 sr39 ln39 ns39 dc39 sg39 vl39 ct83 vn92 fs83 fk250 (fun _ => .null) rl.2 w cs A Pp352 1 T352.heap n0 Z352 At359 hO g_b18 Brl hv f355_B hc rfl (by decide) rfl s1 hend (by omega) (by omega)) hZ (hw _ (List.mem_of_getElem? (i := 91) rfl)) (hw _ (List.mem_of_getElem? (i := 11) rfl)) (by decide) (by decide) hEL C354.1) q368a q368c (g := (mkF m 266 #[.val (.long i0), .second, .val (.long i1), .second, iv i2, iv i3, rv r2, rv r8, iv na, iv nb_, iv (1 : Int32), rv b18, rv r8, iv nb_, rv r2, iv na, rv b261, iv v352] [(.int (1 : Int32)), (.ref b18)])) rfl (by rw [hml]; rfl) (Steps.refl _) (argsL := [(.int (1 : Int32))]) (rest := []) (lenOf pd0_8 rfl) rfl (by show 2 * 0 + _ ≤ _; exact Nat.le_of_eq rfl) (hb hby at_266) (fun _ _ => ⟨rfl, e364, (by decide : 16 + 3 ≤ _), (by decide : 337 + 12 ≤ _)⟩)
    dsimp only [Pt.U, Pt.locs, Pt.cells, Pt.slots] at X368 hSq368 gr368 l368 y368 z368 st368 hQ368 Cq368
    subst l368 y368 z368
    have hS368 : s.Since T368.vm T368.heap.size := foldS hS (by rw [e364]; exact hk353) hSq368 gr368
    have hZ368 : s.Warmed39 (s.setVm T368.vm).vm := State.Warmed39.trans (t := (s.setVm T83.vm)) hZ hSq368.1
    have hown368 : (s.setVm T368.vm).vm.findClass "com/example/weaverbird/weaverbird/model/xml/AttributesCollapsePinLaw" = some m.cls := by rw [show (s.setVm T368.vm).vm = T368.vm from rfl, hSq368.1.alike.findClass]; exact hown
    have hS := hS368
    have hZ := hZ368
    have hown := hown368
    obtain ⟨sa368, sb368, G368, fg368, rfl, Nq368, sE368, sC368, sV368, sA368, R368, hgo368, Ssq368, Kq368, At368⟩ := hQ368
    have N368 := Fr.app N365 Nq368
    have e368 : T368.heap = T368.heap := rfl
    have Z368 : n0 ≤ T368.heap.size := Nat.le_trans Z352 Kq368.1
    have C369 : CHr s own_EL s.vm h0 T368.vm T368.heap := C354.trans Cq368
    have f370_B : own_Ss s T368.heap w cs := f355_B.keep Kq368 (nsS (own_ns At359.2.2.2.2.2.2.2.2.2.2.2.2.2.2.2.1) ns0)
    have f371_A : own_Af s T368.heap r2 .char 5 (fun j => .int (gd2 j)) := f356_A.keep Kq368 (ninS ne51 nin0)
    have f372_A : own_Af s T368.heap r8 .char 5 (fun j => .int (gd8 j)) := f357_A.keep Kq368 (ninS ne59 nin0)
    have f373_E : Exa s T368.heap b18 "com/example/weaverbird/weaverbird/model/xml/Attributes" := At359.1.keep Kq368
    have f374_A : own_Af s T368.heap b261 .char 5 (fun j => .int (oo352 j)) := f360_A.keep Kq368 (ninS (Ne.symm ne271) nin0)
    obtain ⟨LL375, X375, N375⟩ : ∃ LL, Stand p l e room_1 (s.setVm T368.vm) m #[(.long i0), (.long i1), (.int i2), (.int i3)] below meth c T368 LL 19 349 ∧ Fr n0 LL := ⟨_, X368, N368⟩
    have pre376 : ∀ t, own_s p e below T368 m 269 #[.val (.long i0), .second, .val (.long i1), .second, iv i2, iv i3, rv r2, rv r8, iv na, iv nb_, iv (1 : Int32), rv b18, rv r8, iv nb_, rv r2, iv na, rv b261, iv v352] [(.ref sa368)] t → Steps p.tables e below S0 t := fun tX kX => pre367 _ (st368.trans kX)
    have pre377 : ∀ t, own_s p e below T368 m 273 #[.val (.long i0), .second, .val (.long i1), .second, iv i2, iv i3, rv r2, rv r8, iv na, iv nb_, iv (1 : Int32), rv b18, rv r8, iv nb_, rv r2, iv na, rv b261, iv v352] [(.int v352), (.ref b261), (.ref sa368)] t → Steps p.tables e below S0 t := by
      intro tX kX
      refine pre376 _ ?_
      show own_s p e below T368 m 269 #[.val (.long i0), .second, .val (.long i1), .second, iv i2, iv i3, rv r2, rv r8, iv na, iv nb_, iv (1 : Int32), rv b18, rv r8, iv nb_, rv r2, iv na, rv b261, iv v352] [(.ref sa368)] _
      refine XS.aload X375.here hx rfl (hb hby at_269) rfl rfl ?_
      refine XS.iload X375.here hx rfl (hb hby at_271) rfl ?_
      exact kX
    obtain ⟨_, _, ⟨T378, L378, k378, n378⟩, -, X378, ⟨Lc378, hQ378, l378, y378, z378⟩, st378⟩ := Jvm.LawKit.callS X375 hx (y := (⟨"com/example/weaverbird/weaverbird/model/xml/AttributesCollapsePinLaw", "same", "(Ljava/lang/String;[CI)Z"⟩ : MethodName)) hown (mvT hZ (hw _ (List.mem_of_getElem? (i := 113) rfl))) (mvT hZ (hw _ (List.mem_of_getElem? (i := 114) rfl))) (mvT hZ (hw _ (List.mem_of_getElem? (i := 2) rfl))) (mvT hZ (hw _ (List.mem_of_getElem? (i := 115) rfl))) (by decide) (backOf (W := 0) (rm21 l s a0 hw [] sa368 b261 v352 sb368 Pp352 G368 w cs oo352 T368.heap n0 Z368 hv f370_B hc sE368 sC368 sV368 sA368 f374_A hp352 (by omega) (fun j hj => by rw [← q3 j hj]; exact R368 j hj)) hZ (hw _ (List.mem_of_getElem? (i := 115) rfl)) (hw _ (List.mem_of_getElem? (i := 2) rfl)) (by decide) (by decide)) (g := (mkF m 273 #[.val (.long i0), .second, .val (.long i1), .second, iv i2, iv i3, rv r2, rv r8, iv na, iv nb_, iv (1 : Int32), rv b18, rv r8, iv nb_, rv r2, iv na, rv b261, iv v352] [(.int v352), (.ref b261), (.ref sa368)])) rfl (by rw [hml]; rfl) (argsL := [(.ref sa368), (.ref b261), (.int v352)]) (rest := []) (lenOf pd0_9 rfl) rfl (by show 2 * 0 + _ ≤ _; exact Nat.le_of_eq rfl) (hb hby at_273) (fun _ _ => ⟨rfl, e368, (by decide : 19 + 0 ≤ _), (by decide : 349 + 0 ≤ _)⟩)
    dsimp only [Pt.U, Pt.locs, Pt.cells, Pt.slots] at X378 l378 y378 z378 st378 hQ378
    subst l378 y378 z378
    obtain ⟨rfl, Nq378, e378⟩ := hQ378
    have N378 := Fr.app N375 Nq378
    obtain ⟨LL379, X379, N379⟩ : ∃ LL, Stand p l e room_1 (s.setVm T368.vm) m #[(.long i0), (.long i1), (.int i2), (.int i3)] below meth c T378 LL 19 349 ∧ Fr n0 LL := ⟨_, X378, N378⟩
    have pre380 : ∀ t, own_s p e below T378 m 276 #[.val (.long i0), .second, .val (.long i1), .second, iv i2, iv i3, rv r2, rv r8, iv na, iv nb_, iv (1 : Int32), rv b18, rv r8, iv nb_, rv r2, iv na, rv b261, iv v352] [(.int (1 : Int32))] t → Steps p.tables e below S0 t := fun tX kX => pre377 _ (st378 _ kX)
    have pre381 : ∀ t, own_s p e below T378 m 285 #[.val (.long i0), .second, .val (.long i1), .second, iv i2, iv i3, rv r2, rv r8, iv na, iv nb_, iv (1 : Int32), rv b18, rv r8, iv nb_, rv r2, iv na, rv b261, iv v352] [(.int ((1 : Int32) - (1 : Int32))), (.ref b18)] t → Steps p.tables e below S0 t := by
      intro tX kX
      refine pre380 _ ?_
      show own_s p e below T378 m 276 #[.val (.long i0), .second, .val (.long i1), .second, iv i2, iv i3, rv r2, rv r8, iv na, iv nb_, iv (1 : Int32), rv b18, rv r8, iv nb_, rv r2, iv na, rv b261, iv v352] [(.int (1 : Int32))] _
      refine XS.ifNo X379.here hx rfl (hb hby at_276) rfl ((if0 _ _).trans (feq (by decide : ¬ ((1 : Int32) = (0 : Int32)))).1) ?_
      refine XS.aload X379.here hx rfl (hb hby at_279) rfl rfl ?_
      refine XS.iconst X379.here hx rfl (hb hby at_281) ?_
      show own_s p e below T378 m 282 #[.val (.long i0), .second, .val (.long i1), .second, iv i2, iv i3, rv r2, rv r8, iv na, iv nb_, iv (1 : Int32), rv b18, rv r8, iv nb_, rv r2, iv na, rv b261, iv v352] [(.int (1 : Int32)), (.ref b18)] _
      refine XS.iload X379.here hx rfl (hb hby at_282) rfl ?_
      refine XS.isub X379.here hx rfl (hb hby at_284) rfl ?_
      exact kX
    rw [show ((1 : Int32) - (1 : Int32)) = (0 : Int32) from by decide] at pre381
    obtain ⟨cq382, kq382, q382a, q382b, q382c⟩ := isOf hZ e378 At368.1
    obtain ⟨_, _, ⟨T382, L382, k382, n382⟩, -, X382, hSq382, gr382, ⟨Lc382, hQ382, l382, y382, z382, Cq382⟩, st382⟩ := X379.virtualBackS hx (y := (⟨"com/example/weaverbird/weaverbird/model/xml/Attributes", "value", "(I)Ljava/lang/String;"⟩ : MethodName)) (z := (⟨"com/example/weaverbird/weaverbird/model/xml/Attributes", "value", "(I)Ljava/lang/String;"⟩ : MethodName)) hown (mvT hZ (hw _ (List.mem_of_getElem? (i := 87) rfl))) (mvT hZ (hw _ (List.mem_of_getElem? (i := 88) rfl))) (notFace_of_selects (args := #[]) (mvT hZ (hw _ (List.mem_of_getElem? (i := 90) rfl)))) (mvT hZ (hw _ (List.mem_of_getElem? (i := 90) rfl))) (mvT hZ (hw _ (List.mem_of_getElem? (i := 89) rfl))) (by decide) (backOfSH (s := s) (vm0 := T368.vm) (W := 0) (rm43 l s a0 hw [] b18 (0 : Int32) nm39 sr39 ln39 ns39 dc39 sg39 vl39 ct83 vn92 fs83 fk250 fg368 rl.2 w cs 0 A 0 T368.heap n0 Z368 At368 hO g_b18 Brl hv f370_B hc rfl (by decide) (hgo368 0 (by decide)) s0 (by rw [hko250 0 (by decide)]; exact l0) (by omega) (by omega)) hZ (hw _ (List.mem_of_getElem? (i := 91) rfl)) (hw _ (List.mem_of_getElem? (i := 11) rfl)) (by decide) (by decide) hEL C369.1) q382a q382c (g := (mkF m 285 #[.val (.long i0), .second, .val (.long i1), .second, iv i2, iv i3, rv r2, rv r8, iv na, iv nb_, iv (1 : Int32), rv b18, rv r8, iv nb_, rv r2, iv na, rv b261, iv v352] [(.int (0 : Int32)), (.ref b18)])) rfl (by rw [hml]; rfl) (Steps.refl _) (argsL := [(.int (0 : Int32))]) (rest := []) (lenOf pd0_8 rfl) rfl (by show 2 * 0 + _ ≤ _; exact Nat.le_of_eq rfl) (hb hby at_285) (fun _ _ => ⟨rfl, e378, (by decide : 19 + 3 ≤ _), (by decide : 349 + 12 ≤ _)⟩)
    dsimp only [Pt.U, Pt.locs, Pt.cells, Pt.slots] at X382 hSq382 gr382 l382 y382 z382 st382 hQ382 Cq382
    subst l382 y382 z382
    have hS382 : s.Since T382.vm T382.heap.size := foldS hS (by rw [e378]; exact (Nat.le_refl _)) hSq382 gr382
    have hZ382 : s.Warmed39 (s.setVm T382.vm).vm := State.Warmed39.trans (t := (s.setVm T368.vm)) hZ hSq382.1
    have hown382 : (s.setVm T382.vm).vm.findClass "com/example/weaverbird/weaverbird/model/xml/AttributesCollapsePinLaw" = some m.cls := by rw [show (s.setVm T382.vm).vm = T382.vm from rfl, hSq382.1.alike.findClass]; exact hown
    have hS := hS382
    have hZ := hZ382
    have hown := hown382
    obtain ⟨sa382, sb382, G382, fg382, rfl, Nq382, sE382, sC382, sV382, sA382, R382, hgo382, Ssq382, Kq382, At382⟩ := hQ382
    have N382 := Fr.app N379 Nq382
    have e382 : T382.heap = T382.heap := rfl
    have Z382 : n0 ≤ T382.heap.size := Nat.le_trans Z368 Kq382.1
    have C383 : CHr s own_EL s.vm h0 T382.vm T382.heap := C369.trans Cq382
    have f384_B : own_Ss s T382.heap w cs := f370_B.keep Kq382 (nsS (own_ns At368.2.2.2.2.2.2.2.2.2.2.2.2.2.2.2.1) ns0)
    have f385_A : own_Af s T382.heap r2 .char 5 (fun j => .int (gd2 j)) := f371_A.keep Kq382 (ninS ne51 nin0)
    have f386_A : own_Af s T382.heap r8 .char 5 (fun j => .int (gd8 j)) := f372_A.keep Kq382 (ninS ne59 nin0)
    have f387_E : Exa s T382.heap b18 "com/example/weaverbird/weaverbird/model/xml/Attributes" := At368.1.keep Kq382
    have f388_A : own_Af s T382.heap b261 .char 5 (fun j => .int (oo352 j)) := f374_A.keep Kq382 (ninS (Ne.symm ne271) nin0)
    obtain ⟨LL389, X389, N389⟩ : ∃ LL, Stand p l e room_1 (s.setVm T382.vm) m #[(.long i0), (.long i1), (.int i2), (.int i3)] below meth c T382 LL 22 361 ∧ Fr n0 LL := ⟨_, X382, N382⟩
    have pre390 : ∀ t, own_s p e below T382 m 288 #[.val (.long i0), .second, .val (.long i1), .second, iv i2, iv i3, rv r2, rv r8, iv na, iv nb_, iv (1 : Int32), rv b18, rv r8, iv nb_, rv r2, iv na, rv b261, iv v352] [(.ref sa382)] t → Steps p.tables e below S0 t := fun tX kX => pre381 _ (st382.trans kX)
    have pre391 : ∀ t, own_s p e below T382 m 292 #[.val (.long i0), .second, .val (.long i1), .second, iv i2, iv i3, rv r2, rv r8, iv na, iv nb_, iv (1 : Int32), rv b18, rv r8, iv nb_, rv r2, iv na, rv b261, iv v352] [(.int na), (.ref r2), (.ref sa382)] t → Steps p.tables e below S0 t := by
      intro tX kX
      refine pre390 _ ?_
      show own_s p e below T382 m 288 #[.val (.long i0), .second, .val (.long i1), .second, iv i2, iv i3, rv r2, rv r8, iv na, iv nb_, iv (1 : Int32), rv b18, rv r8, iv nb_, rv r2, iv na, rv b261, iv v352] [(.ref sa382)] _
      refine XS.aload X389.here hx rfl (hb hby at_288) rfl rfl ?_
      refine XS.iload X389.here hx rfl (hb hby at_290) rfl ?_
      exact kX
    obtain ⟨_, _, ⟨T392, L392, k392, n392⟩, -, X392, ⟨Lc392, hQ392, l392, y392, z392⟩, st392⟩ := Jvm.LawKit.callS X389 hx (y := (⟨"com/example/weaverbird/weaverbird/model/xml/AttributesCollapsePinLaw", "same", "(Ljava/lang/String;[CI)Z"⟩ : MethodName)) hown (mvT hZ (hw _ (List.mem_of_getElem? (i := 113) rfl))) (mvT hZ (hw _ (List.mem_of_getElem? (i := 114) rfl))) (mvT hZ (hw _ (List.mem_of_getElem? (i := 2) rfl))) (mvT hZ (hw _ (List.mem_of_getElem? (i := 115) rfl))) (by decide) (backOf (W := 0) (rm21 l s a0 hw [] sa382 r2 na sb382 A G382 w cs gd2 T382.heap n0 Z382 hv f384_B hc sE382 sC382 sV382 sA382 f385_A hA (by omega) (fun j hj => by rw [← cA j hj, show gv j = gv (0 + j) from by rw [Nat.zero_add], ← q4 (0 + j) (by omega)]; exact R382 j hj)) hZ (hw _ (List.mem_of_getElem? (i := 115) rfl)) (hw _ (List.mem_of_getElem? (i := 2) rfl)) (by decide) (by decide)) (g := (mkF m 292 #[.val (.long i0), .second, .val (.long i1), .second, iv i2, iv i3, rv r2, rv r8, iv na, iv nb_, iv (1 : Int32), rv b18, rv r8, iv nb_, rv r2, iv na, rv b261, iv v352] [(.int na), (.ref r2), (.ref sa382)])) rfl (by rw [hml]; rfl) (argsL := [(.ref sa382), (.ref r2), (.int na)]) (rest := []) (lenOf pd0_9 rfl) rfl (by show 2 * 0 + _ ≤ _; exact Nat.le_of_eq rfl) (hb hby at_292) (fun _ _ => ⟨rfl, e382, (by decide : 22 + 0 ≤ _), (by decide : 361 + 0 ≤ _)⟩)
    dsimp only [Pt.U, Pt.locs, Pt.cells, Pt.slots] at X392 l392 y392 z392 st392 hQ392
    subst l392 y392 z392
    obtain ⟨rfl, Nq392, e392⟩ := hQ392
    have N392 := Fr.app N389 Nq392
    obtain ⟨LL393, X393, N393⟩ : ∃ LL, Stand p l e room_1 (s.setVm T382.vm) m #[(.long i0), (.long i1), (.int i2), (.int i3)] below meth c T392 LL 22 361 ∧ Fr n0 LL := ⟨_, X392, N392⟩
    have pre394 : ∀ t, own_s p e below T392 m 295 #[.val (.long i0), .second, .val (.long i1), .second, iv i2, iv i3, rv r2, rv r8, iv na, iv nb_, iv (1 : Int32), rv b18, rv r8, iv nb_, rv r2, iv na, rv b261, iv v352] [(.int (1 : Int32))] t → Steps p.tables e below S0 t := fun tX kX => pre391 _ (st392 _ kX)
    have pre395 : ∀ t, own_s p e below T392 m 303 #[.val (.long i0), .second, .val (.long i1), .second, iv i2, iv i3, rv r2, rv r8, iv na, iv nb_, iv (1 : Int32), rv b18, rv r8, iv nb_, rv r2, iv na, rv b261, iv v352] [(.int (1 : Int32))] t → Steps p.tables e below S0 t := by
      intro tX kX
      refine pre394 _ ?_
      show own_s p e below T392 m 295 #[.val (.long i0), .second, .val (.long i1), .second, iv i2, iv i3, rv r2, rv r8, iv na, iv nb_, iv (1 : Int32), rv b18, rv r8, iv nb_, rv r2, iv na, rv b261, iv v352] [(.int (1 : Int32))] _
      refine XS.ifNo X393.here hx rfl (hb hby at_295) rfl ((if0 _ _).trans (feq (by decide : ¬ ((1 : Int32) = (0 : Int32)))).1) ?_
      refine XS.iconst X393.here hx rfl (hb hby at_298) ?_
      refine XS.goto X393.here hx rfl (pc0 := 299) (pc' := 303) rfl (hb hby at_299) (by decide) (by decide) ?_
      exact kX
    subst hS0
    have Xe := X393.mono (cells' := 22) (slots' := 361) (by decide) (by decide)
    obtain ⟨fsX, hr, hrun, hended, hend⟩ := Xe.leaveW hS (by rw [e392]; exact (Nat.le_refl _)) (v := (some (.int (1 : Int32)))) (fun h => by rw [Bd.returns] at h; cases h)
    exact ⟨_, _, pre395 _ (retN Xe hx (t := .boolean) Bd.returns (by simp) (hb hby at_303) hr), hrun, hended, _, _, rfl, ⟨rfl, hn0 ▸ N393⟩, hend⟩
set_option maxRecDepth 65536 in
set_option maxHeartbeats 40000000 in
theorem comes_1 {Post : Tables → Env → Array Value → State → Outcome → State → Prop} (hpost : ∀ tb e args s v u, (limb_1_1.after args s (.returned v) u = true ∧ limb_1_2.after args s (.returned v) u = true ∧ True) → FramedW s (.returned v) u (Jvm.fieldLocs frame_1_writes args s ++ Jvm.arrayLocs frame_1_arrays args s ++ Jvm.staticLocs frame_1_statics s) 48 2816 → Post tb e args s (.returned v) u) :
    ArmFor flags0 classFile x code maxLocals ret World_1 tables_1 room_1 Calls_1 rest_1 Pre_1 Post := by
  intro l hfl _ _ p e ha hc hk s m args below hf hA hF happ hP
  obtain ⟨hcalls, hrest, hpre⟩ := hP
  obtain ⟨-, -, -, hnamed, -, -, -, hat⟩ := (Spec.applies_iff hf).mp happ
  obtain ⟨hg, hn⟩ := and_e (Cond.before_iff.mp (show (Jvm.Cond.and given_1 narrow_1).before args s = true from hpre))
  obtain ⟨hcnt, q0⟩ := and_e hg
  obtain ⟨ha0, q1⟩ := and_e q0
  obtain ⟨ha1, q2⟩ := and_e q1
  obtain ⟨ha2, q3⟩ := and_e q2
  have ha3 := q3
  obtain ⟨w0, w1, w2, w3, rfl⟩ : ∃ w0 w1 w2 w3 : Value, args = #[w0, w1, w2, w3] := by
    have hs : args.size = 4 := by simpa [Cond.value, given_1] using hcnt
    obtain ⟨L⟩ := args
    match L, hs with
    | [w0, w1, w2, w3], _ => exact ⟨w0, w1, w2, w3, rfl⟩
  have hw := fun d (hd : d ∈ tables_1) => atoms_spec (ws := Jvm.Cond.code x code maxLocals ret :: tables_1) hat d (List.mem_cons_of_mem _ hd)
  have hfit : Fit s := fun {y c} hc i hi => by
    obtain ⟨ha, rfl⟩ := Array.getElem?_eq_some_iff.mp hc
    have q := List.all_eq_true.mp ((Array.all_eq_true_iff_forall_mem.mp hF) _ (Array.getElem_mem ha)) i (List.mem_range.mpr hi)
    simpa [Array.getElem?_eq_getElem hi] using q
  obtain ⟨i0, ei0⟩ := isL_v ha0
  obtain rfl : w0 = (.long i0) := Option.some.inj ei0
  obtain ⟨i1, ei1⟩ := isL_v ha1
  obtain rfl : w1 = (.long i1) := Option.some.inj ei1
  obtain ⟨i2, ei2⟩ := is_v ha2
  obtain rfl : w2 = (.int i2) := Option.some.inj ei2
  obtain ⟨i3, ei3⟩ := is_v ha3
  obtain rfl : w3 = (.int i3) := Option.some.inj ei3
  obtain ⟨hsets, hown0⟩ := atoms_of _ (rest_1_c_eq ▸ (show rest_1_c.before _ s = true from hrest))
  have hS := fun k (hk : k ∈ jdkStatics_1) => Cond.before_iff.mp (hsets k hk)
  obtain ⟨cs, evc⟩ := is_v (hS _ (List.mem_of_getElem? (i := 1) rfl))
  have S_c := Sta.start evc (Or.inl (hsets _ (List.mem_of_getElem? (i := 0) rfl)))
  obtain ⟨w, evw, hv⟩ := isR_v (hS _ (List.mem_of_getElem? (i := 8) rfl))
  have S_f := Sta.start evw (Or.inl (hsets _ (List.mem_of_getElem? (i := 7) rfl)))
  have hcw : Jvm.Lit.compactW.before _ s = true := hsets _ (List.mem_of_getElem? (i := 2) rfl)
  have hcz : ¬ cs = 0 := fun q => by
    have h2 := not_v (hS _ (List.mem_of_getElem? (i := 2) rfl))
    rw [eq_i evc (Term.int_eval 0) (congrArg Value.int q)] at h2
    cases h2
  obtain ⟨n, o, h1, h2, h3, _, L, rfl, ⟨rfl, N⟩, hq⟩ := rm0 l s _ hw tables_1 i0 i1 i2 i3 w cs hv ⟨S_f, S_c⟩ hcz (fun q hq => hcalls.1 q hq) hcw p e ha hc hk s m _ below hf ((Spec.applies_iff_loose hf).mp happ).1 ⟨rfl, rfl⟩ trivial
  refine ⟨n, _, h1, h2, h3, hpost _ _ _ _ _ _ ⟨Cond.after_iff.mpr rfl, Cond.after_iff.mpr (eq_i res_at (Term.int_eval (1)) rfl), trivial⟩ ⟨hq.1, hq.2.1, hq.2.2.1, (hq.2.2.2.sift fun y hy => Or.inr (N y hy)).mono (by decide) (by decide)⟩⟩
theorem main_1_1 : Claimed_1_1 := comes_1 fun _ _ _ _ _ _ h hF => ⟨h.1, hF⟩
theorem main_1_2 : Claimed_1_2 := comes_1 fun _ _ _ _ _ _ h hF => ⟨h.2.1, hF⟩
end Jvm.Pilot.@@N@@
namespace Jvm.Pilot.@@N@@
open Jvm Jvm.ClassFile Sem Op Lib Jvm.Free Jvm.Stand Jvm.Pilot.@@N@@.Jvm.D
/-! MADE BY PROGRAM (witnessworld.py) out of the Statement's table words and the real class files: 26 classes; the members and pool entries that the words name. The judged class is class 1, her method 1. -/
namespace start1
open Jvm.ClassFile
def u (s : String) : CpInfo := .utf8 (stringToUtf16 s)
/-- a pool by its gaps: so many unusable entries, then the entry; so many at the end -/
def gap : Nat → List CpInfo → List CpInfo
  | 0, r => r
  | n + 1, r => .unusable :: gap n r
def poolList (es : List (Nat × CpInfo)) (last : Nat) : List CpInfo := es.foldr (fun e r => gap e.1 (e.2 :: r)) (gap last [])
def pool (es : List (Nat × CpInfo)) (last : Nat) : Array CpInfo := ⟨poolList es last⟩
def fileOf (pool : Array CpInfo) (this : Nat) (attrs : Array Attribute := #[]) (ms : Array MethodInfo := #[]) (fl : Nat := 33) (sup : Nat := 0) (ifs : Array Nat := #[]) (fds : Array FieldInfo := #[]) : ClassFile where
  minorVersion := 0
  majorVersion := 65
  constantPool := pool
  accessFlags := fl
  thisClass := this
  superClass := sup
  interfaces := ifs
  fields := fds
  methods := ms
  attributes := attrs
def plain (name : String) (sup : Option ClassId) : Class where
  name := name
  kind := .ordinary
  loader := none
  accessFlags := 33
  super := sup
  interfaces := #[]
  cf := none
  fields := #[]
  methods := #[]
  instanceTypes := #[]
  staticTypes := #[]
  resolved := #[]
  callSites := []
  init := .initialized
  statics := none
  mirror := none

def pool0 : Array CpInfo := pool [(5, u "<init>"), (0, u "()V"), (1, .class_ 10), (1, u "java/lang/Object")] 113

def k0c0 : Code := { maxStack := 0, maxLocals := 1, code := object_method_1_code, exceptionTable := #[], attributes := #[] }
def k0m0 : Method := { name := "<init>", desc := "()V", sig := { parameters := [], returnType := none }, accessFlags := 1, code := some k0c0 }
/-- java/lang/Object -/
def k0 : Class := { plain "java/lang/Object" none with
  accessFlags := 33
  interfaces := #[]
  cf := some (fileOf pool0 8 #[] #[{ accessFlags := 1, nameIndex := 5, descriptorIndex := 6, attributes := #[] }] 33 0 #[] #[])
  fields := #[]
  methods := #[k0m0]
  instanceTypes := #[]
  staticTypes := #[]
  resolved := Array.replicate 124 none
  statics := none }

def pool1 : Array CpInfo := pool [(2, .class_ 4), (0, .nameAndType 5 6), (0, u "java/lang/Object"), (0, u "<init>"), (0, u "()V"), (0, .methodref 8 9), (0, .class_ 10), (0, .nameAndType 11 12), (0, u "com/example/weaverbird/weaverbird/model/xml/AttributesCollapsePinLaw"), (0, u "draw"), (0, u "(J)[C"), (0, .integer 2147483647), (0, .class_ 15), (0, u "com/example/weaverbird/weaverbird/model/xml/Attributes"), (0, .methodref 14 3), (0, .methodref 14 18), (0, .nameAndType 19 20), (0, u "add"), (0, u "(Lcom/example/weaverbird/weaverbird/model/xml/NameTable$QualifiedName;)V"), (0, .methodref 14 22), (0, .nameAndType 23 24), (0, u "append"), (0, u "([CII)V"), (0, .methodref 14 26), (0, .nameAndType 27 28), (0, u "collapse"), (0, u "(I)V"), (0, .methodref 8 30), (0, .nameAndType 31 32), (0, u "keep"), (0, u "([CII)Z"), (0, .methodref 8 34), (0, .nameAndType 35 36), (0, u "put"), (0, u "([CI[CZI)I"), (0, .methodref 14 38), (0, .nameAndType 39 40), (0, u "count"), (0, u "()I"), (0, .methodref 14 42), (0, .nameAndType 43 44), (0, u "value"), (0, u "(I)Ljava/lang/String;"), (0, .methodref 8 46), (0, .nameAndType 47 48), (0, u "same"), (0, u "(Ljava/lang/String;[CI)Z"), (0, .methodref 8 50), (0, .nameAndType 51 52), (0, u "ch"), (0, u "(JI)C"), (0, .methodref 8 54), (0, .nameAndType 55 32), (0, u "nb"), (0, .methodref 8 57), (0, .nameAndType 58 32), (0, u "later"), (0, .methodref 60 61), (0, .class_ 62), (0, .nameAndType 63 64), (0, u "java/lang/String"), (0, u "charAt"), (0, u "(I)C"), (0, .methodref 60 66), (0, .nameAndType 67 40), (0, u "length"), (0, .methodref 8 69), (0, .nameAndType 70 71), (0, u "eq"), (0, u "(Ljava/lang/String;[CII)Z"), (2, u "law"), (0, u "(JJII)Z")] 11

def k1m0 : Method := { name := "<init>", desc := "()V", sig := { parameters := [], returnType := none }, accessFlags := 1, code := none }
def k1c1 : Code := { maxStack := 6, maxLocals := 18, code := code, exceptionTable := #[], attributes := #[] }
def k1m1 : Method := { name := "law", desc := "(JJII)Z", sig := { parameters := [.long, .long, .int, .int], returnType := some .boolean }, accessFlags := 9, code := some k1c1 }
def k1c2 : Code := { maxStack := 5, maxLocals := 3, code := method_3_code, exceptionTable := #[], attributes := #[] }
def k1m2 : Method := { name := "draw", desc := "(J)[C", sig := { parameters := [.long], returnType := some (.array .char) }, accessFlags := 10, code := some k1c2 }
def k1c3 : Code := { maxStack := 4, maxLocals := 4, code := method_4_code, exceptionTable := #[], attributes := #[] }
def k1m3 : Method := { name := "ch", desc := "(JI)C", sig := { parameters := [.long, .int], returnType := some .char }, accessFlags := 10, code := some k1c3 }
def k1c4 : Code := { maxStack := 2, maxLocals := 3, code := method_5_code, exceptionTable := #[], attributes := #[] }
def k1m4 : Method := { name := "nb", desc := "([CII)Z", sig := { parameters := [(.array .char), .int, .int], returnType := some .boolean }, accessFlags := 10, code := some k1c4 }
def k1c5 : Code := { maxStack := 4, maxLocals := 3, code := method_6_code, exceptionTable := #[], attributes := #[] }
def k1m5 : Method := { name := "later", desc := "([CII)Z", sig := { parameters := [(.array .char), .int, .int], returnType := some .boolean }, accessFlags := 10, code := some k1c5 }
def k1c6 : Code := { maxStack := 3, maxLocals := 3, code := method_7_code, exceptionTable := #[], attributes := #[] }
def k1m6 : Method := { name := "keep", desc := "([CII)Z", sig := { parameters := [(.array .char), .int, .int], returnType := some .boolean }, accessFlags := 10, code := some k1c6 }
def k1c7 : Code := { maxStack := 4, maxLocals := 5, code := method_8_code, exceptionTable := #[], attributes := #[] }
def k1m7 : Method := { name := "put", desc := "([CI[CZI)I", sig := { parameters := [(.array .char), .int, (.array .char), .boolean, .int], returnType := some .int }, accessFlags := 10, code := some k1c7 }
def k1c8 : Code := { maxStack := 3, maxLocals := 4, code := method_9_code, exceptionTable := #[], attributes := #[] }
def k1m8 : Method := { name := "eq", desc := "(Ljava/lang/String;[CII)Z", sig := { parameters := [(.object "java/lang/String"), (.array .char), .int, .int], returnType := some .boolean }, accessFlags := 10, code := some k1c8 }
def k1c9 : Code := { maxStack := 4, maxLocals := 3, code := method_10_code, exceptionTable := #[], attributes := #[] }
def k1m9 : Method := { name := "same", desc := "(Ljava/lang/String;[CI)Z", sig := { parameters := [(.object "java/lang/String"), (.array .char), .int], returnType := some .boolean }, accessFlags := 10, code := some k1c9 }
/-- com/example/weaverbird/weaverbird/model/xml/AttributesCollapsePinLaw -/
def k1 : Class := { plain "com/example/weaverbird/weaverbird/model/xml/AttributesCollapsePinLaw" (some 0) with
  accessFlags := 49
  interfaces := #[]
  cf := some (fileOf pool1 8 #[] #[{ accessFlags := 1, nameIndex := 5, descriptorIndex := 6, attributes := #[] }, { accessFlags := 9, nameIndex := 74, descriptorIndex := 75, attributes := #[] }, { accessFlags := 10, nameIndex := 11, descriptorIndex := 12, attributes := #[] }, { accessFlags := 10, nameIndex := 51, descriptorIndex := 52, attributes := #[] }, { accessFlags := 10, nameIndex := 55, descriptorIndex := 32, attributes := #[] }, { accessFlags := 10, nameIndex := 58, descriptorIndex := 32, attributes := #[] }, { accessFlags := 10, nameIndex := 31, descriptorIndex := 32, attributes := #[] }, { accessFlags := 10, nameIndex := 35, descriptorIndex := 36, attributes := #[] }, { accessFlags := 10, nameIndex := 70, descriptorIndex := 71, attributes := #[] }, { accessFlags := 10, nameIndex := 47, descriptorIndex := 48, attributes := #[] }] 49 2 #[] #[])
  fields := #[]
  methods := #[k1m0, k1m1, k1m2, k1m3, k1m4, k1m5, k1m6, k1m7, k1m8, k1m9]
  instanceTypes := #[]
  staticTypes := #[]
  resolved := Array.replicate 87 none
  statics := none }

def pool2 : Array CpInfo := pool [(1, .methodref 2 3), (0, .class_ 4), (0, .nameAndType 5 6), (0, u "java/lang/Object"), (0, u "<init>"), (0, u "()V"), (0, .class_ 8), (0, u "com/example/weaverbird/weaverbird/model/xml/Attributes"), (0, .class_ 10), (0, u "com/example/weaverbird/weaverbird/model/xml/NameTable$QualifiedName"), (0, .fieldref 7 12), (0, .nameAndType 13 14), (0, u "names"), (0, u "[Lcom/example/weaverbird/weaverbird/model/xml/NameTable$QualifiedName;"), (0, .fieldref 7 16), (0, .nameAndType 17 18), (0, u "starts"), (0, u "[I"), (0, .fieldref 7 20), (0, .nameAndType 21 18), (0, u "lengths"), (0, .class_ 23), (0, u "java/lang/String"), (0, .fieldref 7 25), (0, .nameAndType 26 27), (0, u "namespaces"), (0, u "[Ljava/lang/String;"), (0, .fieldref 7 29), (0, .nameAndType 30 31), (0, u "declarations"), (0, u "[Z"), (0, .fieldref 7 33), (0, .nameAndType 34 27), (0, u "strings"), (0, .fieldref 7 36), (0, .nameAndType 37 38), (0, u "values"), (0, u "[C"), (0, .fieldref 7 40), (0, .nameAndType 41 18), (0, u "slots"), (0, .fieldref 7 43), (0, .nameAndType 44 45), (0, u "count"), (0, u "I"), (6, .fieldref 7 53), (0, .nameAndType 54 45), (0, u "valuesLength"), (12, .string 68), (0, u ""), (0, .methodref 7 70), (0, .nameAndType 71 72), (0, u "room"), (0, u "(I)V"), (0, .methodref 74 75), (0, .class_ 76), (0, .nameAndType 77 78), (0, u "java/lang/System"), (0, u "arraycopy"), (0, u "(Ljava/lang/Object;ILjava/lang/Object;II)V"), (0, .methodref 22 80), (0, .nameAndType 5 81), (0, u "([CII)V"), (35, .class_ 118), (0, u "com/example/weaverbird/weaverbird/model/xml/Attributes$ExpandedName"), (12, u "add"), (4, u "()I"), (21, u "PAIRED"), (2, u "PROBES"), (0, u "CROWDED"), (4, u "(Lcom/example/weaverbird/weaverbird/model/xml/NameTable$QualifiedName;)V"), (1, u "append"), (3, u "value"), (0, u "(I)Ljava/lang/String;"), (5, u "collapse")] 8

def k2c0 : Code := { maxStack := 2, maxLocals := 1, code := prog_157_method_1_code, exceptionTable := #[], attributes := #[] }
def k2m0 : Method := { name := "<init>", desc := "()V", sig := { parameters := [], returnType := none }, accessFlags := 0, code := some k2c0 }
def k2c1 : Code := { maxStack := 3, maxLocals := 3, code := prog_157_method_3_code, exceptionTable := #[], attributes := #[] }
def k2m1 : Method := { name := "add", desc := "(Lcom/example/weaverbird/weaverbird/model/xml/NameTable$QualifiedName;)V", sig := { parameters := [(.object "com/example/weaverbird/weaverbird/model/xml/NameTable$QualifiedName")], returnType := none }, accessFlags := 0, code := some k2c1 }
def k2c2 : Code := { maxStack := 5, maxLocals := 5, code := prog_157_method_5_code, exceptionTable := #[], attributes := #[] }
def k2m2 : Method := { name := "append", desc := "([CII)V", sig := { parameters := [(.array .char), .int, .int], returnType := none }, accessFlags := 0, code := some k2c2 }
def k2c3 : Code := { maxStack := 1, maxLocals := 1, code := prog_157_method_6_code, exceptionTable := #[], attributes := #[] }
def k2m3 : Method := { name := "count", desc := "()I", sig := { parameters := [], returnType := some .int }, accessFlags := 0, code := some k2c3 }
def k2c4 : Code := { maxStack := 8, maxLocals := 2, code := prog_157_method_8_code, exceptionTable := #[], attributes := #[] }
def k2m4 : Method := { name := "value", desc := "(I)Ljava/lang/String;", sig := { parameters := [.int], returnType := some (.object "java/lang/String") }, accessFlags := 0, code := some k2c4 }
def k2c5 : Code := { maxStack := 4, maxLocals := 7, code := prog_157_method_13_code, exceptionTable := #[], attributes := #[] }
def k2m5 : Method := { name := "collapse", desc := "(I)V", sig := { parameters := [.int], returnType := none }, accessFlags := 0, code := some k2c5 }
def k2c6 : Code := { maxStack := 5, maxLocals := 2, code := prog_157_method_23_code, exceptionTable := #[], attributes := #[] }
def k2m6 : Method := { name := "room", desc := "(I)V", sig := { parameters := [.int], returnType := none }, accessFlags := 2, code := some k2c6 }
/-- com/example/weaverbird/weaverbird/model/xml/Attributes -/
def k2 : Class := { plain "com/example/weaverbird/weaverbird/model/xml/Attributes" (some 0) with
  accessFlags := 32
  interfaces := #[]
  cf := some (fileOf pool2 7 #[.nestMembers #[117]] #[{ accessFlags := 0, nameIndex := 5, descriptorIndex := 6, attributes := #[] }, { accessFlags := 0, nameIndex := 131, descriptorIndex := 167, attributes := #[] }, { accessFlags := 0, nameIndex := 169, descriptorIndex := 81, attributes := #[] }, { accessFlags := 0, nameIndex := 44, descriptorIndex := 136, attributes := #[] }, { accessFlags := 0, nameIndex := 173, descriptorIndex := 174, attributes := #[] }, { accessFlags := 0, nameIndex := 180, descriptorIndex := 72, attributes := #[] }, { accessFlags := 2, nameIndex := 71, descriptorIndex := 72, attributes := #[] }] 32 2 #[] #[{ accessFlags := 26, nameIndex := 158, descriptorIndex := 45, attributes := #[] }, { accessFlags := 26, nameIndex := 161, descriptorIndex := 45, attributes := #[] }, { accessFlags := 26, nameIndex := 162, descriptorIndex := 45, attributes := #[] }, { accessFlags := 2, nameIndex := 13, descriptorIndex := 14, attributes := #[] }, { accessFlags := 2, nameIndex := 17, descriptorIndex := 18, attributes := #[] }, { accessFlags := 2, nameIndex := 21, descriptorIndex := 18, attributes := #[] }, { accessFlags := 2, nameIndex := 26, descriptorIndex := 27, attributes := #[] }, { accessFlags := 2, nameIndex := 30, descriptorIndex := 31, attributes := #[] }, { accessFlags := 2, nameIndex := 34, descriptorIndex := 27, attributes := #[] }, { accessFlags := 2, nameIndex := 44, descriptorIndex := 45, attributes := #[] }, { accessFlags := 2, nameIndex := 37, descriptorIndex := 38, attributes := #[] }, { accessFlags := 2, nameIndex := 54, descriptorIndex := 45, attributes := #[] }, { accessFlags := 2, nameIndex := 41, descriptorIndex := 18, attributes := #[] }])
  fields := #[{ name := "PAIRED", type := .int, accessFlags := 26, slot := 0, constantValue := 0 }, { name := "PROBES", type := .int, accessFlags := 26, slot := 1, constantValue := 0 }, { name := "CROWDED", type := .int, accessFlags := 26, slot := 2, constantValue := 0 }, { name := "names", type := (.array (.object "com/example/weaverbird/weaverbird/model/xml/NameTable$QualifiedName")), accessFlags := 2, slot := 0, constantValue := 0 }, { name := "starts", type := (.array .int), accessFlags := 2, slot := 1, constantValue := 0 }, { name := "lengths", type := (.array .int), accessFlags := 2, slot := 2, constantValue := 0 }, { name := "namespaces", type := (.array (.object "java/lang/String")), accessFlags := 2, slot := 3, constantValue := 0 }, { name := "declarations", type := (.array .boolean), accessFlags := 2, slot := 4, constantValue := 0 }, { name := "strings", type := (.array (.object "java/lang/String")), accessFlags := 2, slot := 5, constantValue := 0 }, { name := "count", type := .int, accessFlags := 2, slot := 6, constantValue := 0 }, { name := "values", type := (.array .char), accessFlags := 2, slot := 7, constantValue := 0 }, { name := "valuesLength", type := .int, accessFlags := 2, slot := 8, constantValue := 0 }, { name := "slots", type := (.array .int), accessFlags := 2, slot := 9, constantValue := 0 }]
  methods := #[k2m0, k2m1, k2m2, k2m3, k2m4, k2m5, k2m6]
  instanceTypes := #[(.array (.object "com/example/weaverbird/weaverbird/model/xml/NameTable$QualifiedName")), (.array .int), (.array .int), (.array (.object "java/lang/String")), (.array .boolean), (.array (.object "java/lang/String")), .int, (.array .char), .int, (.array .int)]
  staticTypes := #[.int, .int, .int]
  resolved := Array.replicate 189 none
  statics := none }

def pool3 : Array CpInfo := pool [(2, .class_ 4), (1, u "java/lang/Object"), (3, .class_ 10), (1, u "com/example/weaverbird/weaverbird/model/xml/NameTable$QualifiedName"), (0, u "written"), (0, u "[C"), (2, u "qualified"), (0, u "Ljava/lang/String;"), (2, u "prefix"), (2, u "localName"), (2, u "isQName"), (0, u "Z"), (1, .class_ 30), (1, u "com/example/weaverbird/weaverbird/model/xml/NameTable")] 16

/-- com/example/weaverbird/weaverbird/model/xml/NameTable$QualifiedName -/
def k3 : Class := { plain "com/example/weaverbird/weaverbird/model/xml/NameTable$QualifiedName" (some 0) with
  accessFlags := 32
  interfaces := #[]
  cf := some (fileOf pool3 8 #[.nestHost 28] #[] 32 2 #[] #[{ accessFlags := 18, nameIndex := 15, descriptorIndex := 16, attributes := #[] }, { accessFlags := 18, nameIndex := 19, descriptorIndex := 16, attributes := #[] }, { accessFlags := 18, nameIndex := 22, descriptorIndex := 16, attributes := #[] }, { accessFlags := 18, nameIndex := 25, descriptorIndex := 26, attributes := #[] }, { accessFlags := 18, nameIndex := 11, descriptorIndex := 12, attributes := #[] }])
  fields := #[{ name := "qualified", type := (.object "java/lang/String"), accessFlags := 18, slot := 0, constantValue := 0 }, { name := "prefix", type := (.object "java/lang/String"), accessFlags := 18, slot := 1, constantValue := 0 }, { name := "localName", type := (.object "java/lang/String"), accessFlags := 18, slot := 2, constantValue := 0 }, { name := "isQName", type := .boolean, accessFlags := 18, slot := 3, constantValue := 0 }, { name := "written", type := (.array .char), accessFlags := 18, slot := 4, constantValue := 0 }]
  methods := #[]
  instanceTypes := #[(.object "java/lang/String"), (.object "java/lang/String"), (.object "java/lang/String"), .boolean, (.array .char)]
  staticTypes := #[]
  resolved := Array.replicate 47 none
  statics := none }

def pool4 : Array CpInfo := pool [(1, .class_ 2), (0, u "java/io/Serializable"), (0, .class_ 4), (0, u "java/lang/Object")] 2

/-- java/io/Serializable -/
def k4 : Class := { plain "java/io/Serializable" (some 0) with
  accessFlags := 1537
  interfaces := #[]
  cf := some (fileOf pool4 1 #[] #[] 1537 3 #[] #[])
  fields := #[]
  methods := #[]
  instanceTypes := #[]
  staticTypes := #[]
  resolved := Array.replicate 7 none
  statics := none }

def pool5 : Array CpInfo := pool [(1, .class_ 2), (0, u "java/lang/Comparable"), (0, .class_ 4), (0, u "java/lang/Object")] 7

/-- java/lang/Comparable -/
def k5 : Class := { plain "java/lang/Comparable" (some 0) with
  accessFlags := 1537
  interfaces := #[]
  cf := some (fileOf pool5 1 #[] #[] 1537 3 #[] #[])
  fields := #[]
  methods := #[]
  instanceTypes := #[]
  staticTypes := #[]
  resolved := Array.replicate 12 none
  statics := none }

def pool6 : Array CpInfo := pool [(2, .class_ 4), (1, u "java/lang/CharSequence"), (42, .class_ 48), (0, u "java/lang/CharSequence$1CodePointIterator"), (10, .class_ 60), (0, u "java/lang/CharSequence$1CharIterator"), (5, .class_ 67), (0, u "java/lang/Object")] 63

/-- java/lang/CharSequence -/
def k6 : Class := { plain "java/lang/CharSequence" (some 0) with
  accessFlags := 1537
  interfaces := #[]
  cf := some (fileOf pool6 2 #[.nestMembers #[47, 59]] #[] 1537 66 #[] #[])
  fields := #[]
  methods := #[]
  instanceTypes := #[]
  staticTypes := #[]
  resolved := Array.replicate 131 none
  statics := none }

def pool7 : Array CpInfo := pool [(1, .class_ 2), (0, u "java/lang/constant/Constable"), (0, .class_ 4), (0, u "java/lang/Object")] 6

/-- java/lang/constant/Constable -/
def k7 : Class := { plain "java/lang/constant/Constable" (some 0) with
  accessFlags := 1537
  interfaces := #[]
  cf := some (fileOf pool7 1 #[] #[] 1537 3 #[] #[])
  fields := #[]
  methods := #[]
  instanceTypes := #[]
  staticTypes := #[]
  resolved := Array.replicate 11 none
  statics := none }

def pool8 : Array CpInfo := pool [(1, .class_ 2), (0, u "java/lang/constant/ConstantDesc"), (0, .class_ 4), (0, u "java/lang/Object")] 32

/-- java/lang/constant/ConstantDesc -/
def k8 : Class := { plain "java/lang/constant/ConstantDesc" (some 0) with
  accessFlags := 1537
  interfaces := #[]
  cf := some (fileOf pool8 1 #[] #[] 1537 3 #[] #[])
  fields := #[]
  methods := #[]
  instanceTypes := #[]
  staticTypes := #[]
  resolved := Array.replicate 37 none
  statics := none }

def pool9 : Array CpInfo := pool [(1, .methodref 2 3), (0, .class_ 4), (0, .nameAndType 5 6), (0, u "java/lang/Object"), (0, u "<init>"), (0, u "()V"), (0, .string 8), (0, u ""), (0, .fieldref 10 11), (0, .class_ 12), (0, .nameAndType 13 14), (0, u "java/lang/String"), (0, u "value"), (0, u "[B"), (0, .fieldref 10 16), (0, .nameAndType 17 18), (0, u "coder"), (0, u "B"), (2, u "hash"), (0, u "I"), (2, u "hashIsZero"), (0, u "Z"), (0, .methodref 10 28), (0, .nameAndType 5 29), (0, u "([CIILjava/lang/Void;)V"), (0, .methodref 10 31), (0, .nameAndType 32 33), (0, u "rangeCheck"), (0, u "([CII)Ljava/lang/Void;"), (0, .methodref 10 35), (0, .nameAndType 36 37), (0, u "checkBoundsOffCount"), (0, u "(III)I"), (0, .fieldref 10 39), (0, .nameAndType 40 26), (0, u "COMPACT_STRINGS"), (1, .class_ 44), (1, u "java/lang/StringUTF16"), (0, u "compress"), (1, .methodref 42 48), (0, .nameAndType 49 50), (0, u "coderFromArrayLen"), (0, u "([BI)B"), (56, .class_ 109), (1, u "java/lang/StringLatin1"), (32, u "()Z"), (34, .methodref 42 178), (0, .nameAndType 45 179), (0, u "([CII)[B"), (154, u "()I"), (0, .methodref 10 336), (0, .nameAndType 17 337), (0, u "()B"), (25, u "([BI)C"), (27, u "(II)V"), (35, u "(I)C"), (64, .methodref 10 493), (0, .nameAndType 494 142), (0, u "isLatin1"), (0, .methodref 107 496), (0, .nameAndType 497 363), (0, u "charAt"), (3, u "checkIndex"), (5, u "length"), (67, .class_ 576), (0, u "java/lang/CharSequence"), (22, u "CASE_INSENSITIVE_ORDER"), (0, u "Ljava/util/Comparator;"), (371, u "([CII)V"), (80, .fieldref 1054 1055), (0, .class_ 1056), (0, .nameAndType 1057 1058), (0, u "jdk/internal/util/Preconditions"), (0, u "SIOOBE_FORMATTER"), (0, u "Ljava/util/function/BiFunction;"), (0, .methodref 1054 1060), (0, .nameAndType 501 1061), (0, u "(IILjava/util/function/BiFunction;)I"), (2, u "(IIILjava/util/function/BiFunction;)I"), (0, .methodref 1054 1066), (0, .nameAndType 1067 1064), (0, u "checkFromIndexSize"), (33, u "serialPersistentFields"), (0, u "[Ljava/io/ObjectStreamField;"), (0, .class_ 1104), (0, u "java/lang/String$CaseInsensitiveComparator"), (1, .class_ 1107), (0, u "java/io/Serializable"), (0, .class_ 1109), (0, u "java/lang/Comparable"), (0, .class_ 1111), (0, u "java/lang/constant/Constable"), (0, .class_ 1113), (0, u "java/lang/constant/ConstantDesc"), (2, u "serialVersionUID"), (0, u "J"), (3, u "REPL"), (0, u "C"), (2, u "LATIN1"), (1, u "UTF16")] 323

def k9m0 : Method := { name := "<init>", desc := "()V", sig := { parameters := [], returnType := none }, accessFlags := 1, code := none }
def k9c1 : Code := { maxStack := 7, maxLocals := 4, code := jdk_42_method_4_code, exceptionTable := #[], attributes := #[] }
def k9m1 : Method := { name := "<init>", desc := "([CII)V", sig := { parameters := [(.array .char), .int, .int], returnType := none }, accessFlags := 1, code := some k9c1 }
def k9c2 : Code := { maxStack := 3, maxLocals := 3, code := jdk_42_method_5_code, exceptionTable := #[], attributes := #[] }
def k9m2 : Method := { name := "rangeCheck", desc := "([CII)Ljava/lang/Void;", sig := { parameters := [(.array .char), .int, .int], returnType := some (.object "java/lang/Void") }, accessFlags := 10, code := some k9c2 }
def k9c3 : Code := { maxStack := 2, maxLocals := 1, code := jdk_42_method_54_code, exceptionTable := #[], attributes := #[] }
def k9m3 : Method := { name := "length", desc := "()I", sig := { parameters := [], returnType := some .int }, accessFlags := 1, code := some k9c3 }
def k9c4 : Code := { maxStack := 2, maxLocals := 2, code := jdk_42_method_56_code, exceptionTable := #[], attributes := #[] }
def k9m4 : Method := { name := "charAt", desc := "(I)C", sig := { parameters := [.int], returnType := some .char }, accessFlags := 1, code := some k9c4 }
def k9c5 : Code := { maxStack := 4, maxLocals := 6, code := jdk_42_method_149_code, exceptionTable := #[], attributes := #[] }
def k9m5 : Method := { name := "<init>", desc := "([CIILjava/lang/Void;)V", sig := { parameters := [(.array .char), .int, .int, (.object "java/lang/Void")], returnType := none }, accessFlags := 2, code := some k9c5 }
def k9c6 : Code := { maxStack := 1, maxLocals := 1, code := jdk_42_method_152_code, exceptionTable := #[], attributes := #[] }
def k9m6 : Method := { name := "coder", desc := "()B", sig := { parameters := [], returnType := some .byte }, accessFlags := 0, code := some k9c6 }
def k9c7 : Code := { maxStack := 1, maxLocals := 1, code := jdk_42_method_154_code, exceptionTable := #[], attributes := #[] }
def k9m7 : Method := { name := "isLatin1", desc := "()Z", sig := { parameters := [], returnType := some .boolean }, accessFlags := 0, code := some k9c7 }
def k9c8 : Code := { maxStack := 3, maxLocals := 2, code := jdk_42_method_155_code, exceptionTable := #[], attributes := #[] }
def k9m8 : Method := { name := "checkIndex", desc := "(II)V", sig := { parameters := [.int, .int], returnType := none }, accessFlags := 8, code := some k9c8 }
def k9c9 : Code := { maxStack := 4, maxLocals := 3, code := jdk_42_method_157_code, exceptionTable := #[], attributes := #[] }
def k9m9 : Method := { name := "checkBoundsOffCount", desc := "(III)I", sig := { parameters := [.int, .int, .int], returnType := some .int }, accessFlags := 8, code := some k9c9 }
/-- java/lang/String -/
def k9 : Class := { plain "java/lang/String" (some 0) with
  accessFlags := 49
  interfaces := #[4, 5, 6, 7, 8]
  cf := some (fileOf pool9 10 #[.nestMembers #[1103]] #[{ accessFlags := 1, nameIndex := 5, descriptorIndex := 6, attributes := #[] }, { accessFlags := 1, nameIndex := 5, descriptorIndex := 972, attributes := #[] }, { accessFlags := 10, nameIndex := 32, descriptorIndex := 33, attributes := #[] }, { accessFlags := 1, nameIndex := 507, descriptorIndex := 334, attributes := #[] }, { accessFlags := 1, nameIndex := 497, descriptorIndex := 427, attributes := #[] }, { accessFlags := 2, nameIndex := 5, descriptorIndex := 29, attributes := #[] }, { accessFlags := 0, nameIndex := 17, descriptorIndex := 337, attributes := #[] }, { accessFlags := 0, nameIndex := 494, descriptorIndex := 142, attributes := #[] }, { accessFlags := 8, nameIndex := 501, descriptorIndex := 391, attributes := #[] }, { accessFlags := 8, nameIndex := 36, descriptorIndex := 37, attributes := #[] }] 49 2 #[1106, 1108, 575, 1110, 1112] #[{ accessFlags := 18, nameIndex := 13, descriptorIndex := 14, attributes := #[] }, { accessFlags := 18, nameIndex := 17, descriptorIndex := 18, attributes := #[] }, { accessFlags := 2, nameIndex := 21, descriptorIndex := 22, attributes := #[] }, { accessFlags := 2, nameIndex := 25, descriptorIndex := 26, attributes := #[] }, { accessFlags := 26, nameIndex := 1116, descriptorIndex := 1117, attributes := #[] }, { accessFlags := 24, nameIndex := 40, descriptorIndex := 26, attributes := #[] }, { accessFlags := 26, nameIndex := 1101, descriptorIndex := 1102, attributes := #[] }, { accessFlags := 26, nameIndex := 1121, descriptorIndex := 1122, attributes := #[] }, { accessFlags := 25, nameIndex := 599, descriptorIndex := 600, attributes := #[] }, { accessFlags := 24, nameIndex := 1125, descriptorIndex := 18, attributes := #[] }, { accessFlags := 24, nameIndex := 1127, descriptorIndex := 18, attributes := #[] }])
  fields := #[{ name := "value", type := (.array .byte), accessFlags := 18, slot := 0, constantValue := 0 }, { name := "coder", type := .byte, accessFlags := 18, slot := 1, constantValue := 0 }, { name := "hash", type := .int, accessFlags := 2, slot := 2, constantValue := 0 }, { name := "hashIsZero", type := .boolean, accessFlags := 2, slot := 3, constantValue := 0 }, { name := "serialVersionUID", type := .long, accessFlags := 26, slot := 0, constantValue := 0 }, { name := "COMPACT_STRINGS", type := .boolean, accessFlags := 24, slot := 1, constantValue := 0 }, { name := "serialPersistentFields", type := (.array (.object "java/io/ObjectStreamField")), accessFlags := 26, slot := 2, constantValue := 0 }, { name := "REPL", type := .char, accessFlags := 26, slot := 3, constantValue := 0 }, { name := "CASE_INSENSITIVE_ORDER", type := (.object "java/util/Comparator"), accessFlags := 25, slot := 4, constantValue := 0 }, { name := "LATIN1", type := .byte, accessFlags := 24, slot := 5, constantValue := 0 }, { name := "UTF16", type := .byte, accessFlags := 24, slot := 6, constantValue := 0 }]
  methods := #[k9m0, k9m1, k9m2, k9m3, k9m4, k9m5, k9m6, k9m7, k9m8, k9m9]
  instanceTypes := #[(.array .byte), .byte, .int, .boolean]
  staticTypes := #[.long, .boolean, (.array (.object "java/io/ObjectStreamField")), .char, (.object "java/util/Comparator"), .byte, .byte]
  resolved := Array.replicate 1451 none
  statics := some 0 }

def pool10 : Array CpInfo := pool [(2, .class_ 4), (1, u "java/lang/Object"), (0, u "<init>"), (0, u "()V"), (1, .class_ 10), (1, u "java/lang/System"), (0, u "allowSecurityManager"), (0, u "I"), (16, u "cons"), (0, u "Ljava/io/Console;"), (77, .class_ 110), (1, u "java/lang/System$CallersHolder"), (43, u "initialErrStream"), (0, u "Ljava/io/PrintStream;"), (19, u "security"), (0, u "Ljava/lang/SecurityManager;"), (31, .class_ 209), (0, u "java/lang/System$1"), (7, u "props"), (0, u "Ljava/util/Properties;"), (2, u "lineSeparator"), (0, u "Ljava/lang/String;"), (96, .class_ 321), (1, u "java/lang/System$LoggerFinder"), (5, .class_ 328), (0, u "java/lang/System$Logger"), (67, u "err"), (2, u "out"), (91, u "notSupportedJnuEncoding"), (15, u "in"), (17, u "initialIn"), (0, u "Ljava/io/InputStream;"), (35, u "bootLayer"), (0, u "Ljava/lang/ModuleLayer;"), (99, .class_ 664), (0, u "java/lang/System$2"), (9, u "NEVER"), (2, u "MAYBE"), (49, u "arraycopy"), (0, u "(Ljava/lang/Object;ILjava/lang/Object;II)V"), (72, .class_ 802), (0, u "java/lang/System$Logger$Level")] 31

def k10m0 : Method := { name := "<init>", desc := "()V", sig := { parameters := [], returnType := none }, accessFlags := 2, code := none }
def k10m1 : Method := { name := "arraycopy", desc := "(Ljava/lang/Object;ILjava/lang/Object;II)V", sig := { parameters := [(.object "java/lang/Object"), .int, (.object "java/lang/Object"), .int, .int], returnType := none }, accessFlags := 265, code := none }
/-- java/lang/System -/
def k10 : Class := { plain "java/lang/System" (some 0) with
  accessFlags := 49
  interfaces := #[]
  cf := some (fileOf pool10 8 #[.nestMembers #[319, 327, 801, 108, 663, 208]] #[{ accessFlags := 2, nameIndex := 5, descriptorIndex := 6, attributes := #[] }, { accessFlags := 265, nameIndex := 727, descriptorIndex := 728, attributes := #[] }] 49 2 #[] #[{ accessFlags := 25, nameIndex := 507, descriptorIndex := 526, attributes := #[] }, { accessFlags := 25, nameIndex := 399, descriptorIndex := 155, attributes := #[] }, { accessFlags := 25, nameIndex := 396, descriptorIndex := 155, attributes := #[] }, { accessFlags := 10, nameIndex := 525, descriptorIndex := 526, attributes := #[] }, { accessFlags := 26, nameIndex := 674, descriptorIndex := 12, attributes := #[] }, { accessFlags := 26, nameIndex := 677, descriptorIndex := 12, attributes := #[] }, { accessFlags := 10, nameIndex := 11, descriptorIndex := 12, attributes := #[] }, { accessFlags := 74, nameIndex := 175, descriptorIndex := 176, attributes := #[] }, { accessFlags := 10, nameIndex := 491, descriptorIndex := 222, attributes := #[] }, { accessFlags := 74, nameIndex := 29, descriptorIndex := 30, attributes := #[] }, { accessFlags := 74, nameIndex := 154, descriptorIndex := 155, attributes := #[] }, { accessFlags := 10, nameIndex := 217, descriptorIndex := 218, attributes := #[] }, { accessFlags := 10, nameIndex := 221, descriptorIndex := 222, attributes := #[] }, { accessFlags := 8, nameIndex := 562, descriptorIndex := 563, attributes := #[] }])
  fields := #[{ name := "in", type := (.object "java/io/InputStream"), accessFlags := 25, slot := 0, constantValue := 0 }, { name := "out", type := (.object "java/io/PrintStream"), accessFlags := 25, slot := 1, constantValue := 0 }, { name := "err", type := (.object "java/io/PrintStream"), accessFlags := 25, slot := 2, constantValue := 0 }, { name := "initialIn", type := (.object "java/io/InputStream"), accessFlags := 10, slot := 3, constantValue := 0 }, { name := "NEVER", type := .int, accessFlags := 26, slot := 4, constantValue := 0 }, { name := "MAYBE", type := .int, accessFlags := 26, slot := 5, constantValue := 0 }, { name := "allowSecurityManager", type := .int, accessFlags := 10, slot := 6, constantValue := 0 }, { name := "security", type := (.object "java/lang/SecurityManager"), accessFlags := 74, slot := 7, constantValue := 0 }, { name := "notSupportedJnuEncoding", type := (.object "java/lang/String"), accessFlags := 10, slot := 8, constantValue := 0 }, { name := "cons", type := (.object "java/io/Console"), accessFlags := 74, slot := 9, constantValue := 0 }, { name := "initialErrStream", type := (.object "java/io/PrintStream"), accessFlags := 74, slot := 10, constantValue := 0 }, { name := "props", type := (.object "java/util/Properties"), accessFlags := 10, slot := 11, constantValue := 0 }, { name := "lineSeparator", type := (.object "java/lang/String"), accessFlags := 10, slot := 12, constantValue := 0 }, { name := "bootLayer", type := (.object "java/lang/ModuleLayer"), accessFlags := 8, slot := 13, constantValue := 0 }]
  methods := #[k10m0, k10m1]
  instanceTypes := #[]
  staticTypes := #[(.object "java/io/InputStream"), (.object "java/io/PrintStream"), (.object "java/io/PrintStream"), (.object "java/io/InputStream"), .int, .int, .int, (.object "java/lang/SecurityManager"), (.object "java/lang/String"), (.object "java/io/Console"), (.object "java/io/PrintStream"), (.object "java/util/Properties"), (.object "java/lang/String"), (.object "java/lang/ModuleLayer")]
  resolved := Array.replicate 834 none
  statics := none }

def pool11 : Array CpInfo := pool [(2, .class_ 4), (1, u "java/lang/Object"), (0, u "<init>"), (0, u "()V"), (17, .class_ 26), (1, u "jdk/internal/util/Preconditions"), (6, u "checkIndex"), (15, u "checkFromIndexSize"), (5, .class_ 56), (0, u "jdk/internal/util/Preconditions$4"), (57, .class_ 115), (0, u "jdk/internal/util/Preconditions$1"), (7, u "SIOOBE_FORMATTER"), (0, u "Ljava/util/function/BiFunction;"), (0, .class_ 126), (0, u "jdk/internal/util/Preconditions$2"), (3, u "AIOOBE_FORMATTER"), (0, .class_ 132), (0, u "jdk/internal/util/Preconditions$3"), (3, u "IOOBE_FORMATTER"), (41, u "(IILjava/util/function/BiFunction;)I"), (4, u "(IIILjava/util/function/BiFunction;)I")] 10

def k11m0 : Method := { name := "<init>", desc := "()V", sig := { parameters := [], returnType := none }, accessFlags := 1, code := none }
def k11c1 : Code := { maxStack := 3, maxLocals := 3, code := jdk_41_method_11_code, exceptionTable := #[], attributes := #[] }
def k11m1 : Method := { name := "checkIndex", desc := "(IILjava/util/function/BiFunction;)I", sig := { parameters := [.int, .int, (.object "java/util/function/BiFunction")], returnType := some .int }, accessFlags := 9, code := some k11c1 }
def k11c2 : Code := { maxStack := 4, maxLocals := 4, code := jdk_41_method_13_code, exceptionTable := #[], attributes := #[] }
def k11m2 : Method := { name := "checkFromIndexSize", desc := "(IIILjava/util/function/BiFunction;)I", sig := { parameters := [.int, .int, .int, (.object "java/util/function/BiFunction")], returnType := some .int }, accessFlags := 9, code := some k11c2 }
/-- jdk/internal/util/Preconditions -/
def k11 : Class := { plain "jdk/internal/util/Preconditions" (some 0) with
  accessFlags := 33
  interfaces := #[]
  cf := some (fileOf pool11 24 #[.nestMembers #[55, 131, 125, 114]] #[{ accessFlags := 1, nameIndex := 5, descriptorIndex := 6, attributes := #[] }, { accessFlags := 9, nameIndex := 33, descriptorIndex := 178, attributes := #[] }, { accessFlags := 9, nameIndex := 49, descriptorIndex := 183, attributes := #[] }] 33 2 #[] #[{ accessFlags := 25, nameIndex := 123, descriptorIndex := 124, attributes := #[] }, { accessFlags := 25, nameIndex := 130, descriptorIndex := 124, attributes := #[] }, { accessFlags := 25, nameIndex := 136, descriptorIndex := 124, attributes := #[] }])
  fields := #[{ name := "SIOOBE_FORMATTER", type := (.object "java/util/function/BiFunction"), accessFlags := 25, slot := 0, constantValue := 0 }, { name := "AIOOBE_FORMATTER", type := (.object "java/util/function/BiFunction"), accessFlags := 25, slot := 1, constantValue := 0 }, { name := "IOOBE_FORMATTER", type := (.object "java/util/function/BiFunction"), accessFlags := 25, slot := 2, constantValue := 0 }]
  methods := #[k11m0, k11m1, k11m2]
  instanceTypes := #[]
  staticTypes := #[(.object "java/util/function/BiFunction"), (.object "java/util/function/BiFunction"), (.object "java/util/function/BiFunction")]
  resolved := Array.replicate 194 none
  statics := some 1 }

def pool12 : Array CpInfo := pool [(6, .class_ 8), (1, u "java/lang/Object"), (0, u "<init>"), (0, u "()V"), (1, .class_ 14), (1, u "java/lang/StringUTF16"), (31, u "$assertionsDisabled"), (0, u "Z"), (13, u "HI_BYTE_SHIFT"), (0, u "I"), (2, u "LO_BYTE_SHIFT"), (49, .methodref 12 116), (0, .nameAndType 117 118), (0, u "compress"), (0, u "([CI[BII)I"), (3, u "([CII)[B"), (138, u "coderFromArrayLen"), (0, u "([BI)B"), (106, .class_ 371), (1, u "java/lang/StringUTF16$LinesSpliterator"), (58, u "MAX_LENGTH"), (196, .class_ 628), (0, u "java/lang/StringUTF16$CodePointsSpliterator"), (0, .class_ 630), (0, u "java/lang/StringUTF16$CharsSpliterator")] 4

def k12m0 : Method := { name := "<init>", desc := "()V", sig := { parameters := [], returnType := none }, accessFlags := 0, code := none }
def k12c1 : Code := { maxStack := 2, maxLocals := 2, code := jdk_52_method_15_code, exceptionTable := #[], attributes := #[] }
def k12m1 : Method := { name := "coderFromArrayLen", desc := "([BI)B", sig := { parameters := [(.array .byte), .int], returnType := some .byte }, accessFlags := 8, code := some k12c1 }
def k12c2 : Code := { maxStack := 5, maxLocals := 6, code := jdk_52_method_16_code, exceptionTable := #[], attributes := #[] }
def k12m2 : Method := { name := "compress", desc := "([CII)[B", sig := { parameters := [(.array .char), .int, .int], returnType := some (.array .byte) }, accessFlags := 9, code := some k12c2 }
def k12c3 : Code := { maxStack := 3, maxLocals := 7, code := jdk_52_method_21_code, exceptionTable := #[], attributes := #[] }
def k12m3 : Method := { name := "compress", desc := "([CI[BII)I", sig := { parameters := [(.array .char), .int, (.array .byte), .int, .int], returnType := some .int }, accessFlags := 9, code := some k12c3 }
/-- java/lang/StringUTF16 -/
def k12 : Class := { plain "java/lang/StringUTF16" (some 0) with
  accessFlags := 48
  interfaces := #[]
  cf := some (fileOf pool12 12 #[.nestMembers #[627, 629, 369]] #[{ accessFlags := 0, nameIndex := 9, descriptorIndex := 10, attributes := #[] }, { accessFlags := 8, nameIndex := 261, descriptorIndex := 262, attributes := #[] }, { accessFlags := 9, nameIndex := 117, descriptorIndex := 122, attributes := #[] }, { accessFlags := 9, nameIndex := 117, descriptorIndex := 118, attributes := #[] }] 48 6 #[] #[{ accessFlags := 26, nameIndex := 61, descriptorIndex := 62, attributes := #[] }, { accessFlags := 26, nameIndex := 65, descriptorIndex := 62, attributes := #[] }, { accessFlags := 24, nameIndex := 430, descriptorIndex := 62, attributes := #[] }, { accessFlags := 4120, nameIndex := 46, descriptorIndex := 47, attributes := #[] }])
  fields := #[{ name := "HI_BYTE_SHIFT", type := .int, accessFlags := 26, slot := 0, constantValue := 0 }, { name := "LO_BYTE_SHIFT", type := .int, accessFlags := 26, slot := 1, constantValue := 0 }, { name := "MAX_LENGTH", type := .int, accessFlags := 24, slot := 2, constantValue := 0 }, { name := "$assertionsDisabled", type := .boolean, accessFlags := 4120, slot := 3, constantValue := 0 }]
  methods := #[k12m0, k12m1, k12m2, k12m3]
  instanceTypes := #[]
  staticTypes := #[.int, .int, .int, .boolean]
  resolved := Array.replicate 635 none
  statics := none }

def pool13 : Array CpInfo := pool [(1, .class_ 2), (0, u "java/lang/String"), (1, .class_ 6), (1, u "java/lang/Object"), (0, u "<init>"), (0, u "()V"), (0, .methodref 1 10), (0, .nameAndType 11 12), (0, u "checkIndex"), (0, u "(II)V"), (1, .class_ 16), (1, u "java/lang/StringLatin1"), (36, u "([BI)C"), (67, u "$assertionsDisabled"), (0, u "Z"), (98, .class_ 223), (1, u "java/lang/StringLatin1$LinesSpliterator"), (28, u "charAt"), (137, .class_ 391), (0, u "java/lang/StringLatin1$CharsSpliterator")] 3

def k13m0 : Method := { name := "<init>", desc := "()V", sig := { parameters := [], returnType := none }, accessFlags := 0, code := none }
def k13c1 : Code := { maxStack := 2, maxLocals := 2, code := jdk_43_method_2_code, exceptionTable := #[], attributes := #[] }
def k13m1 : Method := { name := "charAt", desc := "([BI)C", sig := { parameters := [(.array .byte), .int], returnType := some .char }, accessFlags := 9, code := some k13c1 }
/-- java/lang/StringLatin1 -/
def k13 : Class := { plain "java/lang/StringLatin1" (some 0) with
  accessFlags := 48
  interfaces := #[]
  cf := some (fileOf pool13 14 #[.nestMembers #[390, 221]] #[{ accessFlags := 0, nameIndex := 7, descriptorIndex := 8, attributes := #[] }, { accessFlags := 9, nameIndex := 252, descriptorIndex := 53, attributes := #[] }] 48 4 #[] #[{ accessFlags := 4120, nameIndex := 121, descriptorIndex := 122, attributes := #[] }])
  fields := #[{ name := "$assertionsDisabled", type := .boolean, accessFlags := 4120, slot := 0, constantValue := 0 }]
  methods := #[k13m0, k13m1]
  instanceTypes := #[]
  staticTypes := #[.boolean]
  resolved := Array.replicate 395 none
  statics := none }

def pool14 : Array CpInfo := pool [(9, u "<init>"), (6, .class_ 18), (1, u "java/lang/Object"), (0, u "()V"), (1, .class_ 23), (1, u "jdk/internal/util/ArraysSupport"), (0, u "LOG2_ARRAY_LONG_INDEX_SCALE"), (0, u "I"), (2, u "U"), (0, u "Ljdk/internal/misc/Unsafe;"), (8, u "BIG_ENDIAN"), (0, u "Z"), (8, u "LOG2_BYTE_BIT_SIZE"), (4, u "LOG2_ARRAY_INT_INDEX_SCALE"), (54, u "JLA"), (0, u "Ljdk/internal/access/JavaLangAccess;"), (11, u "LOG2_ARRAY_BOOLEAN_INDEX_SCALE"), (9, u "LOG2_ARRAY_BYTE_INDEX_SCALE"), (5, u "LOG2_ARRAY_CHAR_INDEX_SCALE"), (5, u "LOG2_ARRAY_SHORT_INDEX_SCALE"), (18, u "LOG2_ARRAY_FLOAT_INDEX_SCALE"), (24, u "LOG2_ARRAY_DOUBLE_INDEX_SCALE"), (89, u "T_BOOLEAN"), (2, u "T_CHAR"), (1, u "T_FLOAT"), (1, u "T_DOUBLE"), (1, u "T_BYTE"), (1, u "T_SHORT"), (1, u "T_INT"), (1, u "T_LONG"), (1, u "SOFT_MAX_ARRAY_LENGTH")] 83

def k14m0 : Method := { name := "<init>", desc := "()V", sig := { parameters := [], returnType := none }, accessFlags := 2, code := none }
/-- jdk/internal/util/ArraysSupport -/
def k14 : Class := { plain "jdk/internal/util/ArraysSupport" (some 0) with
  accessFlags := 33
  interfaces := #[]
  cf := some (fileOf pool14 21 #[] #[{ accessFlags := 2, nameIndex := 9, descriptorIndex := 19, attributes := #[] }] 33 16 #[] #[{ accessFlags := 24, nameIndex := 28, descriptorIndex := 29, attributes := #[] }, { accessFlags := 26, nameIndex := 38, descriptorIndex := 39, attributes := #[] }, { accessFlags := 25, nameIndex := 121, descriptorIndex := 25, attributes := #[] }, { accessFlags := 25, nameIndex := 131, descriptorIndex := 25, attributes := #[] }, { accessFlags := 25, nameIndex := 137, descriptorIndex := 25, attributes := #[] }, { accessFlags := 25, nameIndex := 143, descriptorIndex := 25, attributes := #[] }, { accessFlags := 25, nameIndex := 53, descriptorIndex := 25, attributes := #[] }, { accessFlags := 25, nameIndex := 24, descriptorIndex := 25, attributes := #[] }, { accessFlags := 25, nameIndex := 162, descriptorIndex := 25, attributes := #[] }, { accessFlags := 25, nameIndex := 187, descriptorIndex := 25, attributes := #[] }, { accessFlags := 26, nameIndex := 48, descriptorIndex := 25, attributes := #[] }, { accessFlags := 25, nameIndex := 277, descriptorIndex := 25, attributes := #[] }, { accessFlags := 25, nameIndex := 280, descriptorIndex := 25, attributes := #[] }, { accessFlags := 25, nameIndex := 282, descriptorIndex := 25, attributes := #[] }, { accessFlags := 25, nameIndex := 284, descriptorIndex := 25, attributes := #[] }, { accessFlags := 25, nameIndex := 286, descriptorIndex := 25, attributes := #[] }, { accessFlags := 25, nameIndex := 288, descriptorIndex := 25, attributes := #[] }, { accessFlags := 25, nameIndex := 290, descriptorIndex := 25, attributes := #[] }, { accessFlags := 25, nameIndex := 292, descriptorIndex := 25, attributes := #[] }, { accessFlags := 26, nameIndex := 108, descriptorIndex := 109, attributes := #[] }, { accessFlags := 25, nameIndex := 294, descriptorIndex := 25, attributes := #[] }])
  fields := #[{ name := "U", type := (.object "jdk/internal/misc/Unsafe"), accessFlags := 24, slot := 0, constantValue := 0 }, { name := "BIG_ENDIAN", type := .boolean, accessFlags := 26, slot := 1, constantValue := 0 }, { name := "LOG2_ARRAY_BOOLEAN_INDEX_SCALE", type := .int, accessFlags := 25, slot := 2, constantValue := 0 }, { name := "LOG2_ARRAY_BYTE_INDEX_SCALE", type := .int, accessFlags := 25, slot := 3, constantValue := 0 }, { name := "LOG2_ARRAY_CHAR_INDEX_SCALE", type := .int, accessFlags := 25, slot := 4, constantValue := 0 }, { name := "LOG2_ARRAY_SHORT_INDEX_SCALE", type := .int, accessFlags := 25, slot := 5, constantValue := 0 }, { name := "LOG2_ARRAY_INT_INDEX_SCALE", type := .int, accessFlags := 25, slot := 6, constantValue := 0 }, { name := "LOG2_ARRAY_LONG_INDEX_SCALE", type := .int, accessFlags := 25, slot := 7, constantValue := 0 }, { name := "LOG2_ARRAY_FLOAT_INDEX_SCALE", type := .int, accessFlags := 25, slot := 8, constantValue := 0 }, { name := "LOG2_ARRAY_DOUBLE_INDEX_SCALE", type := .int, accessFlags := 25, slot := 9, constantValue := 0 }, { name := "LOG2_BYTE_BIT_SIZE", type := .int, accessFlags := 26, slot := 10, constantValue := 0 }, { name := "T_BOOLEAN", type := .int, accessFlags := 25, slot := 11, constantValue := 0 }, { name := "T_CHAR", type := .int, accessFlags := 25, slot := 12, constantValue := 0 }, { name := "T_FLOAT", type := .int, accessFlags := 25, slot := 13, constantValue := 0 }, { name := "T_DOUBLE", type := .int, accessFlags := 25, slot := 14, constantValue := 0 }, { name := "T_BYTE", type := .int, accessFlags := 25, slot := 15, constantValue := 0 }, { name := "T_SHORT", type := .int, accessFlags := 25, slot := 16, constantValue := 0 }, { name := "T_INT", type := .int, accessFlags := 25, slot := 17, constantValue := 0 }, { name := "T_LONG", type := .int, accessFlags := 25, slot := 18, constantValue := 0 }, { name := "JLA", type := (.object "jdk/internal/access/JavaLangAccess"), accessFlags := 26, slot := 19, constantValue := 0 }, { name := "SOFT_MAX_ARRAY_LENGTH", type := .int, accessFlags := 25, slot := 20, constantValue := 0 }]
  methods := #[k14m0]
  instanceTypes := #[]
  staticTypes := #[(.object "jdk/internal/misc/Unsafe"), .boolean, .int, .int, .int, .int, .int, .int, .int, .int, .int, .int, .int, .int, .int, .int, .int, .int, .int, (.object "jdk/internal/access/JavaLangAccess"), .int]
  resolved := Array.replicate 378 none
  statics := none }

def pool15 : Array CpInfo := pool [(1, u "java/lang/Cloneable"), (0, .class_ 1), (0, u "java/lang/Object"), (0, .class_ 3)] 3

/-- java/lang/Cloneable -/
def k15 : Class := { plain "java/lang/Cloneable" (some 0) with
  accessFlags := 1537
  interfaces := #[]
  cf := some (fileOf pool15 2 #[] #[] 1537 4 #[] #[])
  fields := #[]
  methods := #[]
  instanceTypes := #[]
  staticTypes := #[]
  resolved := Array.replicate 8 none
  statics := none }

/-- the primitive boolean -/
def k16 : Class := { plain "boolean" none with kind := .primitive 'Z', accessFlags := 0x411 }
/-- [Z -/
def k17 : Class := { plain "[Z" (some 0) with kind := .array 16 .boolean, interfaces := #[15, 4], accessFlags := 1041 }

/-- the primitive byte -/
def k18 : Class := { plain "byte" none with kind := .primitive 'B', accessFlags := 0x411 }
/-- [B -/
def k19 : Class := { plain "[B" (some 0) with kind := .array 18 .byte, interfaces := #[15, 4], accessFlags := 1041 }

/-- the primitive char -/
def k20 : Class := { plain "char" none with kind := .primitive 'C', accessFlags := 0x411 }
/-- [C -/
def k21 : Class := { plain "[C" (some 0) with kind := .array 20 .char, interfaces := #[15, 4], accessFlags := 1041 }

/-- the primitive int -/
def k22 : Class := { plain "int" none with kind := .primitive 'I', accessFlags := 0x411 }
/-- [I -/
def k23 : Class := { plain "[I" (some 0) with kind := .array 22 .int, interfaces := #[15, 4], accessFlags := 1041 }

/-- [Lcom/example/weaverbird/weaverbird/model/xml/NameTable$QualifiedName; -/
def k24 : Class := { plain "[Lcom/example/weaverbird/weaverbird/model/xml/NameTable$QualifiedName;" (some 0) with kind := .array 3 (.object "com/example/weaverbird/weaverbird/model/xml/NameTable$QualifiedName"), interfaces := #[15, 4], accessFlags := 1041 }

/-- [Ljava/lang/String; -/
def k25 : Class := { plain "[Ljava/lang/String;" (some 0) with kind := .array 9 (.object "java/lang/String"), interfaces := #[15, 4], accessFlags := 1041 }

def heap : Heap := #[{ cls := 9, slots := #[.long 0, .int 1, .null, .int 0, .null, .int 0, .int 0], vm := .statics 9 },
  { cls := 11, slots := #[.null, .null, .null], vm := .statics 11 }]
def classes : Array Class := #[k0, k1, k2, k3, k4, k5, k6, k7, k8, k9, k10, k11, k12, k13, k14, k15, k16, k17, k18, k19, k20, k21, k22, k23, k24, k25]
def interned : List (Array UInt16 × Addr) := []
def slotsUsed : Nat := 10
def theMethod : MethodId := ⟨1, 1⟩
def args0 : Array Value := #[.long 5, .long 6, .int 770, .int 1]
def aboutOver (below : List Frame) : State where
  vm := { classes := classes, interned := interned.toArray }
  heap := heap
  slotsUsed := slotsUsed
  threads := #[{ frames := .invoking theMethod args0 :: below }]
def below0 : List Frame := [.native { method := ⟨0, 0⟩, args := #[] }]
def about1 : State := aboutOver below0
def p0 : Program := .bare "" "" ""
def e0 : Env := launch0.env 0 0 0
theorem w_frames : about1.frames = Frame.invoking theMethod args0 :: below0 := rfl
set_option maxRecDepth 65536 in
theorem w_args : argsFit about1.vm theMethod args0 = true := by decide +kernel
set_option maxRecDepth 65536 in
theorem w_heap : heapFits about1 = true := by decide +kernel
set_option maxRecDepth 65536 in
theorem w_runnable : about1.curStatus? = some .runnable := by decide +kernel
set_option maxRecDepth 65536 in
theorem w_alone : about1.alone = true := by decide +kernel
set_option maxRecDepth 65536 in
theorem w_named : about1.methodNamed? x = some theMethod := by decide +kernel
set_option maxRecDepth 65536 in
theorem w_hears : about1.hears theMethod below0 = true := by decide +kernel
set_option maxRecDepth 65536 in
theorem w_ripe : about1.ripe theMethod args0 below0 = true := by decide +kernel
theorem w_running : about1.status = .running := rfl
set_option maxRecDepth 65536 in
theorem w_room : about1.hasRoom e0.platform room_1 = true :=
  launch0.hasRoom_least _ room_1 (by decide +kernel) (by decide +kernel) (by decide +kernel) (by decide +kernel) (by decide +kernel) (by decide +kernel)
theorem allAtoms_all (ts : List Jvm.Cond) (a : Array Jvm.Value) (st : Jvm.State) : (allAtoms ts).before a st = ts.all (fun c => c.before a st) := by
  induction ts with
  | nil => rfl
  | cons c t ih =>
    show (Jvm.Cond.and c (allAtoms t)).before a st = _
    rw [Jvm.Cond.before_and, ih, List.all_cons]
def words1 : List Jvm.Cond := Jvm.Cond.code x code maxLocals ret :: tables_1
/-- a 'code' word, met by the world's own term for the bytes: nothing is compared byte by byte -/
theorem code_word {y : MethodName} {bytes : ByteArray} {mx : Nat} {rt : Option FieldType} {a : Array Value} {s : State} {m : MethodId} {meth : Method} {c : Code} (h1 : s.methodNamed? y = some m) (h2 : s.vm.method? m = some meth) (h3 : meth.code = some c) (h4 : c.code = bytes)
    (h5 : (c.maxLocals == mx && c.exceptionTable.isEmpty && decide (c.maxStack ≤ mostOperands) && decide (meth.sig.returnType = rt) && !meth.locks && decide (parseMethodDescriptor y.desc = some meth.sig)) = true) : (Jvm.Cond.code y bytes mx rt).before a s = true := by
  simp only [Bool.and_eq_true, beq_iff_eq, Bool.not_eq_true', decide_eq_true_eq] at h5
  obtain ⟨⟨⟨⟨⟨g1, g2⟩, g3⟩, g4⟩, g5⟩, g6⟩ := h5
  simp [Cond.before, Cond.holds, Cond.value, h1, h2, h3, h4, g1, g2, g3, g4, g5, g6]
def isCode : Jvm.Cond → Bool
  | .code _ _ _ _ => true
  | _ => false
theorem all_split {L : List Jvm.Cond} {P : Jvm.Cond → Bool} (h1 : L.all (fun c => isCode c || P c) = true) (h2 : ∀ c ∈ L.filter isCode, P c = true) : L.all P = true := by
  refine List.all_eq_true.mpr fun c hc => ?_
  have h := List.all_eq_true.mp h1 c hc
  rcases Bool.eq_false_or_eq_true (isCode c) with hi | hi
  · exact h2 c (List.mem_filter.mpr ⟨hc, hi⟩)
  · simpa [hi] using h
set_option maxRecDepth 65536 in
theorem w_c0 : (Jvm.Cond.code x code maxLocals ret).before args0 about1 = true := code_word (m := ⟨1, 1⟩) (meth := k1m1) (c := k1c1) (by decide +kernel) rfl rfl rfl (by decide +kernel)
set_option maxRecDepth 65536 in
theorem w_c1 : (Jvm.Cond.code ({ cls := "com/example/weaverbird/weaverbird/model/xml/AttributesCollapsePinLaw", name := "draw", desc := "(J)[C" } : Jvm.MethodName) method_3_code (3 : Nat) (Option.some (Jvm.ClassFile.FieldType.array Jvm.ClassFile.FieldType.char))).before args0 about1 = true := code_word (m := ⟨1, 2⟩) (meth := k1m2) (c := k1c2) (by decide +kernel) rfl rfl rfl (by decide +kernel)
set_option maxRecDepth 65536 in
theorem w_c2 : (Jvm.Cond.code ({ cls := "com/example/weaverbird/weaverbird/model/xml/AttributesCollapsePinLaw", name := "ch", desc := "(JI)C" } : Jvm.MethodName) method_4_code (4 : Nat) (Option.some Jvm.ClassFile.FieldType.char)).before args0 about1 = true := code_word (m := ⟨1, 3⟩) (meth := k1m3) (c := k1c3) (by decide +kernel) rfl rfl rfl (by decide +kernel)
set_option maxRecDepth 65536 in
theorem w_c3 : (Jvm.Cond.code ({ cls := "com/example/weaverbird/weaverbird/model/xml/Attributes", name := "<init>", desc := "()V" } : Jvm.MethodName) prog_157_method_1_code (1 : Nat) (Option.none : Option Jvm.ClassFile.FieldType)).before args0 about1 = true := code_word (m := ⟨2, 0⟩) (meth := k2m0) (c := k2c0) (by decide +kernel) rfl rfl rfl (by decide +kernel)
set_option maxRecDepth 65536 in
theorem w_c4 : (Jvm.Cond.code ({ cls := "java/lang/Object", name := "<init>", desc := "()V" } : Jvm.MethodName) object_method_1_code (1 : Nat) (Option.none : Option Jvm.ClassFile.FieldType)).before args0 about1 = true := code_word (m := ⟨0, 0⟩) (meth := k0m0) (c := k0c0) (by decide +kernel) rfl rfl rfl (by decide +kernel)
set_option maxRecDepth 65536 in
theorem w_c5 : (Jvm.Cond.code ({ cls := "com/example/weaverbird/weaverbird/model/xml/Attributes", name := "add", desc := "(Lcom/example/weaverbird/weaverbird/model/xml/NameTable$QualifiedName;)V" } : Jvm.MethodName) prog_157_method_3_code (3 : Nat) (Option.none : Option Jvm.ClassFile.FieldType)).before args0 about1 = true := code_word (m := ⟨2, 1⟩) (meth := k2m1) (c := k2c1) (by decide +kernel) rfl rfl rfl (by decide +kernel)
set_option maxRecDepth 65536 in
theorem w_c6 : (Jvm.Cond.code ({ cls := "com/example/weaverbird/weaverbird/model/xml/Attributes", name := "append", desc := "([CII)V" } : Jvm.MethodName) prog_157_method_5_code (5 : Nat) (Option.none : Option Jvm.ClassFile.FieldType)).before args0 about1 = true := code_word (m := ⟨2, 2⟩) (meth := k2m2) (c := k2c2) (by decide +kernel) rfl rfl rfl (by decide +kernel)
set_option maxRecDepth 65536 in
theorem w_c7 : (Jvm.Cond.code ({ cls := "com/example/weaverbird/weaverbird/model/xml/Attributes", name := "room", desc := "(I)V" } : Jvm.MethodName) prog_157_method_23_code (2 : Nat) (Option.none : Option Jvm.ClassFile.FieldType)).before args0 about1 = true := code_word (m := ⟨2, 6⟩) (meth := k2m6) (c := k2c6) (by decide +kernel) rfl rfl rfl (by decide +kernel)
set_option maxRecDepth 65536 in
theorem w_c8 : (Jvm.Cond.code ({ cls := "com/example/weaverbird/weaverbird/model/xml/Attributes", name := "collapse", desc := "(I)V" } : Jvm.MethodName) prog_157_method_13_code (7 : Nat) (Option.none : Option Jvm.ClassFile.FieldType)).before args0 about1 = true := code_word (m := ⟨2, 5⟩) (meth := k2m5) (c := k2c5) (by decide +kernel) rfl rfl rfl (by decide +kernel)
set_option maxRecDepth 65536 in
theorem w_c9 : (Jvm.Cond.code ({ cls := "com/example/weaverbird/weaverbird/model/xml/AttributesCollapsePinLaw", name := "keep", desc := "([CII)Z" } : Jvm.MethodName) method_7_code (3 : Nat) (Option.some Jvm.ClassFile.FieldType.boolean)).before args0 about1 = true := code_word (m := ⟨1, 6⟩) (meth := k1m6) (c := k1c6) (by decide +kernel) rfl rfl rfl (by decide +kernel)
set_option maxRecDepth 65536 in
theorem w_c10 : (Jvm.Cond.code ({ cls := "com/example/weaverbird/weaverbird/model/xml/AttributesCollapsePinLaw", name := "put", desc := "([CI[CZI)I" } : Jvm.MethodName) method_8_code (5 : Nat) (Option.some Jvm.ClassFile.FieldType.int)).before args0 about1 = true := code_word (m := ⟨1, 7⟩) (meth := k1m7) (c := k1c7) (by decide +kernel) rfl rfl rfl (by decide +kernel)
set_option maxRecDepth 65536 in
theorem w_c11 : (Jvm.Cond.code ({ cls := "com/example/weaverbird/weaverbird/model/xml/Attributes", name := "count", desc := "()I" } : Jvm.MethodName) prog_157_method_6_code (1 : Nat) (Option.some Jvm.ClassFile.FieldType.int)).before args0 about1 = true := code_word (m := ⟨2, 3⟩) (meth := k2m3) (c := k2c3) (by decide +kernel) rfl rfl rfl (by decide +kernel)
set_option maxRecDepth 65536 in
theorem w_c12 : (Jvm.Cond.code ({ cls := "com/example/weaverbird/weaverbird/model/xml/Attributes", name := "value", desc := "(I)Ljava/lang/String;" } : Jvm.MethodName) prog_157_method_8_code (2 : Nat) (Option.some (Jvm.ClassFile.FieldType.object "java/lang/String"))).before args0 about1 = true := code_word (m := ⟨2, 4⟩) (meth := k2m4) (c := k2c4) (by decide +kernel) rfl rfl rfl (by decide +kernel)
set_option maxRecDepth 65536 in
theorem w_c13 : (Jvm.Cond.code ({ cls := "java/lang/String", name := "<init>", desc := "([CII)V" } : Jvm.MethodName) jdk_42_method_4_code (4 : Nat) (Option.none : Option Jvm.ClassFile.FieldType)).before args0 about1 = true := code_word (m := ⟨9, 1⟩) (meth := k9m1) (c := k9c1) (by decide +kernel) rfl rfl rfl (by decide +kernel)
set_option maxRecDepth 65536 in
theorem w_c14 : (Jvm.Cond.code ({ cls := "java/lang/String", name := "rangeCheck", desc := "([CII)Ljava/lang/Void;" } : Jvm.MethodName) jdk_42_method_5_code (3 : Nat) (Option.some (Jvm.ClassFile.FieldType.object "java/lang/Void"))).before args0 about1 = true := code_word (m := ⟨9, 2⟩) (meth := k9m2) (c := k9c2) (by decide +kernel) rfl rfl rfl (by decide +kernel)
set_option maxRecDepth 65536 in
theorem w_c15 : (Jvm.Cond.code ({ cls := "java/lang/String", name := "checkBoundsOffCount", desc := "(III)I" } : Jvm.MethodName) jdk_42_method_157_code (3 : Nat) (Option.some Jvm.ClassFile.FieldType.int)).before args0 about1 = true := code_word (m := ⟨9, 9⟩) (meth := k9m9) (c := k9c9) (by decide +kernel) rfl rfl rfl (by decide +kernel)
set_option maxRecDepth 65536 in
theorem w_c16 : (Jvm.Cond.code ({ cls := "jdk/internal/util/Preconditions", name := "checkFromIndexSize", desc := "(IIILjava/util/function/BiFunction;)I" } : Jvm.MethodName) jdk_41_method_13_code (4 : Nat) (Option.some Jvm.ClassFile.FieldType.int)).before args0 about1 = true := code_word (m := ⟨11, 2⟩) (meth := k11m2) (c := k11c2) (by decide +kernel) rfl rfl rfl (by decide +kernel)
set_option maxRecDepth 65536 in
theorem w_c17 : (Jvm.Cond.code ({ cls := "java/lang/String", name := "<init>", desc := "([CIILjava/lang/Void;)V" } : Jvm.MethodName) jdk_42_method_149_code (6 : Nat) (Option.none : Option Jvm.ClassFile.FieldType)).before args0 about1 = true := code_word (m := ⟨9, 5⟩) (meth := k9m5) (c := k9c5) (by decide +kernel) rfl rfl rfl (by decide +kernel)
set_option maxRecDepth 65536 in
theorem w_c18 : (Jvm.Cond.code ({ cls := "com/example/weaverbird/weaverbird/model/xml/AttributesCollapsePinLaw", name := "same", desc := "(Ljava/lang/String;[CI)Z" } : Jvm.MethodName) method_10_code (3 : Nat) (Option.some Jvm.ClassFile.FieldType.boolean)).before args0 about1 = true := code_word (m := ⟨1, 9⟩) (meth := k1m9) (c := k1c9) (by decide +kernel) rfl rfl rfl (by decide +kernel)
set_option maxRecDepth 65536 in
theorem w_c19 : (Jvm.Cond.code ({ cls := "java/lang/String", name := "length", desc := "()I" } : Jvm.MethodName) jdk_42_method_54_code (1 : Nat) (Option.some Jvm.ClassFile.FieldType.int)).before args0 about1 = true := code_word (m := ⟨9, 3⟩) (meth := k9m3) (c := k9c3) (by decide +kernel) rfl rfl rfl (by decide +kernel)
set_option maxRecDepth 65536 in
theorem w_c20 : (Jvm.Cond.code ({ cls := "java/lang/String", name := "coder", desc := "()B" } : Jvm.MethodName) jdk_42_method_152_code (1 : Nat) (Option.some Jvm.ClassFile.FieldType.byte)).before args0 about1 = true := code_word (m := ⟨9, 6⟩) (meth := k9m6) (c := k9c6) (by decide +kernel) rfl rfl rfl (by decide +kernel)
set_option maxRecDepth 65536 in
theorem w_c21 : (Jvm.Cond.code ({ cls := "com/example/weaverbird/weaverbird/model/xml/AttributesCollapsePinLaw", name := "eq", desc := "(Ljava/lang/String;[CII)Z" } : Jvm.MethodName) method_9_code (4 : Nat) (Option.some Jvm.ClassFile.FieldType.boolean)).before args0 about1 = true := code_word (m := ⟨1, 8⟩) (meth := k1m8) (c := k1c8) (by decide +kernel) rfl rfl rfl (by decide +kernel)
set_option maxRecDepth 65536 in
theorem w_c22 : (Jvm.Cond.code ({ cls := "java/lang/StringUTF16", name := "compress", desc := "([CII)[B" } : Jvm.MethodName) jdk_52_method_16_code (6 : Nat) (Option.some (Jvm.ClassFile.FieldType.array Jvm.ClassFile.FieldType.byte))).before args0 about1 = true := code_word (m := ⟨12, 2⟩) (meth := k12m2) (c := k12c2) (by decide +kernel) rfl rfl rfl (by decide +kernel)
set_option maxRecDepth 65536 in
theorem w_c23 : (Jvm.Cond.code ({ cls := "java/lang/StringUTF16", name := "compress", desc := "([CI[BII)I" } : Jvm.MethodName) jdk_52_method_21_code (7 : Nat) (Option.some Jvm.ClassFile.FieldType.int)).before args0 about1 = true := code_word (m := ⟨12, 3⟩) (meth := k12m3) (c := k12c3) (by decide +kernel) rfl rfl rfl (by decide +kernel)
set_option maxRecDepth 65536 in
theorem w_c24 : (Jvm.Cond.code ({ cls := "java/lang/StringUTF16", name := "coderFromArrayLen", desc := "([BI)B" } : Jvm.MethodName) jdk_52_method_15_code (2 : Nat) (Option.some Jvm.ClassFile.FieldType.byte)).before args0 about1 = true := code_word (m := ⟨12, 1⟩) (meth := k12m1) (c := k12c1) (by decide +kernel) rfl rfl rfl (by decide +kernel)
set_option maxRecDepth 65536 in
theorem w_c25 : (Jvm.Cond.code ({ cls := "java/lang/String", name := "charAt", desc := "(I)C" } : Jvm.MethodName) jdk_42_method_56_code (2 : Nat) (Option.some Jvm.ClassFile.FieldType.char)).before args0 about1 = true := code_word (m := ⟨9, 4⟩) (meth := k9m4) (c := k9c4) (by decide +kernel) rfl rfl rfl (by decide +kernel)
set_option maxRecDepth 65536 in
theorem w_c26 : (Jvm.Cond.code ({ cls := "java/lang/String", name := "isLatin1", desc := "()Z" } : Jvm.MethodName) jdk_42_method_154_code (1 : Nat) (Option.some Jvm.ClassFile.FieldType.boolean)).before args0 about1 = true := code_word (m := ⟨9, 7⟩) (meth := k9m7) (c := k9c7) (by decide +kernel) rfl rfl rfl (by decide +kernel)
set_option maxRecDepth 65536 in
theorem w_c27 : (Jvm.Cond.code ({ cls := "java/lang/StringLatin1", name := "charAt", desc := "([BI)C" } : Jvm.MethodName) jdk_43_method_2_code (2 : Nat) (Option.some Jvm.ClassFile.FieldType.char)).before args0 about1 = true := code_word (m := ⟨13, 1⟩) (meth := k13m1) (c := k13c1) (by decide +kernel) rfl rfl rfl (by decide +kernel)
set_option maxRecDepth 65536 in
theorem w_c28 : (Jvm.Cond.code ({ cls := "java/lang/String", name := "checkIndex", desc := "(II)V" } : Jvm.MethodName) jdk_42_method_155_code (2 : Nat) (Option.none : Option Jvm.ClassFile.FieldType)).before args0 about1 = true := code_word (m := ⟨9, 8⟩) (meth := k9m8) (c := k9c8) (by decide +kernel) rfl rfl rfl (by decide +kernel)
set_option maxRecDepth 65536 in
theorem w_c29 : (Jvm.Cond.code ({ cls := "jdk/internal/util/Preconditions", name := "checkIndex", desc := "(IILjava/util/function/BiFunction;)I" } : Jvm.MethodName) jdk_41_method_11_code (3 : Nat) (Option.some Jvm.ClassFile.FieldType.int)).before args0 about1 = true := code_word (m := ⟨11, 1⟩) (meth := k11m1) (c := k11c1) (by decide +kernel) rfl rfl rfl (by decide +kernel)
set_option maxRecDepth 65536 in
theorem w_c30 : (Jvm.Cond.code ({ cls := "com/example/weaverbird/weaverbird/model/xml/AttributesCollapsePinLaw", name := "later", desc := "([CII)Z" } : Jvm.MethodName) method_6_code (3 : Nat) (Option.some Jvm.ClassFile.FieldType.boolean)).before args0 about1 = true := code_word (m := ⟨1, 5⟩) (meth := k1m5) (c := k1c5) (by decide +kernel) rfl rfl rfl (by decide +kernel)
set_option maxRecDepth 65536 in
theorem w_c31 : (Jvm.Cond.code ({ cls := "com/example/weaverbird/weaverbird/model/xml/AttributesCollapsePinLaw", name := "nb", desc := "([CII)Z" } : Jvm.MethodName) method_5_code (3 : Nat) (Option.some Jvm.ClassFile.FieldType.boolean)).before args0 about1 = true := code_word (m := ⟨1, 4⟩) (meth := k1m4) (c := k1c4) (by decide +kernel) rfl rfl rfl (by decide +kernel)
def codes1 : List Jvm.Cond := [Jvm.Cond.code x code maxLocals ret, Jvm.Cond.code ({ cls := "com/example/weaverbird/weaverbird/model/xml/AttributesCollapsePinLaw", name := "draw", desc := "(J)[C" } : Jvm.MethodName) method_3_code (3 : Nat) (Option.some (Jvm.ClassFile.FieldType.array Jvm.ClassFile.FieldType.char)), Jvm.Cond.code ({ cls := "com/example/weaverbird/weaverbird/model/xml/AttributesCollapsePinLaw", name := "ch", desc := "(JI)C" } : Jvm.MethodName) method_4_code (4 : Nat) (Option.some Jvm.ClassFile.FieldType.char), Jvm.Cond.code ({ cls := "com/example/weaverbird/weaverbird/model/xml/Attributes", name := "<init>", desc := "()V" } : Jvm.MethodName) prog_157_method_1_code (1 : Nat) (Option.none : Option Jvm.ClassFile.FieldType), Jvm.Cond.code ({ cls := "java/lang/Object", name := "<init>", desc := "()V" } : Jvm.MethodName) object_method_1_code (1 : Nat) (Option.none : Option Jvm.ClassFile.FieldType), Jvm.Cond.code ({ cls := "com/example/weaverbird/weaverbird/model/xml/Attributes", name := "add", desc := "(Lcom/example/weaverbird/weaverbird/model/xml/NameTable$QualifiedName;)V" } : Jvm.MethodName) prog_157_method_3_code (3 : Nat) (Option.none : Option Jvm.ClassFile.FieldType), Jvm.Cond.code ({ cls := "com/example/weaverbird/weaverbird/model/xml/Attributes", name := "append", desc := "([CII)V" } : Jvm.MethodName) prog_157_method_5_code (5 : Nat) (Option.none : Option Jvm.ClassFile.FieldType), Jvm.Cond.code ({ cls := "com/example/weaverbird/weaverbird/model/xml/Attributes", name := "room", desc := "(I)V" } : Jvm.MethodName) prog_157_method_23_code (2 : Nat) (Option.none : Option Jvm.ClassFile.FieldType), Jvm.Cond.code ({ cls := "com/example/weaverbird/weaverbird/model/xml/Attributes", name := "collapse", desc := "(I)V" } : Jvm.MethodName) prog_157_method_13_code (7 : Nat) (Option.none : Option Jvm.ClassFile.FieldType), Jvm.Cond.code ({ cls := "com/example/weaverbird/weaverbird/model/xml/AttributesCollapsePinLaw", name := "keep", desc := "([CII)Z" } : Jvm.MethodName) method_7_code (3 : Nat) (Option.some Jvm.ClassFile.FieldType.boolean), Jvm.Cond.code ({ cls := "com/example/weaverbird/weaverbird/model/xml/AttributesCollapsePinLaw", name := "put", desc := "([CI[CZI)I" } : Jvm.MethodName) method_8_code (5 : Nat) (Option.some Jvm.ClassFile.FieldType.int), Jvm.Cond.code ({ cls := "com/example/weaverbird/weaverbird/model/xml/Attributes", name := "count", desc := "()I" } : Jvm.MethodName) prog_157_method_6_code (1 : Nat) (Option.some Jvm.ClassFile.FieldType.int), Jvm.Cond.code ({ cls := "com/example/weaverbird/weaverbird/model/xml/Attributes", name := "value", desc := "(I)Ljava/lang/String;" } : Jvm.MethodName) prog_157_method_8_code (2 : Nat) (Option.some (Jvm.ClassFile.FieldType.object "java/lang/String")), Jvm.Cond.code ({ cls := "java/lang/String", name := "<init>", desc := "([CII)V" } : Jvm.MethodName) jdk_42_method_4_code (4 : Nat) (Option.none : Option Jvm.ClassFile.FieldType), Jvm.Cond.code ({ cls := "java/lang/String", name := "rangeCheck", desc := "([CII)Ljava/lang/Void;" } : Jvm.MethodName) jdk_42_method_5_code (3 : Nat) (Option.some (Jvm.ClassFile.FieldType.object "java/lang/Void")), Jvm.Cond.code ({ cls := "java/lang/String", name := "checkBoundsOffCount", desc := "(III)I" } : Jvm.MethodName) jdk_42_method_157_code (3 : Nat) (Option.some Jvm.ClassFile.FieldType.int), Jvm.Cond.code ({ cls := "jdk/internal/util/Preconditions", name := "checkFromIndexSize", desc := "(IIILjava/util/function/BiFunction;)I" } : Jvm.MethodName) jdk_41_method_13_code (4 : Nat) (Option.some Jvm.ClassFile.FieldType.int), Jvm.Cond.code ({ cls := "java/lang/String", name := "<init>", desc := "([CIILjava/lang/Void;)V" } : Jvm.MethodName) jdk_42_method_149_code (6 : Nat) (Option.none : Option Jvm.ClassFile.FieldType), Jvm.Cond.code ({ cls := "com/example/weaverbird/weaverbird/model/xml/AttributesCollapsePinLaw", name := "same", desc := "(Ljava/lang/String;[CI)Z" } : Jvm.MethodName) method_10_code (3 : Nat) (Option.some Jvm.ClassFile.FieldType.boolean), Jvm.Cond.code ({ cls := "java/lang/String", name := "length", desc := "()I" } : Jvm.MethodName) jdk_42_method_54_code (1 : Nat) (Option.some Jvm.ClassFile.FieldType.int), Jvm.Cond.code ({ cls := "java/lang/String", name := "coder", desc := "()B" } : Jvm.MethodName) jdk_42_method_152_code (1 : Nat) (Option.some Jvm.ClassFile.FieldType.byte), Jvm.Cond.code ({ cls := "com/example/weaverbird/weaverbird/model/xml/AttributesCollapsePinLaw", name := "eq", desc := "(Ljava/lang/String;[CII)Z" } : Jvm.MethodName) method_9_code (4 : Nat) (Option.some Jvm.ClassFile.FieldType.boolean), Jvm.Cond.code ({ cls := "java/lang/StringUTF16", name := "compress", desc := "([CII)[B" } : Jvm.MethodName) jdk_52_method_16_code (6 : Nat) (Option.some (Jvm.ClassFile.FieldType.array Jvm.ClassFile.FieldType.byte)), Jvm.Cond.code ({ cls := "java/lang/StringUTF16", name := "compress", desc := "([CI[BII)I" } : Jvm.MethodName) jdk_52_method_21_code (7 : Nat) (Option.some Jvm.ClassFile.FieldType.int), Jvm.Cond.code ({ cls := "java/lang/StringUTF16", name := "coderFromArrayLen", desc := "([BI)B" } : Jvm.MethodName) jdk_52_method_15_code (2 : Nat) (Option.some Jvm.ClassFile.FieldType.byte), Jvm.Cond.code ({ cls := "java/lang/String", name := "charAt", desc := "(I)C" } : Jvm.MethodName) jdk_42_method_56_code (2 : Nat) (Option.some Jvm.ClassFile.FieldType.char), Jvm.Cond.code ({ cls := "java/lang/String", name := "isLatin1", desc := "()Z" } : Jvm.MethodName) jdk_42_method_154_code (1 : Nat) (Option.some Jvm.ClassFile.FieldType.boolean), Jvm.Cond.code ({ cls := "java/lang/StringLatin1", name := "charAt", desc := "([BI)C" } : Jvm.MethodName) jdk_43_method_2_code (2 : Nat) (Option.some Jvm.ClassFile.FieldType.char), Jvm.Cond.code ({ cls := "java/lang/String", name := "checkIndex", desc := "(II)V" } : Jvm.MethodName) jdk_42_method_155_code (2 : Nat) (Option.none : Option Jvm.ClassFile.FieldType), Jvm.Cond.code ({ cls := "jdk/internal/util/Preconditions", name := "checkIndex", desc := "(IILjava/util/function/BiFunction;)I" } : Jvm.MethodName) jdk_41_method_11_code (3 : Nat) (Option.some Jvm.ClassFile.FieldType.int), Jvm.Cond.code ({ cls := "com/example/weaverbird/weaverbird/model/xml/AttributesCollapsePinLaw", name := "later", desc := "([CII)Z" } : Jvm.MethodName) method_6_code (3 : Nat) (Option.some Jvm.ClassFile.FieldType.boolean), Jvm.Cond.code ({ cls := "com/example/weaverbird/weaverbird/model/xml/AttributesCollapsePinLaw", name := "nb", desc := "([CII)Z" } : Jvm.MethodName) method_5_code (3 : Nat) (Option.some Jvm.ClassFile.FieldType.boolean)]
set_option maxRecDepth 65536 in
theorem codes_eq : words1.filter isCode = codes1 := rfl
theorem w_codes : ∀ c ∈ words1.filter isCode, c.before args0 about1 = true := by
  rw [codes_eq]
  intro c hc
  simp only [codes1, List.mem_cons, List.not_mem_nil, or_false] at hc
  rcases hc with rfl | rfl | rfl | rfl | rfl | rfl | rfl | rfl | rfl | rfl | rfl | rfl | rfl | rfl | rfl | rfl | rfl | rfl | rfl | rfl | rfl | rfl | rfl | rfl | rfl | rfl | rfl | rfl | rfl | rfl | rfl | rfl
  · exact w_c0
  · exact w_c1
  · exact w_c2
  · exact w_c3
  · exact w_c4
  · exact w_c5
  · exact w_c6
  · exact w_c7
  · exact w_c8
  · exact w_c9
  · exact w_c10
  · exact w_c11
  · exact w_c12
  · exact w_c13
  · exact w_c14
  · exact w_c15
  · exact w_c16
  · exact w_c17
  · exact w_c18
  · exact w_c19
  · exact w_c20
  · exact w_c21
  · exact w_c22
  · exact w_c23
  · exact w_c24
  · exact w_c25
  · exact w_c26
  · exact w_c27
  · exact w_c28
  · exact w_c29
  · exact w_c30
  · exact w_c31
set_option maxRecDepth 65536 in
theorem w_t1 : (words1.take 24).all (fun c => isCode c || c.before args0 about1) = true := by decide +kernel
set_option maxRecDepth 65536 in
theorem w_t2 : ((words1.drop 24).take 24).all (fun c => isCode c || c.before args0 about1) = true := by decide +kernel
set_option maxRecDepth 65536 in
theorem w_t3 : (((words1.drop 24).drop 24).take 24).all (fun c => isCode c || c.before args0 about1) = true := by decide +kernel
set_option maxRecDepth 65536 in
theorem w_t4 : ((((words1.drop 24).drop 24).drop 24).take 24).all (fun c => isCode c || c.before args0 about1) = true := by decide +kernel
set_option maxRecDepth 65536 in
theorem w_t5 : (((((words1.drop 24).drop 24).drop 24).drop 24).take 24).all (fun c => isCode c || c.before args0 about1) = true := by decide +kernel
set_option maxRecDepth 65536 in
theorem w_t6 : ((((((words1.drop 24).drop 24).drop 24).drop 24).drop 24).take 24).all (fun c => isCode c || c.before args0 about1) = true := by decide +kernel
set_option maxRecDepth 65536 in
theorem w_t7 : ((((((words1.drop 24).drop 24).drop 24).drop 24).drop 24).drop 24).all (fun c => isCode c || c.before args0 about1) = true := by decide +kernel
theorem w_tables : (allAtoms (Jvm.Cond.code x code maxLocals ret :: tables_1)).before args0 about1 = true := by
  rw [allAtoms_all]
  show words1.all (fun c => c.before args0 about1) = true
  refine all_split ?_ w_codes
  rw [← List.take_append_drop 24 words1, List.all_append, w_t1, ← List.take_append_drop 24 (words1.drop 24), List.all_append, w_t2, ← List.take_append_drop 24 ((words1.drop 24).drop 24), List.all_append, w_t3, ← List.take_append_drop 24 (((words1.drop 24).drop 24).drop 24), List.all_append, w_t4, ← List.take_append_drop 24 ((((words1.drop 24).drop 24).drop 24).drop 24), List.all_append, w_t5, ← List.take_append_drop 24 (((((words1.drop 24).drop 24).drop 24).drop 24).drop 24), List.all_append, w_t6, w_t7]
  rfl
set_option maxRecDepth 65536 in
theorem w_rest : rest_1_c.before args0 about1 = true := by decide +kernel
set_option maxRecDepth 65536 in
theorem w_case : (Jvm.Cond.and given_1 narrow_1).before args0 about1 = true := by decide +kernel
set_option maxRecDepth 65536 in
theorem w_consts : constsHeld consts_1 about1 := Jvm.Lit.constsHeldB_iff.mp (by decide +kernel)
theorem w_applies : (headSpec (Jvm.Cond.code x code maxLocals ret :: tables_1) room_1).applies x e0.platform about1 = true :=
  (Spec.applies_iff w_frames).mpr ⟨w_running, w_runnable, w_alone, w_named, w_hears, w_ripe, w_room, w_tables⟩
theorem atStart : AtStart classFile x code maxLocals ret World_1 tables_1 room_1 Calls_1 rest_1 Pre_1 launch0 p0 e0 about1 theMethod args0 below0 :=
  ⟨lists_1, trivial, launch0.admits_env _ _ _, launch0.least_env, fairChoices_fair.cas, fairChoices_fair.clock, w_frames, w_args, w_heap, w_applies, ⟨w_consts, trivial⟩, w_rest, w_case⟩
end start1
theorem witness_1 : WitnessClaimed_1 := ⟨start1.p0, start1.e0, start1.about1, start1.theMethod, start1.args0, start1.below0, start1.atStart⟩
end Jvm.Pilot.@@N@@
