import JvmDerived
import JvmDerived.Pilot.@@N@@Statement
import JvmDerived.Pilot.@@N@@Code
set_option linter.unusedVariables false
set_option linter.unusedSimpArgs false
namespace Jvm.RoadKit
open Sem ClassFile Op Lib Jvm.Stand Jvm.Free Jvm.LawKit
section New
variable {p : Program} {l : Launch} {e : Env} {R : Room} {s : State} {m : MethodId} {args : Array Value} {below : List Frame} {meth : Method} {c : Code} {T : State} {locs : List Loc} {cells slots : Nat}
theorem retI (X : Stand p l e R s m args below meth c T locs cells slots) (hx : p.tables.exec = Jvm.exec) {pc : Nat} {Ls : Array Slot} {z : Int32} {rest : List Value} (hret : meth.sig.returnType = some .int) (hd : decode c.code pc = .ok (.ireturn, 1)) {fs : List Frame}
    (hl : ∀ (f : JFrame) (acts : List Action), f.method = m → f.locked = none → f.entered = [] → (doReturn e (T.setTop f) acts (some (.int z))).1 = T.setFrames fs) : Steps p.tables e below (T.setTop (mkF m pc Ls (.int z :: rest))) (T.setFrames fs) := by
  have hm' : T.vm.method? m = some meth := X.method'
  have hn : narrow .int (.int z) = .int z := rfl
  show Steps p.tables e below (T.setTop { method := m, pc := pc, locals := Ls, stack := _ :: rest, locked := none }) _
  jvm_step X.here [X.here.top, hx, hd, hm', hret, hn]
  first | (intro acts; rw [hl _ acts rfl rfl rfl]) | rw [hl _ _ rfl rfl rfl]
  exact Steps.refl _
end New
end Jvm.RoadKit
namespace Jvm.Pilot.@@N@@
open Jvm Jvm.ClassFile Sem Op Lib Jvm.Free Jvm.Stand Jvm.LawKit Jvm.RoadKit Bundle Jvm.Pilot.@@N@@.Jvm.D
abbrev own_s (p : Program) (e : Env) (below : List Frame) (T : State) (m : MethodId) (pc : Nat) (L : Array Slot) (S : List Value) (t : State) : Prop := Steps p.tables e below (T.setTop (mkF m pc L S)) t
def own_up (f : Nat → Value) (i : Nat) (v : Value) : Nat → Value := fun j => if j = i then v else f j
def own_Af (Z : State) (h : Heap) (a : Addr) (ty : FieldType) (n : Nat) (f : Nat → Value) : Prop := ∃ c : Cell, Arr Z h a c ty ∧ c.slots.size = n ∧ n < 2 ^ 31 ∧ ∀ j, j < n → c.slots[j]? = some (f j)
theorem own_Af.lt {Z : State} {h : Heap} {a : Addr} {ty : FieldType} {n : Nat} {f : Nat → Value} (F : own_Af Z h a ty n f) : a < h.size := by obtain ⟨c, A, -⟩ := F; exact A.lt
theorem own_Af.ext {Z : State} {h h' : Heap} {a : Addr} {ty : FieldType} {n : Nat} {f : Nat → Value} (F : own_Af Z h a ty n f) (E : Ext h h') : own_Af Z h' a ty n f := by obtain ⟨c, A, r⟩ := F; exact ⟨c, A.ext E, r⟩
theorem own_Af.other {Z : State} {h h' : Heap} {a b : Addr} {ty : FieldType} {n : Nat} {f : Nat → Value} {sl : Nat} {v : Value} (F : own_Af Z h b ty n f) (W : Wr h h' a sl v) (q : b ≠ a) : own_Af Z h' b ty n f := by obtain ⟨c, A, r⟩ := F; exact ⟨c, A.other W q, r⟩
theorem own_Af.keep {Z : State} {h h' : Heap} {a : Addr} {ty : FieldType} {n : Nat} {f : Nat → Value} {ws : List Addr} (F : own_Af Z h a ty n f) (K : Keep h h' ws) (q : a ∉ ws) : own_Af Z h' a ty n f := by obtain ⟨c, A, r⟩ := F; exact ⟨c, ⟨K.2.1 a c A.1 q, A.2⟩, r⟩
theorem own_Af.new {Z : State} {h : Heap} {a : Addr} {ty : FieldType} {k : ClassId} {z : Int32} {n : Nat} {d : Value} (A : Arr Z h a (newA k ty z) ty) (q : ¬ z < 0) (hn : z.toNatClampNeg = n) (hd : defaultValue ty = d := by rfl) : own_Af Z h a ty n (fun _ => d) := by
  subst hn hd
  refine ⟨_, A, sz_new _ _ _, (back32 q).2, fun j hj => ?_⟩
  simp [newA, hj]
theorem own_Af.set {Z : State} {h h' : Heap} {a : Addr} {ty : FieldType} {n i : Nat} {f : Nat → Value} {v : Value} {c : Cell} (A : Arr Z h a c ty) (S : c.slots.size = n) (M : n < 2 ^ 31) (H : ∀ j, j < n → c.slots[j]? = some (f j)) (W : Wr h h' a i v) : own_Af Z h' a ty n (own_up f i v) := by
  refine ⟨_, A.same W, by rw [sz_set]; exact S, M, fun j hj => ?_⟩
  have := H j hj
  simp only [own_up, Cell.setSlot]
  by_cases e : j = i
  · subst e; simp [Array.getElem?_setIfInBounds, S, hj]
  · rw [if_neg e, Array.getElem?_setIfInBounds, if_neg (fun q => e q.symm)]; exact this
theorem own_inb {c : Cell} {n : Nat} {j : Int32} (S : c.slots.size = n) (M : n < 2 ^ 31) (q : ¬ j < 0 ∧ j.toNatClampNeg < n) : ¬ (j < 0 ∨ c.slots.size ≤ j.toNatClampNeg) := by
  rw [S]; exact fun z => z.elim q.1 (fun w => absurd q.2 (Nat.not_lt.mpr w))
theorem own_get {c : Cell} {n : Nat} {f : Nat → Value} {j : Int32} {v : Value} (H : ∀ j, j < n → c.slots[j]? = some (f j)) (S : c.slots.size = n) (q : ¬ j < 0 ∧ j.toNatClampNeg < n) (e : f j.toNatClampNeg = v) : c.slots[j.toNatClampNeg]? = some v := by
  rw [H _ q.2, e]
def own_min (x y : Int32) : Int32 := if y < x then y else x
def own_max (x y : Int32) : Int32 := if x < y then y else x
theorem own_nat {j : Int32} {n : Nat} (h : j.toInt = n) : j.toNatClampNeg = n := by simp only [Int32.toNatClampNeg]; omega
theorem own_ofn {n : Nat} (h : n < 2 ^ 31) : (Int32.ofNat n).toInt = n := Int32.toInt_ofNat_of_lt h
theorem own_of {j : Int32} {n : Nat} (hn : n < 2 ^ 31) (h : j.toInt = n) : j = Int32.ofNat n := Int32.toInt_inj.mp (h.trans (own_ofn hn).symm)
theorem own_sc (n : Nat) : Int32.ofNat n + (1 : Int32) = Int32.ofNat (n + 1) := (Int32.ofNat_add n 1).symm
theorem own_idx {j : Int32} {n : Nat} (h0 : 0 ≤ j.toInt) (h1 : j.toInt < n) : ¬ j < 0 ∧ j.toNatClampNeg < n := by
  have q : ¬ j < 0 := fun w => by have := Int32.lt_iff_toInt_lt.mp w; have e : (0 : Int32).toInt = 0 := rfl; omega
  exact ⟨q, by have := nat_of q; omega⟩
def own_upi (g : Nat → Int32) (i : Nat) (z : Int32) : Nat → Int32 := fun j => if j = i then z else g j
theorem own_upI {g : Nat → Int32} {i : Nat} {z : Int32} : own_up (fun j => .int (g j)) i (.int z) = fun j => .int (own_upi g i z j) := by
  funext j; unfold own_up own_upi; by_cases e : j = i
  · rw [if_pos e, if_pos e]
  · rw [if_neg e, if_neg e]
def own_pn : Nat → Int32
  | 0 => 1
  | 1 => 31
  | 2 => 961
  | 3 => 29791
  | 4 => 923521
  | 5 => 28629151
  | 6 => 887503681
  | _ => 1742810335
def own_term (g : Nat → Int32) (i F T : Nat) : Int32 := if i < F ∨ T ≤ i then 0 else g i * own_pn (T - 1 - i)
def own_acc (g : Nat → Int32) (F : Nat) : Nat → Int32
  | 0 => 0
  | n + 1 => (31 : Int32) * own_acc g F n + g (F + n)
def own_mix (S : Int32) : Int32 := ((S * (-1640531527 : Int32)) ^^^ (((S * (-1640531527 : Int32)).toUInt32 >>> ((16 : Int32) &&& 31).toUInt32).toInt32))
theorem own_sum (g : Nat → Int32) (F T : Nat) (h1 : F ≤ T) (h2 : T ≤ 8) : (((((((((0 : Int32) + (own_term g 0 F T)) + (own_term g 1 F T)) + (own_term g 2 F T)) + (own_term g 3 F T)) + (own_term g 4 F T)) + (own_term g 5 F T)) + (own_term g 6 F T)) + (own_term g 7 F T)) = own_acc g F (T - F) := by
  rcases (by omega : T = 0 ∨ T = 1 ∨ T = 2 ∨ T = 3 ∨ T = 4 ∨ T = 5 ∨ T = 6 ∨ T = 7 ∨ T = 8) with rfl | rfl | rfl | rfl | rfl | rfl | rfl | rfl | rfl
  · rcases (by omega : F = 0) with rfl
    · simp only [own_term, own_pn, own_acc, Nat.reduceSub, Nat.reduceLT, Nat.reduceLeDiff, Nat.reduceAdd, or_false, or_true, false_or, true_or, if_true, if_false, if_pos, reduceIte, Nat.not_lt_zero, Nat.lt_irrefl]
      grind
  · rcases (by omega : F = 0 ∨ F = 1) with rfl | rfl
    · simp only [own_term, own_pn, own_acc, Nat.reduceSub, Nat.reduceLT, Nat.reduceLeDiff, Nat.reduceAdd, or_false, or_true, false_or, true_or, if_true, if_false, if_pos, reduceIte, Nat.not_lt_zero, Nat.lt_irrefl]
      grind
    · simp only [own_term, own_pn, own_acc, Nat.reduceSub, Nat.reduceLT, Nat.reduceLeDiff, Nat.reduceAdd, or_false, or_true, false_or, true_or, if_true, if_false, if_pos, reduceIte, Nat.not_lt_zero, Nat.lt_irrefl]
      grind
  · rcases (by omega : F = 0 ∨ F = 1 ∨ F = 2) with rfl | rfl | rfl
    · simp only [own_term, own_pn, own_acc, Nat.reduceSub, Nat.reduceLT, Nat.reduceLeDiff, Nat.reduceAdd, or_false, or_true, false_or, true_or, if_true, if_false, if_pos, reduceIte, Nat.not_lt_zero, Nat.lt_irrefl]
      grind
    · simp only [own_term, own_pn, own_acc, Nat.reduceSub, Nat.reduceLT, Nat.reduceLeDiff, Nat.reduceAdd, or_false, or_true, false_or, true_or, if_true, if_false, if_pos, reduceIte, Nat.not_lt_zero, Nat.lt_irrefl]
      grind
    · simp only [own_term, own_pn, own_acc, Nat.reduceSub, Nat.reduceLT, Nat.reduceLeDiff, Nat.reduceAdd, or_false, or_true, false_or, true_or, if_true, if_false, if_pos, reduceIte, Nat.not_lt_zero, Nat.lt_irrefl]
      grind
  · rcases (by omega : F = 0 ∨ F = 1 ∨ F = 2 ∨ F = 3) with rfl | rfl | rfl | rfl
    · simp only [own_term, own_pn, own_acc, Nat.reduceSub, Nat.reduceLT, Nat.reduceLeDiff, Nat.reduceAdd, or_false, or_true, false_or, true_or, if_true, if_false, if_pos, reduceIte, Nat.not_lt_zero, Nat.lt_irrefl]
      grind
    · simp only [own_term, own_pn, own_acc, Nat.reduceSub, Nat.reduceLT, Nat.reduceLeDiff, Nat.reduceAdd, or_false, or_true, false_or, true_or, if_true, if_false, if_pos, reduceIte, Nat.not_lt_zero, Nat.lt_irrefl]
      grind
    · simp only [own_term, own_pn, own_acc, Nat.reduceSub, Nat.reduceLT, Nat.reduceLeDiff, Nat.reduceAdd, or_false, or_true, false_or, true_or, if_true, if_false, if_pos, reduceIte, Nat.not_lt_zero, Nat.lt_irrefl]
      grind
    · simp only [own_term, own_pn, own_acc, Nat.reduceSub, Nat.reduceLT, Nat.reduceLeDiff, Nat.reduceAdd, or_false, or_true, false_or, true_or, if_true, if_false, if_pos, reduceIte, Nat.not_lt_zero, Nat.lt_irrefl]
      grind
  · rcases (by omega : F = 0 ∨ F = 1 ∨ F = 2 ∨ F = 3 ∨ F = 4) with rfl | rfl | rfl | rfl | rfl
    · simp only [own_term, own_pn, own_acc, Nat.reduceSub, Nat.reduceLT, Nat.reduceLeDiff, Nat.reduceAdd, or_false, or_true, false_or, true_or, if_true, if_false, if_pos, reduceIte, Nat.not_lt_zero, Nat.lt_irrefl]
      grind
    · simp only [own_term, own_pn, own_acc, Nat.reduceSub, Nat.reduceLT, Nat.reduceLeDiff, Nat.reduceAdd, or_false, or_true, false_or, true_or, if_true, if_false, if_pos, reduceIte, Nat.not_lt_zero, Nat.lt_irrefl]
      grind
    · simp only [own_term, own_pn, own_acc, Nat.reduceSub, Nat.reduceLT, Nat.reduceLeDiff, Nat.reduceAdd, or_false, or_true, false_or, true_or, if_true, if_false, if_pos, reduceIte, Nat.not_lt_zero, Nat.lt_irrefl]
      grind
    · simp only [own_term, own_pn, own_acc, Nat.reduceSub, Nat.reduceLT, Nat.reduceLeDiff, Nat.reduceAdd, or_false, or_true, false_or, true_or, if_true, if_false, if_pos, reduceIte, Nat.not_lt_zero, Nat.lt_irrefl]
      grind
    · simp only [own_term, own_pn, own_acc, Nat.reduceSub, Nat.reduceLT, Nat.reduceLeDiff, Nat.reduceAdd, or_false, or_true, false_or, true_or, if_true, if_false, if_pos, reduceIte, Nat.not_lt_zero, Nat.lt_irrefl]
      grind
  · rcases (by omega : F = 0 ∨ F = 1 ∨ F = 2 ∨ F = 3 ∨ F = 4 ∨ F = 5) with rfl | rfl | rfl | rfl | rfl | rfl
    · simp only [own_term, own_pn, own_acc, Nat.reduceSub, Nat.reduceLT, Nat.reduceLeDiff, Nat.reduceAdd, or_false, or_true, false_or, true_or, if_true, if_false, if_pos, reduceIte, Nat.not_lt_zero, Nat.lt_irrefl]
      grind
    · simp only [own_term, own_pn, own_acc, Nat.reduceSub, Nat.reduceLT, Nat.reduceLeDiff, Nat.reduceAdd, or_false, or_true, false_or, true_or, if_true, if_false, if_pos, reduceIte, Nat.not_lt_zero, Nat.lt_irrefl]
      grind
    · simp only [own_term, own_pn, own_acc, Nat.reduceSub, Nat.reduceLT, Nat.reduceLeDiff, Nat.reduceAdd, or_false, or_true, false_or, true_or, if_true, if_false, if_pos, reduceIte, Nat.not_lt_zero, Nat.lt_irrefl]
      grind
    · simp only [own_term, own_pn, own_acc, Nat.reduceSub, Nat.reduceLT, Nat.reduceLeDiff, Nat.reduceAdd, or_false, or_true, false_or, true_or, if_true, if_false, if_pos, reduceIte, Nat.not_lt_zero, Nat.lt_irrefl]
      grind
    · simp only [own_term, own_pn, own_acc, Nat.reduceSub, Nat.reduceLT, Nat.reduceLeDiff, Nat.reduceAdd, or_false, or_true, false_or, true_or, if_true, if_false, if_pos, reduceIte, Nat.not_lt_zero, Nat.lt_irrefl]
      grind
    · simp only [own_term, own_pn, own_acc, Nat.reduceSub, Nat.reduceLT, Nat.reduceLeDiff, Nat.reduceAdd, or_false, or_true, false_or, true_or, if_true, if_false, if_pos, reduceIte, Nat.not_lt_zero, Nat.lt_irrefl]
      grind
  · rcases (by omega : F = 0 ∨ F = 1 ∨ F = 2 ∨ F = 3 ∨ F = 4 ∨ F = 5 ∨ F = 6) with rfl | rfl | rfl | rfl | rfl | rfl | rfl
    · simp only [own_term, own_pn, own_acc, Nat.reduceSub, Nat.reduceLT, Nat.reduceLeDiff, Nat.reduceAdd, or_false, or_true, false_or, true_or, if_true, if_false, if_pos, reduceIte, Nat.not_lt_zero, Nat.lt_irrefl]
      grind
    · simp only [own_term, own_pn, own_acc, Nat.reduceSub, Nat.reduceLT, Nat.reduceLeDiff, Nat.reduceAdd, or_false, or_true, false_or, true_or, if_true, if_false, if_pos, reduceIte, Nat.not_lt_zero, Nat.lt_irrefl]
      grind
    · simp only [own_term, own_pn, own_acc, Nat.reduceSub, Nat.reduceLT, Nat.reduceLeDiff, Nat.reduceAdd, or_false, or_true, false_or, true_or, if_true, if_false, if_pos, reduceIte, Nat.not_lt_zero, Nat.lt_irrefl]
      grind
    · simp only [own_term, own_pn, own_acc, Nat.reduceSub, Nat.reduceLT, Nat.reduceLeDiff, Nat.reduceAdd, or_false, or_true, false_or, true_or, if_true, if_false, if_pos, reduceIte, Nat.not_lt_zero, Nat.lt_irrefl]
      grind
    · simp only [own_term, own_pn, own_acc, Nat.reduceSub, Nat.reduceLT, Nat.reduceLeDiff, Nat.reduceAdd, or_false, or_true, false_or, true_or, if_true, if_false, if_pos, reduceIte, Nat.not_lt_zero, Nat.lt_irrefl]
      grind
    · simp only [own_term, own_pn, own_acc, Nat.reduceSub, Nat.reduceLT, Nat.reduceLeDiff, Nat.reduceAdd, or_false, or_true, false_or, true_or, if_true, if_false, if_pos, reduceIte, Nat.not_lt_zero, Nat.lt_irrefl]
      grind
    · simp only [own_term, own_pn, own_acc, Nat.reduceSub, Nat.reduceLT, Nat.reduceLeDiff, Nat.reduceAdd, or_false, or_true, false_or, true_or, if_true, if_false, if_pos, reduceIte, Nat.not_lt_zero, Nat.lt_irrefl]
      grind
  · rcases (by omega : F = 0 ∨ F = 1 ∨ F = 2 ∨ F = 3 ∨ F = 4 ∨ F = 5 ∨ F = 6 ∨ F = 7) with rfl | rfl | rfl | rfl | rfl | rfl | rfl | rfl
    · simp only [own_term, own_pn, own_acc, Nat.reduceSub, Nat.reduceLT, Nat.reduceLeDiff, Nat.reduceAdd, or_false, or_true, false_or, true_or, if_true, if_false, if_pos, reduceIte, Nat.not_lt_zero, Nat.lt_irrefl]
      grind
    · simp only [own_term, own_pn, own_acc, Nat.reduceSub, Nat.reduceLT, Nat.reduceLeDiff, Nat.reduceAdd, or_false, or_true, false_or, true_or, if_true, if_false, if_pos, reduceIte, Nat.not_lt_zero, Nat.lt_irrefl]
      grind
    · simp only [own_term, own_pn, own_acc, Nat.reduceSub, Nat.reduceLT, Nat.reduceLeDiff, Nat.reduceAdd, or_false, or_true, false_or, true_or, if_true, if_false, if_pos, reduceIte, Nat.not_lt_zero, Nat.lt_irrefl]
      grind
    · simp only [own_term, own_pn, own_acc, Nat.reduceSub, Nat.reduceLT, Nat.reduceLeDiff, Nat.reduceAdd, or_false, or_true, false_or, true_or, if_true, if_false, if_pos, reduceIte, Nat.not_lt_zero, Nat.lt_irrefl]
      grind
    · simp only [own_term, own_pn, own_acc, Nat.reduceSub, Nat.reduceLT, Nat.reduceLeDiff, Nat.reduceAdd, or_false, or_true, false_or, true_or, if_true, if_false, if_pos, reduceIte, Nat.not_lt_zero, Nat.lt_irrefl]
      grind
    · simp only [own_term, own_pn, own_acc, Nat.reduceSub, Nat.reduceLT, Nat.reduceLeDiff, Nat.reduceAdd, or_false, or_true, false_or, true_or, if_true, if_false, if_pos, reduceIte, Nat.not_lt_zero, Nat.lt_irrefl]
      grind
    · simp only [own_term, own_pn, own_acc, Nat.reduceSub, Nat.reduceLT, Nat.reduceLeDiff, Nat.reduceAdd, or_false, or_true, false_or, true_or, if_true, if_false, if_pos, reduceIte, Nat.not_lt_zero, Nat.lt_irrefl]
      grind
    · simp only [own_term, own_pn, own_acc, Nat.reduceSub, Nat.reduceLT, Nat.reduceLeDiff, Nat.reduceAdd, or_false, or_true, false_or, true_or, if_true, if_false, if_pos, reduceIte, Nat.not_lt_zero, Nat.lt_irrefl]
      grind
  · rcases (by omega : F = 0 ∨ F = 1 ∨ F = 2 ∨ F = 3 ∨ F = 4 ∨ F = 5 ∨ F = 6 ∨ F = 7 ∨ F = 8) with rfl | rfl | rfl | rfl | rfl | rfl | rfl | rfl | rfl
    · simp only [own_term, own_pn, own_acc, Nat.reduceSub, Nat.reduceLT, Nat.reduceLeDiff, Nat.reduceAdd, or_false, or_true, false_or, true_or, if_true, if_false, if_pos, reduceIte, Nat.not_lt_zero, Nat.lt_irrefl]
      grind
    · simp only [own_term, own_pn, own_acc, Nat.reduceSub, Nat.reduceLT, Nat.reduceLeDiff, Nat.reduceAdd, or_false, or_true, false_or, true_or, if_true, if_false, if_pos, reduceIte, Nat.not_lt_zero, Nat.lt_irrefl]
      grind
    · simp only [own_term, own_pn, own_acc, Nat.reduceSub, Nat.reduceLT, Nat.reduceLeDiff, Nat.reduceAdd, or_false, or_true, false_or, true_or, if_true, if_false, if_pos, reduceIte, Nat.not_lt_zero, Nat.lt_irrefl]
      grind
    · simp only [own_term, own_pn, own_acc, Nat.reduceSub, Nat.reduceLT, Nat.reduceLeDiff, Nat.reduceAdd, or_false, or_true, false_or, true_or, if_true, if_false, if_pos, reduceIte, Nat.not_lt_zero, Nat.lt_irrefl]
      grind
    · simp only [own_term, own_pn, own_acc, Nat.reduceSub, Nat.reduceLT, Nat.reduceLeDiff, Nat.reduceAdd, or_false, or_true, false_or, true_or, if_true, if_false, if_pos, reduceIte, Nat.not_lt_zero, Nat.lt_irrefl]
      grind
    · simp only [own_term, own_pn, own_acc, Nat.reduceSub, Nat.reduceLT, Nat.reduceLeDiff, Nat.reduceAdd, or_false, or_true, false_or, true_or, if_true, if_false, if_pos, reduceIte, Nat.not_lt_zero, Nat.lt_irrefl]
      grind
    · simp only [own_term, own_pn, own_acc, Nat.reduceSub, Nat.reduceLT, Nat.reduceLeDiff, Nat.reduceAdd, or_false, or_true, false_or, true_or, if_true, if_false, if_pos, reduceIte, Nat.not_lt_zero, Nat.lt_irrefl]
      grind
    · simp only [own_term, own_pn, own_acc, Nat.reduceSub, Nat.reduceLT, Nat.reduceLeDiff, Nat.reduceAdd, or_false, or_true, false_or, true_or, if_true, if_false, if_pos, reduceIte, Nat.not_lt_zero, Nat.lt_irrefl]
      grind
    · simp only [own_term, own_pn, own_acc, Nat.reduceSub, Nat.reduceLT, Nat.reduceLeDiff, Nat.reduceAdd, or_false, or_true, false_or, true_or, if_true, if_false, if_pos, reduceIte, Nat.not_lt_zero, Nat.lt_irrefl]
      grind
theorem d1_0 : decode jdk_29_method_69_code 0 = .ok (.iload_n 0, 1) := by decide +kernel
theorem d1_1 : decode jdk_29_method_69_code 1 = .ok (.iload_n 1, 1) := by decide +kernel
theorem d1_2 : decode jdk_29_method_69_code 2 = .ok (.if_icmp .gt 7, 3) := by decide +kernel
theorem d1_5 : decode jdk_29_method_69_code 5 = .ok (.iload_n 0, 1) := by decide +kernel
theorem d1_6 : decode jdk_29_method_69_code 6 = .ok (.goto 4, 3) := by decide +kernel
theorem d1_9 : decode jdk_29_method_69_code 9 = .ok (.iload_n 1, 1) := by decide +kernel
theorem d1_10 : decode jdk_29_method_69_code 10 = .ok (.ireturn, 1) := by decide +kernel
theorem ef_1 (m : MethodId) (p0 : Int32) (p1 : Int32) : entryFrame m #[(.int p0), (.int p1)] 2 = mkF m 0 #[iv p0, iv p1] [] := by first | (simp [entryFrame, mkF, argsToLocals, Value.category]; done) | rfl
def Q1 (Z : State) (p0 : Int32) (p1 : Int32) (h0 : Heap) (n0 : Nat) (v : Option Value) (h : Heap) (L : List Loc) : Prop := v = some (.int (own_min p0 p1)) ∧ Fr n0 L ∧ h = h0
set_option maxRecDepth 65536 in
set_option maxHeartbeats 40000000 in
theorem rm1 (l : Launch) (Z : State) (a0 : Array Value) (hw : ∀ d ∈ tables_1, d.before a0 Z = true) (ws : List Jvm.Cond) (p0 : Int32) (p1 : Int32) (h0 : Heap) (n0 : Nat) (Z0 : n0 ≤ h0.size)  :
    MetFree l (⟨"java/lang/Math", "min", "(II)I"⟩ : MethodName) (head1 (Jvm.Cond.code (⟨"java/lang/Math", "min", "(II)I"⟩ : MethodName) jdk_29_method_69_code 2 (some .int) :: ws) ({ frames := 0, cells := 0, slots := 0, locals := 0 } : Room)) (fun aX UX => aX = #[(.int p0), (.int p1)] ∧ Z.Warmed39 UX.vm ∧ UX.heap = h0) (fun _ _ _ _ _ => True) (fun _ UX oX UY => ∃ vX LX, oX = .returned vX ∧ Q1 Z p0 p1 h0 n0 vX UY.heap LX ∧ FrameEnd UX oX UY LX ({ frames := 0, cells := 0, slots := 0, locals := 0 } : Room).cells ({ frames := 0, cells := 0, slots := 0, locals := 0 } : Room).slots) := by
  refine MetFree.of_bodySF (Jvm.Free.JP.mathPlain rfl (by decide +kernel)) hisR ?_
  intro p e s m args below meth c s₁ Bd hml0 hP hK
  obtain ⟨rfl, hZ, hh⟩ := hP
  have hx := Bd.exec
  have hby := Bd.bytes
  have hml : c.maxLocals = 2 := hml0
  have hown : s.vm.findClass "java/lang/Math" = some m.cls := findClass_of_methodNamed Bd.named
  have hnm := (name_of_methodNamed Bd.named Bd.method).1
  have X0 : Stand p l e ({ frames := 0, cells := 0, slots := 0, locals := 0 } : Room) s m #[(.int p0), (.int p1)] below meth c s₁ [] 0 0 := Stand.of_body Bd
  have e0 : s₁.heap = h0 := by rw [← hh, Bd.state]; rfl
  have N0 := Fr.nil n0
  have pre0 : ∀ t, Steps p.tables e below (s₁.setTop (mkF m 0 #[iv p0, iv p1] [])) t → Steps p.tables e below (s₁.setTop (entryFrame m #[(.int p0), (.int p1)] 2)) t := fun t k => castTop (ef_1 m p0 p1) k
  obtain ⟨S0, hS0⟩ : ∃ z, z = (s₁.setTop (entryFrame m #[(.int p0), (.int p1)] 2)) := ⟨_, rfl⟩
  rw [← hS0] at pre0
  have pre1 : ∀ t, own_s p e below s₁ m 2 #[iv p0, iv p1] [(.int p1), (.int p0)] t → Steps p.tables e below S0 t := by
    intro tX kX
    refine pre0 _ ?_
    show own_s p e below s₁ m 0 #[iv p0, iv p1] [] _
    refine XS.iloadN X0.here hx rfl (hb hby d1_0) rfl ?_
    show own_s p e below s₁ m 1 #[iv p0, iv p1] [(.int p0)] _
    refine XS.iloadN X0.here hx rfl (hb hby d1_1) rfl ?_
    exact kX
  by_cases hc2 : p1 < p0
  · skip
    have pre3 : ∀ t, own_s p e below s₁ m 10 #[iv p0, iv p1] [(.int p1)] t → Steps p.tables e below S0 t := by
      intro tX kX
      refine pre1 _ ?_
      show own_s p e below s₁ m 2 #[iv p0, iv p1] [(.int p1), (.int p0)] _
      refine XS.icmpYes X0.here hx rfl (pc0 := 2) (pc' := 9) rfl (hb hby d1_2) rfl (tlt hc2).2.2.1 (by decide) (by decide) ?_
      show own_s p e below s₁ m 9 #[iv p0, iv p1] [] _
      refine XS.iloadN X0.here hx rfl (hb hby d1_9) rfl ?_
      exact kX
    subst hS0
    obtain ⟨fs, hr, hrun, hended, hW, hsame⟩ := X0.leave (v := (some (.int p1))) (fun h => by rw [Bd.returns] at h; cases h)
    refine ⟨_, _, pre3 _ (retI X0 hx Bd.returns (hb hby d1_10) hr), hrun, hended, _, _, rfl, ?_, ⟨_, rfl⟩, hW, hsame.mono (by decide) (by decide)⟩
    show Q1 Z p0 p1 h0 n0 (some (.int p1)) s₁.heap _
    exact ⟨congrArg (fun z => some (Value.int z)) (show p1 = own_min p0 p1 from (if_pos hc2).symm), N0, e0⟩
  · skip
    have pre4 : ∀ t, own_s p e below s₁ m 10 #[iv p0, iv p1] [(.int p0)] t → Steps p.tables e below S0 t := by
      intro tX kX
      refine pre1 _ ?_
      show own_s p e below s₁ m 2 #[iv p0, iv p1] [(.int p1), (.int p0)] _
      refine XS.icmpNo X0.here hx rfl (hb hby d1_2) rfl (flt hc2).2.2.1 ?_
      show own_s p e below s₁ m 5 #[iv p0, iv p1] [] _
      refine XS.iloadN X0.here hx rfl (hb hby d1_5) rfl ?_
      show own_s p e below s₁ m 6 #[iv p0, iv p1] [(.int p0)] _
      refine XS.goto X0.here hx rfl (pc0 := 6) (pc' := 10) rfl (hb hby d1_6) (by decide) (by decide) ?_
      exact kX
    subst hS0
    obtain ⟨fs, hr, hrun, hended, hW, hsame⟩ := X0.leave (v := (some (.int p0))) (fun h => by rw [Bd.returns] at h; cases h)
    refine ⟨_, _, pre4 _ (retI X0 hx Bd.returns (hb hby d1_10) hr), hrun, hended, _, _, rfl, ?_, ⟨_, rfl⟩, hW, hsame.mono (by decide) (by decide)⟩
    show Q1 Z p0 p1 h0 n0 (some (.int p0)) s₁.heap _
    exact ⟨congrArg (fun z => some (Value.int z)) (show p0 = own_min p0 p1 from (if_neg hc2).symm), N0, e0⟩
theorem d2_0 : decode jdk_29_method_65_code 0 = .ok (.iload_n 0, 1) := by decide +kernel
theorem d2_1 : decode jdk_29_method_65_code 1 = .ok (.iload_n 1, 1) := by decide +kernel
theorem d2_2 : decode jdk_29_method_65_code 2 = .ok (.if_icmp .lt 7, 3) := by decide +kernel
theorem d2_5 : decode jdk_29_method_65_code 5 = .ok (.iload_n 0, 1) := by decide +kernel
theorem d2_6 : decode jdk_29_method_65_code 6 = .ok (.goto 4, 3) := by decide +kernel
theorem d2_9 : decode jdk_29_method_65_code 9 = .ok (.iload_n 1, 1) := by decide +kernel
theorem d2_10 : decode jdk_29_method_65_code 10 = .ok (.ireturn, 1) := by decide +kernel
theorem ef_2 (m : MethodId) (p0 : Int32) (p1 : Int32) : entryFrame m #[(.int p0), (.int p1)] 2 = mkF m 0 #[iv p0, iv p1] [] := by first | (simp [entryFrame, mkF, argsToLocals, Value.category]; done) | rfl
def Q2 (Z : State) (p0 : Int32) (p1 : Int32) (h0 : Heap) (n0 : Nat) (v : Option Value) (h : Heap) (L : List Loc) : Prop := v = some (.int (own_max p0 p1)) ∧ Fr n0 L ∧ h = h0
set_option maxRecDepth 65536 in
set_option maxHeartbeats 40000000 in
theorem rm2 (l : Launch) (Z : State) (a0 : Array Value) (hw : ∀ d ∈ tables_1, d.before a0 Z = true) (ws : List Jvm.Cond) (p0 : Int32) (p1 : Int32) (h0 : Heap) (n0 : Nat) (Z0 : n0 ≤ h0.size)  :
    MetFree l (⟨"java/lang/Math", "max", "(II)I"⟩ : MethodName) (head1 (Jvm.Cond.code (⟨"java/lang/Math", "max", "(II)I"⟩ : MethodName) jdk_29_method_65_code 2 (some .int) :: ws) ({ frames := 0, cells := 0, slots := 0, locals := 0 } : Room)) (fun aX UX => aX = #[(.int p0), (.int p1)] ∧ Z.Warmed39 UX.vm ∧ UX.heap = h0) (fun _ _ _ _ _ => True) (fun _ UX oX UY => ∃ vX LX, oX = .returned vX ∧ Q2 Z p0 p1 h0 n0 vX UY.heap LX ∧ FrameEnd UX oX UY LX ({ frames := 0, cells := 0, slots := 0, locals := 0 } : Room).cells ({ frames := 0, cells := 0, slots := 0, locals := 0 } : Room).slots) := by
  refine MetFree.of_bodySF (Jvm.Free.JP.mathPlain rfl (by decide +kernel)) hisR ?_
  intro p e s m args below meth c s₁ Bd hml0 hP hK
  obtain ⟨rfl, hZ, hh⟩ := hP
  have hx := Bd.exec
  have hby := Bd.bytes
  have hml : c.maxLocals = 2 := hml0
  have hown : s.vm.findClass "java/lang/Math" = some m.cls := findClass_of_methodNamed Bd.named
  have hnm := (name_of_methodNamed Bd.named Bd.method).1
  have X0 : Stand p l e ({ frames := 0, cells := 0, slots := 0, locals := 0 } : Room) s m #[(.int p0), (.int p1)] below meth c s₁ [] 0 0 := Stand.of_body Bd
  have e0 : s₁.heap = h0 := by rw [← hh, Bd.state]; rfl
  have N0 := Fr.nil n0
  have pre0 : ∀ t, Steps p.tables e below (s₁.setTop (mkF m 0 #[iv p0, iv p1] [])) t → Steps p.tables e below (s₁.setTop (entryFrame m #[(.int p0), (.int p1)] 2)) t := fun t k => castTop (ef_2 m p0 p1) k
  obtain ⟨S0, hS0⟩ : ∃ z, z = (s₁.setTop (entryFrame m #[(.int p0), (.int p1)] 2)) := ⟨_, rfl⟩
  rw [← hS0] at pre0
  have pre1 : ∀ t, own_s p e below s₁ m 2 #[iv p0, iv p1] [(.int p1), (.int p0)] t → Steps p.tables e below S0 t := by
    intro tX kX
    refine pre0 _ ?_
    show own_s p e below s₁ m 0 #[iv p0, iv p1] [] _
    refine XS.iloadN X0.here hx rfl (hb hby d2_0) rfl ?_
    show own_s p e below s₁ m 1 #[iv p0, iv p1] [(.int p0)] _
    refine XS.iloadN X0.here hx rfl (hb hby d2_1) rfl ?_
    exact kX
  by_cases hc2 : p0 < p1
  · skip
    have pre3 : ∀ t, own_s p e below s₁ m 10 #[iv p0, iv p1] [(.int p1)] t → Steps p.tables e below S0 t := by
      intro tX kX
      refine pre1 _ ?_
      show own_s p e below s₁ m 2 #[iv p0, iv p1] [(.int p1), (.int p0)] _
      refine XS.icmpYes X0.here hx rfl (pc0 := 2) (pc' := 9) rfl (hb hby d2_2) rfl (tlt hc2).1 (by decide) (by decide) ?_
      show own_s p e below s₁ m 9 #[iv p0, iv p1] [] _
      refine XS.iloadN X0.here hx rfl (hb hby d2_9) rfl ?_
      exact kX
    subst hS0
    obtain ⟨fs, hr, hrun, hended, hW, hsame⟩ := X0.leave (v := (some (.int p1))) (fun h => by rw [Bd.returns] at h; cases h)
    refine ⟨_, _, pre3 _ (retI X0 hx Bd.returns (hb hby d2_10) hr), hrun, hended, _, _, rfl, ?_, ⟨_, rfl⟩, hW, hsame.mono (by decide) (by decide)⟩
    show Q2 Z p0 p1 h0 n0 (some (.int p1)) s₁.heap _
    exact ⟨congrArg (fun z => some (Value.int z)) (show p1 = own_max p0 p1 from (if_pos hc2).symm), N0, e0⟩
  · skip
    have pre4 : ∀ t, own_s p e below s₁ m 10 #[iv p0, iv p1] [(.int p0)] t → Steps p.tables e below S0 t := by
      intro tX kX
      refine pre1 _ ?_
      show own_s p e below s₁ m 2 #[iv p0, iv p1] [(.int p1), (.int p0)] _
      refine XS.icmpNo X0.here hx rfl (hb hby d2_2) rfl (flt hc2).1 ?_
      show own_s p e below s₁ m 5 #[iv p0, iv p1] [] _
      refine XS.iloadN X0.here hx rfl (hb hby d2_5) rfl ?_
      show own_s p e below s₁ m 6 #[iv p0, iv p1] [(.int p0)] _
      refine XS.goto X0.here hx rfl (pc0 := 6) (pc' := 10) rfl (hb hby d2_6) (by decide) (by decide) ?_
      exact kX
    subst hS0
    obtain ⟨fs, hr, hrun, hended, hW, hsame⟩ := X0.leave (v := (some (.int p0))) (fun h => by rw [Bd.returns] at h; cases h)
    refine ⟨_, _, pre4 _ (retI X0 hx Bd.returns (hb hby d2_10) hr), hrun, hended, _, _, rfl, ?_, ⟨_, rfl⟩, hW, hsame.mono (by decide) (by decide)⟩
    show Q2 Z p0 p1 h0 n0 (some (.int p0)) s₁.heap _
    exact ⟨congrArg (fun z => some (Value.int z)) (show p0 = own_max p0 p1 from (if_neg hc2).symm), N0, e0⟩
theorem d3_0 : decode method_4_code 0 = .ok (.iload_n 0, 1) := by decide +kernel
theorem d3_1 : decode method_4_code 1 = .ok (.ifCond .ne 5, 3) := by decide +kernel
theorem d3_4 : decode method_4_code 4 = .ok (.iconst 1, 1) := by decide +kernel
theorem d3_5 : decode method_4_code 5 = .ok (.ireturn, 1) := by decide +kernel
theorem d3_6 : decode method_4_code 6 = .ok (.iload_n 0, 1) := by decide +kernel
theorem d3_7 : decode method_4_code 7 = .ok (.iconst 1, 1) := by decide +kernel
theorem d3_8 : decode method_4_code 8 = .ok (.if_icmp .ne 6, 3) := by decide +kernel
theorem d3_11 : decode method_4_code 11 = .ok (.bipush 31, 2) := by decide +kernel
theorem d3_13 : decode method_4_code 13 = .ok (.ireturn, 1) := by decide +kernel
theorem d3_14 : decode method_4_code 14 = .ok (.iload_n 0, 1) := by decide +kernel
theorem d3_15 : decode method_4_code 15 = .ok (.iconst 2, 1) := by decide +kernel
theorem d3_16 : decode method_4_code 16 = .ok (.if_icmp .ne 7, 3) := by decide +kernel
theorem d3_19 : decode method_4_code 19 = .ok (.sipush 961, 3) := by decide +kernel
theorem d3_22 : decode method_4_code 22 = .ok (.ireturn, 1) := by decide +kernel
theorem d3_23 : decode method_4_code 23 = .ok (.iload_n 0, 1) := by decide +kernel
theorem d3_24 : decode method_4_code 24 = .ok (.iconst 3, 1) := by decide +kernel
theorem d3_25 : decode method_4_code 25 = .ok (.if_icmp .ne 7, 3) := by decide +kernel
theorem d3_28 : decode method_4_code 28 = .ok (.sipush 29791, 3) := by decide +kernel
theorem d3_31 : decode method_4_code 31 = .ok (.ireturn, 1) := by decide +kernel
theorem d3_32 : decode method_4_code 32 = .ok (.iload_n 0, 1) := by decide +kernel
theorem d3_33 : decode method_4_code 33 = .ok (.iconst 4, 1) := by decide +kernel
theorem d3_34 : decode method_4_code 34 = .ok (.if_icmp .ne 6, 3) := by decide +kernel
theorem d3_37 : decode method_4_code 37 = .ok (.ldc 33, 2) := by decide +kernel
theorem d3_39 : decode method_4_code 39 = .ok (.ireturn, 1) := by decide +kernel
theorem d3_40 : decode method_4_code 40 = .ok (.iload_n 0, 1) := by decide +kernel
theorem d3_41 : decode method_4_code 41 = .ok (.iconst 5, 1) := by decide +kernel
theorem d3_42 : decode method_4_code 42 = .ok (.if_icmp .ne 6, 3) := by decide +kernel
theorem d3_45 : decode method_4_code 45 = .ok (.ldc 34, 2) := by decide +kernel
theorem d3_47 : decode method_4_code 47 = .ok (.ireturn, 1) := by decide +kernel
theorem d3_48 : decode method_4_code 48 = .ok (.iload_n 0, 1) := by decide +kernel
theorem d3_49 : decode method_4_code 49 = .ok (.bipush 6, 2) := by decide +kernel
theorem d3_51 : decode method_4_code 51 = .ok (.if_icmp .ne 6, 3) := by decide +kernel
theorem d3_54 : decode method_4_code 54 = .ok (.ldc 35, 2) := by decide +kernel
theorem d3_56 : decode method_4_code 56 = .ok (.ireturn, 1) := by decide +kernel
theorem d3_57 : decode method_4_code 57 = .ok (.ldc 36, 2) := by decide +kernel
theorem d3_59 : decode method_4_code 59 = .ok (.ireturn, 1) := by decide +kernel
theorem pn_3 : plainName "com/example/since/since/model/NameTableHashPinLaw" = true := by first | (simp [plainName, overriddenIn]; done) | decide +kernel
theorem ef_3 (m : MethodId) (p0 : Int32) : entryFrame m #[(.int p0)] 1 = mkF m 0 #[iv p0] [] := by first | (simp [entryFrame, mkF, argsToLocals, Value.category]; done) | rfl
def Q3 (Z : State) (p0 : Int32) (K : Nat) (h0 : Heap) (n0 : Nat) (v : Option Value) (h : Heap) (L : List Loc) : Prop := v = some (.int (own_pn K)) ∧ Fr n0 L ∧ h = h0
set_option maxRecDepth 65536 in
set_option maxHeartbeats 40000000 in
theorem rm3 (l : Launch) (Z : State) (a0 : Array Value) (hw : ∀ d ∈ tables_1, d.before a0 Z = true) (ws : List Jvm.Cond) (p0 : Int32) (K : Nat) (h0 : Heap) (n0 : Nat) (Z0 : n0 ≤ h0.size) (hp0 : p0 = Int32.ofNat K) (hK : K ≤ 7) :
    MetFree l (⟨"com/example/since/since/model/NameTableHashPinLaw", "pow31", "(I)I"⟩ : MethodName) (head1 (Jvm.Cond.code (⟨"com/example/since/since/model/NameTableHashPinLaw", "pow31", "(I)I"⟩ : MethodName) method_4_code 1 (some .int) :: ws) ({ frames := 0, cells := 0, slots := 0, locals := 0 } : Room)) (fun aX UX => aX = #[(.int p0)] ∧ Z.Warmed39 UX.vm ∧ UX.heap = h0) (fun _ _ _ _ _ => True) (fun _ UX oX UY => ∃ vX LX, oX = .returned vX ∧ Q3 Z p0 K h0 n0 vX UY.heap LX ∧ FrameEnd UX oX UY LX ({ frames := 0, cells := 0, slots := 0, locals := 0 } : Room).cells ({ frames := 0, cells := 0, slots := 0, locals := 0 } : Room).slots) := by
  refine MetFree.of_bodySF (plainFor_of_name pn_3) hisR ?_
  intro p e s m args below meth c s₁ Bd hml0 hP hK
  obtain ⟨rfl, hZ, hh⟩ := hP
  have hx := Bd.exec
  have hby := Bd.bytes
  have hml : c.maxLocals = 1 := hml0
  have hown : s.vm.findClass "com/example/since/since/model/NameTableHashPinLaw" = some m.cls := findClass_of_methodNamed Bd.named
  have hnm := (name_of_methodNamed Bd.named Bd.method).1
  have X0 : Stand p l e ({ frames := 0, cells := 0, slots := 0, locals := 0 } : Room) s m #[(.int p0)] below meth c s₁ [] 0 0 := Stand.of_body Bd
  have e0 : s₁.heap = h0 := by rw [← hh, Bd.state]; rfl
  have N0 := Fr.nil n0
  have pre0 : ∀ t, Steps p.tables e below (s₁.setTop (mkF m 0 #[iv p0] [])) t → Steps p.tables e below (s₁.setTop (entryFrame m #[(.int p0)] 1)) t := fun t k => castTop (ef_3 m p0) k
  obtain ⟨S0, hS0⟩ : ∃ z, z = (s₁.setTop (entryFrame m #[(.int p0)] 1)) := ⟨_, rfl⟩
  rw [← hS0] at pre0
  have kI : p0.toInt = K := by rw [hp0]; exact own_ofn (by omega)
  have pre1 : ∀ t, own_s p e below s₁ m 1 #[iv p0] [(.int p0)] t → Steps p.tables e below S0 t := by
    intro tX kX
    refine pre0 _ ?_
    show own_s p e below s₁ m 0 #[iv p0] [] _
    refine XS.iloadN X0.here hx rfl (hb hby d3_0) rfl ?_
    exact kX
  by_cases hc2 : p0 = (0 : Int32)
  · skip
    have ihc2 : (p0).toInt = (0 : Int) := congrArg Int32.toInt hc2
    have pre3 : ∀ t, own_s p e below s₁ m 5 #[iv p0] [(.int (1 : Int32))] t → Steps p.tables e below S0 t := by
      intro tX kX
      refine pre1 _ ?_
      show own_s p e below s₁ m 1 #[iv p0] [(.int p0)] _
      refine XS.ifNo X0.here hx rfl (hb hby d3_1) rfl ((if0 _ _).trans (teq hc2).2) ?_
      show own_s p e below s₁ m 4 #[iv p0] [] _
      refine XS.iconst X0.here hx rfl (hb hby d3_4) ?_
      exact kX
    subst hS0
    obtain ⟨fs, hr, hrun, hended, hW, hsame⟩ := X0.leave (v := (some (.int (1 : Int32)))) (fun h => by rw [Bd.returns] at h; cases h)
    refine ⟨_, _, pre3 _ (retI X0 hx Bd.returns (hb hby d3_5) hr), hrun, hended, _, _, rfl, ?_, ⟨_, rfl⟩, hW, hsame.mono (by decide) (by decide)⟩
    show Q3 Z p0 K h0 n0 (some (.int (1 : Int32))) s₁.heap _
    exact ⟨congrArg (fun z => some (Value.int z)) (show (1 : Int32) = own_pn K from by rw [show K = 0 from by omega]; rfl), N0, e0⟩
  · skip
    have ihc2 : ¬ ((p0).toInt = (0 : Int)) := fun q => hc2 (Int32.toInt_inj.mp q)
    have pre4 : ∀ t, own_s p e below s₁ m 8 #[iv p0] [(.int (1 : Int32)), (.int p0)] t → Steps p.tables e below S0 t := by
      intro tX kX
      refine pre1 _ ?_
      show own_s p e below s₁ m 1 #[iv p0] [(.int p0)] _
      refine XS.ifYes X0.here hx rfl (pc0 := 1) (pc' := 6) rfl (hb hby d3_1) rfl ((if0 _ _).trans (feq hc2).2) (by decide) (by decide) ?_
      show own_s p e below s₁ m 6 #[iv p0] [] _
      refine XS.iloadN X0.here hx rfl (hb hby d3_6) rfl ?_
      show own_s p e below s₁ m 7 #[iv p0] [(.int p0)] _
      refine XS.iconst X0.here hx rfl (hb hby d3_7) ?_
      exact kX
    by_cases hc5 : p0 = (1 : Int32)
    · skip
      have ihc5 : (p0).toInt = (1 : Int) := congrArg Int32.toInt hc5
      have pre6 : ∀ t, own_s p e below s₁ m 13 #[iv p0] [(.int (31 : Int32))] t → Steps p.tables e below S0 t := by
        intro tX kX
        refine pre4 _ ?_
        show own_s p e below s₁ m 8 #[iv p0] [(.int (1 : Int32)), (.int p0)] _
        refine XS.icmpNo X0.here hx rfl (hb hby d3_8) rfl (teq hc5).2 ?_
        show own_s p e below s₁ m 11 #[iv p0] [] _
        refine XS.bipush X0.here hx rfl (hb hby d3_11) ?_
        exact kX
      subst hS0
      obtain ⟨fs, hr, hrun, hended, hW, hsame⟩ := X0.leave (v := (some (.int (31 : Int32)))) (fun h => by rw [Bd.returns] at h; cases h)
      refine ⟨_, _, pre6 _ (retI X0 hx Bd.returns (hb hby d3_13) hr), hrun, hended, _, _, rfl, ?_, ⟨_, rfl⟩, hW, hsame.mono (by decide) (by decide)⟩
      show Q3 Z p0 K h0 n0 (some (.int (31 : Int32))) s₁.heap _
      exact ⟨congrArg (fun z => some (Value.int z)) (show (31 : Int32) = own_pn K from by rw [show K = 1 from by omega]; rfl), N0, e0⟩
    · skip
      have ihc5 : ¬ ((p0).toInt = (1 : Int)) := fun q => hc5 (Int32.toInt_inj.mp q)
      have pre7 : ∀ t, own_s p e below s₁ m 16 #[iv p0] [(.int (2 : Int32)), (.int p0)] t → Steps p.tables e below S0 t := by
        intro tX kX
        refine pre4 _ ?_
        show own_s p e below s₁ m 8 #[iv p0] [(.int (1 : Int32)), (.int p0)] _
        refine XS.icmpYes X0.here hx rfl (pc0 := 8) (pc' := 14) rfl (hb hby d3_8) rfl (feq hc5).2 (by decide) (by decide) ?_
        show own_s p e below s₁ m 14 #[iv p0] [] _
        refine XS.iloadN X0.here hx rfl (hb hby d3_14) rfl ?_
        show own_s p e below s₁ m 15 #[iv p0] [(.int p0)] _
        refine XS.iconst X0.here hx rfl (hb hby d3_15) ?_
        exact kX
      by_cases hc8 : p0 = (2 : Int32)
      · skip
        have ihc8 : (p0).toInt = (2 : Int) := congrArg Int32.toInt hc8
        have pre9 : ∀ t, own_s p e below s₁ m 22 #[iv p0] [(.int (961 : Int32))] t → Steps p.tables e below S0 t := by
          intro tX kX
          refine pre7 _ ?_
          show own_s p e below s₁ m 16 #[iv p0] [(.int (2 : Int32)), (.int p0)] _
          refine XS.icmpNo X0.here hx rfl (hb hby d3_16) rfl (teq hc8).2 ?_
          show own_s p e below s₁ m 19 #[iv p0] [] _
          refine XS.sipush X0.here hx rfl (hb hby d3_19) ?_
          exact kX
        subst hS0
        obtain ⟨fs, hr, hrun, hended, hW, hsame⟩ := X0.leave (v := (some (.int (961 : Int32)))) (fun h => by rw [Bd.returns] at h; cases h)
        refine ⟨_, _, pre9 _ (retI X0 hx Bd.returns (hb hby d3_22) hr), hrun, hended, _, _, rfl, ?_, ⟨_, rfl⟩, hW, hsame.mono (by decide) (by decide)⟩
        show Q3 Z p0 K h0 n0 (some (.int (961 : Int32))) s₁.heap _
        exact ⟨congrArg (fun z => some (Value.int z)) (show (961 : Int32) = own_pn K from by rw [show K = 2 from by omega]; rfl), N0, e0⟩
      · skip
        have ihc8 : ¬ ((p0).toInt = (2 : Int)) := fun q => hc8 (Int32.toInt_inj.mp q)
        have pre10 : ∀ t, own_s p e below s₁ m 25 #[iv p0] [(.int (3 : Int32)), (.int p0)] t → Steps p.tables e below S0 t := by
          intro tX kX
          refine pre7 _ ?_
          show own_s p e below s₁ m 16 #[iv p0] [(.int (2 : Int32)), (.int p0)] _
          refine XS.icmpYes X0.here hx rfl (pc0 := 16) (pc' := 23) rfl (hb hby d3_16) rfl (feq hc8).2 (by decide) (by decide) ?_
          show own_s p e below s₁ m 23 #[iv p0] [] _
          refine XS.iloadN X0.here hx rfl (hb hby d3_23) rfl ?_
          show own_s p e below s₁ m 24 #[iv p0] [(.int p0)] _
          refine XS.iconst X0.here hx rfl (hb hby d3_24) ?_
          exact kX
        by_cases hc11 : p0 = (3 : Int32)
        · skip
          have ihc11 : (p0).toInt = (3 : Int) := congrArg Int32.toInt hc11
          have pre12 : ∀ t, own_s p e below s₁ m 31 #[iv p0] [(.int (29791 : Int32))] t → Steps p.tables e below S0 t := by
            intro tX kX
            refine pre10 _ ?_
            show own_s p e below s₁ m 25 #[iv p0] [(.int (3 : Int32)), (.int p0)] _
            refine XS.icmpNo X0.here hx rfl (hb hby d3_25) rfl (teq hc11).2 ?_
            show own_s p e below s₁ m 28 #[iv p0] [] _
            refine XS.sipush X0.here hx rfl (hb hby d3_28) ?_
            exact kX
          subst hS0
          obtain ⟨fs, hr, hrun, hended, hW, hsame⟩ := X0.leave (v := (some (.int (29791 : Int32)))) (fun h => by rw [Bd.returns] at h; cases h)
          refine ⟨_, _, pre12 _ (retI X0 hx Bd.returns (hb hby d3_31) hr), hrun, hended, _, _, rfl, ?_, ⟨_, rfl⟩, hW, hsame.mono (by decide) (by decide)⟩
          show Q3 Z p0 K h0 n0 (some (.int (29791 : Int32))) s₁.heap _
          exact ⟨congrArg (fun z => some (Value.int z)) (show (29791 : Int32) = own_pn K from by rw [show K = 3 from by omega]; rfl), N0, e0⟩
        · skip
          have ihc11 : ¬ ((p0).toInt = (3 : Int)) := fun q => hc11 (Int32.toInt_inj.mp q)
          have pre13 : ∀ t, own_s p e below s₁ m 34 #[iv p0] [(.int (4 : Int32)), (.int p0)] t → Steps p.tables e below S0 t := by
            intro tX kX
            refine pre10 _ ?_
            show own_s p e below s₁ m 25 #[iv p0] [(.int (3 : Int32)), (.int p0)] _
            refine XS.icmpYes X0.here hx rfl (pc0 := 25) (pc' := 32) rfl (hb hby d3_25) rfl (feq hc11).2 (by decide) (by decide) ?_
            show own_s p e below s₁ m 32 #[iv p0] [] _
            refine XS.iloadN X0.here hx rfl (hb hby d3_32) rfl ?_
            show own_s p e below s₁ m 33 #[iv p0] [(.int p0)] _
            refine XS.iconst X0.here hx rfl (hb hby d3_33) ?_
            exact kX
          by_cases hc14 : p0 = (4 : Int32)
          · skip
            have ihc14 : (p0).toInt = (4 : Int) := congrArg Int32.toInt hc14
            have pre15 : ∀ t, own_s p e below s₁ m 39 #[iv p0] [(.int (923521 : Int32))] t → Steps p.tables e below S0 t := by
              intro tX kX
              refine pre13 _ ?_
              show own_s p e below s₁ m 34 #[iv p0] [(.int (4 : Int32)), (.int p0)] _
              refine XS.icmpNo X0.here hx rfl (hb hby d3_34) rfl (teq hc14).2 ?_
              show own_s p e below s₁ m 37 #[iv p0] [] _
              refine X0.ldcInt hx hown (mvT hZ (hw _ (List.mem_of_getElem? (i := 22) rfl))) (g := (mkF m 37 #[iv p0] [])) rfl (hb hby d3_37) _ ?_
              exact kX
            subst hS0
            obtain ⟨fs, hr, hrun, hended, hW, hsame⟩ := X0.leave (v := (some (.int (923521 : Int32)))) (fun h => by rw [Bd.returns] at h; cases h)
            refine ⟨_, _, pre15 _ (retI X0 hx Bd.returns (hb hby d3_39) hr), hrun, hended, _, _, rfl, ?_, ⟨_, rfl⟩, hW, hsame.mono (by decide) (by decide)⟩
            show Q3 Z p0 K h0 n0 (some (.int (923521 : Int32))) s₁.heap _
            exact ⟨congrArg (fun z => some (Value.int z)) (show (923521 : Int32) = own_pn K from by rw [show K = 4 from by omega]; rfl), N0, e0⟩
          · skip
            have ihc14 : ¬ ((p0).toInt = (4 : Int)) := fun q => hc14 (Int32.toInt_inj.mp q)
            have pre16 : ∀ t, own_s p e below s₁ m 42 #[iv p0] [(.int (5 : Int32)), (.int p0)] t → Steps p.tables e below S0 t := by
              intro tX kX
              refine pre13 _ ?_
              show own_s p e below s₁ m 34 #[iv p0] [(.int (4 : Int32)), (.int p0)] _
              refine XS.icmpYes X0.here hx rfl (pc0 := 34) (pc' := 40) rfl (hb hby d3_34) rfl (feq hc14).2 (by decide) (by decide) ?_
              show own_s p e below s₁ m 40 #[iv p0] [] _
              refine XS.iloadN X0.here hx rfl (hb hby d3_40) rfl ?_
              show own_s p e below s₁ m 41 #[iv p0] [(.int p0)] _
              refine XS.iconst X0.here hx rfl (hb hby d3_41) ?_
              exact kX
            by_cases hc17 : p0 = (5 : Int32)
            · skip
              have ihc17 : (p0).toInt = (5 : Int) := congrArg Int32.toInt hc17
              have pre18 : ∀ t, own_s p e below s₁ m 47 #[iv p0] [(.int (28629151 : Int32))] t → Steps p.tables e below S0 t := by
                intro tX kX
                refine pre16 _ ?_
                show own_s p e below s₁ m 42 #[iv p0] [(.int (5 : Int32)), (.int p0)] _
                refine XS.icmpNo X0.here hx rfl (hb hby d3_42) rfl (teq hc17).2 ?_
                show own_s p e below s₁ m 45 #[iv p0] [] _
                refine X0.ldcInt hx hown (mvT hZ (hw _ (List.mem_of_getElem? (i := 21) rfl))) (g := (mkF m 45 #[iv p0] [])) rfl (hb hby d3_45) _ ?_
                exact kX
              subst hS0
              obtain ⟨fs, hr, hrun, hended, hW, hsame⟩ := X0.leave (v := (some (.int (28629151 : Int32)))) (fun h => by rw [Bd.returns] at h; cases h)
              refine ⟨_, _, pre18 _ (retI X0 hx Bd.returns (hb hby d3_47) hr), hrun, hended, _, _, rfl, ?_, ⟨_, rfl⟩, hW, hsame.mono (by decide) (by decide)⟩
              show Q3 Z p0 K h0 n0 (some (.int (28629151 : Int32))) s₁.heap _
              exact ⟨congrArg (fun z => some (Value.int z)) (show (28629151 : Int32) = own_pn K from by rw [show K = 5 from by omega]; rfl), N0, e0⟩
            · skip
              have ihc17 : ¬ ((p0).toInt = (5 : Int)) := fun q => hc17 (Int32.toInt_inj.mp q)
              have pre19 : ∀ t, own_s p e below s₁ m 51 #[iv p0] [(.int (6 : Int32)), (.int p0)] t → Steps p.tables e below S0 t := by
                intro tX kX
                refine pre16 _ ?_
                show own_s p e below s₁ m 42 #[iv p0] [(.int (5 : Int32)), (.int p0)] _
                refine XS.icmpYes X0.here hx rfl (pc0 := 42) (pc' := 48) rfl (hb hby d3_42) rfl (feq hc17).2 (by decide) (by decide) ?_
                show own_s p e below s₁ m 48 #[iv p0] [] _
                refine XS.iloadN X0.here hx rfl (hb hby d3_48) rfl ?_
                show own_s p e below s₁ m 49 #[iv p0] [(.int p0)] _
                refine XS.bipush X0.here hx rfl (hb hby d3_49) ?_
                exact kX
              by_cases hc20 : p0 = (6 : Int32)
              · skip
                have ihc20 : (p0).toInt = (6 : Int) := congrArg Int32.toInt hc20
                have pre21 : ∀ t, own_s p e below s₁ m 56 #[iv p0] [(.int (887503681 : Int32))] t → Steps p.tables e below S0 t := by
                  intro tX kX
                  refine pre19 _ ?_
                  show own_s p e below s₁ m 51 #[iv p0] [(.int (6 : Int32)), (.int p0)] _
                  refine XS.icmpNo X0.here hx rfl (hb hby d3_51) rfl (teq hc20).2 ?_
                  show own_s p e below s₁ m 54 #[iv p0] [] _
                  refine X0.ldcInt hx hown (mvT hZ (hw _ (List.mem_of_getElem? (i := 23) rfl))) (g := (mkF m 54 #[iv p0] [])) rfl (hb hby d3_54) _ ?_
                  exact kX
                subst hS0
                obtain ⟨fs, hr, hrun, hended, hW, hsame⟩ := X0.leave (v := (some (.int (887503681 : Int32)))) (fun h => by rw [Bd.returns] at h; cases h)
                refine ⟨_, _, pre21 _ (retI X0 hx Bd.returns (hb hby d3_56) hr), hrun, hended, _, _, rfl, ?_, ⟨_, rfl⟩, hW, hsame.mono (by decide) (by decide)⟩
                show Q3 Z p0 K h0 n0 (some (.int (887503681 : Int32))) s₁.heap _
                exact ⟨congrArg (fun z => some (Value.int z)) (show (887503681 : Int32) = own_pn K from by rw [show K = 6 from by omega]; rfl), N0, e0⟩
              · skip
                have ihc20 : ¬ ((p0).toInt = (6 : Int)) := fun q => hc20 (Int32.toInt_inj.mp q)
                have pre22 : ∀ t, own_s p e below s₁ m 59 #[iv p0] [(.int (1742810335 : Int32))] t → Steps p.tables e below S0 t := by
                  intro tX kX
                  refine pre19 _ ?_
                  show own_s p e below s₁ m 51 #[iv p0] [(.int (6 : Int32)), (.int p0)] _
                  refine XS.icmpYes X0.here hx rfl (pc0 := 51) (pc' := 57) rfl (hb hby d3_51) rfl (feq hc20).2 (by decide) (by decide) ?_
                  show own_s p e below s₁ m 57 #[iv p0] [] _
                  refine X0.ldcInt hx hown (mvT hZ (hw _ (List.mem_of_getElem? (i := 24) rfl))) (g := (mkF m 57 #[iv p0] [])) rfl (hb hby d3_57) _ ?_
                  exact kX
                subst hS0
                obtain ⟨fs, hr, hrun, hended, hW, hsame⟩ := X0.leave (v := (some (.int (1742810335 : Int32)))) (fun h => by rw [Bd.returns] at h; cases h)
                refine ⟨_, _, pre22 _ (retI X0 hx Bd.returns (hb hby d3_59) hr), hrun, hended, _, _, rfl, ?_, ⟨_, rfl⟩, hW, hsame.mono (by decide) (by decide)⟩
                show Q3 Z p0 K h0 n0 (some (.int (1742810335 : Int32))) s₁.heap _
                exact ⟨congrArg (fun z => some (Value.int z)) (show (1742810335 : Int32) = own_pn K from by rw [show K = 7 from by omega]; rfl), N0, e0⟩
theorem d4_0 : decode method_3_code 0 = .ok (.iload_n 1, 1) := by decide +kernel
theorem d4_1 : decode method_3_code 1 = .ok (.iload_n 2, 1) := by decide +kernel
theorem d4_2 : decode method_3_code 2 = .ok (.if_icmp .lt 8, 3) := by decide +kernel
theorem d4_5 : decode method_3_code 5 = .ok (.iload_n 1, 1) := by decide +kernel
theorem d4_6 : decode method_3_code 6 = .ok (.iload_n 3, 1) := by decide +kernel
theorem d4_7 : decode method_3_code 7 = .ok (.if_icmp .lt 5, 3) := by decide +kernel
theorem d4_10 : decode method_3_code 10 = .ok (.iconst 0, 1) := by decide +kernel
theorem d4_11 : decode method_3_code 11 = .ok (.ireturn, 1) := by decide +kernel
theorem d4_12 : decode method_3_code 12 = .ok (.aload_n 0, 1) := by decide +kernel
theorem d4_13 : decode method_3_code 13 = .ok (.iload_n 1, 1) := by decide +kernel
theorem d4_14 : decode method_3_code 14 = .ok (.baload, 1) := by decide +kernel
theorem d4_15 : decode method_3_code 15 = .ok (.iload_n 3, 1) := by decide +kernel
theorem d4_16 : decode method_3_code 16 = .ok (.iconst 1, 1) := by decide +kernel
theorem d4_17 : decode method_3_code 17 = .ok (.isub, 1) := by decide +kernel
theorem d4_18 : decode method_3_code 18 = .ok (.iload_n 1, 1) := by decide +kernel
theorem d4_19 : decode method_3_code 19 = .ok (.isub, 1) := by decide +kernel
theorem d4_20 : decode method_3_code 20 = .ok (.invokestatic 29, 3) := by decide +kernel
theorem d4_23 : decode method_3_code 23 = .ok (.imul, 1) := by decide +kernel
theorem d4_24 : decode method_3_code 24 = .ok (.ireturn, 1) := by decide +kernel
theorem pn_4 : plainName "com/example/since/since/model/NameTableHashPinLaw" = true := by first | (simp [plainName, overriddenIn]; done) | decide +kernel
theorem pd4_0 : parseMethodDescriptor "(I)I" = some ⟨[.int], some .int⟩ := by decide +kernel
theorem ef_4 (m : MethodId) (a : Addr) (p1 : Int32) (p2 : Int32) (p3 : Int32) : entryFrame m #[(.ref a), (.int p1), (.int p2), (.int p3)] 4 = mkF m 0 #[rv a, iv p1, iv p2, iv p3] [] := by first | (simp [entryFrame, mkF, argsToLocals, Value.category]; done) | rfl
def Q4 (Z : State) (a : Addr) (p1 : Int32) (p2 : Int32) (p3 : Int32) (g : Nat → Int32) (I : Nat) (F : Nat) (T : Nat) (h0 : Heap) (n0 : Nat) (v : Option Value) (h : Heap) (L : List Loc) : Prop := v = some (.int (own_term g I F T)) ∧ Fr n0 L ∧ h = h0
set_option maxRecDepth 65536 in
set_option maxHeartbeats 40000000 in
theorem rm4 (l : Launch) (Z : State) (a0 : Array Value) (hw : ∀ d ∈ tables_1, d.before a0 Z = true) (ws : List Jvm.Cond) (a : Addr) (p1 : Int32) (p2 : Int32) (p3 : Int32) (g : Nat → Int32) (I : Nat) (F : Nat) (T : Nat) (h0 : Heap) (n0 : Nat) (Z0 : n0 ≤ h0.size) (A_a : own_Af Z h0 a .byte 8 (fun j => .int (g j))) (hp1 : p1 = Int32.ofNat I) (hp2 : p2 = Int32.ofNat F) (hp3 : p3 = Int32.ofNat T) (hI : I < 8) (hF : F ≤ T) (hT : T ≤ 8) :
    MetFree l (⟨"com/example/since/since/model/NameTableHashPinLaw", "term", "([BIII)I"⟩ : MethodName) (head1 (Jvm.Cond.code (⟨"com/example/since/since/model/NameTableHashPinLaw", "term", "([BIII)I"⟩ : MethodName) method_3_code 4 (some .int) :: ws) ({ frames := 1, cells := 0, slots := 0, locals := 15 } : Room)) (fun aX UX => aX = #[(.ref a), (.int p1), (.int p2), (.int p3)] ∧ Z.Warmed39 UX.vm ∧ UX.heap = h0) (fun _ _ _ _ _ => True) (fun _ UX oX UY => ∃ vX LX, oX = .returned vX ∧ Q4 Z a p1 p2 p3 g I F T h0 n0 vX UY.heap LX ∧ FrameEnd UX oX UY LX ({ frames := 1, cells := 0, slots := 0, locals := 15 } : Room).cells ({ frames := 1, cells := 0, slots := 0, locals := 15 } : Room).slots) := by
  refine MetFree.of_bodySF (plainFor_of_name pn_4) hisR ?_
  intro p e s m args below meth c s₁ Bd hml0 hP hK
  obtain ⟨rfl, hZ, hh⟩ := hP
  have hx := Bd.exec
  have hby := Bd.bytes
  have hml : c.maxLocals = 4 := hml0
  have hown : s.vm.findClass "com/example/since/since/model/NameTableHashPinLaw" = some m.cls := findClass_of_methodNamed Bd.named
  have hnm := (name_of_methodNamed Bd.named Bd.method).1
  have X0 : Stand p l e ({ frames := 1, cells := 0, slots := 0, locals := 15 } : Room) s m #[(.ref a), (.int p1), (.int p2), (.int p3)] below meth c s₁ [] 0 0 := Stand.of_body Bd
  have e0 : s₁.heap = h0 := by rw [← hh, Bd.state]; rfl
  have N0 := Fr.nil n0
  have pre0 : ∀ t, Steps p.tables e below (s₁.setTop (mkF m 0 #[rv a, iv p1, iv p2, iv p3] [])) t → Steps p.tables e below (s₁.setTop (entryFrame m #[(.ref a), (.int p1), (.int p2), (.int p3)] 4)) t := fun t k => castTop (ef_4 m a p1 p2 p3) k
  obtain ⟨S0, hS0⟩ : ∃ z, z = (s₁.setTop (entryFrame m #[(.ref a), (.int p1), (.int p2), (.int p3)] 4)) := ⟨_, rfl⟩
  rw [← hS0] at pre0
  have iI : p1.toInt = I := by rw [hp1]; exact own_ofn (by omega)
  have iF : p2.toInt = F := by rw [hp2]; exact own_ofn (by omega)
  have iT : p3.toInt = T := by rw [hp3]; exact own_ofn (by omega)
  have pre1 : ∀ t, own_s p e below s₁ m 2 #[rv a, iv p1, iv p2, iv p3] [(.int p2), (.int p1)] t → Steps p.tables e below S0 t := by
    intro tX kX
    refine pre0 _ ?_
    show own_s p e below s₁ m 0 #[rv a, iv p1, iv p2, iv p3] [] _
    refine XS.iloadN X0.here hx rfl (hb hby d4_0) rfl ?_
    show own_s p e below s₁ m 1 #[rv a, iv p1, iv p2, iv p3] [(.int p1)] _
    refine XS.iloadN X0.here hx rfl (hb hby d4_1) rfl ?_
    exact kX
  by_cases hc2 : p1 < p2
  · skip
    have ihc2 : (p1).toInt < (p2).toInt := Int32.lt_iff_toInt_lt.mp hc2
    have pre3 : ∀ t, own_s p e below s₁ m 11 #[rv a, iv p1, iv p2, iv p3] [(.int (0 : Int32))] t → Steps p.tables e below S0 t := by
      intro tX kX
      refine pre1 _ ?_
      show own_s p e below s₁ m 2 #[rv a, iv p1, iv p2, iv p3] [(.int p2), (.int p1)] _
      refine XS.icmpYes X0.here hx rfl (pc0 := 2) (pc' := 10) rfl (hb hby d4_2) rfl (tlt hc2).1 (by decide) (by decide) ?_
      show own_s p e below s₁ m 10 #[rv a, iv p1, iv p2, iv p3] [] _
      refine XS.iconst X0.here hx rfl (hb hby d4_10) ?_
      exact kX
    subst hS0
    obtain ⟨fs, hr, hrun, hended, hW, hsame⟩ := X0.leave (v := (some (.int (0 : Int32)))) (fun h => by rw [Bd.returns] at h; cases h)
    refine ⟨_, _, pre3 _ (retI X0 hx Bd.returns (hb hby d4_11) hr), hrun, hended, _, _, rfl, ?_, ⟨_, rfl⟩, hW, hsame.mono (by decide) (by decide)⟩
    show Q4 Z a p1 p2 p3 g I F T h0 n0 (some (.int (0 : Int32))) s₁.heap _
    exact ⟨congrArg (fun z => some (Value.int z)) (show (0 : Int32) = own_term g I F T from by unfold own_term; rw [if_pos (by omega)]), N0, e0⟩
  · skip
    have ihc2 : ¬ ((p1).toInt < (p2).toInt) := fun q => hc2 (Int32.lt_iff_toInt_lt.mpr q)
    have pre4 : ∀ t, own_s p e below s₁ m 7 #[rv a, iv p1, iv p2, iv p3] [(.int p3), (.int p1)] t → Steps p.tables e below S0 t := by
      intro tX kX
      refine pre1 _ ?_
      show own_s p e below s₁ m 2 #[rv a, iv p1, iv p2, iv p3] [(.int p2), (.int p1)] _
      refine XS.icmpNo X0.here hx rfl (hb hby d4_2) rfl (flt hc2).1 ?_
      show own_s p e below s₁ m 5 #[rv a, iv p1, iv p2, iv p3] [] _
      refine XS.iloadN X0.here hx rfl (hb hby d4_5) rfl ?_
      show own_s p e below s₁ m 6 #[rv a, iv p1, iv p2, iv p3] [(.int p1)] _
      refine XS.iloadN X0.here hx rfl (hb hby d4_6) rfl ?_
      exact kX
    by_cases hc5 : p1 < p3
    · skip
      have ihc5 : (p1).toInt < (p3).toInt := Int32.lt_iff_toInt_lt.mp hc5
      have pre7 : ∀ t, own_s p e below s₁ m 14 #[rv a, iv p1, iv p2, iv p3] [(.int p1), (.ref a)] t → Steps p.tables e below S0 t := by
        intro tX kX
        refine pre4 _ ?_
        show own_s p e below s₁ m 7 #[rv a, iv p1, iv p2, iv p3] [(.int p3), (.int p1)] _
        refine XS.icmpYes X0.here hx rfl (pc0 := 7) (pc' := 12) rfl (hb hby d4_7) rfl (tlt hc5).1 (by decide) (by decide) ?_
        show own_s p e below s₁ m 12 #[rv a, iv p1, iv p2, iv p3] [] _
        refine XS.aloadN X0.here hx rfl (hb hby d4_12) rfl rfl ?_
        show own_s p e below s₁ m 13 #[rv a, iv p1, iv p2, iv p3] [(.ref a)] _
        refine XS.iloadN X0.here hx rfl (hb hby d4_13) rfl ?_
        exact kX
      obtain ⟨cl6, Ar6, S6, M6, H6⟩ := id A_a
      have pre8 : ∀ t, own_s p e below s₁ m 20 #[rv a, iv p1, iv p2, iv p3] [(.int ((p3 - (1 : Int32)) - p1)), (.int (g I))] t → Steps p.tables e below S0 t := by
        intro tX kX
        refine pre7 _ ?_
        show own_s p e below s₁ m 14 #[rv a, iv p1, iv p2, iv p3] [(.int p1), (.ref a)] _
        refine X0.baloadBytes hx (j := p1) (v := (.int (g I))) (by rw [e0]; exact Ar6.1) (State.isArrayOf_alike hZ.alike Ar6.2.1) Ar6.2.2 (own_inb S6 M6 (own_idx (by omega) (by omega))) (own_get H6 S6 (own_idx (by omega) (by omega)) (by show Value.int (g p1.toNatClampNeg) = _; rw [own_nat iI])) (g := (mkF m 14 #[rv a, iv p1, iv p2, iv p3] [(.int p1), (.ref a)])) rfl rfl (hb hby d4_14) _ ?_
        show own_s p e below s₁ m 15 #[rv a, iv p1, iv p2, iv p3] [(.int (g I))] _
        refine XS.iloadN X0.here hx rfl (hb hby d4_15) rfl ?_
        show own_s p e below s₁ m 16 #[rv a, iv p1, iv p2, iv p3] [(.int p3), (.int (g I))] _
        refine XS.iconst X0.here hx rfl (hb hby d4_16) ?_
        show own_s p e below s₁ m 17 #[rv a, iv p1, iv p2, iv p3] [(.int (1 : Int32)), (.int p3), (.int (g I))] _
        refine XS.isub X0.here hx rfl (hb hby d4_17) rfl ?_
        show own_s p e below s₁ m 18 #[rv a, iv p1, iv p2, iv p3] [(.int (p3 - (1 : Int32))), (.int (g I))] _
        refine XS.iloadN X0.here hx rfl (hb hby d4_18) rfl ?_
        show own_s p e below s₁ m 19 #[rv a, iv p1, iv p2, iv p3] [(.int p1), (.int (p3 - (1 : Int32))), (.int (g I))] _
        refine XS.isub X0.here hx rfl (hb hby d4_19) rfl ?_
        exact kX
      have d1 := c_isub p3 1
      have d2 := c_isub (p3 - 1) p1
      have d3 : (1 : Int32).toInt = 1 := rfl
      have d4 := rng32 (p3 - 1)
      have d5 := rng32 (p3 - 1 - p1)
      have hk : ((p3 - (1 : Int32)) - p1) = Int32.ofNat (T - 1 - I) := own_of (by omega) (by omega)
      obtain ⟨_, _, ⟨T9, L9, k9, n9⟩, -, X9, ⟨Lc9, hQ9, l9, y9, z9⟩, st9⟩ := Jvm.LawKit.callS X0 hx (y := (⟨"com/example/since/since/model/NameTableHashPinLaw", "pow31", "(I)I"⟩ : MethodName)) hown (mvT hZ (hw _ (List.mem_of_getElem? (i := 12) rfl))) (mvT hZ (hw _ (List.mem_of_getElem? (i := 13) rfl))) (mvT hZ (hw _ (List.mem_of_getElem? (i := 10) rfl))) (mvT hZ (hw _ (List.mem_of_getElem? (i := 14) rfl))) (by decide) (backOf (W := 1) (rm3 l Z a0 hw [] ((p3 - (1 : Int32)) - p1) (T - 1 - I) h0 n0 Z0 hk (by omega)) hZ (hw _ (List.mem_of_getElem? (i := 14) rfl)) (hw _ (List.mem_of_getElem? (i := 10) rfl)) (by decide) (by decide)) (g := (mkF m 20 #[rv a, iv p1, iv p2, iv p3] [(.int ((p3 - (1 : Int32)) - p1)), (.int (g I))])) rfl (by rw [hml]; rfl) (argsL := [(.int ((p3 - (1 : Int32)) - p1))]) (rest := [(.int (g I))]) (lenOf pd4_0 rfl) rfl (by show 2 * 0 + _ ≤ _; exact Nat.le_of_eq rfl) (hb hby d4_20) (fun _ _ => ⟨rfl, e0, (by decide : 0 + 0 ≤ _), (by decide : 0 + 0 ≤ _)⟩)
      dsimp only [Pt.U, Pt.locs, Pt.cells, Pt.slots] at X9 l9 y9 z9 st9 hQ9
      subst l9 y9 z9
      obtain ⟨rfl, Nq9, e9⟩ := hQ9
      have N9 := Fr.app N0 Nq9
      have pre10 : ∀ t, own_s p e below T9 m 23 #[rv a, iv p1, iv p2, iv p3] [(.int (own_pn (T - 1 - I))), (.int (g I))] t → Steps p.tables e below S0 t := fun tX kX => pre8 _ (st9 _ kX)
      have pre11 : ∀ t, own_s p e below T9 m 24 #[rv a, iv p1, iv p2, iv p3] [(.int ((g I) * (own_pn (T - 1 - I))))] t → Steps p.tables e below S0 t := by
        intro tX kX
        refine pre10 _ ?_
        show own_s p e below T9 m 23 #[rv a, iv p1, iv p2, iv p3] [(.int (own_pn (T - 1 - I))), (.int (g I))] _
        refine XS.imul X9.here hx rfl (hb hby d4_23) rfl ?_
        exact kX
      subst hS0
      obtain ⟨fs, hr, hrun, hended, hW, hsame⟩ := X9.leave (v := (some (.int ((g I) * (own_pn (T - 1 - I)))))) (fun h => by rw [Bd.returns] at h; cases h)
      refine ⟨_, _, pre11 _ (retI X9 hx Bd.returns (hb hby d4_24) hr), hrun, hended, _, _, rfl, ?_, ⟨_, rfl⟩, hW, hsame.mono (by decide) (by decide)⟩
      show Q4 Z a p1 p2 p3 g I F T h0 n0 (some (.int ((g I) * (own_pn (T - 1 - I))))) T9.heap _
      exact ⟨congrArg (fun z => some (Value.int z)) (show ((g I) * (own_pn (T - 1 - I))) = own_term g I F T from by unfold own_term; rw [if_neg (by omega)]), N9, e9⟩
    · skip
      have ihc5 : ¬ ((p1).toInt < (p3).toInt) := fun q => hc5 (Int32.lt_iff_toInt_lt.mpr q)
      have pre12 : ∀ t, own_s p e below s₁ m 11 #[rv a, iv p1, iv p2, iv p3] [(.int (0 : Int32))] t → Steps p.tables e below S0 t := by
        intro tX kX
        refine pre4 _ ?_
        show own_s p e below s₁ m 7 #[rv a, iv p1, iv p2, iv p3] [(.int p3), (.int p1)] _
        refine XS.icmpNo X0.here hx rfl (hb hby d4_7) rfl (flt hc5).1 ?_
        show own_s p e below s₁ m 10 #[rv a, iv p1, iv p2, iv p3] [] _
        refine XS.iconst X0.here hx rfl (hb hby d4_10) ?_
        exact kX
      subst hS0
      obtain ⟨fs, hr, hrun, hended, hW, hsame⟩ := X0.leave (v := (some (.int (0 : Int32)))) (fun h => by rw [Bd.returns] at h; cases h)
      refine ⟨_, _, pre12 _ (retI X0 hx Bd.returns (hb hby d4_11) hr), hrun, hended, _, _, rfl, ?_, ⟨_, rfl⟩, hW, hsame.mono (by decide) (by decide)⟩
      show Q4 Z a p1 p2 p3 g I F T h0 n0 (some (.int (0 : Int32))) s₁.heap _
      exact ⟨congrArg (fun z => some (Value.int z)) (show (0 : Int32) = own_term g I F T from by unfold own_term; rw [if_pos (by omega)]), N0, e0⟩
theorem d5_0 : decode prog_48_method_12_code 0 = .ok (.iconst 0, 1) := by decide +kernel
theorem d5_1 : decode prog_48_method_12_code 1 = .ok (.istore_n 3, 1) := by decide +kernel
theorem d5_2 : decode prog_48_method_12_code 2 = .ok (.iload_n 1, 1) := by decide +kernel
theorem d5_3 : decode prog_48_method_12_code 3 = .ok (.istore 4, 2) := by decide +kernel
theorem d5_5 : decode prog_48_method_12_code 5 = .ok (.iload 4, 2) := by decide +kernel
theorem d5_7 : decode prog_48_method_12_code 7 = .ok (.iload_n 2, 1) := by decide +kernel
theorem d5_8 : decode prog_48_method_12_code 8 = .ok (.if_icmp .ge 19, 3) := by decide +kernel
theorem d5_11 : decode prog_48_method_12_code 11 = .ok (.bipush 31, 2) := by decide +kernel
theorem d5_13 : decode prog_48_method_12_code 13 = .ok (.iload_n 3, 1) := by decide +kernel
theorem d5_14 : decode prog_48_method_12_code 14 = .ok (.imul, 1) := by decide +kernel
theorem d5_15 : decode prog_48_method_12_code 15 = .ok (.aload_n 0, 1) := by decide +kernel
theorem d5_16 : decode prog_48_method_12_code 16 = .ok (.iload 4, 2) := by decide +kernel
theorem d5_18 : decode prog_48_method_12_code 18 = .ok (.baload, 1) := by decide +kernel
theorem d5_19 : decode prog_48_method_12_code 19 = .ok (.iadd, 1) := by decide +kernel
theorem d5_20 : decode prog_48_method_12_code 20 = .ok (.istore_n 3, 1) := by decide +kernel
theorem d5_21 : decode prog_48_method_12_code 21 = .ok (.iinc 4 1, 3) := by decide +kernel
theorem d5_24 : decode prog_48_method_12_code 24 = .ok (.goto (-19), 3) := by decide +kernel
theorem d5_27 : decode prog_48_method_12_code 27 = .ok (.iload_n 3, 1) := by decide +kernel
theorem d5_28 : decode prog_48_method_12_code 28 = .ok (.ldc 118, 2) := by decide +kernel
theorem d5_30 : decode prog_48_method_12_code 30 = .ok (.imul, 1) := by decide +kernel
theorem d5_31 : decode prog_48_method_12_code 31 = .ok (.istore_n 3, 1) := by decide +kernel
theorem d5_32 : decode prog_48_method_12_code 32 = .ok (.iload_n 3, 1) := by decide +kernel
theorem d5_33 : decode prog_48_method_12_code 33 = .ok (.iload_n 3, 1) := by decide +kernel
theorem d5_34 : decode prog_48_method_12_code 34 = .ok (.bipush 16, 2) := by decide +kernel
theorem d5_36 : decode prog_48_method_12_code 36 = .ok (.iushr, 1) := by decide +kernel
theorem d5_37 : decode prog_48_method_12_code 37 = .ok (.ixor, 1) := by decide +kernel
theorem d5_38 : decode prog_48_method_12_code 38 = .ok (.ireturn, 1) := by decide +kernel
theorem pn_5 : plainName "com/example/since/since/model/NameTable" = true := by first | (simp [plainName, overriddenIn]; done) | decide +kernel
theorem ef_5 (m : MethodId) (a : Addr) (p1 : Int32) (p2 : Int32) : entryFrame m #[(.ref a), (.int p1), (.int p2)] 5 = mkF m 0 #[rv a, iv p1, iv p2, .unset, .unset] [] := by first | (simp [entryFrame, mkF, argsToLocals, Value.category]; done) | rfl
def Q5 (Z : State) (a : Addr) (p1 : Int32) (p2 : Int32) (g : Nat → Int32) (F : Nat) (T : Nat) (h0 : Heap) (n0 : Nat) (v : Option Value) (h : Heap) (L : List Loc) : Prop := v = some (.int (own_mix (own_acc g F (T - F)))) ∧ Fr n0 L ∧ h = h0
set_option maxRecDepth 65536 in
set_option maxHeartbeats 40000000 in
theorem rm5 (l : Launch) (Z : State) (a0 : Array Value) (hw : ∀ d ∈ tables_1, d.before a0 Z = true) (ws : List Jvm.Cond) (a : Addr) (p1 : Int32) (p2 : Int32) (g : Nat → Int32) (F : Nat) (T : Nat) (h0 : Heap) (n0 : Nat) (Z0 : n0 ≤ h0.size) (A_a : own_Af Z h0 a .byte 8 (fun j => .int (g j))) (hp1 : p1 = Int32.ofNat F) (hp2 : p2 = Int32.ofNat T) (hF : F ≤ T) (hT : T ≤ 8) :
    MetFree l (⟨"com/example/since/since/model/NameTable", "hash", "([BII)I"⟩ : MethodName) (head1 (Jvm.Cond.code (⟨"com/example/since/since/model/NameTable", "hash", "([BII)I"⟩ : MethodName) prog_48_method_12_code 5 (some .int) :: ws) ({ frames := 0, cells := 0, slots := 0, locals := 0 } : Room)) (fun aX UX => aX = #[(.ref a), (.int p1), (.int p2)] ∧ Z.Warmed39 UX.vm ∧ UX.heap = h0) (fun _ _ _ _ _ => True) (fun _ UX oX UY => ∃ vX LX, oX = .returned vX ∧ Q5 Z a p1 p2 g F T h0 n0 vX UY.heap LX ∧ FrameEnd UX oX UY LX ({ frames := 0, cells := 0, slots := 0, locals := 0 } : Room).cells ({ frames := 0, cells := 0, slots := 0, locals := 0 } : Room).slots) := by
  refine MetFree.of_bodySF (plainFor_of_name pn_5) hisR ?_
  intro p e s m args below meth c s₁ Bd hml0 hP hK
  obtain ⟨rfl, hZ, hh⟩ := hP
  have hx := Bd.exec
  have hby := Bd.bytes
  have hml : c.maxLocals = 5 := hml0
  have hown : s.vm.findClass "com/example/since/since/model/NameTable" = some m.cls := findClass_of_methodNamed Bd.named
  have hnm := (name_of_methodNamed Bd.named Bd.method).1
  have X0 : Stand p l e ({ frames := 0, cells := 0, slots := 0, locals := 0 } : Room) s m #[(.ref a), (.int p1), (.int p2)] below meth c s₁ [] 0 0 := Stand.of_body Bd
  have e0 : s₁.heap = h0 := by rw [← hh, Bd.state]; rfl
  have N0 := Fr.nil n0
  have pre0 : ∀ t, Steps p.tables e below (s₁.setTop (mkF m 0 #[rv a, iv p1, iv p2, .unset, .unset] [])) t → Steps p.tables e below (s₁.setTop (entryFrame m #[(.ref a), (.int p1), (.int p2)] 5)) t := fun t k => castTop (ef_5 m a p1 p2) k
  obtain ⟨S0, hS0⟩ : ∃ z, z = (s₁.setTop (entryFrame m #[(.ref a), (.int p1), (.int p2)] 5)) := ⟨_, rfl⟩
  rw [← hS0] at pre0
  have iF : p1.toInt = F := by rw [hp1]; exact own_ofn (by omega)
  have iT : p2.toInt = T := by rw [hp2]; exact own_ofn (by omega)
  have pre1 : ∀ t, own_s p e below s₁ m 5 #[rv a, iv p1, iv p2, iv (0 : Int32), iv p1] [] t → Steps p.tables e below S0 t := by
    intro tX kX
    refine pre0 _ ?_
    show own_s p e below s₁ m 0 #[rv a, iv p1, iv p2, .unset, .unset] [] _
    refine XS.iconst X0.here hx rfl (hb hby d5_0) ?_
    show own_s p e below s₁ m 1 #[rv a, iv p1, iv p2, .unset, .unset] [(.int (0 : Int32))] _
    refine XS.istoreN X0.here hx rfl (hb hby d5_1) rfl (l' := #[rv a, iv p1, iv p2, iv (0 : Int32), .unset]) rfl ?_
    show own_s p e below s₁ m 2 #[rv a, iv p1, iv p2, iv (0 : Int32), .unset] [] _
    refine XS.iloadN X0.here hx rfl (hb hby d5_2) rfl ?_
    show own_s p e below s₁ m 3 #[rv a, iv p1, iv p2, iv (0 : Int32), .unset] [(.int p1)] _
    refine XS.istore X0.here hx rfl (hb hby d5_3) rfl (l' := #[rv a, iv p1, iv p2, iv (0 : Int32), iv p1]) rfl ?_
    exact kX
  have loop : ∀ k, k ≤ T - F → ∀ t, own_s p e below s₁ m 5 #[rv a, iv p1, iv p2, iv (own_acc g F k), iv (Int32.ofNat (F + k))] [] t → Steps p.tables e below S0 t := by
    intro k
    induction k with
    | zero =>
      intro _ t k
      exact pre1 _ (castTop (show (mkF m 5 #[rv a, iv p1, iv p2, iv (0 : Int32), iv p1] []) = (mkF m 5 #[rv a, iv p1, iv p2, iv (own_acc g F 0), iv (Int32.ofNat (F + 0))] []) from by rw [hp1]; rfl) k)
    | succ k ih =>
      intro hk tX kk
      have iK : (Int32.ofNat (F + k)).toInt = ((F + k : Nat) : Int) := own_ofn (by omega)
      have pre3 : ∀ t, own_s p e below s₁ m 18 #[rv a, iv p1, iv p2, iv (own_acc g F k), iv (Int32.ofNat (F + k))] [(.int (Int32.ofNat (F + k))), (.ref a), (.int ((31 : Int32) * (own_acc g F k)))] t → Steps p.tables e below S0 t := by
        intro tX kX
        refine (ih (by omega)) _ ?_
        show own_s p e below s₁ m 5 #[rv a, iv p1, iv p2, iv (own_acc g F k), iv (Int32.ofNat (F + k))] [] _
        refine XS.iload X0.here hx rfl (hb hby d5_5) rfl ?_
        show own_s p e below s₁ m 7 #[rv a, iv p1, iv p2, iv (own_acc g F k), iv (Int32.ofNat (F + k))] [(.int (Int32.ofNat (F + k)))] _
        refine XS.iloadN X0.here hx rfl (hb hby d5_7) rfl ?_
        show own_s p e below s₁ m 8 #[rv a, iv p1, iv p2, iv (own_acc g F k), iv (Int32.ofNat (F + k))] [(.int p2), (.int (Int32.ofNat (F + k)))] _
        refine XS.icmpNo X0.here hx rfl (hb hby d5_8) rfl (tlt (show (Int32.ofNat (F + k)) < p2 from Int32.lt_iff_toInt_lt.mpr (by omega))).2.1 ?_
        show own_s p e below s₁ m 11 #[rv a, iv p1, iv p2, iv (own_acc g F k), iv (Int32.ofNat (F + k))] [] _
        refine XS.bipush X0.here hx rfl (hb hby d5_11) ?_
        show own_s p e below s₁ m 13 #[rv a, iv p1, iv p2, iv (own_acc g F k), iv (Int32.ofNat (F + k))] [(.int (31 : Int32))] _
        refine XS.iloadN X0.here hx rfl (hb hby d5_13) rfl ?_
        show own_s p e below s₁ m 14 #[rv a, iv p1, iv p2, iv (own_acc g F k), iv (Int32.ofNat (F + k))] [(.int (own_acc g F k)), (.int (31 : Int32))] _
        refine XS.imul X0.here hx rfl (hb hby d5_14) rfl ?_
        show own_s p e below s₁ m 15 #[rv a, iv p1, iv p2, iv (own_acc g F k), iv (Int32.ofNat (F + k))] [(.int ((31 : Int32) * (own_acc g F k)))] _
        refine XS.aloadN X0.here hx rfl (hb hby d5_15) rfl rfl ?_
        show own_s p e below s₁ m 16 #[rv a, iv p1, iv p2, iv (own_acc g F k), iv (Int32.ofNat (F + k))] [(.ref a), (.int ((31 : Int32) * (own_acc g F k)))] _
        refine XS.iload X0.here hx rfl (hb hby d5_16) rfl ?_
        exact kX
      obtain ⟨cl2, Ar2, S2, M2, H2⟩ := id A_a
      have pre4 : ∀ t, own_s p e below s₁ m 5 #[rv a, iv p1, iv p2, iv (((31 : Int32) * (own_acc g F k)) + (g (F + k))), iv ((Int32.ofNat (F + k)) + (1 : Int32))] [] t → Steps p.tables e below S0 t := by
        intro tX kX
        refine pre3 _ ?_
        show own_s p e below s₁ m 18 #[rv a, iv p1, iv p2, iv (own_acc g F k), iv (Int32.ofNat (F + k))] [(.int (Int32.ofNat (F + k))), (.ref a), (.int ((31 : Int32) * (own_acc g F k)))] _
        refine X0.baloadBytes hx (j := (Int32.ofNat (F + k))) (v := (.int (g (F + k)))) (by rw [e0]; exact Ar2.1) (State.isArrayOf_alike hZ.alike Ar2.2.1) Ar2.2.2 (own_inb S2 M2 (own_idx (by omega) (by omega))) (own_get H2 S2 (own_idx (by omega) (by omega)) (by show Value.int (g (Int32.ofNat (F + k)).toNatClampNeg) = _; rw [own_nat iK])) (g := (mkF m 18 #[rv a, iv p1, iv p2, iv (own_acc g F k), iv (Int32.ofNat (F + k))] [(.int (Int32.ofNat (F + k))), (.ref a), (.int ((31 : Int32) * (own_acc g F k)))])) rfl rfl (hb hby d5_18) _ ?_
        show own_s p e below s₁ m 19 #[rv a, iv p1, iv p2, iv (own_acc g F k), iv (Int32.ofNat (F + k))] [(.int (g (F + k))), (.int ((31 : Int32) * (own_acc g F k)))] _
        refine XS.iadd X0.here hx rfl (hb hby d5_19) rfl ?_
        show own_s p e below s₁ m 20 #[rv a, iv p1, iv p2, iv (own_acc g F k), iv (Int32.ofNat (F + k))] [(.int (((31 : Int32) * (own_acc g F k)) + (g (F + k))))] _
        refine XS.istoreN X0.here hx rfl (hb hby d5_20) rfl (l' := #[rv a, iv p1, iv p2, iv (((31 : Int32) * (own_acc g F k)) + (g (F + k))), iv (Int32.ofNat (F + k))]) rfl ?_
        show own_s p e below s₁ m 21 #[rv a, iv p1, iv p2, iv (((31 : Int32) * (own_acc g F k)) + (g (F + k))), iv (Int32.ofNat (F + k))] [] _
        refine XS.iinc X0.here hx rfl (hb hby d5_21) rfl (l' := #[rv a, iv p1, iv p2, iv (((31 : Int32) * (own_acc g F k)) + (g (F + k))), iv ((Int32.ofNat (F + k)) + (1 : Int32))]) rfl ?_
        show own_s p e below s₁ m 24 #[rv a, iv p1, iv p2, iv (((31 : Int32) * (own_acc g F k)) + (g (F + k))), iv ((Int32.ofNat (F + k)) + (1 : Int32))] [] _
        refine XS.goto X0.here hx rfl (pc0 := 24) (pc' := 5) rfl (hb hby d5_24) (by decide) (by decide) ?_
        exact kX
      exact pre4 _ (castTop (show (mkF m 5 #[rv a, iv p1, iv p2, iv (((31 : Int32) * (own_acc g F k)) + (g (F + k))), iv ((Int32.ofNat (F + k)) + (1 : Int32))] []) = (mkF m 5 #[rv a, iv p1, iv p2, iv (own_acc g F (k + 1)), iv (Int32.ofNat (F + (k + 1)))] []) from by rw [own_sc]; rfl) kk)
  have iE : (Int32.ofNat (F + (T - F))).toInt = ((F + (T - F) : Nat) : Int) := own_ofn (by omega)
  have pre5 : ∀ t, own_s p e below s₁ m 38 #[rv a, iv p1, iv p2, iv ((own_acc g F (T - F)) * (-1640531527 : Int32)), iv (Int32.ofNat (F + (T - F)))] [(.int (((own_acc g F (T - F)) * (-1640531527 : Int32)) ^^^ ((((own_acc g F (T - F)) * (-1640531527 : Int32)).toUInt32 >>> ((16 : Int32) &&& 31).toUInt32).toInt32)))] t → Steps p.tables e below S0 t := by
    intro tX kX
    refine (loop (T - F) (Nat.le_refl _)) _ ?_
    show own_s p e below s₁ m 5 #[rv a, iv p1, iv p2, iv (own_acc g F (T - F)), iv (Int32.ofNat (F + (T - F)))] [] _
    refine XS.iload X0.here hx rfl (hb hby d5_5) rfl ?_
    show own_s p e below s₁ m 7 #[rv a, iv p1, iv p2, iv (own_acc g F (T - F)), iv (Int32.ofNat (F + (T - F)))] [(.int (Int32.ofNat (F + (T - F))))] _
    refine XS.iloadN X0.here hx rfl (hb hby d5_7) rfl ?_
    show own_s p e below s₁ m 8 #[rv a, iv p1, iv p2, iv (own_acc g F (T - F)), iv (Int32.ofNat (F + (T - F)))] [(.int p2), (.int (Int32.ofNat (F + (T - F))))] _
    refine XS.icmpYes X0.here hx rfl (pc0 := 8) (pc' := 27) rfl (hb hby d5_8) rfl (flt (show ¬ ((Int32.ofNat (F + (T - F))) < p2) from fun q => absurd (Int32.lt_iff_toInt_lt.mp q) (by omega))).2.1 (by decide) (by decide) ?_
    show own_s p e below s₁ m 27 #[rv a, iv p1, iv p2, iv (own_acc g F (T - F)), iv (Int32.ofNat (F + (T - F)))] [] _
    refine XS.iloadN X0.here hx rfl (hb hby d5_27) rfl ?_
    show own_s p e below s₁ m 28 #[rv a, iv p1, iv p2, iv (own_acc g F (T - F)), iv (Int32.ofNat (F + (T - F)))] [(.int (own_acc g F (T - F)))] _
    refine X0.ldcInt hx hown (mvT hZ (hw _ (List.mem_of_getElem? (i := 20) rfl))) (g := (mkF m 28 #[rv a, iv p1, iv p2, iv (own_acc g F (T - F)), iv (Int32.ofNat (F + (T - F)))] [(.int (own_acc g F (T - F)))])) rfl (hb hby d5_28) _ ?_
    show own_s p e below s₁ m 30 #[rv a, iv p1, iv p2, iv (own_acc g F (T - F)), iv (Int32.ofNat (F + (T - F)))] [(.int (-1640531527 : Int32)), (.int (own_acc g F (T - F)))] _
    refine XS.imul X0.here hx rfl (hb hby d5_30) rfl ?_
    show own_s p e below s₁ m 31 #[rv a, iv p1, iv p2, iv (own_acc g F (T - F)), iv (Int32.ofNat (F + (T - F)))] [(.int ((own_acc g F (T - F)) * (-1640531527 : Int32)))] _
    refine XS.istoreN X0.here hx rfl (hb hby d5_31) rfl (l' := #[rv a, iv p1, iv p2, iv ((own_acc g F (T - F)) * (-1640531527 : Int32)), iv (Int32.ofNat (F + (T - F)))]) rfl ?_
    show own_s p e below s₁ m 32 #[rv a, iv p1, iv p2, iv ((own_acc g F (T - F)) * (-1640531527 : Int32)), iv (Int32.ofNat (F + (T - F)))] [] _
    refine XS.iloadN X0.here hx rfl (hb hby d5_32) rfl ?_
    show own_s p e below s₁ m 33 #[rv a, iv p1, iv p2, iv ((own_acc g F (T - F)) * (-1640531527 : Int32)), iv (Int32.ofNat (F + (T - F)))] [(.int ((own_acc g F (T - F)) * (-1640531527 : Int32)))] _
    refine XS.iloadN X0.here hx rfl (hb hby d5_33) rfl ?_
    show own_s p e below s₁ m 34 #[rv a, iv p1, iv p2, iv ((own_acc g F (T - F)) * (-1640531527 : Int32)), iv (Int32.ofNat (F + (T - F)))] [(.int ((own_acc g F (T - F)) * (-1640531527 : Int32))), (.int ((own_acc g F (T - F)) * (-1640531527 : Int32)))] _
    refine XS.bipush X0.here hx rfl (hb hby d5_34) ?_
    show own_s p e below s₁ m 36 #[rv a, iv p1, iv p2, iv ((own_acc g F (T - F)) * (-1640531527 : Int32)), iv (Int32.ofNat (F + (T - F)))] [(.int (16 : Int32)), (.int ((own_acc g F (T - F)) * (-1640531527 : Int32))), (.int ((own_acc g F (T - F)) * (-1640531527 : Int32)))] _
    refine XS.iushr X0.here hx rfl (hb hby d5_36) rfl ?_
    show own_s p e below s₁ m 37 #[rv a, iv p1, iv p2, iv ((own_acc g F (T - F)) * (-1640531527 : Int32)), iv (Int32.ofNat (F + (T - F)))] [(.int ((((own_acc g F (T - F)) * (-1640531527 : Int32)).toUInt32 >>> ((16 : Int32) &&& 31).toUInt32).toInt32)), (.int ((own_acc g F (T - F)) * (-1640531527 : Int32)))] _
    refine XS.ixor X0.here hx rfl (hb hby d5_37) rfl ?_
    exact kX
  subst hS0
  obtain ⟨fs, hr, hrun, hended, hW, hsame⟩ := X0.leave (v := (some (.int (((own_acc g F (T - F)) * (-1640531527 : Int32)) ^^^ ((((own_acc g F (T - F)) * (-1640531527 : Int32)).toUInt32 >>> ((16 : Int32) &&& 31).toUInt32).toInt32))))) (fun h => by rw [Bd.returns] at h; cases h)
  refine ⟨_, _, pre5 _ (retI X0 hx Bd.returns (hb hby d5_38) hr), hrun, hended, _, _, rfl, ?_, ⟨_, rfl⟩, hW, hsame.mono (by decide) (by decide)⟩
  show Q5 Z a p1 p2 g F T h0 n0 (some (.int (((own_acc g F (T - F)) * (-1640531527 : Int32)) ^^^ ((((own_acc g F (T - F)) * (-1640531527 : Int32)).toUInt32 >>> ((16 : Int32) &&& 31).toUInt32).toInt32)))) s₁.heap _
  exact ⟨rfl, N0, e0⟩
theorem pn_0 : plainName "com/example/since/since/model/NameTableHashPinLaw" = true := by first | (simp [plainName, overriddenIn]; done) | decide +kernel
theorem pd0_0 : parseMethodDescriptor "(II)I" = some ⟨[.int, .int], some .int⟩ := by decide +kernel
theorem pd0_1 : parseMethodDescriptor "([BIII)I" = some ⟨[(.array .byte), .int, .int, .int], some .int⟩ := by decide +kernel
theorem pd0_2 : parseMethodDescriptor "([BII)I" = some ⟨[(.array .byte), .int, .int], some .int⟩ := by decide +kernel
theorem ef_0 (m : MethodId) (i0 : Int32) (i1 : Int32) (i2 : Int32) : entryFrame m #[(.int i0), (.int i1), (.int i2)] maxLocals = mkF m 0 #[iv i0, iv i1, iv i2, .unset, .unset, .unset, .unset, .unset, .unset, .unset, .unset] [] := by first | (simp [entryFrame, mkF, argsToLocals, Value.category, maxLocals]; done) | rfl
def Q0 (Z : State) (i0 : Int32) (i1 : Int32) (i2 : Int32) (h0 : Heap) (n0 : Nat) (v : Option Value) (h : Heap) (L : List Loc) : Prop := v = some (.int 1) ∧ Fr n0 L
set_option maxRecDepth 65536 in
set_option maxHeartbeats 40000000 in
theorem rm0 (l : Launch) (Z : State) (a0 : Array Value) (hw : ∀ d ∈ tables_1, d.before a0 Z = true) (ws : List Jvm.Cond) (i0 : Int32) (i1 : Int32) (i2 : Int32) (h0 : Heap) (n0 : Nat) (Z0 : n0 ≤ h0.size)  :
    MetFree l x (head1 (Jvm.Cond.code x code maxLocals ret :: ws) room_1) (fun aX UX => aX = #[(.int i0), (.int i1), (.int i2)] ∧ Z.Warmed39 UX.vm ∧ UX.heap = h0) (fun _ _ _ _ _ => True) (fun _ UX oX UY => ∃ vX LX, oX = .returned vX ∧ Q0 Z i0 i1 i2 h0 n0 vX UY.heap LX ∧ FrameEnd UX oX UY LX 1 8) := by
  refine MetFree.of_bodySF (plainFor_of_name pn_0) hisR ?_
  intro p e s m args below meth c s₁ Bd hml0 hP hK
  obtain ⟨rfl, hZ, hh⟩ := hP
  have hx := Bd.exec
  have hby := Bd.bytes
  have hml : c.maxLocals = 11 := hml0
  have hown : s.vm.findClass "com/example/since/since/model/NameTableHashPinLaw" = some m.cls := findClass_of_methodNamed Bd.named
  have hnm := (name_of_methodNamed Bd.named Bd.method).1
  have X0 : Stand p l e room_1 s m #[(.int i0), (.int i1), (.int i2)] below meth c s₁ [] 0 0 := Stand.of_body Bd
  have e0 : s₁.heap = h0 := by rw [← hh, Bd.state]; rfl
  have N0 := Fr.nil n0
  have pre0 : ∀ t, Steps p.tables e below (s₁.setTop (mkF m 0 #[iv i0, iv i1, iv i2, .unset, .unset, .unset, .unset, .unset, .unset, .unset, .unset] [])) t → Steps p.tables e below (s₁.setTop (entryFrame m #[(.int i0), (.int i1), (.int i2)] maxLocals)) t := fun t k => castTop (ef_0 m i0 i1 i2) k
  obtain ⟨S0, hS0⟩ : ∃ z, z = (s₁.setTop (entryFrame m #[(.int i0), (.int i1), (.int i2)] maxLocals)) := ⟨_, rfl⟩
  rw [← hS0] at pre0
  have pre1 : ∀ t, own_s p e below s₁ m 2 #[iv i0, iv i1, iv i2, .unset, .unset, .unset, .unset, .unset, .unset, .unset, .unset] [(.int (8 : Int32))] t → Steps p.tables e below S0 t := by
    intro tX kX
    refine pre0 _ ?_
    show own_s p e below s₁ m 0 #[iv i0, iv i1, iv i2, .unset, .unset, .unset, .unset, .unset, .unset, .unset, .unset] [] _
    refine XS.bipush X0.here hx rfl (hb hby at_0) ?_
    exact kX
  obtain ⟨T2, h2, k2, X2, e2, E2, A2, st2⟩ := newP X0 hx hZ (hw _ (List.mem_of_getElem? (i := 0) rfl)) e0 (g := (mkF m 2 #[iv i0, iv i1, iv i2, .unset, .unset, .unset, .unset, .unset, .unset, .unset, .unset] [(.int (8 : Int32))])) rfl (hb hby at_2) rfl (by decide) (cap := 8) (by decide) (by decide) (by decide) (by decide)
  obtain ⟨b2, g2⟩ : ∃ z, z = h0.size := ⟨_, rfl⟩
  rw [← g2] at A2 st2
  have g_b2 : n0 ≤ b2 := Nat.le_trans Z0 (Nat.le_of_eq g2.symm)
  have pre3 : ∀ t, own_s p e below T2 m 4 #[iv i0, iv i1, iv i2, .unset, .unset, .unset, .unset, .unset, .unset, .unset, .unset] [(.ref b2)] t → Steps p.tables e below S0 t := fun tX kX => pre1 _ (st2 _ kX)
  have Z4 : n0 ≤ h2.size := Nat.le_trans Z0 E2.1
  have f5_A : own_Af Z h2 b2 .byte 8 (fun _ => (.int (0 : Int32))) := own_Af.new A2 (by decide) rfl
  obtain ⟨g6, fF6⟩ : ∃ g : Nat → Int32, own_Af Z h2 b2 .byte 8 (fun j => .int (g j)) := ⟨_, f5_A⟩
  have pre7 : ∀ t, own_s p e below T2 m 9 #[iv i0, iv i1, iv i2, rv b2, .unset, .unset, .unset, .unset, .unset, .unset, .unset] [(.int (i0.toInt8.toInt32)), (.int (0 : Int32)), (.ref b2)] t → Steps p.tables e below S0 t := by
    intro tX kX
    refine pre3 _ ?_
    show own_s p e below T2 m 4 #[iv i0, iv i1, iv i2, .unset, .unset, .unset, .unset, .unset, .unset, .unset, .unset] [(.ref b2)] _
    refine XS.astoreN X2.here hx rfl (hb hby at_4) rfl rfl (l' := #[iv i0, iv i1, iv i2, rv b2, .unset, .unset, .unset, .unset, .unset, .unset, .unset]) rfl ?_
    show own_s p e below T2 m 5 #[iv i0, iv i1, iv i2, rv b2, .unset, .unset, .unset, .unset, .unset, .unset, .unset] [] _
    refine XS.aloadN X2.here hx rfl (hb hby at_5) rfl rfl ?_
    show own_s p e below T2 m 6 #[iv i0, iv i1, iv i2, rv b2, .unset, .unset, .unset, .unset, .unset, .unset, .unset] [(.ref b2)] _
    refine XS.iconst X2.here hx rfl (hb hby at_6) ?_
    show own_s p e below T2 m 7 #[iv i0, iv i1, iv i2, rv b2, .unset, .unset, .unset, .unset, .unset, .unset, .unset] [(.int (0 : Int32)), (.ref b2)] _
    refine XS.iloadN X2.here hx rfl (hb hby at_7) rfl ?_
    show own_s p e below T2 m 8 #[iv i0, iv i1, iv i2, rv b2, .unset, .unset, .unset, .unset, .unset, .unset, .unset] [(.int i0), (.int (0 : Int32)), (.ref b2)] _
    refine XS.i2b X2.here hx rfl (hb hby at_8) rfl ?_
    exact kX
  obtain ⟨cl8, Ar8, S8, M8, H8⟩ := id fF6
  obtain ⟨T9, h9, X9, e9, W9, st9⟩ := stB X2 hx hZ e2 Ar8 (j := (0 : Int32)) (own_inb S8 M8 (by decide)) (g := (mkF m 9 #[iv i0, iv i1, iv i2, rv b2, .unset, .unset, .unset, .unset, .unset, .unset, .unset] [(.int (i0.toInt8.toInt32)), (.int (0 : Int32)), (.ref b2)])) rfl rfl (hb hby at_9)
  have pre10 : ∀ t, own_s p e below T9 m 10 #[iv i0, iv i1, iv i2, rv b2, .unset, .unset, .unset, .unset, .unset, .unset, .unset] [] t → Steps p.tables e below S0 t := fun tX kX => pre7 _ (st9 _ kX)
  have N11 := Fr.snoc X9 N0 g_b2
  have Z12 : n0 ≤ h9.size := Nat.le_trans Z4 (Keep.of_wr W9).1
  have f13_A : own_Af Z h9 b2 .byte 8 (own_up (fun j => .int (g6 j)) (0 : Int32).toNatClampNeg (.int (nar .byte (i0.toInt8.toInt32)))) := own_Af.set Ar8 S8 M8 H8 W9
  obtain ⟨g14, fF14⟩ : ∃ g : Nat → Int32, own_Af Z h9 b2 .byte 8 (fun j => .int (g j)) := ⟨_, (own_upI ▸ f13_A)⟩
  have pre15 : ∀ t, own_s p e below T9 m 17 #[iv i0, iv i1, iv i2, rv b2, .unset, .unset, .unset, .unset, .unset, .unset, .unset] [(.int (((i0.toUInt32 >>> ((8 : Int32) &&& 31).toUInt32).toInt32).toInt8.toInt32)), (.int (1 : Int32)), (.ref b2)] t → Steps p.tables e below S0 t := by
    intro tX kX
    refine pre10 _ ?_
    show own_s p e below T9 m 10 #[iv i0, iv i1, iv i2, rv b2, .unset, .unset, .unset, .unset, .unset, .unset, .unset] [] _
    refine XS.aloadN X9.here hx rfl (hb hby at_10) rfl rfl ?_
    show own_s p e below T9 m 11 #[iv i0, iv i1, iv i2, rv b2, .unset, .unset, .unset, .unset, .unset, .unset, .unset] [(.ref b2)] _
    refine XS.iconst X9.here hx rfl (hb hby at_11) ?_
    show own_s p e below T9 m 12 #[iv i0, iv i1, iv i2, rv b2, .unset, .unset, .unset, .unset, .unset, .unset, .unset] [(.int (1 : Int32)), (.ref b2)] _
    refine XS.iloadN X9.here hx rfl (hb hby at_12) rfl ?_
    show own_s p e below T9 m 13 #[iv i0, iv i1, iv i2, rv b2, .unset, .unset, .unset, .unset, .unset, .unset, .unset] [(.int i0), (.int (1 : Int32)), (.ref b2)] _
    refine XS.bipush X9.here hx rfl (hb hby at_13) ?_
    show own_s p e below T9 m 15 #[iv i0, iv i1, iv i2, rv b2, .unset, .unset, .unset, .unset, .unset, .unset, .unset] [(.int (8 : Int32)), (.int i0), (.int (1 : Int32)), (.ref b2)] _
    refine XS.iushr X9.here hx rfl (hb hby at_15) rfl ?_
    show own_s p e below T9 m 16 #[iv i0, iv i1, iv i2, rv b2, .unset, .unset, .unset, .unset, .unset, .unset, .unset] [(.int ((i0.toUInt32 >>> ((8 : Int32) &&& 31).toUInt32).toInt32)), (.int (1 : Int32)), (.ref b2)] _
    refine XS.i2b X9.here hx rfl (hb hby at_16) rfl ?_
    exact kX
  obtain ⟨cl16, Ar16, S16, M16, H16⟩ := id fF14
  obtain ⟨T17, h17, X17, e17, W17, st17⟩ := stB X9 hx hZ e9 Ar16 (j := (1 : Int32)) (own_inb S16 M16 (by decide)) (g := (mkF m 17 #[iv i0, iv i1, iv i2, rv b2, .unset, .unset, .unset, .unset, .unset, .unset, .unset] [(.int (((i0.toUInt32 >>> ((8 : Int32) &&& 31).toUInt32).toInt32).toInt8.toInt32)), (.int (1 : Int32)), (.ref b2)])) rfl rfl (hb hby at_17)
  have pre18 : ∀ t, own_s p e below T17 m 18 #[iv i0, iv i1, iv i2, rv b2, .unset, .unset, .unset, .unset, .unset, .unset, .unset] [] t → Steps p.tables e below S0 t := fun tX kX => pre15 _ (st17 _ kX)
  have N19 := Fr.snoc X17 N11 g_b2
  have Z20 : n0 ≤ h17.size := Nat.le_trans Z12 (Keep.of_wr W17).1
  have f21_A : own_Af Z h17 b2 .byte 8 (own_up (fun j => .int (g14 j)) (1 : Int32).toNatClampNeg (.int (nar .byte (((i0.toUInt32 >>> ((8 : Int32) &&& 31).toUInt32).toInt32).toInt8.toInt32)))) := own_Af.set Ar16 S16 M16 H16 W17
  obtain ⟨g22, fF22⟩ : ∃ g : Nat → Int32, own_Af Z h17 b2 .byte 8 (fun j => .int (g j)) := ⟨_, (own_upI ▸ f21_A)⟩
  have pre23 : ∀ t, own_s p e below T17 m 25 #[iv i0, iv i1, iv i2, rv b2, .unset, .unset, .unset, .unset, .unset, .unset, .unset] [(.int (((i0.toUInt32 >>> ((16 : Int32) &&& 31).toUInt32).toInt32).toInt8.toInt32)), (.int (2 : Int32)), (.ref b2)] t → Steps p.tables e below S0 t := by
    intro tX kX
    refine pre18 _ ?_
    show own_s p e below T17 m 18 #[iv i0, iv i1, iv i2, rv b2, .unset, .unset, .unset, .unset, .unset, .unset, .unset] [] _
    refine XS.aloadN X17.here hx rfl (hb hby at_18) rfl rfl ?_
    show own_s p e below T17 m 19 #[iv i0, iv i1, iv i2, rv b2, .unset, .unset, .unset, .unset, .unset, .unset, .unset] [(.ref b2)] _
    refine XS.iconst X17.here hx rfl (hb hby at_19) ?_
    show own_s p e below T17 m 20 #[iv i0, iv i1, iv i2, rv b2, .unset, .unset, .unset, .unset, .unset, .unset, .unset] [(.int (2 : Int32)), (.ref b2)] _
    refine XS.iloadN X17.here hx rfl (hb hby at_20) rfl ?_
    show own_s p e below T17 m 21 #[iv i0, iv i1, iv i2, rv b2, .unset, .unset, .unset, .unset, .unset, .unset, .unset] [(.int i0), (.int (2 : Int32)), (.ref b2)] _
    refine XS.bipush X17.here hx rfl (hb hby at_21) ?_
    show own_s p e below T17 m 23 #[iv i0, iv i1, iv i2, rv b2, .unset, .unset, .unset, .unset, .unset, .unset, .unset] [(.int (16 : Int32)), (.int i0), (.int (2 : Int32)), (.ref b2)] _
    refine XS.iushr X17.here hx rfl (hb hby at_23) rfl ?_
    show own_s p e below T17 m 24 #[iv i0, iv i1, iv i2, rv b2, .unset, .unset, .unset, .unset, .unset, .unset, .unset] [(.int ((i0.toUInt32 >>> ((16 : Int32) &&& 31).toUInt32).toInt32)), (.int (2 : Int32)), (.ref b2)] _
    refine XS.i2b X17.here hx rfl (hb hby at_24) rfl ?_
    exact kX
  obtain ⟨cl24, Ar24, S24, M24, H24⟩ := id fF22
  obtain ⟨T25, h25, X25, e25, W25, st25⟩ := stB X17 hx hZ e17 Ar24 (j := (2 : Int32)) (own_inb S24 M24 (by decide)) (g := (mkF m 25 #[iv i0, iv i1, iv i2, rv b2, .unset, .unset, .unset, .unset, .unset, .unset, .unset] [(.int (((i0.toUInt32 >>> ((16 : Int32) &&& 31).toUInt32).toInt32).toInt8.toInt32)), (.int (2 : Int32)), (.ref b2)])) rfl rfl (hb hby at_25)
  have pre26 : ∀ t, own_s p e below T25 m 26 #[iv i0, iv i1, iv i2, rv b2, .unset, .unset, .unset, .unset, .unset, .unset, .unset] [] t → Steps p.tables e below S0 t := fun tX kX => pre23 _ (st25 _ kX)
  have N27 := Fr.snoc X25 N19 g_b2
  have Z28 : n0 ≤ h25.size := Nat.le_trans Z20 (Keep.of_wr W25).1
  have f29_A : own_Af Z h25 b2 .byte 8 (own_up (fun j => .int (g22 j)) (2 : Int32).toNatClampNeg (.int (nar .byte (((i0.toUInt32 >>> ((16 : Int32) &&& 31).toUInt32).toInt32).toInt8.toInt32)))) := own_Af.set Ar24 S24 M24 H24 W25
  obtain ⟨g30, fF30⟩ : ∃ g : Nat → Int32, own_Af Z h25 b2 .byte 8 (fun j => .int (g j)) := ⟨_, (own_upI ▸ f29_A)⟩
  have pre31 : ∀ t, own_s p e below T25 m 33 #[iv i0, iv i1, iv i2, rv b2, .unset, .unset, .unset, .unset, .unset, .unset, .unset] [(.int (((i0.toUInt32 >>> ((24 : Int32) &&& 31).toUInt32).toInt32).toInt8.toInt32)), (.int (3 : Int32)), (.ref b2)] t → Steps p.tables e below S0 t := by
    intro tX kX
    refine pre26 _ ?_
    show own_s p e below T25 m 26 #[iv i0, iv i1, iv i2, rv b2, .unset, .unset, .unset, .unset, .unset, .unset, .unset] [] _
    refine XS.aloadN X25.here hx rfl (hb hby at_26) rfl rfl ?_
    show own_s p e below T25 m 27 #[iv i0, iv i1, iv i2, rv b2, .unset, .unset, .unset, .unset, .unset, .unset, .unset] [(.ref b2)] _
    refine XS.iconst X25.here hx rfl (hb hby at_27) ?_
    show own_s p e below T25 m 28 #[iv i0, iv i1, iv i2, rv b2, .unset, .unset, .unset, .unset, .unset, .unset, .unset] [(.int (3 : Int32)), (.ref b2)] _
    refine XS.iloadN X25.here hx rfl (hb hby at_28) rfl ?_
    show own_s p e below T25 m 29 #[iv i0, iv i1, iv i2, rv b2, .unset, .unset, .unset, .unset, .unset, .unset, .unset] [(.int i0), (.int (3 : Int32)), (.ref b2)] _
    refine XS.bipush X25.here hx rfl (hb hby at_29) ?_
    show own_s p e below T25 m 31 #[iv i0, iv i1, iv i2, rv b2, .unset, .unset, .unset, .unset, .unset, .unset, .unset] [(.int (24 : Int32)), (.int i0), (.int (3 : Int32)), (.ref b2)] _
    refine XS.iushr X25.here hx rfl (hb hby at_31) rfl ?_
    show own_s p e below T25 m 32 #[iv i0, iv i1, iv i2, rv b2, .unset, .unset, .unset, .unset, .unset, .unset, .unset] [(.int ((i0.toUInt32 >>> ((24 : Int32) &&& 31).toUInt32).toInt32)), (.int (3 : Int32)), (.ref b2)] _
    refine XS.i2b X25.here hx rfl (hb hby at_32) rfl ?_
    exact kX
  obtain ⟨cl32, Ar32, S32, M32, H32⟩ := id fF30
  obtain ⟨T33, h33, X33, e33, W33, st33⟩ := stB X25 hx hZ e25 Ar32 (j := (3 : Int32)) (own_inb S32 M32 (by decide)) (g := (mkF m 33 #[iv i0, iv i1, iv i2, rv b2, .unset, .unset, .unset, .unset, .unset, .unset, .unset] [(.int (((i0.toUInt32 >>> ((24 : Int32) &&& 31).toUInt32).toInt32).toInt8.toInt32)), (.int (3 : Int32)), (.ref b2)])) rfl rfl (hb hby at_33)
  have pre34 : ∀ t, own_s p e below T33 m 34 #[iv i0, iv i1, iv i2, rv b2, .unset, .unset, .unset, .unset, .unset, .unset, .unset] [] t → Steps p.tables e below S0 t := fun tX kX => pre31 _ (st33 _ kX)
  have N35 := Fr.snoc X33 N27 g_b2
  have Z36 : n0 ≤ h33.size := Nat.le_trans Z28 (Keep.of_wr W33).1
  have f37_A : own_Af Z h33 b2 .byte 8 (own_up (fun j => .int (g30 j)) (3 : Int32).toNatClampNeg (.int (nar .byte (((i0.toUInt32 >>> ((24 : Int32) &&& 31).toUInt32).toInt32).toInt8.toInt32)))) := own_Af.set Ar32 S32 M32 H32 W33
  obtain ⟨g38, fF38⟩ : ∃ g : Nat → Int32, own_Af Z h33 b2 .byte 8 (fun j => .int (g j)) := ⟨_, (own_upI ▸ f37_A)⟩
  have pre39 : ∀ t, own_s p e below T33 m 38 #[iv i0, iv i1, iv i2, rv b2, .unset, .unset, .unset, .unset, .unset, .unset, .unset] [(.int (i1.toInt8.toInt32)), (.int (4 : Int32)), (.ref b2)] t → Steps p.tables e below S0 t := by
    intro tX kX
    refine pre34 _ ?_
    show own_s p e below T33 m 34 #[iv i0, iv i1, iv i2, rv b2, .unset, .unset, .unset, .unset, .unset, .unset, .unset] [] _
    refine XS.aloadN X33.here hx rfl (hb hby at_34) rfl rfl ?_
    show own_s p e below T33 m 35 #[iv i0, iv i1, iv i2, rv b2, .unset, .unset, .unset, .unset, .unset, .unset, .unset] [(.ref b2)] _
    refine XS.iconst X33.here hx rfl (hb hby at_35) ?_
    show own_s p e below T33 m 36 #[iv i0, iv i1, iv i2, rv b2, .unset, .unset, .unset, .unset, .unset, .unset, .unset] [(.int (4 : Int32)), (.ref b2)] _
    refine XS.iloadN X33.here hx rfl (hb hby at_36) rfl ?_
    show own_s p e below T33 m 37 #[iv i0, iv i1, iv i2, rv b2, .unset, .unset, .unset, .unset, .unset, .unset, .unset] [(.int i1), (.int (4 : Int32)), (.ref b2)] _
    refine XS.i2b X33.here hx rfl (hb hby at_37) rfl ?_
    exact kX
  obtain ⟨cl40, Ar40, S40, M40, H40⟩ := id fF38
  obtain ⟨T41, h41, X41, e41, W41, st41⟩ := stB X33 hx hZ e33 Ar40 (j := (4 : Int32)) (own_inb S40 M40 (by decide)) (g := (mkF m 38 #[iv i0, iv i1, iv i2, rv b2, .unset, .unset, .unset, .unset, .unset, .unset, .unset] [(.int (i1.toInt8.toInt32)), (.int (4 : Int32)), (.ref b2)])) rfl rfl (hb hby at_38)
  have pre42 : ∀ t, own_s p e below T41 m 39 #[iv i0, iv i1, iv i2, rv b2, .unset, .unset, .unset, .unset, .unset, .unset, .unset] [] t → Steps p.tables e below S0 t := fun tX kX => pre39 _ (st41 _ kX)
  have N43 := Fr.snoc X41 N35 g_b2
  have Z44 : n0 ≤ h41.size := Nat.le_trans Z36 (Keep.of_wr W41).1
  have f45_A : own_Af Z h41 b2 .byte 8 (own_up (fun j => .int (g38 j)) (4 : Int32).toNatClampNeg (.int (nar .byte (i1.toInt8.toInt32)))) := own_Af.set Ar40 S40 M40 H40 W41
  obtain ⟨g46, fF46⟩ : ∃ g : Nat → Int32, own_Af Z h41 b2 .byte 8 (fun j => .int (g j)) := ⟨_, (own_upI ▸ f45_A)⟩
  have pre47 : ∀ t, own_s p e below T41 m 46 #[iv i0, iv i1, iv i2, rv b2, .unset, .unset, .unset, .unset, .unset, .unset, .unset] [(.int (((i1.toUInt32 >>> ((8 : Int32) &&& 31).toUInt32).toInt32).toInt8.toInt32)), (.int (5 : Int32)), (.ref b2)] t → Steps p.tables e below S0 t := by
    intro tX kX
    refine pre42 _ ?_
    show own_s p e below T41 m 39 #[iv i0, iv i1, iv i2, rv b2, .unset, .unset, .unset, .unset, .unset, .unset, .unset] [] _
    refine XS.aloadN X41.here hx rfl (hb hby at_39) rfl rfl ?_
    show own_s p e below T41 m 40 #[iv i0, iv i1, iv i2, rv b2, .unset, .unset, .unset, .unset, .unset, .unset, .unset] [(.ref b2)] _
    refine XS.iconst X41.here hx rfl (hb hby at_40) ?_
    show own_s p e below T41 m 41 #[iv i0, iv i1, iv i2, rv b2, .unset, .unset, .unset, .unset, .unset, .unset, .unset] [(.int (5 : Int32)), (.ref b2)] _
    refine XS.iloadN X41.here hx rfl (hb hby at_41) rfl ?_
    show own_s p e below T41 m 42 #[iv i0, iv i1, iv i2, rv b2, .unset, .unset, .unset, .unset, .unset, .unset, .unset] [(.int i1), (.int (5 : Int32)), (.ref b2)] _
    refine XS.bipush X41.here hx rfl (hb hby at_42) ?_
    show own_s p e below T41 m 44 #[iv i0, iv i1, iv i2, rv b2, .unset, .unset, .unset, .unset, .unset, .unset, .unset] [(.int (8 : Int32)), (.int i1), (.int (5 : Int32)), (.ref b2)] _
    refine XS.iushr X41.here hx rfl (hb hby at_44) rfl ?_
    show own_s p e below T41 m 45 #[iv i0, iv i1, iv i2, rv b2, .unset, .unset, .unset, .unset, .unset, .unset, .unset] [(.int ((i1.toUInt32 >>> ((8 : Int32) &&& 31).toUInt32).toInt32)), (.int (5 : Int32)), (.ref b2)] _
    refine XS.i2b X41.here hx rfl (hb hby at_45) rfl ?_
    exact kX
  obtain ⟨cl48, Ar48, S48, M48, H48⟩ := id fF46
  obtain ⟨T49, h49, X49, e49, W49, st49⟩ := stB X41 hx hZ e41 Ar48 (j := (5 : Int32)) (own_inb S48 M48 (by decide)) (g := (mkF m 46 #[iv i0, iv i1, iv i2, rv b2, .unset, .unset, .unset, .unset, .unset, .unset, .unset] [(.int (((i1.toUInt32 >>> ((8 : Int32) &&& 31).toUInt32).toInt32).toInt8.toInt32)), (.int (5 : Int32)), (.ref b2)])) rfl rfl (hb hby at_46)
  have pre50 : ∀ t, own_s p e below T49 m 47 #[iv i0, iv i1, iv i2, rv b2, .unset, .unset, .unset, .unset, .unset, .unset, .unset] [] t → Steps p.tables e below S0 t := fun tX kX => pre47 _ (st49 _ kX)
  have N51 := Fr.snoc X49 N43 g_b2
  have Z52 : n0 ≤ h49.size := Nat.le_trans Z44 (Keep.of_wr W49).1
  have f53_A : own_Af Z h49 b2 .byte 8 (own_up (fun j => .int (g46 j)) (5 : Int32).toNatClampNeg (.int (nar .byte (((i1.toUInt32 >>> ((8 : Int32) &&& 31).toUInt32).toInt32).toInt8.toInt32)))) := own_Af.set Ar48 S48 M48 H48 W49
  obtain ⟨g54, fF54⟩ : ∃ g : Nat → Int32, own_Af Z h49 b2 .byte 8 (fun j => .int (g j)) := ⟨_, (own_upI ▸ f53_A)⟩
  have pre55 : ∀ t, own_s p e below T49 m 55 #[iv i0, iv i1, iv i2, rv b2, .unset, .unset, .unset, .unset, .unset, .unset, .unset] [(.int (((i1.toUInt32 >>> ((16 : Int32) &&& 31).toUInt32).toInt32).toInt8.toInt32)), (.int (6 : Int32)), (.ref b2)] t → Steps p.tables e below S0 t := by
    intro tX kX
    refine pre50 _ ?_
    show own_s p e below T49 m 47 #[iv i0, iv i1, iv i2, rv b2, .unset, .unset, .unset, .unset, .unset, .unset, .unset] [] _
    refine XS.aloadN X49.here hx rfl (hb hby at_47) rfl rfl ?_
    show own_s p e below T49 m 48 #[iv i0, iv i1, iv i2, rv b2, .unset, .unset, .unset, .unset, .unset, .unset, .unset] [(.ref b2)] _
    refine XS.bipush X49.here hx rfl (hb hby at_48) ?_
    show own_s p e below T49 m 50 #[iv i0, iv i1, iv i2, rv b2, .unset, .unset, .unset, .unset, .unset, .unset, .unset] [(.int (6 : Int32)), (.ref b2)] _
    refine XS.iloadN X49.here hx rfl (hb hby at_50) rfl ?_
    show own_s p e below T49 m 51 #[iv i0, iv i1, iv i2, rv b2, .unset, .unset, .unset, .unset, .unset, .unset, .unset] [(.int i1), (.int (6 : Int32)), (.ref b2)] _
    refine XS.bipush X49.here hx rfl (hb hby at_51) ?_
    show own_s p e below T49 m 53 #[iv i0, iv i1, iv i2, rv b2, .unset, .unset, .unset, .unset, .unset, .unset, .unset] [(.int (16 : Int32)), (.int i1), (.int (6 : Int32)), (.ref b2)] _
    refine XS.iushr X49.here hx rfl (hb hby at_53) rfl ?_
    show own_s p e below T49 m 54 #[iv i0, iv i1, iv i2, rv b2, .unset, .unset, .unset, .unset, .unset, .unset, .unset] [(.int ((i1.toUInt32 >>> ((16 : Int32) &&& 31).toUInt32).toInt32)), (.int (6 : Int32)), (.ref b2)] _
    refine XS.i2b X49.here hx rfl (hb hby at_54) rfl ?_
    exact kX
  obtain ⟨cl56, Ar56, S56, M56, H56⟩ := id fF54
  obtain ⟨T57, h57, X57, e57, W57, st57⟩ := stB X49 hx hZ e49 Ar56 (j := (6 : Int32)) (own_inb S56 M56 (by decide)) (g := (mkF m 55 #[iv i0, iv i1, iv i2, rv b2, .unset, .unset, .unset, .unset, .unset, .unset, .unset] [(.int (((i1.toUInt32 >>> ((16 : Int32) &&& 31).toUInt32).toInt32).toInt8.toInt32)), (.int (6 : Int32)), (.ref b2)])) rfl rfl (hb hby at_55)
  have pre58 : ∀ t, own_s p e below T57 m 56 #[iv i0, iv i1, iv i2, rv b2, .unset, .unset, .unset, .unset, .unset, .unset, .unset] [] t → Steps p.tables e below S0 t := fun tX kX => pre55 _ (st57 _ kX)
  have N59 := Fr.snoc X57 N51 g_b2
  have Z60 : n0 ≤ h57.size := Nat.le_trans Z52 (Keep.of_wr W57).1
  have f61_A : own_Af Z h57 b2 .byte 8 (own_up (fun j => .int (g54 j)) (6 : Int32).toNatClampNeg (.int (nar .byte (((i1.toUInt32 >>> ((16 : Int32) &&& 31).toUInt32).toInt32).toInt8.toInt32)))) := own_Af.set Ar56 S56 M56 H56 W57
  obtain ⟨g62, fF62⟩ : ∃ g : Nat → Int32, own_Af Z h57 b2 .byte 8 (fun j => .int (g j)) := ⟨_, (own_upI ▸ f61_A)⟩
  have pre63 : ∀ t, own_s p e below T57 m 64 #[iv i0, iv i1, iv i2, rv b2, .unset, .unset, .unset, .unset, .unset, .unset, .unset] [(.int (((i1.toUInt32 >>> ((24 : Int32) &&& 31).toUInt32).toInt32).toInt8.toInt32)), (.int (7 : Int32)), (.ref b2)] t → Steps p.tables e below S0 t := by
    intro tX kX
    refine pre58 _ ?_
    show own_s p e below T57 m 56 #[iv i0, iv i1, iv i2, rv b2, .unset, .unset, .unset, .unset, .unset, .unset, .unset] [] _
    refine XS.aloadN X57.here hx rfl (hb hby at_56) rfl rfl ?_
    show own_s p e below T57 m 57 #[iv i0, iv i1, iv i2, rv b2, .unset, .unset, .unset, .unset, .unset, .unset, .unset] [(.ref b2)] _
    refine XS.bipush X57.here hx rfl (hb hby at_57) ?_
    show own_s p e below T57 m 59 #[iv i0, iv i1, iv i2, rv b2, .unset, .unset, .unset, .unset, .unset, .unset, .unset] [(.int (7 : Int32)), (.ref b2)] _
    refine XS.iloadN X57.here hx rfl (hb hby at_59) rfl ?_
    show own_s p e below T57 m 60 #[iv i0, iv i1, iv i2, rv b2, .unset, .unset, .unset, .unset, .unset, .unset, .unset] [(.int i1), (.int (7 : Int32)), (.ref b2)] _
    refine XS.bipush X57.here hx rfl (hb hby at_60) ?_
    show own_s p e below T57 m 62 #[iv i0, iv i1, iv i2, rv b2, .unset, .unset, .unset, .unset, .unset, .unset, .unset] [(.int (24 : Int32)), (.int i1), (.int (7 : Int32)), (.ref b2)] _
    refine XS.iushr X57.here hx rfl (hb hby at_62) rfl ?_
    show own_s p e below T57 m 63 #[iv i0, iv i1, iv i2, rv b2, .unset, .unset, .unset, .unset, .unset, .unset, .unset] [(.int ((i1.toUInt32 >>> ((24 : Int32) &&& 31).toUInt32).toInt32)), (.int (7 : Int32)), (.ref b2)] _
    refine XS.i2b X57.here hx rfl (hb hby at_63) rfl ?_
    exact kX
  obtain ⟨cl64, Ar64, S64, M64, H64⟩ := id fF62
  obtain ⟨T65, h65, X65, e65, W65, st65⟩ := stB X57 hx hZ e57 Ar64 (j := (7 : Int32)) (own_inb S64 M64 (by decide)) (g := (mkF m 64 #[iv i0, iv i1, iv i2, rv b2, .unset, .unset, .unset, .unset, .unset, .unset, .unset] [(.int (((i1.toUInt32 >>> ((24 : Int32) &&& 31).toUInt32).toInt32).toInt8.toInt32)), (.int (7 : Int32)), (.ref b2)])) rfl rfl (hb hby at_64)
  have pre66 : ∀ t, own_s p e below T65 m 65 #[iv i0, iv i1, iv i2, rv b2, .unset, .unset, .unset, .unset, .unset, .unset, .unset] [] t → Steps p.tables e below S0 t := fun tX kX => pre63 _ (st65 _ kX)
  have N67 := Fr.snoc X65 N59 g_b2
  have Z68 : n0 ≤ h65.size := Nat.le_trans Z60 (Keep.of_wr W65).1
  have f69_A : own_Af Z h65 b2 .byte 8 (own_up (fun j => .int (g62 j)) (7 : Int32).toNatClampNeg (.int (nar .byte (((i1.toUInt32 >>> ((24 : Int32) &&& 31).toUInt32).toInt32).toInt8.toInt32)))) := own_Af.set Ar64 S64 M64 H64 W65
  obtain ⟨g70, fF70⟩ : ∃ g : Nat → Int32, own_Af Z h65 b2 .byte 8 (fun j => .int (g j)) := ⟨_, (own_upI ▸ f69_A)⟩
  have m1 := c_mask i2 15 4 (by decide) (by decide)
  have m2 := c_mask ((i2.toUInt32 >>> ((4 : Int32) &&& 31).toUInt32).toInt32) 15 4 (by decide) (by decide)
  have r1 := (c_irem (i2 &&& 15) 9 9 (by decide)).1 (by omega)
  have r2 := (c_irem (((i2.toUInt32 >>> ((4 : Int32) &&& 31).toUInt32).toInt32) &&& 15) 9 9 (by decide)).1 (by omega)
  have pre71 : ∀ t, own_s p e below T65 m 85 #[iv i0, iv i1, iv i2, rv b2, iv ((i2 &&& (15 : Int32)) % (9 : Int32)), iv ((((i2.toUInt32 >>> ((4 : Int32) &&& 31).toUInt32).toInt32) &&& (15 : Int32)) % (9 : Int32)), .unset, .unset, .unset, .unset, .unset] [] t → Steps p.tables e below S0 t := by
    intro tX kX
    refine pre66 _ ?_
    show own_s p e below T65 m 65 #[iv i0, iv i1, iv i2, rv b2, .unset, .unset, .unset, .unset, .unset, .unset, .unset] [] _
    refine XS.iloadN X65.here hx rfl (hb hby at_65) rfl ?_
    show own_s p e below T65 m 66 #[iv i0, iv i1, iv i2, rv b2, .unset, .unset, .unset, .unset, .unset, .unset, .unset] [(.int i2)] _
    refine XS.bipush X65.here hx rfl (hb hby at_66) ?_
    show own_s p e below T65 m 68 #[iv i0, iv i1, iv i2, rv b2, .unset, .unset, .unset, .unset, .unset, .unset, .unset] [(.int (15 : Int32)), (.int i2)] _
    refine XS.iand X65.here hx rfl (hb hby at_68) rfl ?_
    show own_s p e below T65 m 69 #[iv i0, iv i1, iv i2, rv b2, .unset, .unset, .unset, .unset, .unset, .unset, .unset] [(.int (i2 &&& (15 : Int32)))] _
    refine XS.bipush X65.here hx rfl (hb hby at_69) ?_
    show own_s p e below T65 m 71 #[iv i0, iv i1, iv i2, rv b2, .unset, .unset, .unset, .unset, .unset, .unset, .unset] [(.int (9 : Int32)), (.int (i2 &&& (15 : Int32)))] _
    refine iremM X65 hx rfl (hb hby at_71) rfl (by decide) ?_
    show own_s p e below T65 m 72 #[iv i0, iv i1, iv i2, rv b2, .unset, .unset, .unset, .unset, .unset, .unset, .unset] [(.int ((i2 &&& (15 : Int32)) % (9 : Int32)))] _
    refine XS.istore X65.here hx rfl (hb hby at_72) rfl (l' := #[iv i0, iv i1, iv i2, rv b2, iv ((i2 &&& (15 : Int32)) % (9 : Int32)), .unset, .unset, .unset, .unset, .unset, .unset]) rfl ?_
    show own_s p e below T65 m 74 #[iv i0, iv i1, iv i2, rv b2, iv ((i2 &&& (15 : Int32)) % (9 : Int32)), .unset, .unset, .unset, .unset, .unset, .unset] [] _
    refine XS.iloadN X65.here hx rfl (hb hby at_74) rfl ?_
    show own_s p e below T65 m 75 #[iv i0, iv i1, iv i2, rv b2, iv ((i2 &&& (15 : Int32)) % (9 : Int32)), .unset, .unset, .unset, .unset, .unset, .unset] [(.int i2)] _
    refine XS.iconst X65.here hx rfl (hb hby at_75) ?_
    show own_s p e below T65 m 76 #[iv i0, iv i1, iv i2, rv b2, iv ((i2 &&& (15 : Int32)) % (9 : Int32)), .unset, .unset, .unset, .unset, .unset, .unset] [(.int (4 : Int32)), (.int i2)] _
    refine XS.iushr X65.here hx rfl (hb hby at_76) rfl ?_
    show own_s p e below T65 m 77 #[iv i0, iv i1, iv i2, rv b2, iv ((i2 &&& (15 : Int32)) % (9 : Int32)), .unset, .unset, .unset, .unset, .unset, .unset] [(.int ((i2.toUInt32 >>> ((4 : Int32) &&& 31).toUInt32).toInt32))] _
    refine XS.bipush X65.here hx rfl (hb hby at_77) ?_
    show own_s p e below T65 m 79 #[iv i0, iv i1, iv i2, rv b2, iv ((i2 &&& (15 : Int32)) % (9 : Int32)), .unset, .unset, .unset, .unset, .unset, .unset] [(.int (15 : Int32)), (.int ((i2.toUInt32 >>> ((4 : Int32) &&& 31).toUInt32).toInt32))] _
    refine XS.iand X65.here hx rfl (hb hby at_79) rfl ?_
    show own_s p e below T65 m 80 #[iv i0, iv i1, iv i2, rv b2, iv ((i2 &&& (15 : Int32)) % (9 : Int32)), .unset, .unset, .unset, .unset, .unset, .unset] [(.int (((i2.toUInt32 >>> ((4 : Int32) &&& 31).toUInt32).toInt32) &&& (15 : Int32)))] _
    refine XS.bipush X65.here hx rfl (hb hby at_80) ?_
    show own_s p e below T65 m 82 #[iv i0, iv i1, iv i2, rv b2, iv ((i2 &&& (15 : Int32)) % (9 : Int32)), .unset, .unset, .unset, .unset, .unset, .unset] [(.int (9 : Int32)), (.int (((i2.toUInt32 >>> ((4 : Int32) &&& 31).toUInt32).toInt32) &&& (15 : Int32)))] _
    refine iremM X65 hx rfl (hb hby at_82) rfl (by decide) ?_
    show own_s p e below T65 m 83 #[iv i0, iv i1, iv i2, rv b2, iv ((i2 &&& (15 : Int32)) % (9 : Int32)), .unset, .unset, .unset, .unset, .unset, .unset] [(.int ((((i2.toUInt32 >>> ((4 : Int32) &&& 31).toUInt32).toInt32) &&& (15 : Int32)) % (9 : Int32)))] _
    refine XS.istore X65.here hx rfl (hb hby at_83) rfl (l' := #[iv i0, iv i1, iv i2, rv b2, iv ((i2 &&& (15 : Int32)) % (9 : Int32)), iv ((((i2.toUInt32 >>> ((4 : Int32) &&& 31).toUInt32).toInt32) &&& (15 : Int32)) % (9 : Int32)), .unset, .unset, .unset, .unset, .unset]) rfl ?_
    exact kX
  obtain ⟨xx, hxx⟩ : ∃ z : Int32, z = ((i2 &&& (15 : Int32)) % (9 : Int32)) := ⟨_, rfl⟩
  rw [← hxx] at pre71
  rw [← hxx] at r1
  obtain ⟨yy, hyy⟩ : ∃ z : Int32, z = ((((i2.toUInt32 >>> ((4 : Int32) &&& 31).toUInt32).toInt32) &&& (15 : Int32)) % (9 : Int32)) := ⟨_, rfl⟩
  rw [← hyy] at pre71
  rw [← hyy] at r2
  have pre72 : ∀ t, own_s p e below T65 m 89 #[iv i0, iv i1, iv i2, rv b2, iv xx, iv yy, .unset, .unset, .unset, .unset, .unset] [(.int yy), (.int xx)] t → Steps p.tables e below S0 t := by
    intro tX kX
    refine pre71 _ ?_
    show own_s p e below T65 m 85 #[iv i0, iv i1, iv i2, rv b2, iv xx, iv yy, .unset, .unset, .unset, .unset, .unset] [] _
    refine XS.iload X65.here hx rfl (hb hby at_85) rfl ?_
    show own_s p e below T65 m 87 #[iv i0, iv i1, iv i2, rv b2, iv xx, iv yy, .unset, .unset, .unset, .unset, .unset] [(.int xx)] _
    refine XS.iload X65.here hx rfl (hb hby at_87) rfl ?_
    exact kX
  obtain ⟨_, _, ⟨T73, L73, k73, n73⟩, -, X73, ⟨Lc73, hQ73, l73, y73, z73⟩, st73⟩ := Jvm.LawKit.callS X65 hx (y := (⟨"java/lang/Math", "min", "(II)I"⟩ : MethodName)) hown (mvT hZ (hw _ (List.mem_of_getElem? (i := 1) rfl))) (mvT hZ (hw _ (List.mem_of_getElem? (i := 2) rfl))) (mvT hZ (hw _ (List.mem_of_getElem? (i := 3) rfl))) (mvT hZ (hw _ (List.mem_of_getElem? (i := 4) rfl))) (by decide) (backOf (W := 0) (rm1 l Z a0 hw [] xx yy  h65 n0 Z68 ) hZ (hw _ (List.mem_of_getElem? (i := 4) rfl)) (hw _ (List.mem_of_getElem? (i := 3) rfl)) (by decide) (by decide)) (g := (mkF m 89 #[iv i0, iv i1, iv i2, rv b2, iv xx, iv yy, .unset, .unset, .unset, .unset, .unset] [(.int yy), (.int xx)])) rfl (by rw [hml]; rfl) (argsL := [(.int xx), (.int yy)]) (rest := []) (lenOf pd0_0 rfl) rfl (by show 2 * 0 + _ ≤ _; exact Nat.le_of_eq rfl) (hb hby at_89) (fun _ _ => ⟨rfl, e65, (by decide : 1 + 0 ≤ _), (by decide : 8 + 0 ≤ _)⟩)
  dsimp only [Pt.U, Pt.locs, Pt.cells, Pt.slots] at X73 l73 y73 z73 st73 hQ73
  subst l73 y73 z73
  obtain ⟨rfl, Nq73, e73⟩ := hQ73
  have N73 := Fr.app N67 Nq73
  have pre74 : ∀ t, own_s p e below T73 m 92 #[iv i0, iv i1, iv i2, rv b2, iv xx, iv yy, .unset, .unset, .unset, .unset, .unset] [(.int (own_min xx yy))] t → Steps p.tables e below S0 t := fun tX kX => pre72 _ (st73 _ kX)
  have pre75 : ∀ t, own_s p e below T73 m 98 #[iv i0, iv i1, iv i2, rv b2, iv xx, iv yy, iv (own_min xx yy), .unset, .unset, .unset, .unset] [(.int yy), (.int xx)] t → Steps p.tables e below S0 t := by
    intro tX kX
    refine pre74 _ ?_
    show own_s p e below T73 m 92 #[iv i0, iv i1, iv i2, rv b2, iv xx, iv yy, .unset, .unset, .unset, .unset, .unset] [(.int (own_min xx yy))] _
    refine XS.istore X73.here hx rfl (hb hby at_92) rfl (l' := #[iv i0, iv i1, iv i2, rv b2, iv xx, iv yy, iv (own_min xx yy), .unset, .unset, .unset, .unset]) rfl ?_
    show own_s p e below T73 m 94 #[iv i0, iv i1, iv i2, rv b2, iv xx, iv yy, iv (own_min xx yy), .unset, .unset, .unset, .unset] [] _
    refine XS.iload X73.here hx rfl (hb hby at_94) rfl ?_
    show own_s p e below T73 m 96 #[iv i0, iv i1, iv i2, rv b2, iv xx, iv yy, iv (own_min xx yy), .unset, .unset, .unset, .unset] [(.int xx)] _
    refine XS.iload X73.here hx rfl (hb hby at_96) rfl ?_
    exact kX
  obtain ⟨_, _, ⟨T76, L76, k76, n76⟩, -, X76, ⟨Lc76, hQ76, l76, y76, z76⟩, st76⟩ := Jvm.LawKit.callS X73 hx (y := (⟨"java/lang/Math", "max", "(II)I"⟩ : MethodName)) hown (mvT hZ (hw _ (List.mem_of_getElem? (i := 5) rfl))) (mvT hZ (hw _ (List.mem_of_getElem? (i := 6) rfl))) (mvT hZ (hw _ (List.mem_of_getElem? (i := 3) rfl))) (mvT hZ (hw _ (List.mem_of_getElem? (i := 7) rfl))) (by decide) (backOf (W := 0) (rm2 l Z a0 hw [] xx yy  h65 n0 Z68 ) hZ (hw _ (List.mem_of_getElem? (i := 7) rfl)) (hw _ (List.mem_of_getElem? (i := 3) rfl)) (by decide) (by decide)) (g := (mkF m 98 #[iv i0, iv i1, iv i2, rv b2, iv xx, iv yy, iv (own_min xx yy), .unset, .unset, .unset, .unset] [(.int yy), (.int xx)])) rfl (by rw [hml]; rfl) (argsL := [(.int xx), (.int yy)]) (rest := []) (lenOf pd0_0 rfl) rfl (by show 2 * 0 + _ ≤ _; exact Nat.le_of_eq rfl) (hb hby at_98) (fun _ _ => ⟨rfl, e73, (by decide : 1 + 0 ≤ _), (by decide : 8 + 0 ≤ _)⟩)
  dsimp only [Pt.U, Pt.locs, Pt.cells, Pt.slots] at X76 l76 y76 z76 st76 hQ76
  subst l76 y76 z76
  obtain ⟨rfl, Nq76, e76⟩ := hQ76
  have N76 := Fr.app N73 Nq76
  have pre77 : ∀ t, own_s p e below T76 m 101 #[iv i0, iv i1, iv i2, rv b2, iv xx, iv yy, iv (own_min xx yy), .unset, .unset, .unset, .unset] [(.int (own_max xx yy))] t → Steps p.tables e below S0 t := fun tX kX => pre75 _ (st76 _ kX)
  have pre78 : ∀ t, own_s p e below T76 m 103 #[iv i0, iv i1, iv i2, rv b2, iv xx, iv yy, iv (own_min xx yy), iv (own_max xx yy), .unset, .unset, .unset] [] t → Steps p.tables e below S0 t := by
    intro tX kX
    refine pre77 _ ?_
    show own_s p e below T76 m 101 #[iv i0, iv i1, iv i2, rv b2, iv xx, iv yy, iv (own_min xx yy), .unset, .unset, .unset, .unset] [(.int (own_max xx yy))] _
    refine XS.istore X76.here hx rfl (hb hby at_101) rfl (l' := #[iv i0, iv i1, iv i2, rv b2, iv xx, iv yy, iv (own_min xx yy), iv (own_max xx yy), .unset, .unset, .unset]) rfl ?_
    exact kX
  obtain ⟨fr, hfr⟩ : ∃ z : Int32, z = (own_min xx yy) := ⟨_, rfl⟩
  rw [← hfr] at pre78
  obtain ⟨tt, htt⟩ : ∃ z : Int32, z = (own_max xx yy) := ⟨_, rfl⟩
  rw [← htt] at pre78
  obtain ⟨F, T, hF, hT, hFT, hT8⟩ : ∃ F T : Nat, fr = Int32.ofNat F ∧ tt = Int32.ofNat T ∧ F ≤ T ∧ T ≤ 8 := by
    have a1 : fr.toInt = min xx.toInt yy.toInt := by
      rw [hfr]; unfold own_min; by_cases q : yy < xx
      · rw [if_pos q]; have := Int32.lt_iff_toInt_lt.mp q; omega
      · rw [if_neg q]; have : ¬ yy.toInt < xx.toInt := fun w => q (Int32.lt_iff_toInt_lt.mpr w); omega
    have a2 : tt.toInt = max xx.toInt yy.toInt := by
      rw [htt]; unfold own_max; by_cases q : xx < yy
      · rw [if_pos q]; have := Int32.lt_iff_toInt_lt.mp q; omega
      · rw [if_neg q]; have : ¬ xx.toInt < yy.toInt := fun w => q (Int32.lt_iff_toInt_lt.mpr w); omega
    exact ⟨fr.toInt.toNat, tt.toInt.toNat, own_of (by omega) (by omega), own_of (by omega) (by omega), by omega, by omega⟩
  have pre79 : ∀ t, own_s p e below T76 m 114 #[iv i0, iv i1, iv i2, rv b2, iv xx, iv yy, iv fr, iv tt, iv (0 : Int32), .unset, .unset] [(.int tt), (.int fr), (.int (0 : Int32)), (.ref b2), (.int (0 : Int32))] t → Steps p.tables e below S0 t := by
    intro tX kX
    refine pre78 _ ?_
    show own_s p e below T76 m 103 #[iv i0, iv i1, iv i2, rv b2, iv xx, iv yy, iv fr, iv tt, .unset, .unset, .unset] [] _
    refine XS.iconst X76.here hx rfl (hb hby at_103) ?_
    show own_s p e below T76 m 104 #[iv i0, iv i1, iv i2, rv b2, iv xx, iv yy, iv fr, iv tt, .unset, .unset, .unset] [(.int (0 : Int32))] _
    refine XS.istore X76.here hx rfl (hb hby at_104) rfl (l' := #[iv i0, iv i1, iv i2, rv b2, iv xx, iv yy, iv fr, iv tt, iv (0 : Int32), .unset, .unset]) rfl ?_
    show own_s p e below T76 m 106 #[iv i0, iv i1, iv i2, rv b2, iv xx, iv yy, iv fr, iv tt, iv (0 : Int32), .unset, .unset] [] _
    refine XS.iload X76.here hx rfl (hb hby at_106) rfl ?_
    show own_s p e below T76 m 108 #[iv i0, iv i1, iv i2, rv b2, iv xx, iv yy, iv fr, iv tt, iv (0 : Int32), .unset, .unset] [(.int (0 : Int32))] _
    refine XS.aloadN X76.here hx rfl (hb hby at_108) rfl rfl ?_
    show own_s p e below T76 m 109 #[iv i0, iv i1, iv i2, rv b2, iv xx, iv yy, iv fr, iv tt, iv (0 : Int32), .unset, .unset] [(.ref b2), (.int (0 : Int32))] _
    refine XS.iconst X76.here hx rfl (hb hby at_109) ?_
    show own_s p e below T76 m 110 #[iv i0, iv i1, iv i2, rv b2, iv xx, iv yy, iv fr, iv tt, iv (0 : Int32), .unset, .unset] [(.int (0 : Int32)), (.ref b2), (.int (0 : Int32))] _
    refine XS.iload X76.here hx rfl (hb hby at_110) rfl ?_
    show own_s p e below T76 m 112 #[iv i0, iv i1, iv i2, rv b2, iv xx, iv yy, iv fr, iv tt, iv (0 : Int32), .unset, .unset] [(.int fr), (.int (0 : Int32)), (.ref b2), (.int (0 : Int32))] _
    refine XS.iload X76.here hx rfl (hb hby at_112) rfl ?_
    exact kX
  obtain ⟨_, _, ⟨T80, L80, k80, n80⟩, -, X80, ⟨Lc80, hQ80, l80, y80, z80⟩, st80⟩ := Jvm.LawKit.callS X76 hx (y := (⟨"com/example/since/since/model/NameTableHashPinLaw", "term", "([BIII)I"⟩ : MethodName)) hown (mvT hZ (hw _ (List.mem_of_getElem? (i := 8) rfl))) (mvT hZ (hw _ (List.mem_of_getElem? (i := 9) rfl))) (mvT hZ (hw _ (List.mem_of_getElem? (i := 10) rfl))) (mvT hZ (hw _ (List.mem_of_getElem? (i := 11) rfl))) (by decide) (backOf (W := 1) (rm4 l Z a0 hw [] b2 (0 : Int32) fr tt g70 0 F T h65 n0 Z68 fF70 rfl hF hT (by decide) hFT hT8) hZ (hw _ (List.mem_of_getElem? (i := 11) rfl)) (hw _ (List.mem_of_getElem? (i := 10) rfl)) (by decide) (by decide)) (g := (mkF m 114 #[iv i0, iv i1, iv i2, rv b2, iv xx, iv yy, iv fr, iv tt, iv (0 : Int32), .unset, .unset] [(.int tt), (.int fr), (.int (0 : Int32)), (.ref b2), (.int (0 : Int32))])) rfl (by rw [hml]; rfl) (argsL := [(.ref b2), (.int (0 : Int32)), (.int fr), (.int tt)]) (rest := [(.int (0 : Int32))]) (lenOf pd0_1 rfl) rfl (by show 2 * 0 + _ ≤ _; exact Nat.le_of_eq rfl) (hb hby at_114) (fun _ _ => ⟨rfl, e76, (by decide : 1 + 0 ≤ _), (by decide : 8 + 0 ≤ _)⟩)
  dsimp only [Pt.U, Pt.locs, Pt.cells, Pt.slots] at X80 l80 y80 z80 st80 hQ80
  subst l80 y80 z80
  obtain ⟨rfl, Nq80, e80⟩ := hQ80
  have N80 := Fr.app N76 Nq80
  have pre81 : ∀ t, own_s p e below T80 m 117 #[iv i0, iv i1, iv i2, rv b2, iv xx, iv yy, iv fr, iv tt, iv (0 : Int32), .unset, .unset] [(.int (own_term g70 0 F T)), (.int (0 : Int32))] t → Steps p.tables e below S0 t := fun tX kX => pre79 _ (st80 _ kX)
  have pre82 : ∀ t, own_s p e below T80 m 128 #[iv i0, iv i1, iv i2, rv b2, iv xx, iv yy, iv fr, iv tt, iv ((0 : Int32) + (own_term g70 0 F T)), .unset, .unset] [(.int tt), (.int fr), (.int (1 : Int32)), (.ref b2), (.int ((0 : Int32) + (own_term g70 0 F T)))] t → Steps p.tables e below S0 t := by
    intro tX kX
    refine pre81 _ ?_
    show own_s p e below T80 m 117 #[iv i0, iv i1, iv i2, rv b2, iv xx, iv yy, iv fr, iv tt, iv (0 : Int32), .unset, .unset] [(.int (own_term g70 0 F T)), (.int (0 : Int32))] _
    refine XS.iadd X80.here hx rfl (hb hby at_117) rfl ?_
    show own_s p e below T80 m 118 #[iv i0, iv i1, iv i2, rv b2, iv xx, iv yy, iv fr, iv tt, iv (0 : Int32), .unset, .unset] [(.int ((0 : Int32) + (own_term g70 0 F T)))] _
    refine XS.istore X80.here hx rfl (hb hby at_118) rfl (l' := #[iv i0, iv i1, iv i2, rv b2, iv xx, iv yy, iv fr, iv tt, iv ((0 : Int32) + (own_term g70 0 F T)), .unset, .unset]) rfl ?_
    show own_s p e below T80 m 120 #[iv i0, iv i1, iv i2, rv b2, iv xx, iv yy, iv fr, iv tt, iv ((0 : Int32) + (own_term g70 0 F T)), .unset, .unset] [] _
    refine XS.iload X80.here hx rfl (hb hby at_120) rfl ?_
    show own_s p e below T80 m 122 #[iv i0, iv i1, iv i2, rv b2, iv xx, iv yy, iv fr, iv tt, iv ((0 : Int32) + (own_term g70 0 F T)), .unset, .unset] [(.int ((0 : Int32) + (own_term g70 0 F T)))] _
    refine XS.aloadN X80.here hx rfl (hb hby at_122) rfl rfl ?_
    show own_s p e below T80 m 123 #[iv i0, iv i1, iv i2, rv b2, iv xx, iv yy, iv fr, iv tt, iv ((0 : Int32) + (own_term g70 0 F T)), .unset, .unset] [(.ref b2), (.int ((0 : Int32) + (own_term g70 0 F T)))] _
    refine XS.iconst X80.here hx rfl (hb hby at_123) ?_
    show own_s p e below T80 m 124 #[iv i0, iv i1, iv i2, rv b2, iv xx, iv yy, iv fr, iv tt, iv ((0 : Int32) + (own_term g70 0 F T)), .unset, .unset] [(.int (1 : Int32)), (.ref b2), (.int ((0 : Int32) + (own_term g70 0 F T)))] _
    refine XS.iload X80.here hx rfl (hb hby at_124) rfl ?_
    show own_s p e below T80 m 126 #[iv i0, iv i1, iv i2, rv b2, iv xx, iv yy, iv fr, iv tt, iv ((0 : Int32) + (own_term g70 0 F T)), .unset, .unset] [(.int fr), (.int (1 : Int32)), (.ref b2), (.int ((0 : Int32) + (own_term g70 0 F T)))] _
    refine XS.iload X80.here hx rfl (hb hby at_126) rfl ?_
    exact kX
  obtain ⟨_, _, ⟨T83, L83, k83, n83⟩, -, X83, ⟨Lc83, hQ83, l83, y83, z83⟩, st83⟩ := Jvm.LawKit.callS X80 hx (y := (⟨"com/example/since/since/model/NameTableHashPinLaw", "term", "([BIII)I"⟩ : MethodName)) hown (mvT hZ (hw _ (List.mem_of_getElem? (i := 8) rfl))) (mvT hZ (hw _ (List.mem_of_getElem? (i := 9) rfl))) (mvT hZ (hw _ (List.mem_of_getElem? (i := 10) rfl))) (mvT hZ (hw _ (List.mem_of_getElem? (i := 11) rfl))) (by decide) (backOf (W := 1) (rm4 l Z a0 hw [] b2 (1 : Int32) fr tt g70 1 F T h65 n0 Z68 fF70 rfl hF hT (by decide) hFT hT8) hZ (hw _ (List.mem_of_getElem? (i := 11) rfl)) (hw _ (List.mem_of_getElem? (i := 10) rfl)) (by decide) (by decide)) (g := (mkF m 128 #[iv i0, iv i1, iv i2, rv b2, iv xx, iv yy, iv fr, iv tt, iv ((0 : Int32) + (own_term g70 0 F T)), .unset, .unset] [(.int tt), (.int fr), (.int (1 : Int32)), (.ref b2), (.int ((0 : Int32) + (own_term g70 0 F T)))])) rfl (by rw [hml]; rfl) (argsL := [(.ref b2), (.int (1 : Int32)), (.int fr), (.int tt)]) (rest := [(.int ((0 : Int32) + (own_term g70 0 F T)))]) (lenOf pd0_1 rfl) rfl (by show 2 * 0 + _ ≤ _; exact Nat.le_of_eq rfl) (hb hby at_128) (fun _ _ => ⟨rfl, e80, (by decide : 1 + 0 ≤ _), (by decide : 8 + 0 ≤ _)⟩)
  dsimp only [Pt.U, Pt.locs, Pt.cells, Pt.slots] at X83 l83 y83 z83 st83 hQ83
  subst l83 y83 z83
  obtain ⟨rfl, Nq83, e83⟩ := hQ83
  have N83 := Fr.app N80 Nq83
  have pre84 : ∀ t, own_s p e below T83 m 131 #[iv i0, iv i1, iv i2, rv b2, iv xx, iv yy, iv fr, iv tt, iv ((0 : Int32) + (own_term g70 0 F T)), .unset, .unset] [(.int (own_term g70 1 F T)), (.int ((0 : Int32) + (own_term g70 0 F T)))] t → Steps p.tables e below S0 t := fun tX kX => pre82 _ (st83 _ kX)
  have pre85 : ∀ t, own_s p e below T83 m 142 #[iv i0, iv i1, iv i2, rv b2, iv xx, iv yy, iv fr, iv tt, iv (((0 : Int32) + (own_term g70 0 F T)) + (own_term g70 1 F T)), .unset, .unset] [(.int tt), (.int fr), (.int (2 : Int32)), (.ref b2), (.int (((0 : Int32) + (own_term g70 0 F T)) + (own_term g70 1 F T)))] t → Steps p.tables e below S0 t := by
    intro tX kX
    refine pre84 _ ?_
    show own_s p e below T83 m 131 #[iv i0, iv i1, iv i2, rv b2, iv xx, iv yy, iv fr, iv tt, iv ((0 : Int32) + (own_term g70 0 F T)), .unset, .unset] [(.int (own_term g70 1 F T)), (.int ((0 : Int32) + (own_term g70 0 F T)))] _
    refine XS.iadd X83.here hx rfl (hb hby at_131) rfl ?_
    show own_s p e below T83 m 132 #[iv i0, iv i1, iv i2, rv b2, iv xx, iv yy, iv fr, iv tt, iv ((0 : Int32) + (own_term g70 0 F T)), .unset, .unset] [(.int (((0 : Int32) + (own_term g70 0 F T)) + (own_term g70 1 F T)))] _
    refine XS.istore X83.here hx rfl (hb hby at_132) rfl (l' := #[iv i0, iv i1, iv i2, rv b2, iv xx, iv yy, iv fr, iv tt, iv (((0 : Int32) + (own_term g70 0 F T)) + (own_term g70 1 F T)), .unset, .unset]) rfl ?_
    show own_s p e below T83 m 134 #[iv i0, iv i1, iv i2, rv b2, iv xx, iv yy, iv fr, iv tt, iv (((0 : Int32) + (own_term g70 0 F T)) + (own_term g70 1 F T)), .unset, .unset] [] _
    refine XS.iload X83.here hx rfl (hb hby at_134) rfl ?_
    show own_s p e below T83 m 136 #[iv i0, iv i1, iv i2, rv b2, iv xx, iv yy, iv fr, iv tt, iv (((0 : Int32) + (own_term g70 0 F T)) + (own_term g70 1 F T)), .unset, .unset] [(.int (((0 : Int32) + (own_term g70 0 F T)) + (own_term g70 1 F T)))] _
    refine XS.aloadN X83.here hx rfl (hb hby at_136) rfl rfl ?_
    show own_s p e below T83 m 137 #[iv i0, iv i1, iv i2, rv b2, iv xx, iv yy, iv fr, iv tt, iv (((0 : Int32) + (own_term g70 0 F T)) + (own_term g70 1 F T)), .unset, .unset] [(.ref b2), (.int (((0 : Int32) + (own_term g70 0 F T)) + (own_term g70 1 F T)))] _
    refine XS.iconst X83.here hx rfl (hb hby at_137) ?_
    show own_s p e below T83 m 138 #[iv i0, iv i1, iv i2, rv b2, iv xx, iv yy, iv fr, iv tt, iv (((0 : Int32) + (own_term g70 0 F T)) + (own_term g70 1 F T)), .unset, .unset] [(.int (2 : Int32)), (.ref b2), (.int (((0 : Int32) + (own_term g70 0 F T)) + (own_term g70 1 F T)))] _
    refine XS.iload X83.here hx rfl (hb hby at_138) rfl ?_
    show own_s p e below T83 m 140 #[iv i0, iv i1, iv i2, rv b2, iv xx, iv yy, iv fr, iv tt, iv (((0 : Int32) + (own_term g70 0 F T)) + (own_term g70 1 F T)), .unset, .unset] [(.int fr), (.int (2 : Int32)), (.ref b2), (.int (((0 : Int32) + (own_term g70 0 F T)) + (own_term g70 1 F T)))] _
    refine XS.iload X83.here hx rfl (hb hby at_140) rfl ?_
    exact kX
  obtain ⟨_, _, ⟨T86, L86, k86, n86⟩, -, X86, ⟨Lc86, hQ86, l86, y86, z86⟩, st86⟩ := Jvm.LawKit.callS X83 hx (y := (⟨"com/example/since/since/model/NameTableHashPinLaw", "term", "([BIII)I"⟩ : MethodName)) hown (mvT hZ (hw _ (List.mem_of_getElem? (i := 8) rfl))) (mvT hZ (hw _ (List.mem_of_getElem? (i := 9) rfl))) (mvT hZ (hw _ (List.mem_of_getElem? (i := 10) rfl))) (mvT hZ (hw _ (List.mem_of_getElem? (i := 11) rfl))) (by decide) (backOf (W := 1) (rm4 l Z a0 hw [] b2 (2 : Int32) fr tt g70 2 F T h65 n0 Z68 fF70 rfl hF hT (by decide) hFT hT8) hZ (hw _ (List.mem_of_getElem? (i := 11) rfl)) (hw _ (List.mem_of_getElem? (i := 10) rfl)) (by decide) (by decide)) (g := (mkF m 142 #[iv i0, iv i1, iv i2, rv b2, iv xx, iv yy, iv fr, iv tt, iv (((0 : Int32) + (own_term g70 0 F T)) + (own_term g70 1 F T)), .unset, .unset] [(.int tt), (.int fr), (.int (2 : Int32)), (.ref b2), (.int (((0 : Int32) + (own_term g70 0 F T)) + (own_term g70 1 F T)))])) rfl (by rw [hml]; rfl) (argsL := [(.ref b2), (.int (2 : Int32)), (.int fr), (.int tt)]) (rest := [(.int (((0 : Int32) + (own_term g70 0 F T)) + (own_term g70 1 F T)))]) (lenOf pd0_1 rfl) rfl (by show 2 * 0 + _ ≤ _; exact Nat.le_of_eq rfl) (hb hby at_142) (fun _ _ => ⟨rfl, e83, (by decide : 1 + 0 ≤ _), (by decide : 8 + 0 ≤ _)⟩)
  dsimp only [Pt.U, Pt.locs, Pt.cells, Pt.slots] at X86 l86 y86 z86 st86 hQ86
  subst l86 y86 z86
  obtain ⟨rfl, Nq86, e86⟩ := hQ86
  have N86 := Fr.app N83 Nq86
  have pre87 : ∀ t, own_s p e below T86 m 145 #[iv i0, iv i1, iv i2, rv b2, iv xx, iv yy, iv fr, iv tt, iv (((0 : Int32) + (own_term g70 0 F T)) + (own_term g70 1 F T)), .unset, .unset] [(.int (own_term g70 2 F T)), (.int (((0 : Int32) + (own_term g70 0 F T)) + (own_term g70 1 F T)))] t → Steps p.tables e below S0 t := fun tX kX => pre85 _ (st86 _ kX)
  have pre88 : ∀ t, own_s p e below T86 m 156 #[iv i0, iv i1, iv i2, rv b2, iv xx, iv yy, iv fr, iv tt, iv ((((0 : Int32) + (own_term g70 0 F T)) + (own_term g70 1 F T)) + (own_term g70 2 F T)), .unset, .unset] [(.int tt), (.int fr), (.int (3 : Int32)), (.ref b2), (.int ((((0 : Int32) + (own_term g70 0 F T)) + (own_term g70 1 F T)) + (own_term g70 2 F T)))] t → Steps p.tables e below S0 t := by
    intro tX kX
    refine pre87 _ ?_
    show own_s p e below T86 m 145 #[iv i0, iv i1, iv i2, rv b2, iv xx, iv yy, iv fr, iv tt, iv (((0 : Int32) + (own_term g70 0 F T)) + (own_term g70 1 F T)), .unset, .unset] [(.int (own_term g70 2 F T)), (.int (((0 : Int32) + (own_term g70 0 F T)) + (own_term g70 1 F T)))] _
    refine XS.iadd X86.here hx rfl (hb hby at_145) rfl ?_
    show own_s p e below T86 m 146 #[iv i0, iv i1, iv i2, rv b2, iv xx, iv yy, iv fr, iv tt, iv (((0 : Int32) + (own_term g70 0 F T)) + (own_term g70 1 F T)), .unset, .unset] [(.int ((((0 : Int32) + (own_term g70 0 F T)) + (own_term g70 1 F T)) + (own_term g70 2 F T)))] _
    refine XS.istore X86.here hx rfl (hb hby at_146) rfl (l' := #[iv i0, iv i1, iv i2, rv b2, iv xx, iv yy, iv fr, iv tt, iv ((((0 : Int32) + (own_term g70 0 F T)) + (own_term g70 1 F T)) + (own_term g70 2 F T)), .unset, .unset]) rfl ?_
    show own_s p e below T86 m 148 #[iv i0, iv i1, iv i2, rv b2, iv xx, iv yy, iv fr, iv tt, iv ((((0 : Int32) + (own_term g70 0 F T)) + (own_term g70 1 F T)) + (own_term g70 2 F T)), .unset, .unset] [] _
    refine XS.iload X86.here hx rfl (hb hby at_148) rfl ?_
    show own_s p e below T86 m 150 #[iv i0, iv i1, iv i2, rv b2, iv xx, iv yy, iv fr, iv tt, iv ((((0 : Int32) + (own_term g70 0 F T)) + (own_term g70 1 F T)) + (own_term g70 2 F T)), .unset, .unset] [(.int ((((0 : Int32) + (own_term g70 0 F T)) + (own_term g70 1 F T)) + (own_term g70 2 F T)))] _
    refine XS.aloadN X86.here hx rfl (hb hby at_150) rfl rfl ?_
    show own_s p e below T86 m 151 #[iv i0, iv i1, iv i2, rv b2, iv xx, iv yy, iv fr, iv tt, iv ((((0 : Int32) + (own_term g70 0 F T)) + (own_term g70 1 F T)) + (own_term g70 2 F T)), .unset, .unset] [(.ref b2), (.int ((((0 : Int32) + (own_term g70 0 F T)) + (own_term g70 1 F T)) + (own_term g70 2 F T)))] _
    refine XS.iconst X86.here hx rfl (hb hby at_151) ?_
    show own_s p e below T86 m 152 #[iv i0, iv i1, iv i2, rv b2, iv xx, iv yy, iv fr, iv tt, iv ((((0 : Int32) + (own_term g70 0 F T)) + (own_term g70 1 F T)) + (own_term g70 2 F T)), .unset, .unset] [(.int (3 : Int32)), (.ref b2), (.int ((((0 : Int32) + (own_term g70 0 F T)) + (own_term g70 1 F T)) + (own_term g70 2 F T)))] _
    refine XS.iload X86.here hx rfl (hb hby at_152) rfl ?_
    show own_s p e below T86 m 154 #[iv i0, iv i1, iv i2, rv b2, iv xx, iv yy, iv fr, iv tt, iv ((((0 : Int32) + (own_term g70 0 F T)) + (own_term g70 1 F T)) + (own_term g70 2 F T)), .unset, .unset] [(.int fr), (.int (3 : Int32)), (.ref b2), (.int ((((0 : Int32) + (own_term g70 0 F T)) + (own_term g70 1 F T)) + (own_term g70 2 F T)))] _
    refine XS.iload X86.here hx rfl (hb hby at_154) rfl ?_
    exact kX
  obtain ⟨_, _, ⟨T89, L89, k89, n89⟩, -, X89, ⟨Lc89, hQ89, l89, y89, z89⟩, st89⟩ := Jvm.LawKit.callS X86 hx (y := (⟨"com/example/since/since/model/NameTableHashPinLaw", "term", "([BIII)I"⟩ : MethodName)) hown (mvT hZ (hw _ (List.mem_of_getElem? (i := 8) rfl))) (mvT hZ (hw _ (List.mem_of_getElem? (i := 9) rfl))) (mvT hZ (hw _ (List.mem_of_getElem? (i := 10) rfl))) (mvT hZ (hw _ (List.mem_of_getElem? (i := 11) rfl))) (by decide) (backOf (W := 1) (rm4 l Z a0 hw [] b2 (3 : Int32) fr tt g70 3 F T h65 n0 Z68 fF70 rfl hF hT (by decide) hFT hT8) hZ (hw _ (List.mem_of_getElem? (i := 11) rfl)) (hw _ (List.mem_of_getElem? (i := 10) rfl)) (by decide) (by decide)) (g := (mkF m 156 #[iv i0, iv i1, iv i2, rv b2, iv xx, iv yy, iv fr, iv tt, iv ((((0 : Int32) + (own_term g70 0 F T)) + (own_term g70 1 F T)) + (own_term g70 2 F T)), .unset, .unset] [(.int tt), (.int fr), (.int (3 : Int32)), (.ref b2), (.int ((((0 : Int32) + (own_term g70 0 F T)) + (own_term g70 1 F T)) + (own_term g70 2 F T)))])) rfl (by rw [hml]; rfl) (argsL := [(.ref b2), (.int (3 : Int32)), (.int fr), (.int tt)]) (rest := [(.int ((((0 : Int32) + (own_term g70 0 F T)) + (own_term g70 1 F T)) + (own_term g70 2 F T)))]) (lenOf pd0_1 rfl) rfl (by show 2 * 0 + _ ≤ _; exact Nat.le_of_eq rfl) (hb hby at_156) (fun _ _ => ⟨rfl, e86, (by decide : 1 + 0 ≤ _), (by decide : 8 + 0 ≤ _)⟩)
  dsimp only [Pt.U, Pt.locs, Pt.cells, Pt.slots] at X89 l89 y89 z89 st89 hQ89
  subst l89 y89 z89
  obtain ⟨rfl, Nq89, e89⟩ := hQ89
  have N89 := Fr.app N86 Nq89
  have pre90 : ∀ t, own_s p e below T89 m 159 #[iv i0, iv i1, iv i2, rv b2, iv xx, iv yy, iv fr, iv tt, iv ((((0 : Int32) + (own_term g70 0 F T)) + (own_term g70 1 F T)) + (own_term g70 2 F T)), .unset, .unset] [(.int (own_term g70 3 F T)), (.int ((((0 : Int32) + (own_term g70 0 F T)) + (own_term g70 1 F T)) + (own_term g70 2 F T)))] t → Steps p.tables e below S0 t := fun tX kX => pre88 _ (st89 _ kX)
  have pre91 : ∀ t, own_s p e below T89 m 170 #[iv i0, iv i1, iv i2, rv b2, iv xx, iv yy, iv fr, iv tt, iv (((((0 : Int32) + (own_term g70 0 F T)) + (own_term g70 1 F T)) + (own_term g70 2 F T)) + (own_term g70 3 F T)), .unset, .unset] [(.int tt), (.int fr), (.int (4 : Int32)), (.ref b2), (.int (((((0 : Int32) + (own_term g70 0 F T)) + (own_term g70 1 F T)) + (own_term g70 2 F T)) + (own_term g70 3 F T)))] t → Steps p.tables e below S0 t := by
    intro tX kX
    refine pre90 _ ?_
    show own_s p e below T89 m 159 #[iv i0, iv i1, iv i2, rv b2, iv xx, iv yy, iv fr, iv tt, iv ((((0 : Int32) + (own_term g70 0 F T)) + (own_term g70 1 F T)) + (own_term g70 2 F T)), .unset, .unset] [(.int (own_term g70 3 F T)), (.int ((((0 : Int32) + (own_term g70 0 F T)) + (own_term g70 1 F T)) + (own_term g70 2 F T)))] _
    refine XS.iadd X89.here hx rfl (hb hby at_159) rfl ?_
    show own_s p e below T89 m 160 #[iv i0, iv i1, iv i2, rv b2, iv xx, iv yy, iv fr, iv tt, iv ((((0 : Int32) + (own_term g70 0 F T)) + (own_term g70 1 F T)) + (own_term g70 2 F T)), .unset, .unset] [(.int (((((0 : Int32) + (own_term g70 0 F T)) + (own_term g70 1 F T)) + (own_term g70 2 F T)) + (own_term g70 3 F T)))] _
    refine XS.istore X89.here hx rfl (hb hby at_160) rfl (l' := #[iv i0, iv i1, iv i2, rv b2, iv xx, iv yy, iv fr, iv tt, iv (((((0 : Int32) + (own_term g70 0 F T)) + (own_term g70 1 F T)) + (own_term g70 2 F T)) + (own_term g70 3 F T)), .unset, .unset]) rfl ?_
    show own_s p e below T89 m 162 #[iv i0, iv i1, iv i2, rv b2, iv xx, iv yy, iv fr, iv tt, iv (((((0 : Int32) + (own_term g70 0 F T)) + (own_term g70 1 F T)) + (own_term g70 2 F T)) + (own_term g70 3 F T)), .unset, .unset] [] _
    refine XS.iload X89.here hx rfl (hb hby at_162) rfl ?_
    show own_s p e below T89 m 164 #[iv i0, iv i1, iv i2, rv b2, iv xx, iv yy, iv fr, iv tt, iv (((((0 : Int32) + (own_term g70 0 F T)) + (own_term g70 1 F T)) + (own_term g70 2 F T)) + (own_term g70 3 F T)), .unset, .unset] [(.int (((((0 : Int32) + (own_term g70 0 F T)) + (own_term g70 1 F T)) + (own_term g70 2 F T)) + (own_term g70 3 F T)))] _
    refine XS.aloadN X89.here hx rfl (hb hby at_164) rfl rfl ?_
    show own_s p e below T89 m 165 #[iv i0, iv i1, iv i2, rv b2, iv xx, iv yy, iv fr, iv tt, iv (((((0 : Int32) + (own_term g70 0 F T)) + (own_term g70 1 F T)) + (own_term g70 2 F T)) + (own_term g70 3 F T)), .unset, .unset] [(.ref b2), (.int (((((0 : Int32) + (own_term g70 0 F T)) + (own_term g70 1 F T)) + (own_term g70 2 F T)) + (own_term g70 3 F T)))] _
    refine XS.iconst X89.here hx rfl (hb hby at_165) ?_
    show own_s p e below T89 m 166 #[iv i0, iv i1, iv i2, rv b2, iv xx, iv yy, iv fr, iv tt, iv (((((0 : Int32) + (own_term g70 0 F T)) + (own_term g70 1 F T)) + (own_term g70 2 F T)) + (own_term g70 3 F T)), .unset, .unset] [(.int (4 : Int32)), (.ref b2), (.int (((((0 : Int32) + (own_term g70 0 F T)) + (own_term g70 1 F T)) + (own_term g70 2 F T)) + (own_term g70 3 F T)))] _
    refine XS.iload X89.here hx rfl (hb hby at_166) rfl ?_
    show own_s p e below T89 m 168 #[iv i0, iv i1, iv i2, rv b2, iv xx, iv yy, iv fr, iv tt, iv (((((0 : Int32) + (own_term g70 0 F T)) + (own_term g70 1 F T)) + (own_term g70 2 F T)) + (own_term g70 3 F T)), .unset, .unset] [(.int fr), (.int (4 : Int32)), (.ref b2), (.int (((((0 : Int32) + (own_term g70 0 F T)) + (own_term g70 1 F T)) + (own_term g70 2 F T)) + (own_term g70 3 F T)))] _
    refine XS.iload X89.here hx rfl (hb hby at_168) rfl ?_
    exact kX
  obtain ⟨_, _, ⟨T92, L92, k92, n92⟩, -, X92, ⟨Lc92, hQ92, l92, y92, z92⟩, st92⟩ := Jvm.LawKit.callS X89 hx (y := (⟨"com/example/since/since/model/NameTableHashPinLaw", "term", "([BIII)I"⟩ : MethodName)) hown (mvT hZ (hw _ (List.mem_of_getElem? (i := 8) rfl))) (mvT hZ (hw _ (List.mem_of_getElem? (i := 9) rfl))) (mvT hZ (hw _ (List.mem_of_getElem? (i := 10) rfl))) (mvT hZ (hw _ (List.mem_of_getElem? (i := 11) rfl))) (by decide) (backOf (W := 1) (rm4 l Z a0 hw [] b2 (4 : Int32) fr tt g70 4 F T h65 n0 Z68 fF70 rfl hF hT (by decide) hFT hT8) hZ (hw _ (List.mem_of_getElem? (i := 11) rfl)) (hw _ (List.mem_of_getElem? (i := 10) rfl)) (by decide) (by decide)) (g := (mkF m 170 #[iv i0, iv i1, iv i2, rv b2, iv xx, iv yy, iv fr, iv tt, iv (((((0 : Int32) + (own_term g70 0 F T)) + (own_term g70 1 F T)) + (own_term g70 2 F T)) + (own_term g70 3 F T)), .unset, .unset] [(.int tt), (.int fr), (.int (4 : Int32)), (.ref b2), (.int (((((0 : Int32) + (own_term g70 0 F T)) + (own_term g70 1 F T)) + (own_term g70 2 F T)) + (own_term g70 3 F T)))])) rfl (by rw [hml]; rfl) (argsL := [(.ref b2), (.int (4 : Int32)), (.int fr), (.int tt)]) (rest := [(.int (((((0 : Int32) + (own_term g70 0 F T)) + (own_term g70 1 F T)) + (own_term g70 2 F T)) + (own_term g70 3 F T)))]) (lenOf pd0_1 rfl) rfl (by show 2 * 0 + _ ≤ _; exact Nat.le_of_eq rfl) (hb hby at_170) (fun _ _ => ⟨rfl, e89, (by decide : 1 + 0 ≤ _), (by decide : 8 + 0 ≤ _)⟩)
  dsimp only [Pt.U, Pt.locs, Pt.cells, Pt.slots] at X92 l92 y92 z92 st92 hQ92
  subst l92 y92 z92
  obtain ⟨rfl, Nq92, e92⟩ := hQ92
  have N92 := Fr.app N89 Nq92
  have pre93 : ∀ t, own_s p e below T92 m 173 #[iv i0, iv i1, iv i2, rv b2, iv xx, iv yy, iv fr, iv tt, iv (((((0 : Int32) + (own_term g70 0 F T)) + (own_term g70 1 F T)) + (own_term g70 2 F T)) + (own_term g70 3 F T)), .unset, .unset] [(.int (own_term g70 4 F T)), (.int (((((0 : Int32) + (own_term g70 0 F T)) + (own_term g70 1 F T)) + (own_term g70 2 F T)) + (own_term g70 3 F T)))] t → Steps p.tables e below S0 t := fun tX kX => pre91 _ (st92 _ kX)
  have pre94 : ∀ t, own_s p e below T92 m 184 #[iv i0, iv i1, iv i2, rv b2, iv xx, iv yy, iv fr, iv tt, iv ((((((0 : Int32) + (own_term g70 0 F T)) + (own_term g70 1 F T)) + (own_term g70 2 F T)) + (own_term g70 3 F T)) + (own_term g70 4 F T)), .unset, .unset] [(.int tt), (.int fr), (.int (5 : Int32)), (.ref b2), (.int ((((((0 : Int32) + (own_term g70 0 F T)) + (own_term g70 1 F T)) + (own_term g70 2 F T)) + (own_term g70 3 F T)) + (own_term g70 4 F T)))] t → Steps p.tables e below S0 t := by
    intro tX kX
    refine pre93 _ ?_
    show own_s p e below T92 m 173 #[iv i0, iv i1, iv i2, rv b2, iv xx, iv yy, iv fr, iv tt, iv (((((0 : Int32) + (own_term g70 0 F T)) + (own_term g70 1 F T)) + (own_term g70 2 F T)) + (own_term g70 3 F T)), .unset, .unset] [(.int (own_term g70 4 F T)), (.int (((((0 : Int32) + (own_term g70 0 F T)) + (own_term g70 1 F T)) + (own_term g70 2 F T)) + (own_term g70 3 F T)))] _
    refine XS.iadd X92.here hx rfl (hb hby at_173) rfl ?_
    show own_s p e below T92 m 174 #[iv i0, iv i1, iv i2, rv b2, iv xx, iv yy, iv fr, iv tt, iv (((((0 : Int32) + (own_term g70 0 F T)) + (own_term g70 1 F T)) + (own_term g70 2 F T)) + (own_term g70 3 F T)), .unset, .unset] [(.int ((((((0 : Int32) + (own_term g70 0 F T)) + (own_term g70 1 F T)) + (own_term g70 2 F T)) + (own_term g70 3 F T)) + (own_term g70 4 F T)))] _
    refine XS.istore X92.here hx rfl (hb hby at_174) rfl (l' := #[iv i0, iv i1, iv i2, rv b2, iv xx, iv yy, iv fr, iv tt, iv ((((((0 : Int32) + (own_term g70 0 F T)) + (own_term g70 1 F T)) + (own_term g70 2 F T)) + (own_term g70 3 F T)) + (own_term g70 4 F T)), .unset, .unset]) rfl ?_
    show own_s p e below T92 m 176 #[iv i0, iv i1, iv i2, rv b2, iv xx, iv yy, iv fr, iv tt, iv ((((((0 : Int32) + (own_term g70 0 F T)) + (own_term g70 1 F T)) + (own_term g70 2 F T)) + (own_term g70 3 F T)) + (own_term g70 4 F T)), .unset, .unset] [] _
    refine XS.iload X92.here hx rfl (hb hby at_176) rfl ?_
    show own_s p e below T92 m 178 #[iv i0, iv i1, iv i2, rv b2, iv xx, iv yy, iv fr, iv tt, iv ((((((0 : Int32) + (own_term g70 0 F T)) + (own_term g70 1 F T)) + (own_term g70 2 F T)) + (own_term g70 3 F T)) + (own_term g70 4 F T)), .unset, .unset] [(.int ((((((0 : Int32) + (own_term g70 0 F T)) + (own_term g70 1 F T)) + (own_term g70 2 F T)) + (own_term g70 3 F T)) + (own_term g70 4 F T)))] _
    refine XS.aloadN X92.here hx rfl (hb hby at_178) rfl rfl ?_
    show own_s p e below T92 m 179 #[iv i0, iv i1, iv i2, rv b2, iv xx, iv yy, iv fr, iv tt, iv ((((((0 : Int32) + (own_term g70 0 F T)) + (own_term g70 1 F T)) + (own_term g70 2 F T)) + (own_term g70 3 F T)) + (own_term g70 4 F T)), .unset, .unset] [(.ref b2), (.int ((((((0 : Int32) + (own_term g70 0 F T)) + (own_term g70 1 F T)) + (own_term g70 2 F T)) + (own_term g70 3 F T)) + (own_term g70 4 F T)))] _
    refine XS.iconst X92.here hx rfl (hb hby at_179) ?_
    show own_s p e below T92 m 180 #[iv i0, iv i1, iv i2, rv b2, iv xx, iv yy, iv fr, iv tt, iv ((((((0 : Int32) + (own_term g70 0 F T)) + (own_term g70 1 F T)) + (own_term g70 2 F T)) + (own_term g70 3 F T)) + (own_term g70 4 F T)), .unset, .unset] [(.int (5 : Int32)), (.ref b2), (.int ((((((0 : Int32) + (own_term g70 0 F T)) + (own_term g70 1 F T)) + (own_term g70 2 F T)) + (own_term g70 3 F T)) + (own_term g70 4 F T)))] _
    refine XS.iload X92.here hx rfl (hb hby at_180) rfl ?_
    show own_s p e below T92 m 182 #[iv i0, iv i1, iv i2, rv b2, iv xx, iv yy, iv fr, iv tt, iv ((((((0 : Int32) + (own_term g70 0 F T)) + (own_term g70 1 F T)) + (own_term g70 2 F T)) + (own_term g70 3 F T)) + (own_term g70 4 F T)), .unset, .unset] [(.int fr), (.int (5 : Int32)), (.ref b2), (.int ((((((0 : Int32) + (own_term g70 0 F T)) + (own_term g70 1 F T)) + (own_term g70 2 F T)) + (own_term g70 3 F T)) + (own_term g70 4 F T)))] _
    refine XS.iload X92.here hx rfl (hb hby at_182) rfl ?_
    exact kX
  obtain ⟨_, _, ⟨T95, L95, k95, n95⟩, -, X95, ⟨Lc95, hQ95, l95, y95, z95⟩, st95⟩ := Jvm.LawKit.callS X92 hx (y := (⟨"com/example/since/since/model/NameTableHashPinLaw", "term", "([BIII)I"⟩ : MethodName)) hown (mvT hZ (hw _ (List.mem_of_getElem? (i := 8) rfl))) (mvT hZ (hw _ (List.mem_of_getElem? (i := 9) rfl))) (mvT hZ (hw _ (List.mem_of_getElem? (i := 10) rfl))) (mvT hZ (hw _ (List.mem_of_getElem? (i := 11) rfl))) (by decide) (backOf (W := 1) (rm4 l Z a0 hw [] b2 (5 : Int32) fr tt g70 5 F T h65 n0 Z68 fF70 rfl hF hT (by decide) hFT hT8) hZ (hw _ (List.mem_of_getElem? (i := 11) rfl)) (hw _ (List.mem_of_getElem? (i := 10) rfl)) (by decide) (by decide)) (g := (mkF m 184 #[iv i0, iv i1, iv i2, rv b2, iv xx, iv yy, iv fr, iv tt, iv ((((((0 : Int32) + (own_term g70 0 F T)) + (own_term g70 1 F T)) + (own_term g70 2 F T)) + (own_term g70 3 F T)) + (own_term g70 4 F T)), .unset, .unset] [(.int tt), (.int fr), (.int (5 : Int32)), (.ref b2), (.int ((((((0 : Int32) + (own_term g70 0 F T)) + (own_term g70 1 F T)) + (own_term g70 2 F T)) + (own_term g70 3 F T)) + (own_term g70 4 F T)))])) rfl (by rw [hml]; rfl) (argsL := [(.ref b2), (.int (5 : Int32)), (.int fr), (.int tt)]) (rest := [(.int ((((((0 : Int32) + (own_term g70 0 F T)) + (own_term g70 1 F T)) + (own_term g70 2 F T)) + (own_term g70 3 F T)) + (own_term g70 4 F T)))]) (lenOf pd0_1 rfl) rfl (by show 2 * 0 + _ ≤ _; exact Nat.le_of_eq rfl) (hb hby at_184) (fun _ _ => ⟨rfl, e92, (by decide : 1 + 0 ≤ _), (by decide : 8 + 0 ≤ _)⟩)
  dsimp only [Pt.U, Pt.locs, Pt.cells, Pt.slots] at X95 l95 y95 z95 st95 hQ95
  subst l95 y95 z95
  obtain ⟨rfl, Nq95, e95⟩ := hQ95
  have N95 := Fr.app N92 Nq95
  have pre96 : ∀ t, own_s p e below T95 m 187 #[iv i0, iv i1, iv i2, rv b2, iv xx, iv yy, iv fr, iv tt, iv ((((((0 : Int32) + (own_term g70 0 F T)) + (own_term g70 1 F T)) + (own_term g70 2 F T)) + (own_term g70 3 F T)) + (own_term g70 4 F T)), .unset, .unset] [(.int (own_term g70 5 F T)), (.int ((((((0 : Int32) + (own_term g70 0 F T)) + (own_term g70 1 F T)) + (own_term g70 2 F T)) + (own_term g70 3 F T)) + (own_term g70 4 F T)))] t → Steps p.tables e below S0 t := fun tX kX => pre94 _ (st95 _ kX)
  have pre97 : ∀ t, own_s p e below T95 m 199 #[iv i0, iv i1, iv i2, rv b2, iv xx, iv yy, iv fr, iv tt, iv (((((((0 : Int32) + (own_term g70 0 F T)) + (own_term g70 1 F T)) + (own_term g70 2 F T)) + (own_term g70 3 F T)) + (own_term g70 4 F T)) + (own_term g70 5 F T)), .unset, .unset] [(.int tt), (.int fr), (.int (6 : Int32)), (.ref b2), (.int (((((((0 : Int32) + (own_term g70 0 F T)) + (own_term g70 1 F T)) + (own_term g70 2 F T)) + (own_term g70 3 F T)) + (own_term g70 4 F T)) + (own_term g70 5 F T)))] t → Steps p.tables e below S0 t := by
    intro tX kX
    refine pre96 _ ?_
    show own_s p e below T95 m 187 #[iv i0, iv i1, iv i2, rv b2, iv xx, iv yy, iv fr, iv tt, iv ((((((0 : Int32) + (own_term g70 0 F T)) + (own_term g70 1 F T)) + (own_term g70 2 F T)) + (own_term g70 3 F T)) + (own_term g70 4 F T)), .unset, .unset] [(.int (own_term g70 5 F T)), (.int ((((((0 : Int32) + (own_term g70 0 F T)) + (own_term g70 1 F T)) + (own_term g70 2 F T)) + (own_term g70 3 F T)) + (own_term g70 4 F T)))] _
    refine XS.iadd X95.here hx rfl (hb hby at_187) rfl ?_
    show own_s p e below T95 m 188 #[iv i0, iv i1, iv i2, rv b2, iv xx, iv yy, iv fr, iv tt, iv ((((((0 : Int32) + (own_term g70 0 F T)) + (own_term g70 1 F T)) + (own_term g70 2 F T)) + (own_term g70 3 F T)) + (own_term g70 4 F T)), .unset, .unset] [(.int (((((((0 : Int32) + (own_term g70 0 F T)) + (own_term g70 1 F T)) + (own_term g70 2 F T)) + (own_term g70 3 F T)) + (own_term g70 4 F T)) + (own_term g70 5 F T)))] _
    refine XS.istore X95.here hx rfl (hb hby at_188) rfl (l' := #[iv i0, iv i1, iv i2, rv b2, iv xx, iv yy, iv fr, iv tt, iv (((((((0 : Int32) + (own_term g70 0 F T)) + (own_term g70 1 F T)) + (own_term g70 2 F T)) + (own_term g70 3 F T)) + (own_term g70 4 F T)) + (own_term g70 5 F T)), .unset, .unset]) rfl ?_
    show own_s p e below T95 m 190 #[iv i0, iv i1, iv i2, rv b2, iv xx, iv yy, iv fr, iv tt, iv (((((((0 : Int32) + (own_term g70 0 F T)) + (own_term g70 1 F T)) + (own_term g70 2 F T)) + (own_term g70 3 F T)) + (own_term g70 4 F T)) + (own_term g70 5 F T)), .unset, .unset] [] _
    refine XS.iload X95.here hx rfl (hb hby at_190) rfl ?_
    show own_s p e below T95 m 192 #[iv i0, iv i1, iv i2, rv b2, iv xx, iv yy, iv fr, iv tt, iv (((((((0 : Int32) + (own_term g70 0 F T)) + (own_term g70 1 F T)) + (own_term g70 2 F T)) + (own_term g70 3 F T)) + (own_term g70 4 F T)) + (own_term g70 5 F T)), .unset, .unset] [(.int (((((((0 : Int32) + (own_term g70 0 F T)) + (own_term g70 1 F T)) + (own_term g70 2 F T)) + (own_term g70 3 F T)) + (own_term g70 4 F T)) + (own_term g70 5 F T)))] _
    refine XS.aloadN X95.here hx rfl (hb hby at_192) rfl rfl ?_
    show own_s p e below T95 m 193 #[iv i0, iv i1, iv i2, rv b2, iv xx, iv yy, iv fr, iv tt, iv (((((((0 : Int32) + (own_term g70 0 F T)) + (own_term g70 1 F T)) + (own_term g70 2 F T)) + (own_term g70 3 F T)) + (own_term g70 4 F T)) + (own_term g70 5 F T)), .unset, .unset] [(.ref b2), (.int (((((((0 : Int32) + (own_term g70 0 F T)) + (own_term g70 1 F T)) + (own_term g70 2 F T)) + (own_term g70 3 F T)) + (own_term g70 4 F T)) + (own_term g70 5 F T)))] _
    refine XS.bipush X95.here hx rfl (hb hby at_193) ?_
    show own_s p e below T95 m 195 #[iv i0, iv i1, iv i2, rv b2, iv xx, iv yy, iv fr, iv tt, iv (((((((0 : Int32) + (own_term g70 0 F T)) + (own_term g70 1 F T)) + (own_term g70 2 F T)) + (own_term g70 3 F T)) + (own_term g70 4 F T)) + (own_term g70 5 F T)), .unset, .unset] [(.int (6 : Int32)), (.ref b2), (.int (((((((0 : Int32) + (own_term g70 0 F T)) + (own_term g70 1 F T)) + (own_term g70 2 F T)) + (own_term g70 3 F T)) + (own_term g70 4 F T)) + (own_term g70 5 F T)))] _
    refine XS.iload X95.here hx rfl (hb hby at_195) rfl ?_
    show own_s p e below T95 m 197 #[iv i0, iv i1, iv i2, rv b2, iv xx, iv yy, iv fr, iv tt, iv (((((((0 : Int32) + (own_term g70 0 F T)) + (own_term g70 1 F T)) + (own_term g70 2 F T)) + (own_term g70 3 F T)) + (own_term g70 4 F T)) + (own_term g70 5 F T)), .unset, .unset] [(.int fr), (.int (6 : Int32)), (.ref b2), (.int (((((((0 : Int32) + (own_term g70 0 F T)) + (own_term g70 1 F T)) + (own_term g70 2 F T)) + (own_term g70 3 F T)) + (own_term g70 4 F T)) + (own_term g70 5 F T)))] _
    refine XS.iload X95.here hx rfl (hb hby at_197) rfl ?_
    exact kX
  obtain ⟨_, _, ⟨T98, L98, k98, n98⟩, -, X98, ⟨Lc98, hQ98, l98, y98, z98⟩, st98⟩ := Jvm.LawKit.callS X95 hx (y := (⟨"com/example/since/since/model/NameTableHashPinLaw", "term", "([BIII)I"⟩ : MethodName)) hown (mvT hZ (hw _ (List.mem_of_getElem? (i := 8) rfl))) (mvT hZ (hw _ (List.mem_of_getElem? (i := 9) rfl))) (mvT hZ (hw _ (List.mem_of_getElem? (i := 10) rfl))) (mvT hZ (hw _ (List.mem_of_getElem? (i := 11) rfl))) (by decide) (backOf (W := 1) (rm4 l Z a0 hw [] b2 (6 : Int32) fr tt g70 6 F T h65 n0 Z68 fF70 rfl hF hT (by decide) hFT hT8) hZ (hw _ (List.mem_of_getElem? (i := 11) rfl)) (hw _ (List.mem_of_getElem? (i := 10) rfl)) (by decide) (by decide)) (g := (mkF m 199 #[iv i0, iv i1, iv i2, rv b2, iv xx, iv yy, iv fr, iv tt, iv (((((((0 : Int32) + (own_term g70 0 F T)) + (own_term g70 1 F T)) + (own_term g70 2 F T)) + (own_term g70 3 F T)) + (own_term g70 4 F T)) + (own_term g70 5 F T)), .unset, .unset] [(.int tt), (.int fr), (.int (6 : Int32)), (.ref b2), (.int (((((((0 : Int32) + (own_term g70 0 F T)) + (own_term g70 1 F T)) + (own_term g70 2 F T)) + (own_term g70 3 F T)) + (own_term g70 4 F T)) + (own_term g70 5 F T)))])) rfl (by rw [hml]; rfl) (argsL := [(.ref b2), (.int (6 : Int32)), (.int fr), (.int tt)]) (rest := [(.int (((((((0 : Int32) + (own_term g70 0 F T)) + (own_term g70 1 F T)) + (own_term g70 2 F T)) + (own_term g70 3 F T)) + (own_term g70 4 F T)) + (own_term g70 5 F T)))]) (lenOf pd0_1 rfl) rfl (by show 2 * 0 + _ ≤ _; exact Nat.le_of_eq rfl) (hb hby at_199) (fun _ _ => ⟨rfl, e95, (by decide : 1 + 0 ≤ _), (by decide : 8 + 0 ≤ _)⟩)
  dsimp only [Pt.U, Pt.locs, Pt.cells, Pt.slots] at X98 l98 y98 z98 st98 hQ98
  subst l98 y98 z98
  obtain ⟨rfl, Nq98, e98⟩ := hQ98
  have N98 := Fr.app N95 Nq98
  have pre99 : ∀ t, own_s p e below T98 m 202 #[iv i0, iv i1, iv i2, rv b2, iv xx, iv yy, iv fr, iv tt, iv (((((((0 : Int32) + (own_term g70 0 F T)) + (own_term g70 1 F T)) + (own_term g70 2 F T)) + (own_term g70 3 F T)) + (own_term g70 4 F T)) + (own_term g70 5 F T)), .unset, .unset] [(.int (own_term g70 6 F T)), (.int (((((((0 : Int32) + (own_term g70 0 F T)) + (own_term g70 1 F T)) + (own_term g70 2 F T)) + (own_term g70 3 F T)) + (own_term g70 4 F T)) + (own_term g70 5 F T)))] t → Steps p.tables e below S0 t := fun tX kX => pre97 _ (st98 _ kX)
  have pre100 : ∀ t, own_s p e below T98 m 214 #[iv i0, iv i1, iv i2, rv b2, iv xx, iv yy, iv fr, iv tt, iv ((((((((0 : Int32) + (own_term g70 0 F T)) + (own_term g70 1 F T)) + (own_term g70 2 F T)) + (own_term g70 3 F T)) + (own_term g70 4 F T)) + (own_term g70 5 F T)) + (own_term g70 6 F T)), .unset, .unset] [(.int tt), (.int fr), (.int (7 : Int32)), (.ref b2), (.int ((((((((0 : Int32) + (own_term g70 0 F T)) + (own_term g70 1 F T)) + (own_term g70 2 F T)) + (own_term g70 3 F T)) + (own_term g70 4 F T)) + (own_term g70 5 F T)) + (own_term g70 6 F T)))] t → Steps p.tables e below S0 t := by
    intro tX kX
    refine pre99 _ ?_
    show own_s p e below T98 m 202 #[iv i0, iv i1, iv i2, rv b2, iv xx, iv yy, iv fr, iv tt, iv (((((((0 : Int32) + (own_term g70 0 F T)) + (own_term g70 1 F T)) + (own_term g70 2 F T)) + (own_term g70 3 F T)) + (own_term g70 4 F T)) + (own_term g70 5 F T)), .unset, .unset] [(.int (own_term g70 6 F T)), (.int (((((((0 : Int32) + (own_term g70 0 F T)) + (own_term g70 1 F T)) + (own_term g70 2 F T)) + (own_term g70 3 F T)) + (own_term g70 4 F T)) + (own_term g70 5 F T)))] _
    refine XS.iadd X98.here hx rfl (hb hby at_202) rfl ?_
    show own_s p e below T98 m 203 #[iv i0, iv i1, iv i2, rv b2, iv xx, iv yy, iv fr, iv tt, iv (((((((0 : Int32) + (own_term g70 0 F T)) + (own_term g70 1 F T)) + (own_term g70 2 F T)) + (own_term g70 3 F T)) + (own_term g70 4 F T)) + (own_term g70 5 F T)), .unset, .unset] [(.int ((((((((0 : Int32) + (own_term g70 0 F T)) + (own_term g70 1 F T)) + (own_term g70 2 F T)) + (own_term g70 3 F T)) + (own_term g70 4 F T)) + (own_term g70 5 F T)) + (own_term g70 6 F T)))] _
    refine XS.istore X98.here hx rfl (hb hby at_203) rfl (l' := #[iv i0, iv i1, iv i2, rv b2, iv xx, iv yy, iv fr, iv tt, iv ((((((((0 : Int32) + (own_term g70 0 F T)) + (own_term g70 1 F T)) + (own_term g70 2 F T)) + (own_term g70 3 F T)) + (own_term g70 4 F T)) + (own_term g70 5 F T)) + (own_term g70 6 F T)), .unset, .unset]) rfl ?_
    show own_s p e below T98 m 205 #[iv i0, iv i1, iv i2, rv b2, iv xx, iv yy, iv fr, iv tt, iv ((((((((0 : Int32) + (own_term g70 0 F T)) + (own_term g70 1 F T)) + (own_term g70 2 F T)) + (own_term g70 3 F T)) + (own_term g70 4 F T)) + (own_term g70 5 F T)) + (own_term g70 6 F T)), .unset, .unset] [] _
    refine XS.iload X98.here hx rfl (hb hby at_205) rfl ?_
    show own_s p e below T98 m 207 #[iv i0, iv i1, iv i2, rv b2, iv xx, iv yy, iv fr, iv tt, iv ((((((((0 : Int32) + (own_term g70 0 F T)) + (own_term g70 1 F T)) + (own_term g70 2 F T)) + (own_term g70 3 F T)) + (own_term g70 4 F T)) + (own_term g70 5 F T)) + (own_term g70 6 F T)), .unset, .unset] [(.int ((((((((0 : Int32) + (own_term g70 0 F T)) + (own_term g70 1 F T)) + (own_term g70 2 F T)) + (own_term g70 3 F T)) + (own_term g70 4 F T)) + (own_term g70 5 F T)) + (own_term g70 6 F T)))] _
    refine XS.aloadN X98.here hx rfl (hb hby at_207) rfl rfl ?_
    show own_s p e below T98 m 208 #[iv i0, iv i1, iv i2, rv b2, iv xx, iv yy, iv fr, iv tt, iv ((((((((0 : Int32) + (own_term g70 0 F T)) + (own_term g70 1 F T)) + (own_term g70 2 F T)) + (own_term g70 3 F T)) + (own_term g70 4 F T)) + (own_term g70 5 F T)) + (own_term g70 6 F T)), .unset, .unset] [(.ref b2), (.int ((((((((0 : Int32) + (own_term g70 0 F T)) + (own_term g70 1 F T)) + (own_term g70 2 F T)) + (own_term g70 3 F T)) + (own_term g70 4 F T)) + (own_term g70 5 F T)) + (own_term g70 6 F T)))] _
    refine XS.bipush X98.here hx rfl (hb hby at_208) ?_
    show own_s p e below T98 m 210 #[iv i0, iv i1, iv i2, rv b2, iv xx, iv yy, iv fr, iv tt, iv ((((((((0 : Int32) + (own_term g70 0 F T)) + (own_term g70 1 F T)) + (own_term g70 2 F T)) + (own_term g70 3 F T)) + (own_term g70 4 F T)) + (own_term g70 5 F T)) + (own_term g70 6 F T)), .unset, .unset] [(.int (7 : Int32)), (.ref b2), (.int ((((((((0 : Int32) + (own_term g70 0 F T)) + (own_term g70 1 F T)) + (own_term g70 2 F T)) + (own_term g70 3 F T)) + (own_term g70 4 F T)) + (own_term g70 5 F T)) + (own_term g70 6 F T)))] _
    refine XS.iload X98.here hx rfl (hb hby at_210) rfl ?_
    show own_s p e below T98 m 212 #[iv i0, iv i1, iv i2, rv b2, iv xx, iv yy, iv fr, iv tt, iv ((((((((0 : Int32) + (own_term g70 0 F T)) + (own_term g70 1 F T)) + (own_term g70 2 F T)) + (own_term g70 3 F T)) + (own_term g70 4 F T)) + (own_term g70 5 F T)) + (own_term g70 6 F T)), .unset, .unset] [(.int fr), (.int (7 : Int32)), (.ref b2), (.int ((((((((0 : Int32) + (own_term g70 0 F T)) + (own_term g70 1 F T)) + (own_term g70 2 F T)) + (own_term g70 3 F T)) + (own_term g70 4 F T)) + (own_term g70 5 F T)) + (own_term g70 6 F T)))] _
    refine XS.iload X98.here hx rfl (hb hby at_212) rfl ?_
    exact kX
  obtain ⟨_, _, ⟨T101, L101, k101, n101⟩, -, X101, ⟨Lc101, hQ101, l101, y101, z101⟩, st101⟩ := Jvm.LawKit.callS X98 hx (y := (⟨"com/example/since/since/model/NameTableHashPinLaw", "term", "([BIII)I"⟩ : MethodName)) hown (mvT hZ (hw _ (List.mem_of_getElem? (i := 8) rfl))) (mvT hZ (hw _ (List.mem_of_getElem? (i := 9) rfl))) (mvT hZ (hw _ (List.mem_of_getElem? (i := 10) rfl))) (mvT hZ (hw _ (List.mem_of_getElem? (i := 11) rfl))) (by decide) (backOf (W := 1) (rm4 l Z a0 hw [] b2 (7 : Int32) fr tt g70 7 F T h65 n0 Z68 fF70 rfl hF hT (by decide) hFT hT8) hZ (hw _ (List.mem_of_getElem? (i := 11) rfl)) (hw _ (List.mem_of_getElem? (i := 10) rfl)) (by decide) (by decide)) (g := (mkF m 214 #[iv i0, iv i1, iv i2, rv b2, iv xx, iv yy, iv fr, iv tt, iv ((((((((0 : Int32) + (own_term g70 0 F T)) + (own_term g70 1 F T)) + (own_term g70 2 F T)) + (own_term g70 3 F T)) + (own_term g70 4 F T)) + (own_term g70 5 F T)) + (own_term g70 6 F T)), .unset, .unset] [(.int tt), (.int fr), (.int (7 : Int32)), (.ref b2), (.int ((((((((0 : Int32) + (own_term g70 0 F T)) + (own_term g70 1 F T)) + (own_term g70 2 F T)) + (own_term g70 3 F T)) + (own_term g70 4 F T)) + (own_term g70 5 F T)) + (own_term g70 6 F T)))])) rfl (by rw [hml]; rfl) (argsL := [(.ref b2), (.int (7 : Int32)), (.int fr), (.int tt)]) (rest := [(.int ((((((((0 : Int32) + (own_term g70 0 F T)) + (own_term g70 1 F T)) + (own_term g70 2 F T)) + (own_term g70 3 F T)) + (own_term g70 4 F T)) + (own_term g70 5 F T)) + (own_term g70 6 F T)))]) (lenOf pd0_1 rfl) rfl (by show 2 * 0 + _ ≤ _; exact Nat.le_of_eq rfl) (hb hby at_214) (fun _ _ => ⟨rfl, e98, (by decide : 1 + 0 ≤ _), (by decide : 8 + 0 ≤ _)⟩)
  dsimp only [Pt.U, Pt.locs, Pt.cells, Pt.slots] at X101 l101 y101 z101 st101 hQ101
  subst l101 y101 z101
  obtain ⟨rfl, Nq101, e101⟩ := hQ101
  have N101 := Fr.app N98 Nq101
  have pre102 : ∀ t, own_s p e below T101 m 217 #[iv i0, iv i1, iv i2, rv b2, iv xx, iv yy, iv fr, iv tt, iv ((((((((0 : Int32) + (own_term g70 0 F T)) + (own_term g70 1 F T)) + (own_term g70 2 F T)) + (own_term g70 3 F T)) + (own_term g70 4 F T)) + (own_term g70 5 F T)) + (own_term g70 6 F T)), .unset, .unset] [(.int (own_term g70 7 F T)), (.int ((((((((0 : Int32) + (own_term g70 0 F T)) + (own_term g70 1 F T)) + (own_term g70 2 F T)) + (own_term g70 3 F T)) + (own_term g70 4 F T)) + (own_term g70 5 F T)) + (own_term g70 6 F T)))] t → Steps p.tables e below S0 t := fun tX kX => pre100 _ (st101 _ kX)
  have pre103 : ∀ t, own_s p e below T101 m 242 #[iv i0, iv i1, iv i2, rv b2, iv xx, iv yy, iv fr, iv tt, iv (((((((((0 : Int32) + (own_term g70 0 F T)) + (own_term g70 1 F T)) + (own_term g70 2 F T)) + (own_term g70 3 F T)) + (own_term g70 4 F T)) + (own_term g70 5 F T)) + (own_term g70 6 F T)) + (own_term g70 7 F T)), iv ((((((((((0 : Int32) + (own_term g70 0 F T)) + (own_term g70 1 F T)) + (own_term g70 2 F T)) + (own_term g70 3 F T)) + (own_term g70 4 F T)) + (own_term g70 5 F T)) + (own_term g70 6 F T)) + (own_term g70 7 F T)) * (-1640531527 : Int32)), iv (((((((((((0 : Int32) + (own_term g70 0 F T)) + (own_term g70 1 F T)) + (own_term g70 2 F T)) + (own_term g70 3 F T)) + (own_term g70 4 F T)) + (own_term g70 5 F T)) + (own_term g70 6 F T)) + (own_term g70 7 F T)) * (-1640531527 : Int32)) ^^^ ((((((((((((0 : Int32) + (own_term g70 0 F T)) + (own_term g70 1 F T)) + (own_term g70 2 F T)) + (own_term g70 3 F T)) + (own_term g70 4 F T)) + (own_term g70 5 F T)) + (own_term g70 6 F T)) + (own_term g70 7 F T)) * (-1640531527 : Int32)).toUInt32 >>> ((16 : Int32) &&& 31).toUInt32).toInt32))] [(.int tt), (.int fr), (.ref b2)] t → Steps p.tables e below S0 t := by
    intro tX kX
    refine pre102 _ ?_
    show own_s p e below T101 m 217 #[iv i0, iv i1, iv i2, rv b2, iv xx, iv yy, iv fr, iv tt, iv ((((((((0 : Int32) + (own_term g70 0 F T)) + (own_term g70 1 F T)) + (own_term g70 2 F T)) + (own_term g70 3 F T)) + (own_term g70 4 F T)) + (own_term g70 5 F T)) + (own_term g70 6 F T)), .unset, .unset] [(.int (own_term g70 7 F T)), (.int ((((((((0 : Int32) + (own_term g70 0 F T)) + (own_term g70 1 F T)) + (own_term g70 2 F T)) + (own_term g70 3 F T)) + (own_term g70 4 F T)) + (own_term g70 5 F T)) + (own_term g70 6 F T)))] _
    refine XS.iadd X101.here hx rfl (hb hby at_217) rfl ?_
    show own_s p e below T101 m 218 #[iv i0, iv i1, iv i2, rv b2, iv xx, iv yy, iv fr, iv tt, iv ((((((((0 : Int32) + (own_term g70 0 F T)) + (own_term g70 1 F T)) + (own_term g70 2 F T)) + (own_term g70 3 F T)) + (own_term g70 4 F T)) + (own_term g70 5 F T)) + (own_term g70 6 F T)), .unset, .unset] [(.int (((((((((0 : Int32) + (own_term g70 0 F T)) + (own_term g70 1 F T)) + (own_term g70 2 F T)) + (own_term g70 3 F T)) + (own_term g70 4 F T)) + (own_term g70 5 F T)) + (own_term g70 6 F T)) + (own_term g70 7 F T)))] _
    refine XS.istore X101.here hx rfl (hb hby at_218) rfl (l' := #[iv i0, iv i1, iv i2, rv b2, iv xx, iv yy, iv fr, iv tt, iv (((((((((0 : Int32) + (own_term g70 0 F T)) + (own_term g70 1 F T)) + (own_term g70 2 F T)) + (own_term g70 3 F T)) + (own_term g70 4 F T)) + (own_term g70 5 F T)) + (own_term g70 6 F T)) + (own_term g70 7 F T)), .unset, .unset]) rfl ?_
    show own_s p e below T101 m 220 #[iv i0, iv i1, iv i2, rv b2, iv xx, iv yy, iv fr, iv tt, iv (((((((((0 : Int32) + (own_term g70 0 F T)) + (own_term g70 1 F T)) + (own_term g70 2 F T)) + (own_term g70 3 F T)) + (own_term g70 4 F T)) + (own_term g70 5 F T)) + (own_term g70 6 F T)) + (own_term g70 7 F T)), .unset, .unset] [] _
    refine XS.iload X101.here hx rfl (hb hby at_220) rfl ?_
    show own_s p e below T101 m 222 #[iv i0, iv i1, iv i2, rv b2, iv xx, iv yy, iv fr, iv tt, iv (((((((((0 : Int32) + (own_term g70 0 F T)) + (own_term g70 1 F T)) + (own_term g70 2 F T)) + (own_term g70 3 F T)) + (own_term g70 4 F T)) + (own_term g70 5 F T)) + (own_term g70 6 F T)) + (own_term g70 7 F T)), .unset, .unset] [(.int (((((((((0 : Int32) + (own_term g70 0 F T)) + (own_term g70 1 F T)) + (own_term g70 2 F T)) + (own_term g70 3 F T)) + (own_term g70 4 F T)) + (own_term g70 5 F T)) + (own_term g70 6 F T)) + (own_term g70 7 F T)))] _
    refine X101.ldcInt hx hown (mvT hZ (hw _ (List.mem_of_getElem? (i := 15) rfl))) (g := (mkF m 222 #[iv i0, iv i1, iv i2, rv b2, iv xx, iv yy, iv fr, iv tt, iv (((((((((0 : Int32) + (own_term g70 0 F T)) + (own_term g70 1 F T)) + (own_term g70 2 F T)) + (own_term g70 3 F T)) + (own_term g70 4 F T)) + (own_term g70 5 F T)) + (own_term g70 6 F T)) + (own_term g70 7 F T)), .unset, .unset] [(.int (((((((((0 : Int32) + (own_term g70 0 F T)) + (own_term g70 1 F T)) + (own_term g70 2 F T)) + (own_term g70 3 F T)) + (own_term g70 4 F T)) + (own_term g70 5 F T)) + (own_term g70 6 F T)) + (own_term g70 7 F T)))])) rfl (hb hby at_222) _ ?_
    show own_s p e below T101 m 224 #[iv i0, iv i1, iv i2, rv b2, iv xx, iv yy, iv fr, iv tt, iv (((((((((0 : Int32) + (own_term g70 0 F T)) + (own_term g70 1 F T)) + (own_term g70 2 F T)) + (own_term g70 3 F T)) + (own_term g70 4 F T)) + (own_term g70 5 F T)) + (own_term g70 6 F T)) + (own_term g70 7 F T)), .unset, .unset] [(.int (-1640531527 : Int32)), (.int (((((((((0 : Int32) + (own_term g70 0 F T)) + (own_term g70 1 F T)) + (own_term g70 2 F T)) + (own_term g70 3 F T)) + (own_term g70 4 F T)) + (own_term g70 5 F T)) + (own_term g70 6 F T)) + (own_term g70 7 F T)))] _
    refine XS.imul X101.here hx rfl (hb hby at_224) rfl ?_
    show own_s p e below T101 m 225 #[iv i0, iv i1, iv i2, rv b2, iv xx, iv yy, iv fr, iv tt, iv (((((((((0 : Int32) + (own_term g70 0 F T)) + (own_term g70 1 F T)) + (own_term g70 2 F T)) + (own_term g70 3 F T)) + (own_term g70 4 F T)) + (own_term g70 5 F T)) + (own_term g70 6 F T)) + (own_term g70 7 F T)), .unset, .unset] [(.int ((((((((((0 : Int32) + (own_term g70 0 F T)) + (own_term g70 1 F T)) + (own_term g70 2 F T)) + (own_term g70 3 F T)) + (own_term g70 4 F T)) + (own_term g70 5 F T)) + (own_term g70 6 F T)) + (own_term g70 7 F T)) * (-1640531527 : Int32)))] _
    refine XS.istore X101.here hx rfl (hb hby at_225) rfl (l' := #[iv i0, iv i1, iv i2, rv b2, iv xx, iv yy, iv fr, iv tt, iv (((((((((0 : Int32) + (own_term g70 0 F T)) + (own_term g70 1 F T)) + (own_term g70 2 F T)) + (own_term g70 3 F T)) + (own_term g70 4 F T)) + (own_term g70 5 F T)) + (own_term g70 6 F T)) + (own_term g70 7 F T)), iv ((((((((((0 : Int32) + (own_term g70 0 F T)) + (own_term g70 1 F T)) + (own_term g70 2 F T)) + (own_term g70 3 F T)) + (own_term g70 4 F T)) + (own_term g70 5 F T)) + (own_term g70 6 F T)) + (own_term g70 7 F T)) * (-1640531527 : Int32)), .unset]) rfl ?_
    show own_s p e below T101 m 227 #[iv i0, iv i1, iv i2, rv b2, iv xx, iv yy, iv fr, iv tt, iv (((((((((0 : Int32) + (own_term g70 0 F T)) + (own_term g70 1 F T)) + (own_term g70 2 F T)) + (own_term g70 3 F T)) + (own_term g70 4 F T)) + (own_term g70 5 F T)) + (own_term g70 6 F T)) + (own_term g70 7 F T)), iv ((((((((((0 : Int32) + (own_term g70 0 F T)) + (own_term g70 1 F T)) + (own_term g70 2 F T)) + (own_term g70 3 F T)) + (own_term g70 4 F T)) + (own_term g70 5 F T)) + (own_term g70 6 F T)) + (own_term g70 7 F T)) * (-1640531527 : Int32)), .unset] [] _
    refine XS.iload X101.here hx rfl (hb hby at_227) rfl ?_
    show own_s p e below T101 m 229 #[iv i0, iv i1, iv i2, rv b2, iv xx, iv yy, iv fr, iv tt, iv (((((((((0 : Int32) + (own_term g70 0 F T)) + (own_term g70 1 F T)) + (own_term g70 2 F T)) + (own_term g70 3 F T)) + (own_term g70 4 F T)) + (own_term g70 5 F T)) + (own_term g70 6 F T)) + (own_term g70 7 F T)), iv ((((((((((0 : Int32) + (own_term g70 0 F T)) + (own_term g70 1 F T)) + (own_term g70 2 F T)) + (own_term g70 3 F T)) + (own_term g70 4 F T)) + (own_term g70 5 F T)) + (own_term g70 6 F T)) + (own_term g70 7 F T)) * (-1640531527 : Int32)), .unset] [(.int ((((((((((0 : Int32) + (own_term g70 0 F T)) + (own_term g70 1 F T)) + (own_term g70 2 F T)) + (own_term g70 3 F T)) + (own_term g70 4 F T)) + (own_term g70 5 F T)) + (own_term g70 6 F T)) + (own_term g70 7 F T)) * (-1640531527 : Int32)))] _
    refine XS.iload X101.here hx rfl (hb hby at_229) rfl ?_
    show own_s p e below T101 m 231 #[iv i0, iv i1, iv i2, rv b2, iv xx, iv yy, iv fr, iv tt, iv (((((((((0 : Int32) + (own_term g70 0 F T)) + (own_term g70 1 F T)) + (own_term g70 2 F T)) + (own_term g70 3 F T)) + (own_term g70 4 F T)) + (own_term g70 5 F T)) + (own_term g70 6 F T)) + (own_term g70 7 F T)), iv ((((((((((0 : Int32) + (own_term g70 0 F T)) + (own_term g70 1 F T)) + (own_term g70 2 F T)) + (own_term g70 3 F T)) + (own_term g70 4 F T)) + (own_term g70 5 F T)) + (own_term g70 6 F T)) + (own_term g70 7 F T)) * (-1640531527 : Int32)), .unset] [(.int ((((((((((0 : Int32) + (own_term g70 0 F T)) + (own_term g70 1 F T)) + (own_term g70 2 F T)) + (own_term g70 3 F T)) + (own_term g70 4 F T)) + (own_term g70 5 F T)) + (own_term g70 6 F T)) + (own_term g70 7 F T)) * (-1640531527 : Int32))), (.int ((((((((((0 : Int32) + (own_term g70 0 F T)) + (own_term g70 1 F T)) + (own_term g70 2 F T)) + (own_term g70 3 F T)) + (own_term g70 4 F T)) + (own_term g70 5 F T)) + (own_term g70 6 F T)) + (own_term g70 7 F T)) * (-1640531527 : Int32)))] _
    refine XS.bipush X101.here hx rfl (hb hby at_231) ?_
    show own_s p e below T101 m 233 #[iv i0, iv i1, iv i2, rv b2, iv xx, iv yy, iv fr, iv tt, iv (((((((((0 : Int32) + (own_term g70 0 F T)) + (own_term g70 1 F T)) + (own_term g70 2 F T)) + (own_term g70 3 F T)) + (own_term g70 4 F T)) + (own_term g70 5 F T)) + (own_term g70 6 F T)) + (own_term g70 7 F T)), iv ((((((((((0 : Int32) + (own_term g70 0 F T)) + (own_term g70 1 F T)) + (own_term g70 2 F T)) + (own_term g70 3 F T)) + (own_term g70 4 F T)) + (own_term g70 5 F T)) + (own_term g70 6 F T)) + (own_term g70 7 F T)) * (-1640531527 : Int32)), .unset] [(.int (16 : Int32)), (.int ((((((((((0 : Int32) + (own_term g70 0 F T)) + (own_term g70 1 F T)) + (own_term g70 2 F T)) + (own_term g70 3 F T)) + (own_term g70 4 F T)) + (own_term g70 5 F T)) + (own_term g70 6 F T)) + (own_term g70 7 F T)) * (-1640531527 : Int32))), (.int ((((((((((0 : Int32) + (own_term g70 0 F T)) + (own_term g70 1 F T)) + (own_term g70 2 F T)) + (own_term g70 3 F T)) + (own_term g70 4 F T)) + (own_term g70 5 F T)) + (own_term g70 6 F T)) + (own_term g70 7 F T)) * (-1640531527 : Int32)))] _
    refine XS.iushr X101.here hx rfl (hb hby at_233) rfl ?_
    show own_s p e below T101 m 234 #[iv i0, iv i1, iv i2, rv b2, iv xx, iv yy, iv fr, iv tt, iv (((((((((0 : Int32) + (own_term g70 0 F T)) + (own_term g70 1 F T)) + (own_term g70 2 F T)) + (own_term g70 3 F T)) + (own_term g70 4 F T)) + (own_term g70 5 F T)) + (own_term g70 6 F T)) + (own_term g70 7 F T)), iv ((((((((((0 : Int32) + (own_term g70 0 F T)) + (own_term g70 1 F T)) + (own_term g70 2 F T)) + (own_term g70 3 F T)) + (own_term g70 4 F T)) + (own_term g70 5 F T)) + (own_term g70 6 F T)) + (own_term g70 7 F T)) * (-1640531527 : Int32)), .unset] [(.int ((((((((((((0 : Int32) + (own_term g70 0 F T)) + (own_term g70 1 F T)) + (own_term g70 2 F T)) + (own_term g70 3 F T)) + (own_term g70 4 F T)) + (own_term g70 5 F T)) + (own_term g70 6 F T)) + (own_term g70 7 F T)) * (-1640531527 : Int32)).toUInt32 >>> ((16 : Int32) &&& 31).toUInt32).toInt32)), (.int ((((((((((0 : Int32) + (own_term g70 0 F T)) + (own_term g70 1 F T)) + (own_term g70 2 F T)) + (own_term g70 3 F T)) + (own_term g70 4 F T)) + (own_term g70 5 F T)) + (own_term g70 6 F T)) + (own_term g70 7 F T)) * (-1640531527 : Int32)))] _
    refine XS.ixor X101.here hx rfl (hb hby at_234) rfl ?_
    show own_s p e below T101 m 235 #[iv i0, iv i1, iv i2, rv b2, iv xx, iv yy, iv fr, iv tt, iv (((((((((0 : Int32) + (own_term g70 0 F T)) + (own_term g70 1 F T)) + (own_term g70 2 F T)) + (own_term g70 3 F T)) + (own_term g70 4 F T)) + (own_term g70 5 F T)) + (own_term g70 6 F T)) + (own_term g70 7 F T)), iv ((((((((((0 : Int32) + (own_term g70 0 F T)) + (own_term g70 1 F T)) + (own_term g70 2 F T)) + (own_term g70 3 F T)) + (own_term g70 4 F T)) + (own_term g70 5 F T)) + (own_term g70 6 F T)) + (own_term g70 7 F T)) * (-1640531527 : Int32)), .unset] [(.int (((((((((((0 : Int32) + (own_term g70 0 F T)) + (own_term g70 1 F T)) + (own_term g70 2 F T)) + (own_term g70 3 F T)) + (own_term g70 4 F T)) + (own_term g70 5 F T)) + (own_term g70 6 F T)) + (own_term g70 7 F T)) * (-1640531527 : Int32)) ^^^ ((((((((((((0 : Int32) + (own_term g70 0 F T)) + (own_term g70 1 F T)) + (own_term g70 2 F T)) + (own_term g70 3 F T)) + (own_term g70 4 F T)) + (own_term g70 5 F T)) + (own_term g70 6 F T)) + (own_term g70 7 F T)) * (-1640531527 : Int32)).toUInt32 >>> ((16 : Int32) &&& 31).toUInt32).toInt32)))] _
    refine XS.istore X101.here hx rfl (hb hby at_235) rfl (l' := #[iv i0, iv i1, iv i2, rv b2, iv xx, iv yy, iv fr, iv tt, iv (((((((((0 : Int32) + (own_term g70 0 F T)) + (own_term g70 1 F T)) + (own_term g70 2 F T)) + (own_term g70 3 F T)) + (own_term g70 4 F T)) + (own_term g70 5 F T)) + (own_term g70 6 F T)) + (own_term g70 7 F T)), iv ((((((((((0 : Int32) + (own_term g70 0 F T)) + (own_term g70 1 F T)) + (own_term g70 2 F T)) + (own_term g70 3 F T)) + (own_term g70 4 F T)) + (own_term g70 5 F T)) + (own_term g70 6 F T)) + (own_term g70 7 F T)) * (-1640531527 : Int32)), iv (((((((((((0 : Int32) + (own_term g70 0 F T)) + (own_term g70 1 F T)) + (own_term g70 2 F T)) + (own_term g70 3 F T)) + (own_term g70 4 F T)) + (own_term g70 5 F T)) + (own_term g70 6 F T)) + (own_term g70 7 F T)) * (-1640531527 : Int32)) ^^^ ((((((((((((0 : Int32) + (own_term g70 0 F T)) + (own_term g70 1 F T)) + (own_term g70 2 F T)) + (own_term g70 3 F T)) + (own_term g70 4 F T)) + (own_term g70 5 F T)) + (own_term g70 6 F T)) + (own_term g70 7 F T)) * (-1640531527 : Int32)).toUInt32 >>> ((16 : Int32) &&& 31).toUInt32).toInt32))]) rfl ?_
    show own_s p e below T101 m 237 #[iv i0, iv i1, iv i2, rv b2, iv xx, iv yy, iv fr, iv tt, iv (((((((((0 : Int32) + (own_term g70 0 F T)) + (own_term g70 1 F T)) + (own_term g70 2 F T)) + (own_term g70 3 F T)) + (own_term g70 4 F T)) + (own_term g70 5 F T)) + (own_term g70 6 F T)) + (own_term g70 7 F T)), iv ((((((((((0 : Int32) + (own_term g70 0 F T)) + (own_term g70 1 F T)) + (own_term g70 2 F T)) + (own_term g70 3 F T)) + (own_term g70 4 F T)) + (own_term g70 5 F T)) + (own_term g70 6 F T)) + (own_term g70 7 F T)) * (-1640531527 : Int32)), iv (((((((((((0 : Int32) + (own_term g70 0 F T)) + (own_term g70 1 F T)) + (own_term g70 2 F T)) + (own_term g70 3 F T)) + (own_term g70 4 F T)) + (own_term g70 5 F T)) + (own_term g70 6 F T)) + (own_term g70 7 F T)) * (-1640531527 : Int32)) ^^^ ((((((((((((0 : Int32) + (own_term g70 0 F T)) + (own_term g70 1 F T)) + (own_term g70 2 F T)) + (own_term g70 3 F T)) + (own_term g70 4 F T)) + (own_term g70 5 F T)) + (own_term g70 6 F T)) + (own_term g70 7 F T)) * (-1640531527 : Int32)).toUInt32 >>> ((16 : Int32) &&& 31).toUInt32).toInt32))] [] _
    refine XS.aloadN X101.here hx rfl (hb hby at_237) rfl rfl ?_
    show own_s p e below T101 m 238 #[iv i0, iv i1, iv i2, rv b2, iv xx, iv yy, iv fr, iv tt, iv (((((((((0 : Int32) + (own_term g70 0 F T)) + (own_term g70 1 F T)) + (own_term g70 2 F T)) + (own_term g70 3 F T)) + (own_term g70 4 F T)) + (own_term g70 5 F T)) + (own_term g70 6 F T)) + (own_term g70 7 F T)), iv ((((((((((0 : Int32) + (own_term g70 0 F T)) + (own_term g70 1 F T)) + (own_term g70 2 F T)) + (own_term g70 3 F T)) + (own_term g70 4 F T)) + (own_term g70 5 F T)) + (own_term g70 6 F T)) + (own_term g70 7 F T)) * (-1640531527 : Int32)), iv (((((((((((0 : Int32) + (own_term g70 0 F T)) + (own_term g70 1 F T)) + (own_term g70 2 F T)) + (own_term g70 3 F T)) + (own_term g70 4 F T)) + (own_term g70 5 F T)) + (own_term g70 6 F T)) + (own_term g70 7 F T)) * (-1640531527 : Int32)) ^^^ ((((((((((((0 : Int32) + (own_term g70 0 F T)) + (own_term g70 1 F T)) + (own_term g70 2 F T)) + (own_term g70 3 F T)) + (own_term g70 4 F T)) + (own_term g70 5 F T)) + (own_term g70 6 F T)) + (own_term g70 7 F T)) * (-1640531527 : Int32)).toUInt32 >>> ((16 : Int32) &&& 31).toUInt32).toInt32))] [(.ref b2)] _
    refine XS.iload X101.here hx rfl (hb hby at_238) rfl ?_
    show own_s p e below T101 m 240 #[iv i0, iv i1, iv i2, rv b2, iv xx, iv yy, iv fr, iv tt, iv (((((((((0 : Int32) + (own_term g70 0 F T)) + (own_term g70 1 F T)) + (own_term g70 2 F T)) + (own_term g70 3 F T)) + (own_term g70 4 F T)) + (own_term g70 5 F T)) + (own_term g70 6 F T)) + (own_term g70 7 F T)), iv ((((((((((0 : Int32) + (own_term g70 0 F T)) + (own_term g70 1 F T)) + (own_term g70 2 F T)) + (own_term g70 3 F T)) + (own_term g70 4 F T)) + (own_term g70 5 F T)) + (own_term g70 6 F T)) + (own_term g70 7 F T)) * (-1640531527 : Int32)), iv (((((((((((0 : Int32) + (own_term g70 0 F T)) + (own_term g70 1 F T)) + (own_term g70 2 F T)) + (own_term g70 3 F T)) + (own_term g70 4 F T)) + (own_term g70 5 F T)) + (own_term g70 6 F T)) + (own_term g70 7 F T)) * (-1640531527 : Int32)) ^^^ ((((((((((((0 : Int32) + (own_term g70 0 F T)) + (own_term g70 1 F T)) + (own_term g70 2 F T)) + (own_term g70 3 F T)) + (own_term g70 4 F T)) + (own_term g70 5 F T)) + (own_term g70 6 F T)) + (own_term g70 7 F T)) * (-1640531527 : Int32)).toUInt32 >>> ((16 : Int32) &&& 31).toUInt32).toInt32))] [(.int fr), (.ref b2)] _
    refine XS.iload X101.here hx rfl (hb hby at_240) rfl ?_
    exact kX
  obtain ⟨_, _, ⟨T104, L104, k104, n104⟩, -, X104, ⟨Lc104, hQ104, l104, y104, z104⟩, st104⟩ := Jvm.LawKit.callS X101 hx (y := (⟨"com/example/since/since/model/NameTable", "hash", "([BII)I"⟩ : MethodName)) hown (mvT hZ (hw _ (List.mem_of_getElem? (i := 16) rfl))) (mvT hZ (hw _ (List.mem_of_getElem? (i := 17) rfl))) (mvT hZ (hw _ (List.mem_of_getElem? (i := 18) rfl))) (mvT hZ (hw _ (List.mem_of_getElem? (i := 19) rfl))) (by decide) (backOf (W := 0) (rm5 l Z a0 hw [] b2 fr tt g70 F T h65 n0 Z68 fF70 hF hT hFT hT8) hZ (hw _ (List.mem_of_getElem? (i := 19) rfl)) (hw _ (List.mem_of_getElem? (i := 18) rfl)) (by decide) (by decide)) (g := (mkF m 242 #[iv i0, iv i1, iv i2, rv b2, iv xx, iv yy, iv fr, iv tt, iv (((((((((0 : Int32) + (own_term g70 0 F T)) + (own_term g70 1 F T)) + (own_term g70 2 F T)) + (own_term g70 3 F T)) + (own_term g70 4 F T)) + (own_term g70 5 F T)) + (own_term g70 6 F T)) + (own_term g70 7 F T)), iv ((((((((((0 : Int32) + (own_term g70 0 F T)) + (own_term g70 1 F T)) + (own_term g70 2 F T)) + (own_term g70 3 F T)) + (own_term g70 4 F T)) + (own_term g70 5 F T)) + (own_term g70 6 F T)) + (own_term g70 7 F T)) * (-1640531527 : Int32)), iv (((((((((((0 : Int32) + (own_term g70 0 F T)) + (own_term g70 1 F T)) + (own_term g70 2 F T)) + (own_term g70 3 F T)) + (own_term g70 4 F T)) + (own_term g70 5 F T)) + (own_term g70 6 F T)) + (own_term g70 7 F T)) * (-1640531527 : Int32)) ^^^ ((((((((((((0 : Int32) + (own_term g70 0 F T)) + (own_term g70 1 F T)) + (own_term g70 2 F T)) + (own_term g70 3 F T)) + (own_term g70 4 F T)) + (own_term g70 5 F T)) + (own_term g70 6 F T)) + (own_term g70 7 F T)) * (-1640531527 : Int32)).toUInt32 >>> ((16 : Int32) &&& 31).toUInt32).toInt32))] [(.int tt), (.int fr), (.ref b2)])) rfl (by rw [hml]; rfl) (argsL := [(.ref b2), (.int fr), (.int tt)]) (rest := []) (lenOf pd0_2 rfl) rfl (by show 2 * 0 + _ ≤ _; exact Nat.le_of_eq rfl) (hb hby at_242) (fun _ _ => ⟨rfl, e101, (by decide : 1 + 0 ≤ _), (by decide : 8 + 0 ≤ _)⟩)
  dsimp only [Pt.U, Pt.locs, Pt.cells, Pt.slots] at X104 l104 y104 z104 st104 hQ104
  subst l104 y104 z104
  obtain ⟨rfl, Nq104, e104⟩ := hQ104
  have N104 := Fr.app N101 Nq104
  have pre105 : ∀ t, own_s p e below T104 m 245 #[iv i0, iv i1, iv i2, rv b2, iv xx, iv yy, iv fr, iv tt, iv (((((((((0 : Int32) + (own_term g70 0 F T)) + (own_term g70 1 F T)) + (own_term g70 2 F T)) + (own_term g70 3 F T)) + (own_term g70 4 F T)) + (own_term g70 5 F T)) + (own_term g70 6 F T)) + (own_term g70 7 F T)), iv ((((((((((0 : Int32) + (own_term g70 0 F T)) + (own_term g70 1 F T)) + (own_term g70 2 F T)) + (own_term g70 3 F T)) + (own_term g70 4 F T)) + (own_term g70 5 F T)) + (own_term g70 6 F T)) + (own_term g70 7 F T)) * (-1640531527 : Int32)), iv (((((((((((0 : Int32) + (own_term g70 0 F T)) + (own_term g70 1 F T)) + (own_term g70 2 F T)) + (own_term g70 3 F T)) + (own_term g70 4 F T)) + (own_term g70 5 F T)) + (own_term g70 6 F T)) + (own_term g70 7 F T)) * (-1640531527 : Int32)) ^^^ ((((((((((((0 : Int32) + (own_term g70 0 F T)) + (own_term g70 1 F T)) + (own_term g70 2 F T)) + (own_term g70 3 F T)) + (own_term g70 4 F T)) + (own_term g70 5 F T)) + (own_term g70 6 F T)) + (own_term g70 7 F T)) * (-1640531527 : Int32)).toUInt32 >>> ((16 : Int32) &&& 31).toUInt32).toInt32))] [(.int (own_mix (own_acc g70 F (T - F))))] t → Steps p.tables e below S0 t := fun tX kX => pre103 _ (st104 _ kX)
  have pre106 : ∀ t, own_s p e below T104 m 255 #[iv i0, iv i1, iv i2, rv b2, iv xx, iv yy, iv fr, iv tt, iv (((((((((0 : Int32) + (own_term g70 0 F T)) + (own_term g70 1 F T)) + (own_term g70 2 F T)) + (own_term g70 3 F T)) + (own_term g70 4 F T)) + (own_term g70 5 F T)) + (own_term g70 6 F T)) + (own_term g70 7 F T)), iv ((((((((((0 : Int32) + (own_term g70 0 F T)) + (own_term g70 1 F T)) + (own_term g70 2 F T)) + (own_term g70 3 F T)) + (own_term g70 4 F T)) + (own_term g70 5 F T)) + (own_term g70 6 F T)) + (own_term g70 7 F T)) * (-1640531527 : Int32)), iv (((((((((((0 : Int32) + (own_term g70 0 F T)) + (own_term g70 1 F T)) + (own_term g70 2 F T)) + (own_term g70 3 F T)) + (own_term g70 4 F T)) + (own_term g70 5 F T)) + (own_term g70 6 F T)) + (own_term g70 7 F T)) * (-1640531527 : Int32)) ^^^ ((((((((((((0 : Int32) + (own_term g70 0 F T)) + (own_term g70 1 F T)) + (own_term g70 2 F T)) + (own_term g70 3 F T)) + (own_term g70 4 F T)) + (own_term g70 5 F T)) + (own_term g70 6 F T)) + (own_term g70 7 F T)) * (-1640531527 : Int32)).toUInt32 >>> ((16 : Int32) &&& 31).toUInt32).toInt32))] [(.int (1 : Int32))] t → Steps p.tables e below S0 t := by
    intro tX kX
    refine pre105 _ ?_
    show own_s p e below T104 m 245 #[iv i0, iv i1, iv i2, rv b2, iv xx, iv yy, iv fr, iv tt, iv (((((((((0 : Int32) + (own_term g70 0 F T)) + (own_term g70 1 F T)) + (own_term g70 2 F T)) + (own_term g70 3 F T)) + (own_term g70 4 F T)) + (own_term g70 5 F T)) + (own_term g70 6 F T)) + (own_term g70 7 F T)), iv ((((((((((0 : Int32) + (own_term g70 0 F T)) + (own_term g70 1 F T)) + (own_term g70 2 F T)) + (own_term g70 3 F T)) + (own_term g70 4 F T)) + (own_term g70 5 F T)) + (own_term g70 6 F T)) + (own_term g70 7 F T)) * (-1640531527 : Int32)), iv (((((((((((0 : Int32) + (own_term g70 0 F T)) + (own_term g70 1 F T)) + (own_term g70 2 F T)) + (own_term g70 3 F T)) + (own_term g70 4 F T)) + (own_term g70 5 F T)) + (own_term g70 6 F T)) + (own_term g70 7 F T)) * (-1640531527 : Int32)) ^^^ ((((((((((((0 : Int32) + (own_term g70 0 F T)) + (own_term g70 1 F T)) + (own_term g70 2 F T)) + (own_term g70 3 F T)) + (own_term g70 4 F T)) + (own_term g70 5 F T)) + (own_term g70 6 F T)) + (own_term g70 7 F T)) * (-1640531527 : Int32)).toUInt32 >>> ((16 : Int32) &&& 31).toUInt32).toInt32))] [(.int (own_mix (own_acc g70 F (T - F))))] _
    refine XS.iload X104.here hx rfl (hb hby at_245) rfl ?_
    show own_s p e below T104 m 247 #[iv i0, iv i1, iv i2, rv b2, iv xx, iv yy, iv fr, iv tt, iv (((((((((0 : Int32) + (own_term g70 0 F T)) + (own_term g70 1 F T)) + (own_term g70 2 F T)) + (own_term g70 3 F T)) + (own_term g70 4 F T)) + (own_term g70 5 F T)) + (own_term g70 6 F T)) + (own_term g70 7 F T)), iv ((((((((((0 : Int32) + (own_term g70 0 F T)) + (own_term g70 1 F T)) + (own_term g70 2 F T)) + (own_term g70 3 F T)) + (own_term g70 4 F T)) + (own_term g70 5 F T)) + (own_term g70 6 F T)) + (own_term g70 7 F T)) * (-1640531527 : Int32)), iv (((((((((((0 : Int32) + (own_term g70 0 F T)) + (own_term g70 1 F T)) + (own_term g70 2 F T)) + (own_term g70 3 F T)) + (own_term g70 4 F T)) + (own_term g70 5 F T)) + (own_term g70 6 F T)) + (own_term g70 7 F T)) * (-1640531527 : Int32)) ^^^ ((((((((((((0 : Int32) + (own_term g70 0 F T)) + (own_term g70 1 F T)) + (own_term g70 2 F T)) + (own_term g70 3 F T)) + (own_term g70 4 F T)) + (own_term g70 5 F T)) + (own_term g70 6 F T)) + (own_term g70 7 F T)) * (-1640531527 : Int32)).toUInt32 >>> ((16 : Int32) &&& 31).toUInt32).toInt32))] [(.int (((((((((((0 : Int32) + (own_term g70 0 F T)) + (own_term g70 1 F T)) + (own_term g70 2 F T)) + (own_term g70 3 F T)) + (own_term g70 4 F T)) + (own_term g70 5 F T)) + (own_term g70 6 F T)) + (own_term g70 7 F T)) * (-1640531527 : Int32)) ^^^ ((((((((((((0 : Int32) + (own_term g70 0 F T)) + (own_term g70 1 F T)) + (own_term g70 2 F T)) + (own_term g70 3 F T)) + (own_term g70 4 F T)) + (own_term g70 5 F T)) + (own_term g70 6 F T)) + (own_term g70 7 F T)) * (-1640531527 : Int32)).toUInt32 >>> ((16 : Int32) &&& 31).toUInt32).toInt32))), (.int (own_mix (own_acc g70 F (T - F))))] _
    refine XS.icmpNo X104.here hx rfl (hb hby at_247) rfl (teq (show (own_mix (own_acc g70 F (T - F))) = (((((((((((0 : Int32) + (own_term g70 0 F T)) + (own_term g70 1 F T)) + (own_term g70 2 F T)) + (own_term g70 3 F T)) + (own_term g70 4 F T)) + (own_term g70 5 F T)) + (own_term g70 6 F T)) + (own_term g70 7 F T)) * (-1640531527 : Int32)) ^^^ ((((((((((((0 : Int32) + (own_term g70 0 F T)) + (own_term g70 1 F T)) + (own_term g70 2 F T)) + (own_term g70 3 F T)) + (own_term g70 4 F T)) + (own_term g70 5 F T)) + (own_term g70 6 F T)) + (own_term g70 7 F T)) * (-1640531527 : Int32)).toUInt32 >>> ((16 : Int32) &&& 31).toUInt32).toInt32)) from congrArg own_mix (own_sum g70 F T hFT hT8).symm)).2 ?_
    show own_s p e below T104 m 250 #[iv i0, iv i1, iv i2, rv b2, iv xx, iv yy, iv fr, iv tt, iv (((((((((0 : Int32) + (own_term g70 0 F T)) + (own_term g70 1 F T)) + (own_term g70 2 F T)) + (own_term g70 3 F T)) + (own_term g70 4 F T)) + (own_term g70 5 F T)) + (own_term g70 6 F T)) + (own_term g70 7 F T)), iv ((((((((((0 : Int32) + (own_term g70 0 F T)) + (own_term g70 1 F T)) + (own_term g70 2 F T)) + (own_term g70 3 F T)) + (own_term g70 4 F T)) + (own_term g70 5 F T)) + (own_term g70 6 F T)) + (own_term g70 7 F T)) * (-1640531527 : Int32)), iv (((((((((((0 : Int32) + (own_term g70 0 F T)) + (own_term g70 1 F T)) + (own_term g70 2 F T)) + (own_term g70 3 F T)) + (own_term g70 4 F T)) + (own_term g70 5 F T)) + (own_term g70 6 F T)) + (own_term g70 7 F T)) * (-1640531527 : Int32)) ^^^ ((((((((((((0 : Int32) + (own_term g70 0 F T)) + (own_term g70 1 F T)) + (own_term g70 2 F T)) + (own_term g70 3 F T)) + (own_term g70 4 F T)) + (own_term g70 5 F T)) + (own_term g70 6 F T)) + (own_term g70 7 F T)) * (-1640531527 : Int32)).toUInt32 >>> ((16 : Int32) &&& 31).toUInt32).toInt32))] [] _
    refine XS.iconst X104.here hx rfl (hb hby at_250) ?_
    show own_s p e below T104 m 251 #[iv i0, iv i1, iv i2, rv b2, iv xx, iv yy, iv fr, iv tt, iv (((((((((0 : Int32) + (own_term g70 0 F T)) + (own_term g70 1 F T)) + (own_term g70 2 F T)) + (own_term g70 3 F T)) + (own_term g70 4 F T)) + (own_term g70 5 F T)) + (own_term g70 6 F T)) + (own_term g70 7 F T)), iv ((((((((((0 : Int32) + (own_term g70 0 F T)) + (own_term g70 1 F T)) + (own_term g70 2 F T)) + (own_term g70 3 F T)) + (own_term g70 4 F T)) + (own_term g70 5 F T)) + (own_term g70 6 F T)) + (own_term g70 7 F T)) * (-1640531527 : Int32)), iv (((((((((((0 : Int32) + (own_term g70 0 F T)) + (own_term g70 1 F T)) + (own_term g70 2 F T)) + (own_term g70 3 F T)) + (own_term g70 4 F T)) + (own_term g70 5 F T)) + (own_term g70 6 F T)) + (own_term g70 7 F T)) * (-1640531527 : Int32)) ^^^ ((((((((((((0 : Int32) + (own_term g70 0 F T)) + (own_term g70 1 F T)) + (own_term g70 2 F T)) + (own_term g70 3 F T)) + (own_term g70 4 F T)) + (own_term g70 5 F T)) + (own_term g70 6 F T)) + (own_term g70 7 F T)) * (-1640531527 : Int32)).toUInt32 >>> ((16 : Int32) &&& 31).toUInt32).toInt32))] [(.int (1 : Int32))] _
    refine XS.goto X104.here hx rfl (pc0 := 251) (pc' := 255) rfl (hb hby at_251) (by decide) (by decide) ?_
    exact kX
  subst hS0
  obtain ⟨fs, hr, hrun, hended, hW, hsame⟩ := X104.leave (v := (some (.int (1 : Int32)))) (fun h => by rw [Bd.returns] at h; cases h)
  refine ⟨_, _, pre106 _ (retN X104 hx (t := .boolean) Bd.returns (by simp) (hb hby at_255) hr), hrun, hended, _, _, rfl, ?_, ⟨_, rfl⟩, hW, hsame.mono (by decide) (by decide)⟩
  show Q0 Z i0 i1 i2 h0 n0 (some (.int (1 : Int32))) T104.heap _
  exact ⟨rfl, N104⟩
set_option maxRecDepth 65536 in
set_option maxHeartbeats 40000000 in
theorem comes_1 {Post : Tables → Env → Array Value → State → Outcome → State → Prop} (hpost : ∀ tb e args s v u, (limb_1_1.after args s (.returned v) u = true ∧ limb_1_2.after args s (.returned v) u = true ∧ True) → FrameEnd s (.returned v) u (Jvm.fieldLocs frame_1_writes args s ++ Jvm.arrayLocs frame_1_arrays args s ++ Jvm.staticLocs frame_1_statics s) 16 128 → Post tb e args s (.returned v) u) :
    ArmFor flags0 classFile x code maxLocals ret World_1 tables_1 room_1 Calls_1 rest_1 Pre_1 Post := by
  intro l hfl _ _ p e ha hc hk s m args below hf hA hF happ hP
  obtain ⟨hcalls, hrest, hpre⟩ := hP
  obtain ⟨-, -, -, hnamed, -, -, -, hat⟩ := (Spec.applies_iff hf).mp happ
  obtain ⟨hg, hn⟩ := and_e (Cond.before_iff.mp (show (Jvm.Cond.and given_1 narrow_1).before args s = true from hpre))
  obtain ⟨hcnt, q0⟩ := and_e hg
  obtain ⟨ha0, q1⟩ := and_e q0
  obtain ⟨ha1, q2⟩ := and_e q1
  have ha2 := q2
  obtain ⟨w0, w1, w2, rfl⟩ : ∃ w0 w1 w2 : Value, args = #[w0, w1, w2] := by
    have hs : args.size = 3 := by simpa [Cond.value, given_1] using hcnt
    obtain ⟨L⟩ := args
    match L, hs with
    | [w0, w1, w2], _ => exact ⟨w0, w1, w2, rfl⟩
  have hw := fun d (hd : d ∈ tables_1) => atoms_spec (ws := Jvm.Cond.code x code maxLocals ret :: tables_1) hat d (List.mem_cons_of_mem _ hd)
  have hfit : Fit s := fun {y c} hc i hi => by
    obtain ⟨ha, rfl⟩ := Array.getElem?_eq_some_iff.mp hc
    have q := List.all_eq_true.mp ((Array.all_eq_true_iff_forall_mem.mp hF) _ (Array.getElem_mem ha)) i (List.mem_range.mpr hi)
    simpa [Array.getElem?_eq_getElem hi] using q
  obtain ⟨i0, ei0⟩ := is_v ha0
  obtain rfl : w0 = (.int i0) := Option.some.inj ei0
  obtain ⟨i1, ei1⟩ := is_v ha1
  obtain rfl : w1 = (.int i1) := Option.some.inj ei1
  obtain ⟨i2, ei2⟩ := is_v ha2
  obtain rfl : w2 = (.int i2) := Option.some.inj ei2
  obtain ⟨n, o, h1, h2, h3, _, L, rfl, ⟨rfl, N⟩, hq⟩ := rm0 l s _ hw tables_1 i0 i1 i2  s.heap s.heap.size (Nat.le_refl _)  p e ha hc hk s m _ below hf ((Spec.applies_iff_loose hf).mp happ).1 ⟨rfl, State.Warmed39.refl s, rfl⟩ trivial
  refine ⟨n, _, h1, h2, h3, hpost _ _ _ _ _ _ ⟨Cond.after_iff.mpr rfl, Cond.after_iff.mpr (eq_i res_at (Term.int_eval (1)) rfl), trivial⟩ ⟨hq.1, hq.2.1, (hq.2.2.sift fun y hy => Or.inr (N y hy)).mono (by decide) (by decide)⟩⟩
theorem main_1_1 : Claimed_1_1 := comes_1 fun _ _ _ _ _ _ h hF => ⟨h.1, hF⟩
theorem main_1_2 : Claimed_1_2 := comes_1 fun _ _ _ _ _ _ h hF => ⟨h.2.1, hF⟩
end Jvm.Pilot.@@N@@
namespace Jvm.Pilot.@@N@@
open Jvm Jvm.ClassFile Sem Op Lib Jvm.Free Jvm.Stand Jvm.Pilot.@@N@@.Jvm.D
/-! MADE BY PROGRAM (witnessworld.py) out of the Statement's table words and the real class files: 10 classes; the members and pool entries that the words name. The judged class is class 1, her method 1. -/
namespace start1
open Jvm.ClassFile
def u (s : String) : CpInfo := .utf8 (stringToUtf16 s)
/-- a pool by its gaps: so many unusable entries, then the entry; so many at the end -/
def gap : Nat → List CpInfo → List CpInfo
  | 0, r => r
  | n + 1, r => .unusable :: gap n r
def poolList (es : List (Nat × CpInfo)) (last : Nat) : List CpInfo := es.foldr (fun e r => gap e.1 (e.2 :: r)) (gap last [])
def pool (es : List (Nat × CpInfo)) (last : Nat) : Array CpInfo := ⟨poolList es last⟩
def fileOf (pool : Array CpInfo) (this : Nat) (attrs : Array Attribute := #[]) (ms : Array MethodInfo := #[]) (fl : Nat := 33) (sup : Nat := 0) (ifs : Array Nat := #[]) (fds : Array FieldInfo := #[]) : ClassFile where
  minorVersion := 0
  majorVersion := 65
  constantPool := pool
  accessFlags := fl
  thisClass := this
  superClass := sup
  interfaces := ifs
  fields := fds
  methods := ms
  attributes := attrs
def plain (name : String) (sup : Option ClassId) : Class where
  name := name
  kind := .ordinary
  loader := none
  accessFlags := 33
  super := sup
  interfaces := #[]
  cf := none
  fields := #[]
  methods := #[]
  instanceTypes := #[]
  staticTypes := #[]
  resolved := #[]
  callSites := []
  init := .initialized
  statics := none
  mirror := none

def pool0 : Array CpInfo := pool [(5, u "<init>"), (0, u "()V"), (1, .class_ 10), (1, u "java/lang/Object")] 113

def k0m0 : Method := { name := "<init>", desc := "()V", sig := { parameters := [], returnType := none }, accessFlags := 1, code := none }
/-- java/lang/Object -/
def k0 : Class := { plain "java/lang/Object" none with
  accessFlags := 33
  interfaces := #[]
  cf := some (fileOf pool0 8 #[] #[{ accessFlags := 1, nameIndex := 5, descriptorIndex := 6, attributes := #[] }] 33 0 #[] #[])
  fields := #[]
  methods := #[k0m0]
  instanceTypes := #[]
  staticTypes := #[]
  resolved := Array.replicate 124 none
  statics := none }

def pool1 : Array CpInfo := pool [(2, .class_ 4), (1, u "java/lang/Object"), (0, u "<init>"), (0, u "()V"), (0, .methodref 8 9), (0, .class_ 10), (0, .nameAndType 11 12), (0, u "java/lang/Math"), (0, u "min"), (0, u "(II)I"), (0, .methodref 8 14), (0, .nameAndType 15 12), (0, u "max"), (0, .methodref 17 18), (0, .class_ 19), (0, .nameAndType 20 21), (0, u "com/example/since/since/model/NameTableHashPinLaw"), (0, u "term"), (0, u "([BIII)I"), (0, .integer 2654435769), (0, .methodref 24 25), (0, .class_ 26), (0, .nameAndType 27 28), (0, u "com/example/since/since/model/NameTable"), (0, u "hash"), (0, u "([BII)I"), (0, .methodref 17 30), (0, .nameAndType 31 32), (0, u "pow31"), (0, u "(I)I"), (0, .integer 923521), (0, .integer 28629151), (0, .integer 887503681), (0, .integer 1742810335), (2, u "law"), (0, u "(III)Z")] 5

def k1m0 : Method := { name := "<init>", desc := "()V", sig := { parameters := [], returnType := none }, accessFlags := 1, code := none }
def k1c1 : Code := { maxStack := 5, maxLocals := 11, code := code, exceptionTable := #[], attributes := #[] }
def k1m1 : Method := { name := "law", desc := "(III)Z", sig := { parameters := [.int, .int, .int], returnType := some .boolean }, accessFlags := 9, code := some k1c1 }
def k1c2 : Code := { maxStack := 3, maxLocals := 4, code := method_3_code, exceptionTable := #[], attributes := #[] }
def k1m2 : Method := { name := "term", desc := "([BIII)I", sig := { parameters := [(.array .byte), .int, .int, .int], returnType := some .int }, accessFlags := 10, code := some k1c2 }
def k1c3 : Code := { maxStack := 2, maxLocals := 1, code := method_4_code, exceptionTable := #[], attributes := #[] }
def k1m3 : Method := { name := "pow31", desc := "(I)I", sig := { parameters := [.int], returnType := some .int }, accessFlags := 10, code := some k1c3 }
/-- com/example/since/since/model/NameTableHashPinLaw -/
def k1 : Class := { plain "com/example/since/since/model/NameTableHashPinLaw" (some 0) with
  accessFlags := 49
  interfaces := #[]
  cf := some (fileOf pool1 17 #[] #[{ accessFlags := 1, nameIndex := 5, descriptorIndex := 6, attributes := #[] }, { accessFlags := 9, nameIndex := 39, descriptorIndex := 40, attributes := #[] }, { accessFlags := 10, nameIndex := 20, descriptorIndex := 21, attributes := #[] }, { accessFlags := 10, nameIndex := 31, descriptorIndex := 32, attributes := #[] }] 49 2 #[] #[])
  fields := #[]
  methods := #[k1m0, k1m1, k1m2, k1m3]
  instanceTypes := #[]
  staticTypes := #[]
  resolved := Array.replicate 46 none
  statics := none }

def pool2 : Array CpInfo := pool [(1, .class_ 2), (0, u "java/lang/Math"), (1, .class_ 6), (1, u "java/lang/Object"), (0, u "<init>"), (0, u "()V"), (89, .class_ 100), (1, u "java/lang/Math$RandomNumberGeneratorHolder"), (71, u "negativeZeroFloatBits"), (0, u "J"), (2, u "negativeZeroDoubleBits"), (21, u "max"), (2, u "min"), (43, u "$assertionsDisabled"), (0, u "Z"), (88, u "(II)I"), (2, u "twoToTheDoubleScaleDown"), (0, u "D"), (4, u "twoToTheDoubleScaleUp"), (9, u "E"), (3, u "PI"), (2, u "TAU"), (2, u "DEGREES_TO_RADIANS"), (0, u "RADIANS_TO_DEGREES")] 94

def k2m0 : Method := { name := "<init>", desc := "()V", sig := { parameters := [], returnType := none }, accessFlags := 2, code := none }
def k2c1 : Code := { maxStack := 2, maxLocals := 2, code := jdk_29_method_65_code, exceptionTable := #[], attributes := #[] }
def k2m1 : Method := { name := "max", desc := "(II)I", sig := { parameters := [.int, .int], returnType := some .int }, accessFlags := 9, code := some k2c1 }
def k2c2 : Code := { maxStack := 2, maxLocals := 2, code := jdk_29_method_69_code, exceptionTable := #[], attributes := #[] }
def k2m2 : Method := { name := "min", desc := "(II)I", sig := { parameters := [.int, .int], returnType := some .int }, accessFlags := 9, code := some k2c2 }
/-- java/lang/Math -/
def k2 : Class := { plain "java/lang/Math" (some 0) with
  accessFlags := 49
  interfaces := #[]
  cf := some (fileOf pool2 1 #[.nestMembers #[98]] #[{ accessFlags := 2, nameIndex := 7, descriptorIndex := 8, attributes := #[] }, { accessFlags := 9, nameIndex := 198, descriptorIndex := 335, attributes := #[] }, { accessFlags := 9, nameIndex := 201, descriptorIndex := 335, attributes := #[] }] 49 4 #[] #[{ accessFlags := 25, nameIndex := 354, descriptorIndex := 339, attributes := #[] }, { accessFlags := 25, nameIndex := 358, descriptorIndex := 339, attributes := #[] }, { accessFlags := 25, nameIndex := 361, descriptorIndex := 339, attributes := #[] }, { accessFlags := 26, nameIndex := 364, descriptorIndex := 339, attributes := #[] }, { accessFlags := 26, nameIndex := 365, descriptorIndex := 339, attributes := #[] }, { accessFlags := 26, nameIndex := 172, descriptorIndex := 173, attributes := #[] }, { accessFlags := 26, nameIndex := 176, descriptorIndex := 173, attributes := #[] }, { accessFlags := 8, nameIndex := 344, descriptorIndex := 339, attributes := #[] }, { accessFlags := 8, nameIndex := 338, descriptorIndex := 339, attributes := #[] }, { accessFlags := 4120, nameIndex := 245, descriptorIndex := 246, attributes := #[] }])
  fields := #[{ name := "E", type := .double, accessFlags := 25, slot := 0, constantValue := 0 }, { name := "PI", type := .double, accessFlags := 25, slot := 1, constantValue := 0 }, { name := "TAU", type := .double, accessFlags := 25, slot := 2, constantValue := 0 }, { name := "DEGREES_TO_RADIANS", type := .double, accessFlags := 26, slot := 3, constantValue := 0 }, { name := "RADIANS_TO_DEGREES", type := .double, accessFlags := 26, slot := 4, constantValue := 0 }, { name := "negativeZeroFloatBits", type := .long, accessFlags := 26, slot := 5, constantValue := 0 }, { name := "negativeZeroDoubleBits", type := .long, accessFlags := 26, slot := 6, constantValue := 0 }, { name := "twoToTheDoubleScaleUp", type := .double, accessFlags := 8, slot := 7, constantValue := 0 }, { name := "twoToTheDoubleScaleDown", type := .double, accessFlags := 8, slot := 8, constantValue := 0 }, { name := "$assertionsDisabled", type := .boolean, accessFlags := 4120, slot := 9, constantValue := 0 }]
  methods := #[k2m0, k2m1, k2m2]
  instanceTypes := #[]
  staticTypes := #[.double, .double, .double, .double, .double, .long, .long, .double, .double, .boolean]
  resolved := Array.replicate 460 none
  statics := none }

def pool3 : Array CpInfo := pool [(2, .class_ 4), (1, u "java/lang/Object"), (0, u "<init>"), (0, u "()V"), (1, .class_ 10), (1, u "com/example/since/since/model/NameTable"), (0, u "text"), (0, u "[B"), (5, u "ends"), (0, u "Lcom/example/since/since/model/IntList;"), (2, u "hashes"), (2, u "slots"), (0, u "[I"), (2, u "hash"), (0, u "([BII)I"), (47, u "textLength"), (0, u "I"), (38, .integer 2654435769)] 10

def k3m0 : Method := { name := "<init>", desc := "()V", sig := { parameters := [], returnType := none }, accessFlags := 0, code := none }
def k3c1 : Code := { maxStack := 3, maxLocals := 5, code := prog_48_method_12_code, exceptionTable := #[], attributes := #[] }
def k3m1 : Method := { name := "hash", desc := "([BII)I", sig := { parameters := [(.array .byte), .int, .int], returnType := some .int }, accessFlags := 8, code := some k3c1 }
/-- com/example/since/since/model/NameTable -/
def k3 : Class := { plain "com/example/since/since/model/NameTable" (some 0) with
  accessFlags := 48
  interfaces := #[]
  cf := some (fileOf pool3 8 #[] #[{ accessFlags := 0, nameIndex := 5, descriptorIndex := 6, attributes := #[] }, { accessFlags := 8, nameIndex := 29, descriptorIndex := 30, attributes := #[] }] 48 2 #[] #[{ accessFlags := 2, nameIndex := 11, descriptorIndex := 12, attributes := #[] }, { accessFlags := 2, nameIndex := 78, descriptorIndex := 79, attributes := #[] }, { accessFlags := 18, nameIndex := 18, descriptorIndex := 19, attributes := #[] }, { accessFlags := 18, nameIndex := 22, descriptorIndex := 19, attributes := #[] }, { accessFlags := 2, nameIndex := 25, descriptorIndex := 26, attributes := #[] }])
  fields := #[{ name := "text", type := (.array .byte), accessFlags := 2, slot := 0, constantValue := 0 }, { name := "textLength", type := .int, accessFlags := 2, slot := 1, constantValue := 0 }, { name := "ends", type := (.object "com/example/since/since/model/IntList"), accessFlags := 18, slot := 2, constantValue := 0 }, { name := "hashes", type := (.object "com/example/since/since/model/IntList"), accessFlags := 18, slot := 3, constantValue := 0 }, { name := "slots", type := (.array .int), accessFlags := 2, slot := 4, constantValue := 0 }]
  methods := #[k3m0, k3m1]
  instanceTypes := #[(.array .byte), .int, (.object "com/example/since/since/model/IntList"), (.object "com/example/since/since/model/IntList"), (.array .int)]
  staticTypes := #[]
  resolved := Array.replicate 129 none
  statics := none }

def pool4 : Array CpInfo := pool [(1, u "java/lang/Cloneable"), (0, .class_ 1), (0, u "java/lang/Object"), (0, .class_ 3)] 3

/-- java/lang/Cloneable -/
def k4 : Class := { plain "java/lang/Cloneable" (some 0) with
  accessFlags := 1537
  interfaces := #[]
  cf := some (fileOf pool4 2 #[] #[] 1537 4 #[] #[])
  fields := #[]
  methods := #[]
  instanceTypes := #[]
  staticTypes := #[]
  resolved := Array.replicate 8 none
  statics := none }

def pool5 : Array CpInfo := pool [(1, u "java/io/Serializable"), (0, .class_ 1), (0, u "java/lang/Object"), (0, .class_ 3)] 3

/-- java/io/Serializable -/
def k5 : Class := { plain "java/io/Serializable" (some 0) with
  accessFlags := 1537
  interfaces := #[]
  cf := some (fileOf pool5 2 #[] #[] 1537 4 #[] #[])
  fields := #[]
  methods := #[]
  instanceTypes := #[]
  staticTypes := #[]
  resolved := Array.replicate 8 none
  statics := none }

/-- the primitive byte -/
def k6 : Class := { plain "byte" none with kind := .primitive 'B', accessFlags := 0x411 }
/-- [B -/
def k7 : Class := { plain "[B" (some 0) with kind := .array 6 .byte, interfaces := #[4, 5], accessFlags := 1041 }

/-- the primitive int -/
def k8 : Class := { plain "int" none with kind := .primitive 'I', accessFlags := 0x411 }
/-- [I -/
def k9 : Class := { plain "[I" (some 0) with kind := .array 8 .int, interfaces := #[4, 5], accessFlags := 1041 }

def heap : Heap := #[]
def classes : Array Class := #[k0, k1, k2, k3, k4, k5, k6, k7, k8, k9]
def interned : List (Array UInt16 × Addr) := []
def slotsUsed : Nat := 0
def theMethod : MethodId := ⟨1, 1⟩
def args0 : Array Value := #[.int 5, .int 6, .int 7]
def aboutOver (below : List Frame) : State where
  vm := { classes := classes, interned := interned.toArray }
  heap := heap
  slotsUsed := slotsUsed
  threads := #[{ frames := .invoking theMethod args0 :: below }]
def below0 : List Frame := [.native { method := ⟨0, 0⟩, args := #[] }]
def about1 : State := aboutOver below0
def p0 : Program := .bare "" "" ""
def e0 : Env := launch0.env 0 0 0
theorem w_frames : about1.frames = Frame.invoking theMethod args0 :: below0 := rfl
set_option maxRecDepth 65536 in
theorem w_args : argsFit about1.vm theMethod args0 = true := by decide +kernel
set_option maxRecDepth 65536 in
theorem w_heap : heapFits about1 = true := by decide +kernel
set_option maxRecDepth 65536 in
theorem w_runnable : about1.curStatus? = some .runnable := by decide +kernel
set_option maxRecDepth 65536 in
theorem w_alone : about1.alone = true := by decide +kernel
set_option maxRecDepth 65536 in
theorem w_named : about1.methodNamed? x = some theMethod := by decide +kernel
set_option maxRecDepth 65536 in
theorem w_hears : about1.hears theMethod below0 = true := by decide +kernel
set_option maxRecDepth 65536 in
theorem w_ripe : about1.ripe theMethod args0 below0 = true := by decide +kernel
theorem w_running : about1.status = .running := rfl
set_option maxRecDepth 65536 in
theorem w_room : about1.hasRoom e0.platform room_1 = true :=
  launch0.hasRoom_least _ room_1 (by decide +kernel) (by decide +kernel) (by decide +kernel) (by decide +kernel) (by decide +kernel) (by decide +kernel)
theorem allAtoms_all (ts : List Jvm.Cond) (a : Array Jvm.Value) (st : Jvm.State) : (allAtoms ts).before a st = ts.all (fun c => c.before a st) := by
  induction ts with
  | nil => rfl
  | cons c t ih =>
    show (Jvm.Cond.and c (allAtoms t)).before a st = _
    rw [Jvm.Cond.before_and, ih, List.all_cons]
def words1 : List Jvm.Cond := Jvm.Cond.code x code maxLocals ret :: tables_1
/-- a 'code' word, met by the world's own term for the bytes: nothing is compared byte by byte -/
theorem code_word {y : MethodName} {bytes : ByteArray} {mx : Nat} {rt : Option FieldType} {a : Array Value} {s : State} {m : MethodId} {meth : Method} {c : Code} (h1 : s.methodNamed? y = some m) (h2 : s.vm.method? m = some meth) (h3 : meth.code = some c) (h4 : c.code = bytes)
    (h5 : (c.maxLocals == mx && c.exceptionTable.isEmpty && decide (c.maxStack ≤ mostOperands) && decide (meth.sig.returnType = rt) && !meth.locks && decide (parseMethodDescriptor y.desc = some meth.sig)) = true) : (Jvm.Cond.code y bytes mx rt).before a s = true := by
  simp only [Bool.and_eq_true, beq_iff_eq, Bool.not_eq_true', decide_eq_true_eq] at h5
  obtain ⟨⟨⟨⟨⟨g1, g2⟩, g3⟩, g4⟩, g5⟩, g6⟩ := h5
  simp [Cond.before, Cond.holds, Cond.value, h1, h2, h3, h4, g1, g2, g3, g4, g5, g6]
def isCode : Jvm.Cond → Bool
  | .code _ _ _ _ => true
  | _ => false
theorem all_split {L : List Jvm.Cond} {P : Jvm.Cond → Bool} (h1 : L.all (fun c => isCode c || P c) = true) (h2 : ∀ c ∈ L.filter isCode, P c = true) : L.all P = true := by
  refine List.all_eq_true.mpr fun c hc => ?_
  have h := List.all_eq_true.mp h1 c hc
  rcases Bool.eq_false_or_eq_true (isCode c) with hi | hi
  · exact h2 c (List.mem_filter.mpr ⟨hc, hi⟩)
  · simpa [hi] using h
set_option maxRecDepth 65536 in
theorem w_c0 : (Jvm.Cond.code x code maxLocals ret).before args0 about1 = true := code_word (m := ⟨1, 1⟩) (meth := k1m1) (c := k1c1) (by decide +kernel) rfl rfl rfl (by decide +kernel)
set_option maxRecDepth 65536 in
theorem w_c1 : (Jvm.Cond.code ({ cls := "java/lang/Math", name := "min", desc := "(II)I" } : Jvm.MethodName) jdk_29_method_69_code (2 : Nat) (Option.some Jvm.ClassFile.FieldType.int)).before args0 about1 = true := code_word (m := ⟨2, 2⟩) (meth := k2m2) (c := k2c2) (by decide +kernel) rfl rfl rfl (by decide +kernel)
set_option maxRecDepth 65536 in
theorem w_c2 : (Jvm.Cond.code ({ cls := "java/lang/Math", name := "max", desc := "(II)I" } : Jvm.MethodName) jdk_29_method_65_code (2 : Nat) (Option.some Jvm.ClassFile.FieldType.int)).before args0 about1 = true := code_word (m := ⟨2, 1⟩) (meth := k2m1) (c := k2c1) (by decide +kernel) rfl rfl rfl (by decide +kernel)
set_option maxRecDepth 65536 in
theorem w_c3 : (Jvm.Cond.code ({ cls := "com/example/since/since/model/NameTableHashPinLaw", name := "term", desc := "([BIII)I" } : Jvm.MethodName) method_3_code (4 : Nat) (Option.some Jvm.ClassFile.FieldType.int)).before args0 about1 = true := code_word (m := ⟨1, 2⟩) (meth := k1m2) (c := k1c2) (by decide +kernel) rfl rfl rfl (by decide +kernel)
set_option maxRecDepth 65536 in
theorem w_c4 : (Jvm.Cond.code ({ cls := "com/example/since/since/model/NameTableHashPinLaw", name := "pow31", desc := "(I)I" } : Jvm.MethodName) method_4_code (1 : Nat) (Option.some Jvm.ClassFile.FieldType.int)).before args0 about1 = true := code_word (m := ⟨1, 3⟩) (meth := k1m3) (c := k1c3) (by decide +kernel) rfl rfl rfl (by decide +kernel)
set_option maxRecDepth 65536 in
theorem w_c5 : (Jvm.Cond.code ({ cls := "com/example/since/since/model/NameTable", name := "hash", desc := "([BII)I" } : Jvm.MethodName) prog_48_method_12_code (5 : Nat) (Option.some Jvm.ClassFile.FieldType.int)).before args0 about1 = true := code_word (m := ⟨3, 1⟩) (meth := k3m1) (c := k3c1) (by decide +kernel) rfl rfl rfl (by decide +kernel)
def codes1 : List Jvm.Cond := [Jvm.Cond.code x code maxLocals ret, Jvm.Cond.code ({ cls := "java/lang/Math", name := "min", desc := "(II)I" } : Jvm.MethodName) jdk_29_method_69_code (2 : Nat) (Option.some Jvm.ClassFile.FieldType.int), Jvm.Cond.code ({ cls := "java/lang/Math", name := "max", desc := "(II)I" } : Jvm.MethodName) jdk_29_method_65_code (2 : Nat) (Option.some Jvm.ClassFile.FieldType.int), Jvm.Cond.code ({ cls := "com/example/since/since/model/NameTableHashPinLaw", name := "term", desc := "([BIII)I" } : Jvm.MethodName) method_3_code (4 : Nat) (Option.some Jvm.ClassFile.FieldType.int), Jvm.Cond.code ({ cls := "com/example/since/since/model/NameTableHashPinLaw", name := "pow31", desc := "(I)I" } : Jvm.MethodName) method_4_code (1 : Nat) (Option.some Jvm.ClassFile.FieldType.int), Jvm.Cond.code ({ cls := "com/example/since/since/model/NameTable", name := "hash", desc := "([BII)I" } : Jvm.MethodName) prog_48_method_12_code (5 : Nat) (Option.some Jvm.ClassFile.FieldType.int)]
set_option maxRecDepth 65536 in
theorem codes_eq : words1.filter isCode = codes1 := rfl
theorem w_codes : ∀ c ∈ words1.filter isCode, c.before args0 about1 = true := by
  rw [codes_eq]
  intro c hc
  simp only [codes1, List.mem_cons, List.not_mem_nil, or_false] at hc
  rcases hc with rfl | rfl | rfl | rfl | rfl | rfl
  · exact w_c0
  · exact w_c1
  · exact w_c2
  · exact w_c3
  · exact w_c4
  · exact w_c5
set_option maxRecDepth 65536 in
theorem w_t1 : (words1.take 24).all (fun c => isCode c || c.before args0 about1) = true := by decide +kernel
set_option maxRecDepth 65536 in
theorem w_t2 : (words1.drop 24).all (fun c => isCode c || c.before args0 about1) = true := by decide +kernel
theorem w_tables : (allAtoms (Jvm.Cond.code x code maxLocals ret :: tables_1)).before args0 about1 = true := by
  rw [allAtoms_all]
  show words1.all (fun c => c.before args0 about1) = true
  refine all_split ?_ w_codes
  rw [← List.take_append_drop 24 words1, List.all_append, w_t1, w_t2]
  rfl
set_option maxRecDepth 65536 in
theorem w_case : (Jvm.Cond.and given_1 narrow_1).before args0 about1 = true := by decide +kernel
theorem w_applies : (headSpec (Jvm.Cond.code x code maxLocals ret :: tables_1) room_1).applies x e0.platform about1 = true :=
  (Spec.applies_iff w_frames).mpr ⟨w_running, w_runnable, w_alone, w_named, w_hears, w_ripe, w_room, w_tables⟩
theorem atStart : AtStart classFile x code maxLocals ret World_1 tables_1 room_1 Calls_1 rest_1 Pre_1 launch0 p0 e0 about1 theMethod args0 below0 :=
  ⟨lists_1, trivial, launch0.admits_env _ _ _, launch0.least_env, fairChoices_fair.cas, fairChoices_fair.clock, w_frames, w_args, w_heap, w_applies, trivial, trivial, w_case⟩
end start1
theorem witness_1 : WitnessClaimed_1 := ⟨start1.p0, start1.e0, start1.about1, start1.theMethod, start1.args0, start1.below0, start1.atStart⟩
end Jvm.Pilot.@@N@@
