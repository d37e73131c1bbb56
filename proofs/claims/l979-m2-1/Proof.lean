import JvmDerived
import JvmDerived.Pilot.@@N@@Statement
import JvmDerived.Pilot.@@N@@Code
set_option linter.unusedVariables false
set_option linter.unusedSimpArgs false
namespace Jvm.RoadKit
open Sem ClassFile Op Lib Jvm.Stand Jvm.Free Jvm.LawKit
section New
variable {p : Program} {l : Launch} {e : Env} {R : Room} {s : State} {m : MethodId} {args : Array Value} {below : List Frame} {meth : Method} {c : Code} {T : State} {locs : List Loc} {cells slots : Nat}
theorem retI (X : Stand p l e R s m args below meth c T locs cells slots) (hx : p.tables.exec = Jvm.exec) {pc : Nat} {Ls : Array Slot} {z : Int32} {rest : List Value} (hret : meth.sig.returnType = some .int) (hd : decode c.code pc = .ok (.ireturn, 1)) {fs : List Frame}
    (hl : ∀ (f : JFrame) (acts : List Action), f.method = m → f.locked = none → f.entered = [] → (doReturn e (T.setTop f) acts (some (.int z))).1 = T.setFrames fs) : Steps p.tables e below (T.setTop (mkF m pc Ls (.int z :: rest))) (T.setFrames fs) := by
  have hm' : T.vm.method? m = some meth := X.method'
  have hn : narrow .int (.int z) = .int z := rfl
  show Steps p.tables e below (T.setTop { method := m, pc := pc, locals := Ls, stack := _ :: rest, locked := none }) _
  jvm_step X.here [X.here.top, hx, hd, hm', hret, hn]
  first | (intro acts; rw [hl _ acts rfl rfl rfl]) | rw [hl _ _ rfl rfl rfl]
  exact Steps.refl _
end New
end Jvm.RoadKit
namespace Jvm.Pilot.@@N@@
open Jvm Jvm.ClassFile Sem Op Lib Jvm.Free Jvm.Stand Jvm.LawKit Jvm.RoadKit Bundle Jvm.Pilot.@@N@@.Jvm.D
abbrev own_s (p : Program) (e : Env) (below : List Frame) (T : State) (m : MethodId) (pc : Nat) (L : Array Slot) (S : List Value) (t : State) : Prop := Steps p.tables e below (T.setTop (mkF m pc L S)) t
def own_up (f : Nat → Value) (i : Nat) (v : Value) : Nat → Value := fun j => if j = i then v else f j
def own_Af (Z : State) (h : Heap) (a : Addr) (ty : FieldType) (n : Nat) (f : Nat → Value) : Prop := ∃ c : Cell, Arr Z h a c ty ∧ c.slots.size = n ∧ n < 2 ^ 31 ∧ ∀ j, j < n → c.slots[j]? = some (f j)
theorem own_Af.lt {Z : State} {h : Heap} {a : Addr} {ty : FieldType} {n : Nat} {f : Nat → Value} (F : own_Af Z h a ty n f) : a < h.size := by obtain ⟨c, A, -⟩ := F; exact A.lt
theorem own_Af.ext {Z : State} {h h' : Heap} {a : Addr} {ty : FieldType} {n : Nat} {f : Nat → Value} (F : own_Af Z h a ty n f) (E : Ext h h') : own_Af Z h' a ty n f := by obtain ⟨c, A, r⟩ := F; exact ⟨c, A.ext E, r⟩
theorem own_Af.other {Z : State} {h h' : Heap} {a b : Addr} {ty : FieldType} {n : Nat} {f : Nat → Value} {sl : Nat} {v : Value} (F : own_Af Z h b ty n f) (W : Wr h h' a sl v) (q : b ≠ a) : own_Af Z h' b ty n f := by obtain ⟨c, A, r⟩ := F; exact ⟨c, A.other W q, r⟩
theorem own_Af.keep {Z : State} {h h' : Heap} {a : Addr} {ty : FieldType} {n : Nat} {f : Nat → Value} {ws : List Addr} (F : own_Af Z h a ty n f) (K : Keep h h' ws) (q : a ∉ ws) : own_Af Z h' a ty n f := by obtain ⟨c, A, r⟩ := F; exact ⟨c, ⟨K.2.1 a c A.1 q, A.2⟩, r⟩
theorem own_Af.new {Z : State} {h : Heap} {a : Addr} {ty : FieldType} {k : ClassId} {z : Int32} {n : Nat} {d : Value} (A : Arr Z h a (newA k ty z) ty) (q : ¬ z < 0) (hn : z.toNatClampNeg = n) (hd : defaultValue ty = d := by rfl) : own_Af Z h a ty n (fun _ => d) := by
  subst hn hd
  refine ⟨_, A, sz_new _ _ _, (back32 q).2, fun j hj => ?_⟩
  simp [newA, hj]
theorem own_Af.set {Z : State} {h h' : Heap} {a : Addr} {ty : FieldType} {n i : Nat} {f : Nat → Value} {v : Value} {c : Cell} (A : Arr Z h a c ty) (S : c.slots.size = n) (M : n < 2 ^ 31) (H : ∀ j, j < n → c.slots[j]? = some (f j)) (W : Wr h h' a i v) : own_Af Z h' a ty n (own_up f i v) := by
  refine ⟨_, A.same W, by rw [sz_set]; exact S, M, fun j hj => ?_⟩
  have := H j hj
  simp only [own_up, Cell.setSlot]
  by_cases e : j = i
  · subst e; simp [Array.getElem?_setIfInBounds, S, hj]
  · rw [if_neg e, Array.getElem?_setIfInBounds, if_neg (fun q => e q.symm)]; exact this
theorem own_inb {c : Cell} {n : Nat} {j : Int32} (S : c.slots.size = n) (M : n < 2 ^ 31) (q : ¬ j < 0 ∧ j.toNatClampNeg < n) : ¬ (j < 0 ∨ c.slots.size ≤ j.toNatClampNeg) := by
  rw [S]; exact fun z => z.elim q.1 (fun w => absurd q.2 (Nat.not_lt.mpr w))
theorem own_get {c : Cell} {n : Nat} {f : Nat → Value} {j : Int32} {v : Value} (H : ∀ j, j < n → c.slots[j]? = some (f j)) (S : c.slots.size = n) (q : ¬ j < 0 ∧ j.toNatClampNeg < n) (e : f j.toNatClampNeg = v) : c.slots[j.toNatClampNeg]? = some v := by
  rw [H _ q.2, e]
def own_P (c : Int32) : Bool := decide ((65 ≤ c.toInt ∧ c.toInt ≤ 90) ∨ (95 ≤ c.toInt ∧ c.toInt ≤ 95) ∨ (97 ≤ c.toInt ∧ c.toInt ≤ 122) ∨ (192 ≤ c.toInt ∧ c.toInt ≤ 214) ∨ (216 ≤ c.toInt ∧ c.toInt ≤ 246) ∨ (248 ≤ c.toInt ∧ c.toInt ≤ 767) ∨ (880 ≤ c.toInt ∧ c.toInt ≤ 893) ∨ (895 ≤ c.toInt ∧ c.toInt ≤ 8191) ∨ (8204 ≤ c.toInt ∧ c.toInt ≤ 8205) ∨ (8304 ≤ c.toInt ∧ c.toInt ≤ 8591) ∨ (11264 ≤ c.toInt ∧ c.toInt ≤ 12271) ∨ (12289 ≤ c.toInt ∧ c.toInt ≤ 55295) ∨ (63744 ≤ c.toInt ∧ c.toInt ≤ 64975) ∨ (65008 ≤ c.toInt ∧ c.toInt ≤ 65533) ∨ (65536 ≤ c.toInt ∧ c.toInt ≤ 983039))
def own_nc (c : Int32) : Int32 := if own_P c = true then 1 else 0
def own_ex (c : Int32) : Int32 := if own_P c = true then 0 else 1
theorem own_nc1 {c : Int32} (h : own_ex c = 0) : own_nc c = 1 := by
  unfold own_ex own_nc at *; by_cases q : own_P c = true
  · rw [if_pos q]
  · rw [if_neg q] at h; exact absurd h (by decide)
theorem own_nc0 {c : Int32} (h : ¬ own_ex c = 0) : own_nc c = 0 := by
  unfold own_ex own_nc at *; by_cases q : own_P c = true
  · rw [if_pos q] at h; exact absurd rfl h
  · rw [if_neg q]
def own_isI (f : Nat → Value) : Prop := ∀ j, ∃ z, f j = .int z
theorem own_isI.c (z : Int32) : own_isI (fun _ => .int z) := fun _ => ⟨z, rfl⟩
theorem own_isI.up {f : Nat → Value} (I : own_isI f) (i : Nat) (z : Int32) : own_isI (own_up f i (.int z)) := fun j => by
  unfold own_up; by_cases e : j = i
  · exact ⟨z, if_pos e⟩
  · rw [if_neg e]; exact I j
theorem own_idx {j : Int32} {n : Nat} (h0 : 0 ≤ j.toInt) (h1 : j.toInt < n) : ¬ j < 0 ∧ j.toNatClampNeg < n := by
  have q : ¬ j < 0 := fun w => by have := Int32.lt_iff_toInt_lt.mp w; have e : (0 : Int32).toInt = 0 := rfl; omega
  exact ⟨q, by have := nat_of q; omega⟩
theorem d1_0 : decode prog_51_method_9_code 0 = .ok (.iload_n 0, 1) := by decide +kernel
theorem d1_1 : decode prog_51_method_9_code 1 = .ok (.bipush 65, 2) := by decide +kernel
theorem d1_3 : decode prog_51_method_9_code 3 = .ok (.if_icmp .lt 9, 3) := by decide +kernel
theorem d1_6 : decode prog_51_method_9_code 6 = .ok (.iload_n 0, 1) := by decide +kernel
theorem d1_7 : decode prog_51_method_9_code 7 = .ok (.bipush 90, 2) := by decide +kernel
theorem d1_9 : decode prog_51_method_9_code 9 = .ok (.if_icmp .le 182, 3) := by decide +kernel
theorem d1_12 : decode prog_51_method_9_code 12 = .ok (.iload_n 0, 1) := by decide +kernel
theorem d1_13 : decode prog_51_method_9_code 13 = .ok (.bipush 95, 2) := by decide +kernel
theorem d1_15 : decode prog_51_method_9_code 15 = .ok (.if_icmp .eq 176, 3) := by decide +kernel
theorem d1_18 : decode prog_51_method_9_code 18 = .ok (.iload_n 0, 1) := by decide +kernel
theorem d1_19 : decode prog_51_method_9_code 19 = .ok (.bipush 97, 2) := by decide +kernel
theorem d1_21 : decode prog_51_method_9_code 21 = .ok (.if_icmp .lt 9, 3) := by decide +kernel
theorem d1_24 : decode prog_51_method_9_code 24 = .ok (.iload_n 0, 1) := by decide +kernel
theorem d1_25 : decode prog_51_method_9_code 25 = .ok (.bipush 122, 2) := by decide +kernel
theorem d1_27 : decode prog_51_method_9_code 27 = .ok (.if_icmp .le 164, 3) := by decide +kernel
theorem d1_30 : decode prog_51_method_9_code 30 = .ok (.iload_n 0, 1) := by decide +kernel
theorem d1_31 : decode prog_51_method_9_code 31 = .ok (.sipush 192, 3) := by decide +kernel
theorem d1_34 : decode prog_51_method_9_code 34 = .ok (.if_icmp .lt 10, 3) := by decide +kernel
theorem d1_37 : decode prog_51_method_9_code 37 = .ok (.iload_n 0, 1) := by decide +kernel
theorem d1_38 : decode prog_51_method_9_code 38 = .ok (.sipush 214, 3) := by decide +kernel
theorem d1_41 : decode prog_51_method_9_code 41 = .ok (.if_icmp .le 150, 3) := by decide +kernel
theorem d1_44 : decode prog_51_method_9_code 44 = .ok (.iload_n 0, 1) := by decide +kernel
theorem d1_45 : decode prog_51_method_9_code 45 = .ok (.sipush 216, 3) := by decide +kernel
theorem d1_48 : decode prog_51_method_9_code 48 = .ok (.if_icmp .lt 10, 3) := by decide +kernel
theorem d1_51 : decode prog_51_method_9_code 51 = .ok (.iload_n 0, 1) := by decide +kernel
theorem d1_52 : decode prog_51_method_9_code 52 = .ok (.sipush 246, 3) := by decide +kernel
theorem d1_55 : decode prog_51_method_9_code 55 = .ok (.if_icmp .le 136, 3) := by decide +kernel
theorem d1_58 : decode prog_51_method_9_code 58 = .ok (.iload_n 0, 1) := by decide +kernel
theorem d1_59 : decode prog_51_method_9_code 59 = .ok (.sipush 248, 3) := by decide +kernel
theorem d1_62 : decode prog_51_method_9_code 62 = .ok (.if_icmp .lt 10, 3) := by decide +kernel
theorem d1_65 : decode prog_51_method_9_code 65 = .ok (.iload_n 0, 1) := by decide +kernel
theorem d1_66 : decode prog_51_method_9_code 66 = .ok (.sipush 767, 3) := by decide +kernel
theorem d1_69 : decode prog_51_method_9_code 69 = .ok (.if_icmp .le 122, 3) := by decide +kernel
theorem d1_72 : decode prog_51_method_9_code 72 = .ok (.iload_n 0, 1) := by decide +kernel
theorem d1_73 : decode prog_51_method_9_code 73 = .ok (.sipush 880, 3) := by decide +kernel
theorem d1_76 : decode prog_51_method_9_code 76 = .ok (.if_icmp .lt 10, 3) := by decide +kernel
theorem d1_79 : decode prog_51_method_9_code 79 = .ok (.iload_n 0, 1) := by decide +kernel
theorem d1_80 : decode prog_51_method_9_code 80 = .ok (.sipush 893, 3) := by decide +kernel
theorem d1_83 : decode prog_51_method_9_code 83 = .ok (.if_icmp .le 108, 3) := by decide +kernel
theorem d1_86 : decode prog_51_method_9_code 86 = .ok (.iload_n 0, 1) := by decide +kernel
theorem d1_87 : decode prog_51_method_9_code 87 = .ok (.sipush 895, 3) := by decide +kernel
theorem d1_90 : decode prog_51_method_9_code 90 = .ok (.if_icmp .lt 10, 3) := by decide +kernel
theorem d1_93 : decode prog_51_method_9_code 93 = .ok (.iload_n 0, 1) := by decide +kernel
theorem d1_94 : decode prog_51_method_9_code 94 = .ok (.sipush 8191, 3) := by decide +kernel
theorem d1_97 : decode prog_51_method_9_code 97 = .ok (.if_icmp .le 94, 3) := by decide +kernel
theorem d1_100 : decode prog_51_method_9_code 100 = .ok (.iload_n 0, 1) := by decide +kernel
theorem d1_101 : decode prog_51_method_9_code 101 = .ok (.sipush 8204, 3) := by decide +kernel
theorem d1_104 : decode prog_51_method_9_code 104 = .ok (.if_icmp .lt 10, 3) := by decide +kernel
theorem d1_107 : decode prog_51_method_9_code 107 = .ok (.iload_n 0, 1) := by decide +kernel
theorem d1_108 : decode prog_51_method_9_code 108 = .ok (.sipush 8205, 3) := by decide +kernel
theorem d1_111 : decode prog_51_method_9_code 111 = .ok (.if_icmp .le 80, 3) := by decide +kernel
theorem d1_114 : decode prog_51_method_9_code 114 = .ok (.iload_n 0, 1) := by decide +kernel
theorem d1_115 : decode prog_51_method_9_code 115 = .ok (.sipush 8304, 3) := by decide +kernel
theorem d1_118 : decode prog_51_method_9_code 118 = .ok (.if_icmp .lt 10, 3) := by decide +kernel
theorem d1_121 : decode prog_51_method_9_code 121 = .ok (.iload_n 0, 1) := by decide +kernel
theorem d1_122 : decode prog_51_method_9_code 122 = .ok (.sipush 8591, 3) := by decide +kernel
theorem d1_125 : decode prog_51_method_9_code 125 = .ok (.if_icmp .le 66, 3) := by decide +kernel
theorem d1_128 : decode prog_51_method_9_code 128 = .ok (.iload_n 0, 1) := by decide +kernel
theorem d1_129 : decode prog_51_method_9_code 129 = .ok (.sipush 11264, 3) := by decide +kernel
theorem d1_132 : decode prog_51_method_9_code 132 = .ok (.if_icmp .lt 10, 3) := by decide +kernel
theorem d1_135 : decode prog_51_method_9_code 135 = .ok (.iload_n 0, 1) := by decide +kernel
theorem d1_136 : decode prog_51_method_9_code 136 = .ok (.sipush 12271, 3) := by decide +kernel
theorem d1_139 : decode prog_51_method_9_code 139 = .ok (.if_icmp .le 52, 3) := by decide +kernel
theorem d1_142 : decode prog_51_method_9_code 142 = .ok (.iload_n 0, 1) := by decide +kernel
theorem d1_143 : decode prog_51_method_9_code 143 = .ok (.sipush 12289, 3) := by decide +kernel
theorem d1_146 : decode prog_51_method_9_code 146 = .ok (.if_icmp .lt 9, 3) := by decide +kernel
theorem d1_149 : decode prog_51_method_9_code 149 = .ok (.iload_n 0, 1) := by decide +kernel
theorem d1_150 : decode prog_51_method_9_code 150 = .ok (.ldc 7, 2) := by decide +kernel
theorem d1_152 : decode prog_51_method_9_code 152 = .ok (.if_icmp .le 39, 3) := by decide +kernel
theorem d1_155 : decode prog_51_method_9_code 155 = .ok (.iload_n 0, 1) := by decide +kernel
theorem d1_156 : decode prog_51_method_9_code 156 = .ok (.ldc 65, 2) := by decide +kernel
theorem d1_158 : decode prog_51_method_9_code 158 = .ok (.if_icmp .lt 9, 3) := by decide +kernel
theorem d1_161 : decode prog_51_method_9_code 161 = .ok (.iload_n 0, 1) := by decide +kernel
theorem d1_162 : decode prog_51_method_9_code 162 = .ok (.ldc 66, 2) := by decide +kernel
theorem d1_164 : decode prog_51_method_9_code 164 = .ok (.if_icmp .le 27, 3) := by decide +kernel
theorem d1_167 : decode prog_51_method_9_code 167 = .ok (.iload_n 0, 1) := by decide +kernel
theorem d1_168 : decode prog_51_method_9_code 168 = .ok (.ldc 67, 2) := by decide +kernel
theorem d1_170 : decode prog_51_method_9_code 170 = .ok (.if_icmp .lt 9, 3) := by decide +kernel
theorem d1_173 : decode prog_51_method_9_code 173 = .ok (.iload_n 0, 1) := by decide +kernel
theorem d1_174 : decode prog_51_method_9_code 174 = .ok (.ldc 9, 2) := by decide +kernel
theorem d1_176 : decode prog_51_method_9_code 176 = .ok (.if_icmp .le 15, 3) := by decide +kernel
theorem d1_179 : decode prog_51_method_9_code 179 = .ok (.iload_n 0, 1) := by decide +kernel
theorem d1_180 : decode prog_51_method_9_code 180 = .ok (.ldc 10, 2) := by decide +kernel
theorem d1_182 : decode prog_51_method_9_code 182 = .ok (.if_icmp .lt 13, 3) := by decide +kernel
theorem d1_185 : decode prog_51_method_9_code 185 = .ok (.iload_n 0, 1) := by decide +kernel
theorem d1_186 : decode prog_51_method_9_code 186 = .ok (.ldc 68, 2) := by decide +kernel
theorem d1_188 : decode prog_51_method_9_code 188 = .ok (.if_icmp .gt 7, 3) := by decide +kernel
theorem d1_191 : decode prog_51_method_9_code 191 = .ok (.iconst 1, 1) := by decide +kernel
theorem d1_192 : decode prog_51_method_9_code 192 = .ok (.goto 4, 3) := by decide +kernel
theorem d1_195 : decode prog_51_method_9_code 195 = .ok (.iconst 0, 1) := by decide +kernel
theorem d1_196 : decode prog_51_method_9_code 196 = .ok (.ireturn, 1) := by decide +kernel
theorem pn_1 : plainName "com/example/osier/osier/xml/XmlChars" = true := by first | (simp [plainName, overriddenIn]; done) | decide +kernel
theorem ef_1 (m : MethodId) (p0 : Int32) : entryFrame m #[(.int p0)] 1 = mkF m 0 #[iv p0] [] := by first | (simp [entryFrame, mkF, argsToLocals, Value.category]; done) | rfl
def Q1 (Z : State) (p0 : Int32) (h0 : Heap) (n0 : Nat) (v : Option Value) (h : Heap) (L : List Loc) : Prop := v = some (.int (own_nc p0)) ∧ Fr n0 L ∧ h = h0
set_option maxRecDepth 65536 in
set_option maxHeartbeats 40000000 in
theorem rm1 (l : Launch) (Z : State) (a0 : Array Value) (hw : ∀ d ∈ tables_1, d.before a0 Z = true) (ws : List Jvm.Cond) (p0 : Int32) (h0 : Heap) (n0 : Nat) (Z0 : n0 ≤ h0.size)  :
    MetFree l (⟨"com/example/osier/osier/xml/XmlChars", "isNcNameStartChar", "(I)Z"⟩ : MethodName) (head1 (Jvm.Cond.code (⟨"com/example/osier/osier/xml/XmlChars", "isNcNameStartChar", "(I)Z"⟩ : MethodName) prog_51_method_9_code 1 (some .boolean) :: ws) ({ frames := 0, cells := 0, slots := 0, locals := 0 } : Room)) (fun aX UX => aX = #[(.int p0)] ∧ Z.Warmed39 UX.vm ∧ UX.heap = h0) (fun _ _ _ _ _ => True) (fun _ UX oX UY => ∃ vX LX, oX = .returned vX ∧ Q1 Z p0 h0 n0 vX UY.heap LX ∧ FrameEnd UX oX UY LX ({ frames := 0, cells := 0, slots := 0, locals := 0 } : Room).cells ({ frames := 0, cells := 0, slots := 0, locals := 0 } : Room).slots) := by
  refine MetFree.of_bodySF (plainFor_of_name pn_1) hisR ?_
  intro p e s m args below meth c s₁ Bd hml0 hP hK
  obtain ⟨rfl, hZ, hh⟩ := hP
  have hx := Bd.exec
  have hby := Bd.bytes
  have hml : c.maxLocals = 1 := hml0
  have hown : s.vm.findClass "com/example/osier/osier/xml/XmlChars" = some m.cls := findClass_of_methodNamed Bd.named
  have hnm := (name_of_methodNamed Bd.named Bd.method).1
  have X0 : Stand p l e ({ frames := 0, cells := 0, slots := 0, locals := 0 } : Room) s m #[(.int p0)] below meth c s₁ [] 0 0 := Stand.of_body Bd
  have e0 : s₁.heap = h0 := by rw [← hh, Bd.state]; rfl
  have N0 := Fr.nil n0
  have pre0 : ∀ t, Steps p.tables e below (s₁.setTop (mkF m 0 #[iv p0] [])) t → Steps p.tables e below (s₁.setTop (entryFrame m #[(.int p0)] 1)) t := fun t k => castTop (ef_1 m p0) k
  obtain ⟨S0, hS0⟩ : ∃ z, z = (s₁.setTop (entryFrame m #[(.int p0)] 1)) := ⟨_, rfl⟩
  rw [← hS0] at pre0
  have pre1 : ∀ t, own_s p e below s₁ m 3 #[iv p0] [(.int (65 : Int32)), (.int p0)] t → Steps p.tables e below S0 t := by
    intro tX kX
    refine pre0 _ ?_
    show own_s p e below s₁ m 0 #[iv p0] [] _
    refine XS.iloadN X0.here hx rfl (hb hby d1_0) rfl ?_
    show own_s p e below s₁ m 1 #[iv p0] [(.int p0)] _
    refine XS.bipush X0.here hx rfl (hb hby d1_1) ?_
    exact kX
  by_cases hc2 : p0 < (65 : Int32)
  · skip
    have ihc2 : (p0).toInt < (65 : Int) := Int32.lt_iff_toInt_lt.mp hc2
    have pre3 : ∀ t, own_s p e below s₁ m 196 #[iv p0] [(.int (0 : Int32))] t → Steps p.tables e below S0 t := by
      intro tX kX
      refine pre1 _ ?_
      show own_s p e below s₁ m 3 #[iv p0] [(.int (65 : Int32)), (.int p0)] _
      refine XS.icmpYes X0.here hx rfl (pc0 := 3) (pc' := 12) rfl (hb hby d1_3) rfl (tlt hc2).1 (by decide) (by decide) ?_
      show own_s p e below s₁ m 12 #[iv p0] [] _
      refine XS.iloadN X0.here hx rfl (hb hby d1_12) rfl ?_
      show own_s p e below s₁ m 13 #[iv p0] [(.int p0)] _
      refine XS.bipush X0.here hx rfl (hb hby d1_13) ?_
      show own_s p e below s₁ m 15 #[iv p0] [(.int (95 : Int32)), (.int p0)] _
      refine XS.icmpNo X0.here hx rfl (hb hby d1_15) rfl (feq (show ¬ (p0 = (95 : Int32)) from (fun q => absurd (show (p0).toInt = (95 : Int) from congrArg Int32.toInt q) (by omega)))).1 ?_
      show own_s p e below s₁ m 18 #[iv p0] [] _
      refine XS.iloadN X0.here hx rfl (hb hby d1_18) rfl ?_
      show own_s p e below s₁ m 19 #[iv p0] [(.int p0)] _
      refine XS.bipush X0.here hx rfl (hb hby d1_19) ?_
      show own_s p e below s₁ m 21 #[iv p0] [(.int (97 : Int32)), (.int p0)] _
      refine XS.icmpYes X0.here hx rfl (pc0 := 21) (pc' := 30) rfl (hb hby d1_21) rfl (tlt (show p0 < (97 : Int32) from (Int32.lt_iff_toInt_lt.mpr (by omega : (p0).toInt < (97 : Int))))).1 (by decide) (by decide) ?_
      show own_s p e below s₁ m 30 #[iv p0] [] _
      refine XS.iloadN X0.here hx rfl (hb hby d1_30) rfl ?_
      show own_s p e below s₁ m 31 #[iv p0] [(.int p0)] _
      refine XS.sipush X0.here hx rfl (hb hby d1_31) ?_
      show own_s p e below s₁ m 34 #[iv p0] [(.int (192 : Int32)), (.int p0)] _
      refine XS.icmpYes X0.here hx rfl (pc0 := 34) (pc' := 44) rfl (hb hby d1_34) rfl (tlt (show p0 < (192 : Int32) from (Int32.lt_iff_toInt_lt.mpr (by omega : (p0).toInt < (192 : Int))))).1 (by decide) (by decide) ?_
      show own_s p e below s₁ m 44 #[iv p0] [] _
      refine XS.iloadN X0.here hx rfl (hb hby d1_44) rfl ?_
      show own_s p e below s₁ m 45 #[iv p0] [(.int p0)] _
      refine XS.sipush X0.here hx rfl (hb hby d1_45) ?_
      show own_s p e below s₁ m 48 #[iv p0] [(.int (216 : Int32)), (.int p0)] _
      refine XS.icmpYes X0.here hx rfl (pc0 := 48) (pc' := 58) rfl (hb hby d1_48) rfl (tlt (show p0 < (216 : Int32) from (Int32.lt_iff_toInt_lt.mpr (by omega : (p0).toInt < (216 : Int))))).1 (by decide) (by decide) ?_
      show own_s p e below s₁ m 58 #[iv p0] [] _
      refine XS.iloadN X0.here hx rfl (hb hby d1_58) rfl ?_
      show own_s p e below s₁ m 59 #[iv p0] [(.int p0)] _
      refine XS.sipush X0.here hx rfl (hb hby d1_59) ?_
      show own_s p e below s₁ m 62 #[iv p0] [(.int (248 : Int32)), (.int p0)] _
      refine XS.icmpYes X0.here hx rfl (pc0 := 62) (pc' := 72) rfl (hb hby d1_62) rfl (tlt (show p0 < (248 : Int32) from (Int32.lt_iff_toInt_lt.mpr (by omega : (p0).toInt < (248 : Int))))).1 (by decide) (by decide) ?_
      show own_s p e below s₁ m 72 #[iv p0] [] _
      refine XS.iloadN X0.here hx rfl (hb hby d1_72) rfl ?_
      show own_s p e below s₁ m 73 #[iv p0] [(.int p0)] _
      refine XS.sipush X0.here hx rfl (hb hby d1_73) ?_
      show own_s p e below s₁ m 76 #[iv p0] [(.int (880 : Int32)), (.int p0)] _
      refine XS.icmpYes X0.here hx rfl (pc0 := 76) (pc' := 86) rfl (hb hby d1_76) rfl (tlt (show p0 < (880 : Int32) from (Int32.lt_iff_toInt_lt.mpr (by omega : (p0).toInt < (880 : Int))))).1 (by decide) (by decide) ?_
      show own_s p e below s₁ m 86 #[iv p0] [] _
      refine XS.iloadN X0.here hx rfl (hb hby d1_86) rfl ?_
      show own_s p e below s₁ m 87 #[iv p0] [(.int p0)] _
      refine XS.sipush X0.here hx rfl (hb hby d1_87) ?_
      show own_s p e below s₁ m 90 #[iv p0] [(.int (895 : Int32)), (.int p0)] _
      refine XS.icmpYes X0.here hx rfl (pc0 := 90) (pc' := 100) rfl (hb hby d1_90) rfl (tlt (show p0 < (895 : Int32) from (Int32.lt_iff_toInt_lt.mpr (by omega : (p0).toInt < (895 : Int))))).1 (by decide) (by decide) ?_
      show own_s p e below s₁ m 100 #[iv p0] [] _
      refine XS.iloadN X0.here hx rfl (hb hby d1_100) rfl ?_
      show own_s p e below s₁ m 101 #[iv p0] [(.int p0)] _
      refine XS.sipush X0.here hx rfl (hb hby d1_101) ?_
      show own_s p e below s₁ m 104 #[iv p0] [(.int (8204 : Int32)), (.int p0)] _
      refine XS.icmpYes X0.here hx rfl (pc0 := 104) (pc' := 114) rfl (hb hby d1_104) rfl (tlt (show p0 < (8204 : Int32) from (Int32.lt_iff_toInt_lt.mpr (by omega : (p0).toInt < (8204 : Int))))).1 (by decide) (by decide) ?_
      show own_s p e below s₁ m 114 #[iv p0] [] _
      refine XS.iloadN X0.here hx rfl (hb hby d1_114) rfl ?_
      show own_s p e below s₁ m 115 #[iv p0] [(.int p0)] _
      refine XS.sipush X0.here hx rfl (hb hby d1_115) ?_
      show own_s p e below s₁ m 118 #[iv p0] [(.int (8304 : Int32)), (.int p0)] _
      refine XS.icmpYes X0.here hx rfl (pc0 := 118) (pc' := 128) rfl (hb hby d1_118) rfl (tlt (show p0 < (8304 : Int32) from (Int32.lt_iff_toInt_lt.mpr (by omega : (p0).toInt < (8304 : Int))))).1 (by decide) (by decide) ?_
      show own_s p e below s₁ m 128 #[iv p0] [] _
      refine XS.iloadN X0.here hx rfl (hb hby d1_128) rfl ?_
      show own_s p e below s₁ m 129 #[iv p0] [(.int p0)] _
      refine XS.sipush X0.here hx rfl (hb hby d1_129) ?_
      show own_s p e below s₁ m 132 #[iv p0] [(.int (11264 : Int32)), (.int p0)] _
      refine XS.icmpYes X0.here hx rfl (pc0 := 132) (pc' := 142) rfl (hb hby d1_132) rfl (tlt (show p0 < (11264 : Int32) from (Int32.lt_iff_toInt_lt.mpr (by omega : (p0).toInt < (11264 : Int))))).1 (by decide) (by decide) ?_
      show own_s p e below s₁ m 142 #[iv p0] [] _
      refine XS.iloadN X0.here hx rfl (hb hby d1_142) rfl ?_
      show own_s p e below s₁ m 143 #[iv p0] [(.int p0)] _
      refine XS.sipush X0.here hx rfl (hb hby d1_143) ?_
      show own_s p e below s₁ m 146 #[iv p0] [(.int (12289 : Int32)), (.int p0)] _
      refine XS.icmpYes X0.here hx rfl (pc0 := 146) (pc' := 155) rfl (hb hby d1_146) rfl (tlt (show p0 < (12289 : Int32) from (Int32.lt_iff_toInt_lt.mpr (by omega : (p0).toInt < (12289 : Int))))).1 (by decide) (by decide) ?_
      show own_s p e below s₁ m 155 #[iv p0] [] _
      refine XS.iloadN X0.here hx rfl (hb hby d1_155) rfl ?_
      show own_s p e below s₁ m 156 #[iv p0] [(.int p0)] _
      refine X0.ldcInt hx hown (mvT hZ (hw _ (List.mem_of_getElem? (i := 15) rfl))) (g := (mkF m 156 #[iv p0] [(.int p0)])) rfl (hb hby d1_156) _ ?_
      show own_s p e below s₁ m 158 #[iv p0] [(.int (63744 : Int32)), (.int p0)] _
      refine XS.icmpYes X0.here hx rfl (pc0 := 158) (pc' := 167) rfl (hb hby d1_158) rfl (tlt (show p0 < (63744 : Int32) from (Int32.lt_iff_toInt_lt.mpr (by omega : (p0).toInt < (63744 : Int))))).1 (by decide) (by decide) ?_
      show own_s p e below s₁ m 167 #[iv p0] [] _
      refine XS.iloadN X0.here hx rfl (hb hby d1_167) rfl ?_
      show own_s p e below s₁ m 168 #[iv p0] [(.int p0)] _
      refine X0.ldcInt hx hown (mvT hZ (hw _ (List.mem_of_getElem? (i := 16) rfl))) (g := (mkF m 168 #[iv p0] [(.int p0)])) rfl (hb hby d1_168) _ ?_
      show own_s p e below s₁ m 170 #[iv p0] [(.int (65008 : Int32)), (.int p0)] _
      refine XS.icmpYes X0.here hx rfl (pc0 := 170) (pc' := 179) rfl (hb hby d1_170) rfl (tlt (show p0 < (65008 : Int32) from (Int32.lt_iff_toInt_lt.mpr (by omega : (p0).toInt < (65008 : Int))))).1 (by decide) (by decide) ?_
      show own_s p e below s₁ m 179 #[iv p0] [] _
      refine XS.iloadN X0.here hx rfl (hb hby d1_179) rfl ?_
      show own_s p e below s₁ m 180 #[iv p0] [(.int p0)] _
      refine X0.ldcInt hx hown (mvT hZ (hw _ (List.mem_of_getElem? (i := 17) rfl))) (g := (mkF m 180 #[iv p0] [(.int p0)])) rfl (hb hby d1_180) _ ?_
      show own_s p e below s₁ m 182 #[iv p0] [(.int (65536 : Int32)), (.int p0)] _
      refine XS.icmpYes X0.here hx rfl (pc0 := 182) (pc' := 195) rfl (hb hby d1_182) rfl (tlt (show p0 < (65536 : Int32) from (Int32.lt_iff_toInt_lt.mpr (by omega : (p0).toInt < (65536 : Int))))).1 (by decide) (by decide) ?_
      show own_s p e below s₁ m 195 #[iv p0] [] _
      refine XS.iconst X0.here hx rfl (hb hby d1_195) ?_
      exact kX
    subst hS0
    obtain ⟨fs, hr, hrun, hended, hW, hsame⟩ := X0.leave (v := (some (.int (0 : Int32)))) (fun h => by rw [Bd.returns] at h; cases h)
    refine ⟨_, _, pre3 _ (retN X0 hx (t := .boolean) Bd.returns (by simp) (hb hby d1_196) hr), hrun, hended, _, _, rfl, ?_, ⟨_, rfl⟩, hW, hsame.mono (by decide) (by decide)⟩
    show Q1 Z p0 h0 n0 (some (.int (0 : Int32))) s₁.heap _
    exact ⟨congrArg (fun z => some (Value.int z)) (show (0 : Int32) = own_nc p0 from (if_neg (show ¬ own_P p0 = true from fun q => absurd (of_decide_eq_true q) (by omega))).symm), N0, e0⟩
  · skip
    have ihc2 : ¬ ((p0).toInt < (65 : Int)) := fun q => hc2 (Int32.lt_iff_toInt_lt.mpr q)
    have pre4 : ∀ t, own_s p e below s₁ m 9 #[iv p0] [(.int (90 : Int32)), (.int p0)] t → Steps p.tables e below S0 t := by
      intro tX kX
      refine pre1 _ ?_
      show own_s p e below s₁ m 3 #[iv p0] [(.int (65 : Int32)), (.int p0)] _
      refine XS.icmpNo X0.here hx rfl (hb hby d1_3) rfl (flt hc2).1 ?_
      show own_s p e below s₁ m 6 #[iv p0] [] _
      refine XS.iloadN X0.here hx rfl (hb hby d1_6) rfl ?_
      show own_s p e below s₁ m 7 #[iv p0] [(.int p0)] _
      refine XS.bipush X0.here hx rfl (hb hby d1_7) ?_
      exact kX
    by_cases hc5 : (90 : Int32) < p0
    · skip
      have ihc5 : (90 : Int) < (p0).toInt := Int32.lt_iff_toInt_lt.mp hc5
      have pre6 : ∀ t, own_s p e below s₁ m 15 #[iv p0] [(.int (95 : Int32)), (.int p0)] t → Steps p.tables e below S0 t := by
        intro tX kX
        refine pre4 _ ?_
        show own_s p e below s₁ m 9 #[iv p0] [(.int (90 : Int32)), (.int p0)] _
        refine XS.icmpNo X0.here hx rfl (hb hby d1_9) rfl (tlt hc5).2.2.2 ?_
        show own_s p e below s₁ m 12 #[iv p0] [] _
        refine XS.iloadN X0.here hx rfl (hb hby d1_12) rfl ?_
        show own_s p e below s₁ m 13 #[iv p0] [(.int p0)] _
        refine XS.bipush X0.here hx rfl (hb hby d1_13) ?_
        exact kX
      by_cases hc7 : p0 = (95 : Int32)
      · skip
        have ihc7 : (p0).toInt = (95 : Int) := congrArg Int32.toInt hc7
        have pre8 : ∀ t, own_s p e below s₁ m 196 #[iv p0] [(.int (1 : Int32))] t → Steps p.tables e below S0 t := by
          intro tX kX
          refine pre6 _ ?_
          show own_s p e below s₁ m 15 #[iv p0] [(.int (95 : Int32)), (.int p0)] _
          refine XS.icmpYes X0.here hx rfl (pc0 := 15) (pc' := 191) rfl (hb hby d1_15) rfl (teq hc7).1 (by decide) (by decide) ?_
          show own_s p e below s₁ m 191 #[iv p0] [] _
          refine XS.iconst X0.here hx rfl (hb hby d1_191) ?_
          show own_s p e below s₁ m 192 #[iv p0] [(.int (1 : Int32))] _
          refine XS.goto X0.here hx rfl (pc0 := 192) (pc' := 196) rfl (hb hby d1_192) (by decide) (by decide) ?_
          exact kX
        subst hS0
        obtain ⟨fs, hr, hrun, hended, hW, hsame⟩ := X0.leave (v := (some (.int (1 : Int32)))) (fun h => by rw [Bd.returns] at h; cases h)
        refine ⟨_, _, pre8 _ (retN X0 hx (t := .boolean) Bd.returns (by simp) (hb hby d1_196) hr), hrun, hended, _, _, rfl, ?_, ⟨_, rfl⟩, hW, hsame.mono (by decide) (by decide)⟩
        show Q1 Z p0 h0 n0 (some (.int (1 : Int32))) s₁.heap _
        exact ⟨congrArg (fun z => some (Value.int z)) (show (1 : Int32) = own_nc p0 from (if_pos (show own_P p0 = true from decide_eq_true (by omega))).symm), N0, e0⟩
      · skip
        have ihc7 : ¬ ((p0).toInt = (95 : Int)) := fun q => hc7 (Int32.toInt_inj.mp q)
        have pre9 : ∀ t, own_s p e below s₁ m 21 #[iv p0] [(.int (97 : Int32)), (.int p0)] t → Steps p.tables e below S0 t := by
          intro tX kX
          refine pre6 _ ?_
          show own_s p e below s₁ m 15 #[iv p0] [(.int (95 : Int32)), (.int p0)] _
          refine XS.icmpNo X0.here hx rfl (hb hby d1_15) rfl (feq hc7).1 ?_
          show own_s p e below s₁ m 18 #[iv p0] [] _
          refine XS.iloadN X0.here hx rfl (hb hby d1_18) rfl ?_
          show own_s p e below s₁ m 19 #[iv p0] [(.int p0)] _
          refine XS.bipush X0.here hx rfl (hb hby d1_19) ?_
          exact kX
        by_cases hc10 : p0 < (97 : Int32)
        · skip
          have ihc10 : (p0).toInt < (97 : Int) := Int32.lt_iff_toInt_lt.mp hc10
          have pre11 : ∀ t, own_s p e below s₁ m 196 #[iv p0] [(.int (0 : Int32))] t → Steps p.tables e below S0 t := by
            intro tX kX
            refine pre9 _ ?_
            show own_s p e below s₁ m 21 #[iv p0] [(.int (97 : Int32)), (.int p0)] _
            refine XS.icmpYes X0.here hx rfl (pc0 := 21) (pc' := 30) rfl (hb hby d1_21) rfl (tlt hc10).1 (by decide) (by decide) ?_
            show own_s p e below s₁ m 30 #[iv p0] [] _
            refine XS.iloadN X0.here hx rfl (hb hby d1_30) rfl ?_
            show own_s p e below s₁ m 31 #[iv p0] [(.int p0)] _
            refine XS.sipush X0.here hx rfl (hb hby d1_31) ?_
            show own_s p e below s₁ m 34 #[iv p0] [(.int (192 : Int32)), (.int p0)] _
            refine XS.icmpYes X0.here hx rfl (pc0 := 34) (pc' := 44) rfl (hb hby d1_34) rfl (tlt (show p0 < (192 : Int32) from (Int32.lt_iff_toInt_lt.mpr (by omega : (p0).toInt < (192 : Int))))).1 (by decide) (by decide) ?_
            show own_s p e below s₁ m 44 #[iv p0] [] _
            refine XS.iloadN X0.here hx rfl (hb hby d1_44) rfl ?_
            show own_s p e below s₁ m 45 #[iv p0] [(.int p0)] _
            refine XS.sipush X0.here hx rfl (hb hby d1_45) ?_
            show own_s p e below s₁ m 48 #[iv p0] [(.int (216 : Int32)), (.int p0)] _
            refine XS.icmpYes X0.here hx rfl (pc0 := 48) (pc' := 58) rfl (hb hby d1_48) rfl (tlt (show p0 < (216 : Int32) from (Int32.lt_iff_toInt_lt.mpr (by omega : (p0).toInt < (216 : Int))))).1 (by decide) (by decide) ?_
            show own_s p e below s₁ m 58 #[iv p0] [] _
            refine XS.iloadN X0.here hx rfl (hb hby d1_58) rfl ?_
            show own_s p e below s₁ m 59 #[iv p0] [(.int p0)] _
            refine XS.sipush X0.here hx rfl (hb hby d1_59) ?_
            show own_s p e below s₁ m 62 #[iv p0] [(.int (248 : Int32)), (.int p0)] _
            refine XS.icmpYes X0.here hx rfl (pc0 := 62) (pc' := 72) rfl (hb hby d1_62) rfl (tlt (show p0 < (248 : Int32) from (Int32.lt_iff_toInt_lt.mpr (by omega : (p0).toInt < (248 : Int))))).1 (by decide) (by decide) ?_
            show own_s p e below s₁ m 72 #[iv p0] [] _
            refine XS.iloadN X0.here hx rfl (hb hby d1_72) rfl ?_
            show own_s p e below s₁ m 73 #[iv p0] [(.int p0)] _
            refine XS.sipush X0.here hx rfl (hb hby d1_73) ?_
            show own_s p e below s₁ m 76 #[iv p0] [(.int (880 : Int32)), (.int p0)] _
            refine XS.icmpYes X0.here hx rfl (pc0 := 76) (pc' := 86) rfl (hb hby d1_76) rfl (tlt (show p0 < (880 : Int32) from (Int32.lt_iff_toInt_lt.mpr (by omega : (p0).toInt < (880 : Int))))).1 (by decide) (by decide) ?_
            show own_s p e below s₁ m 86 #[iv p0] [] _
            refine XS.iloadN X0.here hx rfl (hb hby d1_86) rfl ?_
            show own_s p e below s₁ m 87 #[iv p0] [(.int p0)] _
            refine XS.sipush X0.here hx rfl (hb hby d1_87) ?_
            show own_s p e below s₁ m 90 #[iv p0] [(.int (895 : Int32)), (.int p0)] _
            refine XS.icmpYes X0.here hx rfl (pc0 := 90) (pc' := 100) rfl (hb hby d1_90) rfl (tlt (show p0 < (895 : Int32) from (Int32.lt_iff_toInt_lt.mpr (by omega : (p0).toInt < (895 : Int))))).1 (by decide) (by decide) ?_
            show own_s p e below s₁ m 100 #[iv p0] [] _
            refine XS.iloadN X0.here hx rfl (hb hby d1_100) rfl ?_
            show own_s p e below s₁ m 101 #[iv p0] [(.int p0)] _
            refine XS.sipush X0.here hx rfl (hb hby d1_101) ?_
            show own_s p e below s₁ m 104 #[iv p0] [(.int (8204 : Int32)), (.int p0)] _
            refine XS.icmpYes X0.here hx rfl (pc0 := 104) (pc' := 114) rfl (hb hby d1_104) rfl (tlt (show p0 < (8204 : Int32) from (Int32.lt_iff_toInt_lt.mpr (by omega : (p0).toInt < (8204 : Int))))).1 (by decide) (by decide) ?_
            show own_s p e below s₁ m 114 #[iv p0] [] _
            refine XS.iloadN X0.here hx rfl (hb hby d1_114) rfl ?_
            show own_s p e below s₁ m 115 #[iv p0] [(.int p0)] _
            refine XS.sipush X0.here hx rfl (hb hby d1_115) ?_
            show own_s p e below s₁ m 118 #[iv p0] [(.int (8304 : Int32)), (.int p0)] _
            refine XS.icmpYes X0.here hx rfl (pc0 := 118) (pc' := 128) rfl (hb hby d1_118) rfl (tlt (show p0 < (8304 : Int32) from (Int32.lt_iff_toInt_lt.mpr (by omega : (p0).toInt < (8304 : Int))))).1 (by decide) (by decide) ?_
            show own_s p e below s₁ m 128 #[iv p0] [] _
            refine XS.iloadN X0.here hx rfl (hb hby d1_128) rfl ?_
            show own_s p e below s₁ m 129 #[iv p0] [(.int p0)] _
            refine XS.sipush X0.here hx rfl (hb hby d1_129) ?_
            show own_s p e below s₁ m 132 #[iv p0] [(.int (11264 : Int32)), (.int p0)] _
            refine XS.icmpYes X0.here hx rfl (pc0 := 132) (pc' := 142) rfl (hb hby d1_132) rfl (tlt (show p0 < (11264 : Int32) from (Int32.lt_iff_toInt_lt.mpr (by omega : (p0).toInt < (11264 : Int))))).1 (by decide) (by decide) ?_
            show own_s p e below s₁ m 142 #[iv p0] [] _
            refine XS.iloadN X0.here hx rfl (hb hby d1_142) rfl ?_
            show own_s p e below s₁ m 143 #[iv p0] [(.int p0)] _
            refine XS.sipush X0.here hx rfl (hb hby d1_143) ?_
            show own_s p e below s₁ m 146 #[iv p0] [(.int (12289 : Int32)), (.int p0)] _
            refine XS.icmpYes X0.here hx rfl (pc0 := 146) (pc' := 155) rfl (hb hby d1_146) rfl (tlt (show p0 < (12289 : Int32) from (Int32.lt_iff_toInt_lt.mpr (by omega : (p0).toInt < (12289 : Int))))).1 (by decide) (by decide) ?_
            show own_s p e below s₁ m 155 #[iv p0] [] _
            refine XS.iloadN X0.here hx rfl (hb hby d1_155) rfl ?_
            show own_s p e below s₁ m 156 #[iv p0] [(.int p0)] _
            refine X0.ldcInt hx hown (mvT hZ (hw _ (List.mem_of_getElem? (i := 15) rfl))) (g := (mkF m 156 #[iv p0] [(.int p0)])) rfl (hb hby d1_156) _ ?_
            show own_s p e below s₁ m 158 #[iv p0] [(.int (63744 : Int32)), (.int p0)] _
            refine XS.icmpYes X0.here hx rfl (pc0 := 158) (pc' := 167) rfl (hb hby d1_158) rfl (tlt (show p0 < (63744 : Int32) from (Int32.lt_iff_toInt_lt.mpr (by omega : (p0).toInt < (63744 : Int))))).1 (by decide) (by decide) ?_
            show own_s p e below s₁ m 167 #[iv p0] [] _
            refine XS.iloadN X0.here hx rfl (hb hby d1_167) rfl ?_
            show own_s p e below s₁ m 168 #[iv p0] [(.int p0)] _
            refine X0.ldcInt hx hown (mvT hZ (hw _ (List.mem_of_getElem? (i := 16) rfl))) (g := (mkF m 168 #[iv p0] [(.int p0)])) rfl (hb hby d1_168) _ ?_
            show own_s p e below s₁ m 170 #[iv p0] [(.int (65008 : Int32)), (.int p0)] _
            refine XS.icmpYes X0.here hx rfl (pc0 := 170) (pc' := 179) rfl (hb hby d1_170) rfl (tlt (show p0 < (65008 : Int32) from (Int32.lt_iff_toInt_lt.mpr (by omega : (p0).toInt < (65008 : Int))))).1 (by decide) (by decide) ?_
            show own_s p e below s₁ m 179 #[iv p0] [] _
            refine XS.iloadN X0.here hx rfl (hb hby d1_179) rfl ?_
            show own_s p e below s₁ m 180 #[iv p0] [(.int p0)] _
            refine X0.ldcInt hx hown (mvT hZ (hw _ (List.mem_of_getElem? (i := 17) rfl))) (g := (mkF m 180 #[iv p0] [(.int p0)])) rfl (hb hby d1_180) _ ?_
            show own_s p e below s₁ m 182 #[iv p0] [(.int (65536 : Int32)), (.int p0)] _
            refine XS.icmpYes X0.here hx rfl (pc0 := 182) (pc' := 195) rfl (hb hby d1_182) rfl (tlt (show p0 < (65536 : Int32) from (Int32.lt_iff_toInt_lt.mpr (by omega : (p0).toInt < (65536 : Int))))).1 (by decide) (by decide) ?_
            show own_s p e below s₁ m 195 #[iv p0] [] _
            refine XS.iconst X0.here hx rfl (hb hby d1_195) ?_
            exact kX
          subst hS0
          obtain ⟨fs, hr, hrun, hended, hW, hsame⟩ := X0.leave (v := (some (.int (0 : Int32)))) (fun h => by rw [Bd.returns] at h; cases h)
          refine ⟨_, _, pre11 _ (retN X0 hx (t := .boolean) Bd.returns (by simp) (hb hby d1_196) hr), hrun, hended, _, _, rfl, ?_, ⟨_, rfl⟩, hW, hsame.mono (by decide) (by decide)⟩
          show Q1 Z p0 h0 n0 (some (.int (0 : Int32))) s₁.heap _
          exact ⟨congrArg (fun z => some (Value.int z)) (show (0 : Int32) = own_nc p0 from (if_neg (show ¬ own_P p0 = true from fun q => absurd (of_decide_eq_true q) (by omega))).symm), N0, e0⟩
        · skip
          have ihc10 : ¬ ((p0).toInt < (97 : Int)) := fun q => hc10 (Int32.lt_iff_toInt_lt.mpr q)
          have pre12 : ∀ t, own_s p e below s₁ m 27 #[iv p0] [(.int (122 : Int32)), (.int p0)] t → Steps p.tables e below S0 t := by
            intro tX kX
            refine pre9 _ ?_
            show own_s p e below s₁ m 21 #[iv p0] [(.int (97 : Int32)), (.int p0)] _
            refine XS.icmpNo X0.here hx rfl (hb hby d1_21) rfl (flt hc10).1 ?_
            show own_s p e below s₁ m 24 #[iv p0] [] _
            refine XS.iloadN X0.here hx rfl (hb hby d1_24) rfl ?_
            show own_s p e below s₁ m 25 #[iv p0] [(.int p0)] _
            refine XS.bipush X0.here hx rfl (hb hby d1_25) ?_
            exact kX
          by_cases hc13 : (122 : Int32) < p0
          · skip
            have ihc13 : (122 : Int) < (p0).toInt := Int32.lt_iff_toInt_lt.mp hc13
            have pre14 : ∀ t, own_s p e below s₁ m 34 #[iv p0] [(.int (192 : Int32)), (.int p0)] t → Steps p.tables e below S0 t := by
              intro tX kX
              refine pre12 _ ?_
              show own_s p e below s₁ m 27 #[iv p0] [(.int (122 : Int32)), (.int p0)] _
              refine XS.icmpNo X0.here hx rfl (hb hby d1_27) rfl (tlt hc13).2.2.2 ?_
              show own_s p e below s₁ m 30 #[iv p0] [] _
              refine XS.iloadN X0.here hx rfl (hb hby d1_30) rfl ?_
              show own_s p e below s₁ m 31 #[iv p0] [(.int p0)] _
              refine XS.sipush X0.here hx rfl (hb hby d1_31) ?_
              exact kX
            by_cases hc15 : p0 < (192 : Int32)
            · skip
              have ihc15 : (p0).toInt < (192 : Int) := Int32.lt_iff_toInt_lt.mp hc15
              have pre16 : ∀ t, own_s p e below s₁ m 196 #[iv p0] [(.int (0 : Int32))] t → Steps p.tables e below S0 t := by
                intro tX kX
                refine pre14 _ ?_
                show own_s p e below s₁ m 34 #[iv p0] [(.int (192 : Int32)), (.int p0)] _
                refine XS.icmpYes X0.here hx rfl (pc0 := 34) (pc' := 44) rfl (hb hby d1_34) rfl (tlt hc15).1 (by decide) (by decide) ?_
                show own_s p e below s₁ m 44 #[iv p0] [] _
                refine XS.iloadN X0.here hx rfl (hb hby d1_44) rfl ?_
                show own_s p e below s₁ m 45 #[iv p0] [(.int p0)] _
                refine XS.sipush X0.here hx rfl (hb hby d1_45) ?_
                show own_s p e below s₁ m 48 #[iv p0] [(.int (216 : Int32)), (.int p0)] _
                refine XS.icmpYes X0.here hx rfl (pc0 := 48) (pc' := 58) rfl (hb hby d1_48) rfl (tlt (show p0 < (216 : Int32) from (Int32.lt_iff_toInt_lt.mpr (by omega : (p0).toInt < (216 : Int))))).1 (by decide) (by decide) ?_
                show own_s p e below s₁ m 58 #[iv p0] [] _
                refine XS.iloadN X0.here hx rfl (hb hby d1_58) rfl ?_
                show own_s p e below s₁ m 59 #[iv p0] [(.int p0)] _
                refine XS.sipush X0.here hx rfl (hb hby d1_59) ?_
                show own_s p e below s₁ m 62 #[iv p0] [(.int (248 : Int32)), (.int p0)] _
                refine XS.icmpYes X0.here hx rfl (pc0 := 62) (pc' := 72) rfl (hb hby d1_62) rfl (tlt (show p0 < (248 : Int32) from (Int32.lt_iff_toInt_lt.mpr (by omega : (p0).toInt < (248 : Int))))).1 (by decide) (by decide) ?_
                show own_s p e below s₁ m 72 #[iv p0] [] _
                refine XS.iloadN X0.here hx rfl (hb hby d1_72) rfl ?_
                show own_s p e below s₁ m 73 #[iv p0] [(.int p0)] _
                refine XS.sipush X0.here hx rfl (hb hby d1_73) ?_
                show own_s p e below s₁ m 76 #[iv p0] [(.int (880 : Int32)), (.int p0)] _
                refine XS.icmpYes X0.here hx rfl (pc0 := 76) (pc' := 86) rfl (hb hby d1_76) rfl (tlt (show p0 < (880 : Int32) from (Int32.lt_iff_toInt_lt.mpr (by omega : (p0).toInt < (880 : Int))))).1 (by decide) (by decide) ?_
                show own_s p e below s₁ m 86 #[iv p0] [] _
                refine XS.iloadN X0.here hx rfl (hb hby d1_86) rfl ?_
                show own_s p e below s₁ m 87 #[iv p0] [(.int p0)] _
                refine XS.sipush X0.here hx rfl (hb hby d1_87) ?_
                show own_s p e below s₁ m 90 #[iv p0] [(.int (895 : Int32)), (.int p0)] _
                refine XS.icmpYes X0.here hx rfl (pc0 := 90) (pc' := 100) rfl (hb hby d1_90) rfl (tlt (show p0 < (895 : Int32) from (Int32.lt_iff_toInt_lt.mpr (by omega : (p0).toInt < (895 : Int))))).1 (by decide) (by decide) ?_
                show own_s p e below s₁ m 100 #[iv p0] [] _
                refine XS.iloadN X0.here hx rfl (hb hby d1_100) rfl ?_
                show own_s p e below s₁ m 101 #[iv p0] [(.int p0)] _
                refine XS.sipush X0.here hx rfl (hb hby d1_101) ?_
                show own_s p e below s₁ m 104 #[iv p0] [(.int (8204 : Int32)), (.int p0)] _
                refine XS.icmpYes X0.here hx rfl (pc0 := 104) (pc' := 114) rfl (hb hby d1_104) rfl (tlt (show p0 < (8204 : Int32) from (Int32.lt_iff_toInt_lt.mpr (by omega : (p0).toInt < (8204 : Int))))).1 (by decide) (by decide) ?_
                show own_s p e below s₁ m 114 #[iv p0] [] _
                refine XS.iloadN X0.here hx rfl (hb hby d1_114) rfl ?_
                show own_s p e below s₁ m 115 #[iv p0] [(.int p0)] _
                refine XS.sipush X0.here hx rfl (hb hby d1_115) ?_
                show own_s p e below s₁ m 118 #[iv p0] [(.int (8304 : Int32)), (.int p0)] _
                refine XS.icmpYes X0.here hx rfl (pc0 := 118) (pc' := 128) rfl (hb hby d1_118) rfl (tlt (show p0 < (8304 : Int32) from (Int32.lt_iff_toInt_lt.mpr (by omega : (p0).toInt < (8304 : Int))))).1 (by decide) (by decide) ?_
                show own_s p e below s₁ m 128 #[iv p0] [] _
                refine XS.iloadN X0.here hx rfl (hb hby d1_128) rfl ?_
                show own_s p e below s₁ m 129 #[iv p0] [(.int p0)] _
                refine XS.sipush X0.here hx rfl (hb hby d1_129) ?_
                show own_s p e below s₁ m 132 #[iv p0] [(.int (11264 : Int32)), (.int p0)] _
                refine XS.icmpYes X0.here hx rfl (pc0 := 132) (pc' := 142) rfl (hb hby d1_132) rfl (tlt (show p0 < (11264 : Int32) from (Int32.lt_iff_toInt_lt.mpr (by omega : (p0).toInt < (11264 : Int))))).1 (by decide) (by decide) ?_
                show own_s p e below s₁ m 142 #[iv p0] [] _
                refine XS.iloadN X0.here hx rfl (hb hby d1_142) rfl ?_
                show own_s p e below s₁ m 143 #[iv p0] [(.int p0)] _
                refine XS.sipush X0.here hx rfl (hb hby d1_143) ?_
                show own_s p e below s₁ m 146 #[iv p0] [(.int (12289 : Int32)), (.int p0)] _
                refine XS.icmpYes X0.here hx rfl (pc0 := 146) (pc' := 155) rfl (hb hby d1_146) rfl (tlt (show p0 < (12289 : Int32) from (Int32.lt_iff_toInt_lt.mpr (by omega : (p0).toInt < (12289 : Int))))).1 (by decide) (by decide) ?_
                show own_s p e below s₁ m 155 #[iv p0] [] _
                refine XS.iloadN X0.here hx rfl (hb hby d1_155) rfl ?_
                show own_s p e below s₁ m 156 #[iv p0] [(.int p0)] _
                refine X0.ldcInt hx hown (mvT hZ (hw _ (List.mem_of_getElem? (i := 15) rfl))) (g := (mkF m 156 #[iv p0] [(.int p0)])) rfl (hb hby d1_156) _ ?_
                show own_s p e below s₁ m 158 #[iv p0] [(.int (63744 : Int32)), (.int p0)] _
                refine XS.icmpYes X0.here hx rfl (pc0 := 158) (pc' := 167) rfl (hb hby d1_158) rfl (tlt (show p0 < (63744 : Int32) from (Int32.lt_iff_toInt_lt.mpr (by omega : (p0).toInt < (63744 : Int))))).1 (by decide) (by decide) ?_
                show own_s p e below s₁ m 167 #[iv p0] [] _
                refine XS.iloadN X0.here hx rfl (hb hby d1_167) rfl ?_
                show own_s p e below s₁ m 168 #[iv p0] [(.int p0)] _
                refine X0.ldcInt hx hown (mvT hZ (hw _ (List.mem_of_getElem? (i := 16) rfl))) (g := (mkF m 168 #[iv p0] [(.int p0)])) rfl (hb hby d1_168) _ ?_
                show own_s p e below s₁ m 170 #[iv p0] [(.int (65008 : Int32)), (.int p0)] _
                refine XS.icmpYes X0.here hx rfl (pc0 := 170) (pc' := 179) rfl (hb hby d1_170) rfl (tlt (show p0 < (65008 : Int32) from (Int32.lt_iff_toInt_lt.mpr (by omega : (p0).toInt < (65008 : Int))))).1 (by decide) (by decide) ?_
                show own_s p e below s₁ m 179 #[iv p0] [] _
                refine XS.iloadN X0.here hx rfl (hb hby d1_179) rfl ?_
                show own_s p e below s₁ m 180 #[iv p0] [(.int p0)] _
                refine X0.ldcInt hx hown (mvT hZ (hw _ (List.mem_of_getElem? (i := 17) rfl))) (g := (mkF m 180 #[iv p0] [(.int p0)])) rfl (hb hby d1_180) _ ?_
                show own_s p e below s₁ m 182 #[iv p0] [(.int (65536 : Int32)), (.int p0)] _
                refine XS.icmpYes X0.here hx rfl (pc0 := 182) (pc' := 195) rfl (hb hby d1_182) rfl (tlt (show p0 < (65536 : Int32) from (Int32.lt_iff_toInt_lt.mpr (by omega : (p0).toInt < (65536 : Int))))).1 (by decide) (by decide) ?_
                show own_s p e below s₁ m 195 #[iv p0] [] _
                refine XS.iconst X0.here hx rfl (hb hby d1_195) ?_
                exact kX
              subst hS0
              obtain ⟨fs, hr, hrun, hended, hW, hsame⟩ := X0.leave (v := (some (.int (0 : Int32)))) (fun h => by rw [Bd.returns] at h; cases h)
              refine ⟨_, _, pre16 _ (retN X0 hx (t := .boolean) Bd.returns (by simp) (hb hby d1_196) hr), hrun, hended, _, _, rfl, ?_, ⟨_, rfl⟩, hW, hsame.mono (by decide) (by decide)⟩
              show Q1 Z p0 h0 n0 (some (.int (0 : Int32))) s₁.heap _
              exact ⟨congrArg (fun z => some (Value.int z)) (show (0 : Int32) = own_nc p0 from (if_neg (show ¬ own_P p0 = true from fun q => absurd (of_decide_eq_true q) (by omega))).symm), N0, e0⟩
            · skip
              have ihc15 : ¬ ((p0).toInt < (192 : Int)) := fun q => hc15 (Int32.lt_iff_toInt_lt.mpr q)
              have pre17 : ∀ t, own_s p e below s₁ m 41 #[iv p0] [(.int (214 : Int32)), (.int p0)] t → Steps p.tables e below S0 t := by
                intro tX kX
                refine pre14 _ ?_
                show own_s p e below s₁ m 34 #[iv p0] [(.int (192 : Int32)), (.int p0)] _
                refine XS.icmpNo X0.here hx rfl (hb hby d1_34) rfl (flt hc15).1 ?_
                show own_s p e below s₁ m 37 #[iv p0] [] _
                refine XS.iloadN X0.here hx rfl (hb hby d1_37) rfl ?_
                show own_s p e below s₁ m 38 #[iv p0] [(.int p0)] _
                refine XS.sipush X0.here hx rfl (hb hby d1_38) ?_
                exact kX
              by_cases hc18 : (214 : Int32) < p0
              · skip
                have ihc18 : (214 : Int) < (p0).toInt := Int32.lt_iff_toInt_lt.mp hc18
                have pre19 : ∀ t, own_s p e below s₁ m 48 #[iv p0] [(.int (216 : Int32)), (.int p0)] t → Steps p.tables e below S0 t := by
                  intro tX kX
                  refine pre17 _ ?_
                  show own_s p e below s₁ m 41 #[iv p0] [(.int (214 : Int32)), (.int p0)] _
                  refine XS.icmpNo X0.here hx rfl (hb hby d1_41) rfl (tlt hc18).2.2.2 ?_
                  show own_s p e below s₁ m 44 #[iv p0] [] _
                  refine XS.iloadN X0.here hx rfl (hb hby d1_44) rfl ?_
                  show own_s p e below s₁ m 45 #[iv p0] [(.int p0)] _
                  refine XS.sipush X0.here hx rfl (hb hby d1_45) ?_
                  exact kX
                by_cases hc20 : p0 < (216 : Int32)
                · skip
                  have ihc20 : (p0).toInt < (216 : Int) := Int32.lt_iff_toInt_lt.mp hc20
                  have pre21 : ∀ t, own_s p e below s₁ m 196 #[iv p0] [(.int (0 : Int32))] t → Steps p.tables e below S0 t := by
                    intro tX kX
                    refine pre19 _ ?_
                    show own_s p e below s₁ m 48 #[iv p0] [(.int (216 : Int32)), (.int p0)] _
                    refine XS.icmpYes X0.here hx rfl (pc0 := 48) (pc' := 58) rfl (hb hby d1_48) rfl (tlt hc20).1 (by decide) (by decide) ?_
                    show own_s p e below s₁ m 58 #[iv p0] [] _
                    refine XS.iloadN X0.here hx rfl (hb hby d1_58) rfl ?_
                    show own_s p e below s₁ m 59 #[iv p0] [(.int p0)] _
                    refine XS.sipush X0.here hx rfl (hb hby d1_59) ?_
                    show own_s p e below s₁ m 62 #[iv p0] [(.int (248 : Int32)), (.int p0)] _
                    refine XS.icmpYes X0.here hx rfl (pc0 := 62) (pc' := 72) rfl (hb hby d1_62) rfl (tlt (show p0 < (248 : Int32) from (Int32.lt_iff_toInt_lt.mpr (by omega : (p0).toInt < (248 : Int))))).1 (by decide) (by decide) ?_
                    show own_s p e below s₁ m 72 #[iv p0] [] _
                    refine XS.iloadN X0.here hx rfl (hb hby d1_72) rfl ?_
                    show own_s p e below s₁ m 73 #[iv p0] [(.int p0)] _
                    refine XS.sipush X0.here hx rfl (hb hby d1_73) ?_
                    show own_s p e below s₁ m 76 #[iv p0] [(.int (880 : Int32)), (.int p0)] _
                    refine XS.icmpYes X0.here hx rfl (pc0 := 76) (pc' := 86) rfl (hb hby d1_76) rfl (tlt (show p0 < (880 : Int32) from (Int32.lt_iff_toInt_lt.mpr (by omega : (p0).toInt < (880 : Int))))).1 (by decide) (by decide) ?_
                    show own_s p e below s₁ m 86 #[iv p0] [] _
                    refine XS.iloadN X0.here hx rfl (hb hby d1_86) rfl ?_
                    show own_s p e below s₁ m 87 #[iv p0] [(.int p0)] _
                    refine XS.sipush X0.here hx rfl (hb hby d1_87) ?_
                    show own_s p e below s₁ m 90 #[iv p0] [(.int (895 : Int32)), (.int p0)] _
                    refine XS.icmpYes X0.here hx rfl (pc0 := 90) (pc' := 100) rfl (hb hby d1_90) rfl (tlt (show p0 < (895 : Int32) from (Int32.lt_iff_toInt_lt.mpr (by omega : (p0).toInt < (895 : Int))))).1 (by decide) (by decide) ?_
                    show own_s p e below s₁ m 100 #[iv p0] [] _
                    refine XS.iloadN X0.here hx rfl (hb hby d1_100) rfl ?_
                    show own_s p e below s₁ m 101 #[iv p0] [(.int p0)] _
                    refine XS.sipush X0.here hx rfl (hb hby d1_101) ?_
                    show own_s p e below s₁ m 104 #[iv p0] [(.int (8204 : Int32)), (.int p0)] _
                    refine XS.icmpYes X0.here hx rfl (pc0 := 104) (pc' := 114) rfl (hb hby d1_104) rfl (tlt (show p0 < (8204 : Int32) from (Int32.lt_iff_toInt_lt.mpr (by omega : (p0).toInt < (8204 : Int))))).1 (by decide) (by decide) ?_
                    show own_s p e below s₁ m 114 #[iv p0] [] _
                    refine XS.iloadN X0.here hx rfl (hb hby d1_114) rfl ?_
                    show own_s p e below s₁ m 115 #[iv p0] [(.int p0)] _
                    refine XS.sipush X0.here hx rfl (hb hby d1_115) ?_
                    show own_s p e below s₁ m 118 #[iv p0] [(.int (8304 : Int32)), (.int p0)] _
                    refine XS.icmpYes X0.here hx rfl (pc0 := 118) (pc' := 128) rfl (hb hby d1_118) rfl (tlt (show p0 < (8304 : Int32) from (Int32.lt_iff_toInt_lt.mpr (by omega : (p0).toInt < (8304 : Int))))).1 (by decide) (by decide) ?_
                    show own_s p e below s₁ m 128 #[iv p0] [] _
                    refine XS.iloadN X0.here hx rfl (hb hby d1_128) rfl ?_
                    show own_s p e below s₁ m 129 #[iv p0] [(.int p0)] _
                    refine XS.sipush X0.here hx rfl (hb hby d1_129) ?_
                    show own_s p e below s₁ m 132 #[iv p0] [(.int (11264 : Int32)), (.int p0)] _
                    refine XS.icmpYes X0.here hx rfl (pc0 := 132) (pc' := 142) rfl (hb hby d1_132) rfl (tlt (show p0 < (11264 : Int32) from (Int32.lt_iff_toInt_lt.mpr (by omega : (p0).toInt < (11264 : Int))))).1 (by decide) (by decide) ?_
                    show own_s p e below s₁ m 142 #[iv p0] [] _
                    refine XS.iloadN X0.here hx rfl (hb hby d1_142) rfl ?_
                    show own_s p e below s₁ m 143 #[iv p0] [(.int p0)] _
                    refine XS.sipush X0.here hx rfl (hb hby d1_143) ?_
                    show own_s p e below s₁ m 146 #[iv p0] [(.int (12289 : Int32)), (.int p0)] _
                    refine XS.icmpYes X0.here hx rfl (pc0 := 146) (pc' := 155) rfl (hb hby d1_146) rfl (tlt (show p0 < (12289 : Int32) from (Int32.lt_iff_toInt_lt.mpr (by omega : (p0).toInt < (12289 : Int))))).1 (by decide) (by decide) ?_
                    show own_s p e below s₁ m 155 #[iv p0] [] _
                    refine XS.iloadN X0.here hx rfl (hb hby d1_155) rfl ?_
                    show own_s p e below s₁ m 156 #[iv p0] [(.int p0)] _
                    refine X0.ldcInt hx hown (mvT hZ (hw _ (List.mem_of_getElem? (i := 15) rfl))) (g := (mkF m 156 #[iv p0] [(.int p0)])) rfl (hb hby d1_156) _ ?_
                    show own_s p e below s₁ m 158 #[iv p0] [(.int (63744 : Int32)), (.int p0)] _
                    refine XS.icmpYes X0.here hx rfl (pc0 := 158) (pc' := 167) rfl (hb hby d1_158) rfl (tlt (show p0 < (63744 : Int32) from (Int32.lt_iff_toInt_lt.mpr (by omega : (p0).toInt < (63744 : Int))))).1 (by decide) (by decide) ?_
                    show own_s p e below s₁ m 167 #[iv p0] [] _
                    refine XS.iloadN X0.here hx rfl (hb hby d1_167) rfl ?_
                    show own_s p e below s₁ m 168 #[iv p0] [(.int p0)] _
                    refine X0.ldcInt hx hown (mvT hZ (hw _ (List.mem_of_getElem? (i := 16) rfl))) (g := (mkF m 168 #[iv p0] [(.int p0)])) rfl (hb hby d1_168) _ ?_
                    show own_s p e below s₁ m 170 #[iv p0] [(.int (65008 : Int32)), (.int p0)] _
                    refine XS.icmpYes X0.here hx rfl (pc0 := 170) (pc' := 179) rfl (hb hby d1_170) rfl (tlt (show p0 < (65008 : Int32) from (Int32.lt_iff_toInt_lt.mpr (by omega : (p0).toInt < (65008 : Int))))).1 (by decide) (by decide) ?_
                    show own_s p e below s₁ m 179 #[iv p0] [] _
                    refine XS.iloadN X0.here hx rfl (hb hby d1_179) rfl ?_
                    show own_s p e below s₁ m 180 #[iv p0] [(.int p0)] _
                    refine X0.ldcInt hx hown (mvT hZ (hw _ (List.mem_of_getElem? (i := 17) rfl))) (g := (mkF m 180 #[iv p0] [(.int p0)])) rfl (hb hby d1_180) _ ?_
                    show own_s p e below s₁ m 182 #[iv p0] [(.int (65536 : Int32)), (.int p0)] _
                    refine XS.icmpYes X0.here hx rfl (pc0 := 182) (pc' := 195) rfl (hb hby d1_182) rfl (tlt (show p0 < (65536 : Int32) from (Int32.lt_iff_toInt_lt.mpr (by omega : (p0).toInt < (65536 : Int))))).1 (by decide) (by decide) ?_
                    show own_s p e below s₁ m 195 #[iv p0] [] _
                    refine XS.iconst X0.here hx rfl (hb hby d1_195) ?_
                    exact kX
                  subst hS0
                  obtain ⟨fs, hr, hrun, hended, hW, hsame⟩ := X0.leave (v := (some (.int (0 : Int32)))) (fun h => by rw [Bd.returns] at h; cases h)
                  refine ⟨_, _, pre21 _ (retN X0 hx (t := .boolean) Bd.returns (by simp) (hb hby d1_196) hr), hrun, hended, _, _, rfl, ?_, ⟨_, rfl⟩, hW, hsame.mono (by decide) (by decide)⟩
                  show Q1 Z p0 h0 n0 (some (.int (0 : Int32))) s₁.heap _
                  exact ⟨congrArg (fun z => some (Value.int z)) (show (0 : Int32) = own_nc p0 from (if_neg (show ¬ own_P p0 = true from fun q => absurd (of_decide_eq_true q) (by omega))).symm), N0, e0⟩
                · skip
                  have ihc20 : ¬ ((p0).toInt < (216 : Int)) := fun q => hc20 (Int32.lt_iff_toInt_lt.mpr q)
                  have pre22 : ∀ t, own_s p e below s₁ m 55 #[iv p0] [(.int (246 : Int32)), (.int p0)] t → Steps p.tables e below S0 t := by
                    intro tX kX
                    refine pre19 _ ?_
                    show own_s p e below s₁ m 48 #[iv p0] [(.int (216 : Int32)), (.int p0)] _
                    refine XS.icmpNo X0.here hx rfl (hb hby d1_48) rfl (flt hc20).1 ?_
                    show own_s p e below s₁ m 51 #[iv p0] [] _
                    refine XS.iloadN X0.here hx rfl (hb hby d1_51) rfl ?_
                    show own_s p e below s₁ m 52 #[iv p0] [(.int p0)] _
                    refine XS.sipush X0.here hx rfl (hb hby d1_52) ?_
                    exact kX
                  by_cases hc23 : (246 : Int32) < p0
                  · skip
                    have ihc23 : (246 : Int) < (p0).toInt := Int32.lt_iff_toInt_lt.mp hc23
                    have pre24 : ∀ t, own_s p e below s₁ m 62 #[iv p0] [(.int (248 : Int32)), (.int p0)] t → Steps p.tables e below S0 t := by
                      intro tX kX
                      refine pre22 _ ?_
                      show own_s p e below s₁ m 55 #[iv p0] [(.int (246 : Int32)), (.int p0)] _
                      refine XS.icmpNo X0.here hx rfl (hb hby d1_55) rfl (tlt hc23).2.2.2 ?_
                      show own_s p e below s₁ m 58 #[iv p0] [] _
                      refine XS.iloadN X0.here hx rfl (hb hby d1_58) rfl ?_
                      show own_s p e below s₁ m 59 #[iv p0] [(.int p0)] _
                      refine XS.sipush X0.here hx rfl (hb hby d1_59) ?_
                      exact kX
                    by_cases hc25 : p0 < (248 : Int32)
                    · skip
                      have ihc25 : (p0).toInt < (248 : Int) := Int32.lt_iff_toInt_lt.mp hc25
                      have pre26 : ∀ t, own_s p e below s₁ m 196 #[iv p0] [(.int (0 : Int32))] t → Steps p.tables e below S0 t := by
                        intro tX kX
                        refine pre24 _ ?_
                        show own_s p e below s₁ m 62 #[iv p0] [(.int (248 : Int32)), (.int p0)] _
                        refine XS.icmpYes X0.here hx rfl (pc0 := 62) (pc' := 72) rfl (hb hby d1_62) rfl (tlt hc25).1 (by decide) (by decide) ?_
                        show own_s p e below s₁ m 72 #[iv p0] [] _
                        refine XS.iloadN X0.here hx rfl (hb hby d1_72) rfl ?_
                        show own_s p e below s₁ m 73 #[iv p0] [(.int p0)] _
                        refine XS.sipush X0.here hx rfl (hb hby d1_73) ?_
                        show own_s p e below s₁ m 76 #[iv p0] [(.int (880 : Int32)), (.int p0)] _
                        refine XS.icmpYes X0.here hx rfl (pc0 := 76) (pc' := 86) rfl (hb hby d1_76) rfl (tlt (show p0 < (880 : Int32) from (Int32.lt_iff_toInt_lt.mpr (by omega : (p0).toInt < (880 : Int))))).1 (by decide) (by decide) ?_
                        show own_s p e below s₁ m 86 #[iv p0] [] _
                        refine XS.iloadN X0.here hx rfl (hb hby d1_86) rfl ?_
                        show own_s p e below s₁ m 87 #[iv p0] [(.int p0)] _
                        refine XS.sipush X0.here hx rfl (hb hby d1_87) ?_
                        show own_s p e below s₁ m 90 #[iv p0] [(.int (895 : Int32)), (.int p0)] _
                        refine XS.icmpYes X0.here hx rfl (pc0 := 90) (pc' := 100) rfl (hb hby d1_90) rfl (tlt (show p0 < (895 : Int32) from (Int32.lt_iff_toInt_lt.mpr (by omega : (p0).toInt < (895 : Int))))).1 (by decide) (by decide) ?_
                        show own_s p e below s₁ m 100 #[iv p0] [] _
                        refine XS.iloadN X0.here hx rfl (hb hby d1_100) rfl ?_
                        show own_s p e below s₁ m 101 #[iv p0] [(.int p0)] _
                        refine XS.sipush X0.here hx rfl (hb hby d1_101) ?_
                        show own_s p e below s₁ m 104 #[iv p0] [(.int (8204 : Int32)), (.int p0)] _
                        refine XS.icmpYes X0.here hx rfl (pc0 := 104) (pc' := 114) rfl (hb hby d1_104) rfl (tlt (show p0 < (8204 : Int32) from (Int32.lt_iff_toInt_lt.mpr (by omega : (p0).toInt < (8204 : Int))))).1 (by decide) (by decide) ?_
                        show own_s p e below s₁ m 114 #[iv p0] [] _
                        refine XS.iloadN X0.here hx rfl (hb hby d1_114) rfl ?_
                        show own_s p e below s₁ m 115 #[iv p0] [(.int p0)] _
                        refine XS.sipush X0.here hx rfl (hb hby d1_115) ?_
                        show own_s p e below s₁ m 118 #[iv p0] [(.int (8304 : Int32)), (.int p0)] _
                        refine XS.icmpYes X0.here hx rfl (pc0 := 118) (pc' := 128) rfl (hb hby d1_118) rfl (tlt (show p0 < (8304 : Int32) from (Int32.lt_iff_toInt_lt.mpr (by omega : (p0).toInt < (8304 : Int))))).1 (by decide) (by decide) ?_
                        show own_s p e below s₁ m 128 #[iv p0] [] _
                        refine XS.iloadN X0.here hx rfl (hb hby d1_128) rfl ?_
                        show own_s p e below s₁ m 129 #[iv p0] [(.int p0)] _
                        refine XS.sipush X0.here hx rfl (hb hby d1_129) ?_
                        show own_s p e below s₁ m 132 #[iv p0] [(.int (11264 : Int32)), (.int p0)] _
                        refine XS.icmpYes X0.here hx rfl (pc0 := 132) (pc' := 142) rfl (hb hby d1_132) rfl (tlt (show p0 < (11264 : Int32) from (Int32.lt_iff_toInt_lt.mpr (by omega : (p0).toInt < (11264 : Int))))).1 (by decide) (by decide) ?_
                        show own_s p e below s₁ m 142 #[iv p0] [] _
                        refine XS.iloadN X0.here hx rfl (hb hby d1_142) rfl ?_
                        show own_s p e below s₁ m 143 #[iv p0] [(.int p0)] _
                        refine XS.sipush X0.here hx rfl (hb hby d1_143) ?_
                        show own_s p e below s₁ m 146 #[iv p0] [(.int (12289 : Int32)), (.int p0)] _
                        refine XS.icmpYes X0.here hx rfl (pc0 := 146) (pc' := 155) rfl (hb hby d1_146) rfl (tlt (show p0 < (12289 : Int32) from (Int32.lt_iff_toInt_lt.mpr (by omega : (p0).toInt < (12289 : Int))))).1 (by decide) (by decide) ?_
                        show own_s p e below s₁ m 155 #[iv p0] [] _
                        refine XS.iloadN X0.here hx rfl (hb hby d1_155) rfl ?_
                        show own_s p e below s₁ m 156 #[iv p0] [(.int p0)] _
                        refine X0.ldcInt hx hown (mvT hZ (hw _ (List.mem_of_getElem? (i := 15) rfl))) (g := (mkF m 156 #[iv p0] [(.int p0)])) rfl (hb hby d1_156) _ ?_
                        show own_s p e below s₁ m 158 #[iv p0] [(.int (63744 : Int32)), (.int p0)] _
                        refine XS.icmpYes X0.here hx rfl (pc0 := 158) (pc' := 167) rfl (hb hby d1_158) rfl (tlt (show p0 < (63744 : Int32) from (Int32.lt_iff_toInt_lt.mpr (by omega : (p0).toInt < (63744 : Int))))).1 (by decide) (by decide) ?_
                        show own_s p e below s₁ m 167 #[iv p0] [] _
                        refine XS.iloadN X0.here hx rfl (hb hby d1_167) rfl ?_
                        show own_s p e below s₁ m 168 #[iv p0] [(.int p0)] _
                        refine X0.ldcInt hx hown (mvT hZ (hw _ (List.mem_of_getElem? (i := 16) rfl))) (g := (mkF m 168 #[iv p0] [(.int p0)])) rfl (hb hby d1_168) _ ?_
                        show own_s p e below s₁ m 170 #[iv p0] [(.int (65008 : Int32)), (.int p0)] _
                        refine XS.icmpYes X0.here hx rfl (pc0 := 170) (pc' := 179) rfl (hb hby d1_170) rfl (tlt (show p0 < (65008 : Int32) from (Int32.lt_iff_toInt_lt.mpr (by omega : (p0).toInt < (65008 : Int))))).1 (by decide) (by decide) ?_
                        show own_s p e below s₁ m 179 #[iv p0] [] _
                        refine XS.iloadN X0.here hx rfl (hb hby d1_179) rfl ?_
                        show own_s p e below s₁ m 180 #[iv p0] [(.int p0)] _
                        refine X0.ldcInt hx hown (mvT hZ (hw _ (List.mem_of_getElem? (i := 17) rfl))) (g := (mkF m 180 #[iv p0] [(.int p0)])) rfl (hb hby d1_180) _ ?_
                        show own_s p e below s₁ m 182 #[iv p0] [(.int (65536 : Int32)), (.int p0)] _
                        refine XS.icmpYes X0.here hx rfl (pc0 := 182) (pc' := 195) rfl (hb hby d1_182) rfl (tlt (show p0 < (65536 : Int32) from (Int32.lt_iff_toInt_lt.mpr (by omega : (p0).toInt < (65536 : Int))))).1 (by decide) (by decide) ?_
                        show own_s p e below s₁ m 195 #[iv p0] [] _
                        refine XS.iconst X0.here hx rfl (hb hby d1_195) ?_
                        exact kX
                      subst hS0
                      obtain ⟨fs, hr, hrun, hended, hW, hsame⟩ := X0.leave (v := (some (.int (0 : Int32)))) (fun h => by rw [Bd.returns] at h; cases h)
                      refine ⟨_, _, pre26 _ (retN X0 hx (t := .boolean) Bd.returns (by simp) (hb hby d1_196) hr), hrun, hended, _, _, rfl, ?_, ⟨_, rfl⟩, hW, hsame.mono (by decide) (by decide)⟩
                      show Q1 Z p0 h0 n0 (some (.int (0 : Int32))) s₁.heap _
                      exact ⟨congrArg (fun z => some (Value.int z)) (show (0 : Int32) = own_nc p0 from (if_neg (show ¬ own_P p0 = true from fun q => absurd (of_decide_eq_true q) (by omega))).symm), N0, e0⟩
                    · skip
                      have ihc25 : ¬ ((p0).toInt < (248 : Int)) := fun q => hc25 (Int32.lt_iff_toInt_lt.mpr q)
                      have pre27 : ∀ t, own_s p e below s₁ m 69 #[iv p0] [(.int (767 : Int32)), (.int p0)] t → Steps p.tables e below S0 t := by
                        intro tX kX
                        refine pre24 _ ?_
                        show own_s p e below s₁ m 62 #[iv p0] [(.int (248 : Int32)), (.int p0)] _
                        refine XS.icmpNo X0.here hx rfl (hb hby d1_62) rfl (flt hc25).1 ?_
                        show own_s p e below s₁ m 65 #[iv p0] [] _
                        refine XS.iloadN X0.here hx rfl (hb hby d1_65) rfl ?_
                        show own_s p e below s₁ m 66 #[iv p0] [(.int p0)] _
                        refine XS.sipush X0.here hx rfl (hb hby d1_66) ?_
                        exact kX
                      by_cases hc28 : (767 : Int32) < p0
                      · skip
                        have ihc28 : (767 : Int) < (p0).toInt := Int32.lt_iff_toInt_lt.mp hc28
                        have pre29 : ∀ t, own_s p e below s₁ m 76 #[iv p0] [(.int (880 : Int32)), (.int p0)] t → Steps p.tables e below S0 t := by
                          intro tX kX
                          refine pre27 _ ?_
                          show own_s p e below s₁ m 69 #[iv p0] [(.int (767 : Int32)), (.int p0)] _
                          refine XS.icmpNo X0.here hx rfl (hb hby d1_69) rfl (tlt hc28).2.2.2 ?_
                          show own_s p e below s₁ m 72 #[iv p0] [] _
                          refine XS.iloadN X0.here hx rfl (hb hby d1_72) rfl ?_
                          show own_s p e below s₁ m 73 #[iv p0] [(.int p0)] _
                          refine XS.sipush X0.here hx rfl (hb hby d1_73) ?_
                          exact kX
                        by_cases hc30 : p0 < (880 : Int32)
                        · skip
                          have ihc30 : (p0).toInt < (880 : Int) := Int32.lt_iff_toInt_lt.mp hc30
                          have pre31 : ∀ t, own_s p e below s₁ m 196 #[iv p0] [(.int (0 : Int32))] t → Steps p.tables e below S0 t := by
                            intro tX kX
                            refine pre29 _ ?_
                            show own_s p e below s₁ m 76 #[iv p0] [(.int (880 : Int32)), (.int p0)] _
                            refine XS.icmpYes X0.here hx rfl (pc0 := 76) (pc' := 86) rfl (hb hby d1_76) rfl (tlt hc30).1 (by decide) (by decide) ?_
                            show own_s p e below s₁ m 86 #[iv p0] [] _
                            refine XS.iloadN X0.here hx rfl (hb hby d1_86) rfl ?_
                            show own_s p e below s₁ m 87 #[iv p0] [(.int p0)] _
                            refine XS.sipush X0.here hx rfl (hb hby d1_87) ?_
                            show own_s p e below s₁ m 90 #[iv p0] [(.int (895 : Int32)), (.int p0)] _
                            refine XS.icmpYes X0.here hx rfl (pc0 := 90) (pc' := 100) rfl (hb hby d1_90) rfl (tlt (show p0 < (895 : Int32) from (Int32.lt_iff_toInt_lt.mpr (by omega : (p0).toInt < (895 : Int))))).1 (by decide) (by decide) ?_
                            show own_s p e below s₁ m 100 #[iv p0] [] _
                            refine XS.iloadN X0.here hx rfl (hb hby d1_100) rfl ?_
                            show own_s p e below s₁ m 101 #[iv p0] [(.int p0)] _
                            refine XS.sipush X0.here hx rfl (hb hby d1_101) ?_
                            show own_s p e below s₁ m 104 #[iv p0] [(.int (8204 : Int32)), (.int p0)] _
                            refine XS.icmpYes X0.here hx rfl (pc0 := 104) (pc' := 114) rfl (hb hby d1_104) rfl (tlt (show p0 < (8204 : Int32) from (Int32.lt_iff_toInt_lt.mpr (by omega : (p0).toInt < (8204 : Int))))).1 (by decide) (by decide) ?_
                            show own_s p e below s₁ m 114 #[iv p0] [] _
                            refine XS.iloadN X0.here hx rfl (hb hby d1_114) rfl ?_
                            show own_s p e below s₁ m 115 #[iv p0] [(.int p0)] _
                            refine XS.sipush X0.here hx rfl (hb hby d1_115) ?_
                            show own_s p e below s₁ m 118 #[iv p0] [(.int (8304 : Int32)), (.int p0)] _
                            refine XS.icmpYes X0.here hx rfl (pc0 := 118) (pc' := 128) rfl (hb hby d1_118) rfl (tlt (show p0 < (8304 : Int32) from (Int32.lt_iff_toInt_lt.mpr (by omega : (p0).toInt < (8304 : Int))))).1 (by decide) (by decide) ?_
                            show own_s p e below s₁ m 128 #[iv p0] [] _
                            refine XS.iloadN X0.here hx rfl (hb hby d1_128) rfl ?_
                            show own_s p e below s₁ m 129 #[iv p0] [(.int p0)] _
                            refine XS.sipush X0.here hx rfl (hb hby d1_129) ?_
                            show own_s p e below s₁ m 132 #[iv p0] [(.int (11264 : Int32)), (.int p0)] _
                            refine XS.icmpYes X0.here hx rfl (pc0 := 132) (pc' := 142) rfl (hb hby d1_132) rfl (tlt (show p0 < (11264 : Int32) from (Int32.lt_iff_toInt_lt.mpr (by omega : (p0).toInt < (11264 : Int))))).1 (by decide) (by decide) ?_
                            show own_s p e below s₁ m 142 #[iv p0] [] _
                            refine XS.iloadN X0.here hx rfl (hb hby d1_142) rfl ?_
                            show own_s p e below s₁ m 143 #[iv p0] [(.int p0)] _
                            refine XS.sipush X0.here hx rfl (hb hby d1_143) ?_
                            show own_s p e below s₁ m 146 #[iv p0] [(.int (12289 : Int32)), (.int p0)] _
                            refine XS.icmpYes X0.here hx rfl (pc0 := 146) (pc' := 155) rfl (hb hby d1_146) rfl (tlt (show p0 < (12289 : Int32) from (Int32.lt_iff_toInt_lt.mpr (by omega : (p0).toInt < (12289 : Int))))).1 (by decide) (by decide) ?_
                            show own_s p e below s₁ m 155 #[iv p0] [] _
                            refine XS.iloadN X0.here hx rfl (hb hby d1_155) rfl ?_
                            show own_s p e below s₁ m 156 #[iv p0] [(.int p0)] _
                            refine X0.ldcInt hx hown (mvT hZ (hw _ (List.mem_of_getElem? (i := 15) rfl))) (g := (mkF m 156 #[iv p0] [(.int p0)])) rfl (hb hby d1_156) _ ?_
                            show own_s p e below s₁ m 158 #[iv p0] [(.int (63744 : Int32)), (.int p0)] _
                            refine XS.icmpYes X0.here hx rfl (pc0 := 158) (pc' := 167) rfl (hb hby d1_158) rfl (tlt (show p0 < (63744 : Int32) from (Int32.lt_iff_toInt_lt.mpr (by omega : (p0).toInt < (63744 : Int))))).1 (by decide) (by decide) ?_
                            show own_s p e below s₁ m 167 #[iv p0] [] _
                            refine XS.iloadN X0.here hx rfl (hb hby d1_167) rfl ?_
                            show own_s p e below s₁ m 168 #[iv p0] [(.int p0)] _
                            refine X0.ldcInt hx hown (mvT hZ (hw _ (List.mem_of_getElem? (i := 16) rfl))) (g := (mkF m 168 #[iv p0] [(.int p0)])) rfl (hb hby d1_168) _ ?_
                            show own_s p e below s₁ m 170 #[iv p0] [(.int (65008 : Int32)), (.int p0)] _
                            refine XS.icmpYes X0.here hx rfl (pc0 := 170) (pc' := 179) rfl (hb hby d1_170) rfl (tlt (show p0 < (65008 : Int32) from (Int32.lt_iff_toInt_lt.mpr (by omega : (p0).toInt < (65008 : Int))))).1 (by decide) (by decide) ?_
                            show own_s p e below s₁ m 179 #[iv p0] [] _
                            refine XS.iloadN X0.here hx rfl (hb hby d1_179) rfl ?_
                            show own_s p e below s₁ m 180 #[iv p0] [(.int p0)] _
                            refine X0.ldcInt hx hown (mvT hZ (hw _ (List.mem_of_getElem? (i := 17) rfl))) (g := (mkF m 180 #[iv p0] [(.int p0)])) rfl (hb hby d1_180) _ ?_
                            show own_s p e below s₁ m 182 #[iv p0] [(.int (65536 : Int32)), (.int p0)] _
                            refine XS.icmpYes X0.here hx rfl (pc0 := 182) (pc' := 195) rfl (hb hby d1_182) rfl (tlt (show p0 < (65536 : Int32) from (Int32.lt_iff_toInt_lt.mpr (by omega : (p0).toInt < (65536 : Int))))).1 (by decide) (by decide) ?_
                            show own_s p e below s₁ m 195 #[iv p0] [] _
                            refine XS.iconst X0.here hx rfl (hb hby d1_195) ?_
                            exact kX
                          subst hS0
                          obtain ⟨fs, hr, hrun, hended, hW, hsame⟩ := X0.leave (v := (some (.int (0 : Int32)))) (fun h => by rw [Bd.returns] at h; cases h)
                          refine ⟨_, _, pre31 _ (retN X0 hx (t := .boolean) Bd.returns (by simp) (hb hby d1_196) hr), hrun, hended, _, _, rfl, ?_, ⟨_, rfl⟩, hW, hsame.mono (by decide) (by decide)⟩
                          show Q1 Z p0 h0 n0 (some (.int (0 : Int32))) s₁.heap _
                          exact ⟨congrArg (fun z => some (Value.int z)) (show (0 : Int32) = own_nc p0 from (if_neg (show ¬ own_P p0 = true from fun q => absurd (of_decide_eq_true q) (by omega))).symm), N0, e0⟩
                        · skip
                          have ihc30 : ¬ ((p0).toInt < (880 : Int)) := fun q => hc30 (Int32.lt_iff_toInt_lt.mpr q)
                          have pre32 : ∀ t, own_s p e below s₁ m 83 #[iv p0] [(.int (893 : Int32)), (.int p0)] t → Steps p.tables e below S0 t := by
                            intro tX kX
                            refine pre29 _ ?_
                            show own_s p e below s₁ m 76 #[iv p0] [(.int (880 : Int32)), (.int p0)] _
                            refine XS.icmpNo X0.here hx rfl (hb hby d1_76) rfl (flt hc30).1 ?_
                            show own_s p e below s₁ m 79 #[iv p0] [] _
                            refine XS.iloadN X0.here hx rfl (hb hby d1_79) rfl ?_
                            show own_s p e below s₁ m 80 #[iv p0] [(.int p0)] _
                            refine XS.sipush X0.here hx rfl (hb hby d1_80) ?_
                            exact kX
                          by_cases hc33 : (893 : Int32) < p0
                          · skip
                            have ihc33 : (893 : Int) < (p0).toInt := Int32.lt_iff_toInt_lt.mp hc33
                            have pre34 : ∀ t, own_s p e below s₁ m 90 #[iv p0] [(.int (895 : Int32)), (.int p0)] t → Steps p.tables e below S0 t := by
                              intro tX kX
                              refine pre32 _ ?_
                              show own_s p e below s₁ m 83 #[iv p0] [(.int (893 : Int32)), (.int p0)] _
                              refine XS.icmpNo X0.here hx rfl (hb hby d1_83) rfl (tlt hc33).2.2.2 ?_
                              show own_s p e below s₁ m 86 #[iv p0] [] _
                              refine XS.iloadN X0.here hx rfl (hb hby d1_86) rfl ?_
                              show own_s p e below s₁ m 87 #[iv p0] [(.int p0)] _
                              refine XS.sipush X0.here hx rfl (hb hby d1_87) ?_
                              exact kX
                            by_cases hc35 : p0 < (895 : Int32)
                            · skip
                              have ihc35 : (p0).toInt < (895 : Int) := Int32.lt_iff_toInt_lt.mp hc35
                              have pre36 : ∀ t, own_s p e below s₁ m 196 #[iv p0] [(.int (0 : Int32))] t → Steps p.tables e below S0 t := by
                                intro tX kX
                                refine pre34 _ ?_
                                show own_s p e below s₁ m 90 #[iv p0] [(.int (895 : Int32)), (.int p0)] _
                                refine XS.icmpYes X0.here hx rfl (pc0 := 90) (pc' := 100) rfl (hb hby d1_90) rfl (tlt hc35).1 (by decide) (by decide) ?_
                                show own_s p e below s₁ m 100 #[iv p0] [] _
                                refine XS.iloadN X0.here hx rfl (hb hby d1_100) rfl ?_
                                show own_s p e below s₁ m 101 #[iv p0] [(.int p0)] _
                                refine XS.sipush X0.here hx rfl (hb hby d1_101) ?_
                                show own_s p e below s₁ m 104 #[iv p0] [(.int (8204 : Int32)), (.int p0)] _
                                refine XS.icmpYes X0.here hx rfl (pc0 := 104) (pc' := 114) rfl (hb hby d1_104) rfl (tlt (show p0 < (8204 : Int32) from (Int32.lt_iff_toInt_lt.mpr (by omega : (p0).toInt < (8204 : Int))))).1 (by decide) (by decide) ?_
                                show own_s p e below s₁ m 114 #[iv p0] [] _
                                refine XS.iloadN X0.here hx rfl (hb hby d1_114) rfl ?_
                                show own_s p e below s₁ m 115 #[iv p0] [(.int p0)] _
                                refine XS.sipush X0.here hx rfl (hb hby d1_115) ?_
                                show own_s p e below s₁ m 118 #[iv p0] [(.int (8304 : Int32)), (.int p0)] _
                                refine XS.icmpYes X0.here hx rfl (pc0 := 118) (pc' := 128) rfl (hb hby d1_118) rfl (tlt (show p0 < (8304 : Int32) from (Int32.lt_iff_toInt_lt.mpr (by omega : (p0).toInt < (8304 : Int))))).1 (by decide) (by decide) ?_
                                show own_s p e below s₁ m 128 #[iv p0] [] _
                                refine XS.iloadN X0.here hx rfl (hb hby d1_128) rfl ?_
                                show own_s p e below s₁ m 129 #[iv p0] [(.int p0)] _
                                refine XS.sipush X0.here hx rfl (hb hby d1_129) ?_
                                show own_s p e below s₁ m 132 #[iv p0] [(.int (11264 : Int32)), (.int p0)] _
                                refine XS.icmpYes X0.here hx rfl (pc0 := 132) (pc' := 142) rfl (hb hby d1_132) rfl (tlt (show p0 < (11264 : Int32) from (Int32.lt_iff_toInt_lt.mpr (by omega : (p0).toInt < (11264 : Int))))).1 (by decide) (by decide) ?_
                                show own_s p e below s₁ m 142 #[iv p0] [] _
                                refine XS.iloadN X0.here hx rfl (hb hby d1_142) rfl ?_
                                show own_s p e below s₁ m 143 #[iv p0] [(.int p0)] _
                                refine XS.sipush X0.here hx rfl (hb hby d1_143) ?_
                                show own_s p e below s₁ m 146 #[iv p0] [(.int (12289 : Int32)), (.int p0)] _
                                refine XS.icmpYes X0.here hx rfl (pc0 := 146) (pc' := 155) rfl (hb hby d1_146) rfl (tlt (show p0 < (12289 : Int32) from (Int32.lt_iff_toInt_lt.mpr (by omega : (p0).toInt < (12289 : Int))))).1 (by decide) (by decide) ?_
                                show own_s p e below s₁ m 155 #[iv p0] [] _
                                refine XS.iloadN X0.here hx rfl (hb hby d1_155) rfl ?_
                                show own_s p e below s₁ m 156 #[iv p0] [(.int p0)] _
                                refine X0.ldcInt hx hown (mvT hZ (hw _ (List.mem_of_getElem? (i := 15) rfl))) (g := (mkF m 156 #[iv p0] [(.int p0)])) rfl (hb hby d1_156) _ ?_
                                show own_s p e below s₁ m 158 #[iv p0] [(.int (63744 : Int32)), (.int p0)] _
                                refine XS.icmpYes X0.here hx rfl (pc0 := 158) (pc' := 167) rfl (hb hby d1_158) rfl (tlt (show p0 < (63744 : Int32) from (Int32.lt_iff_toInt_lt.mpr (by omega : (p0).toInt < (63744 : Int))))).1 (by decide) (by decide) ?_
                                show own_s p e below s₁ m 167 #[iv p0] [] _
                                refine XS.iloadN X0.here hx rfl (hb hby d1_167) rfl ?_
                                show own_s p e below s₁ m 168 #[iv p0] [(.int p0)] _
                                refine X0.ldcInt hx hown (mvT hZ (hw _ (List.mem_of_getElem? (i := 16) rfl))) (g := (mkF m 168 #[iv p0] [(.int p0)])) rfl (hb hby d1_168) _ ?_
                                show own_s p e below s₁ m 170 #[iv p0] [(.int (65008 : Int32)), (.int p0)] _
                                refine XS.icmpYes X0.here hx rfl (pc0 := 170) (pc' := 179) rfl (hb hby d1_170) rfl (tlt (show p0 < (65008 : Int32) from (Int32.lt_iff_toInt_lt.mpr (by omega : (p0).toInt < (65008 : Int))))).1 (by decide) (by decide) ?_
                                show own_s p e below s₁ m 179 #[iv p0] [] _
                                refine XS.iloadN X0.here hx rfl (hb hby d1_179) rfl ?_
                                show own_s p e below s₁ m 180 #[iv p0] [(.int p0)] _
                                refine X0.ldcInt hx hown (mvT hZ (hw _ (List.mem_of_getElem? (i := 17) rfl))) (g := (mkF m 180 #[iv p0] [(.int p0)])) rfl (hb hby d1_180) _ ?_
                                show own_s p e below s₁ m 182 #[iv p0] [(.int (65536 : Int32)), (.int p0)] _
                                refine XS.icmpYes X0.here hx rfl (pc0 := 182) (pc' := 195) rfl (hb hby d1_182) rfl (tlt (show p0 < (65536 : Int32) from (Int32.lt_iff_toInt_lt.mpr (by omega : (p0).toInt < (65536 : Int))))).1 (by decide) (by decide) ?_
                                show own_s p e below s₁ m 195 #[iv p0] [] _
                                refine XS.iconst X0.here hx rfl (hb hby d1_195) ?_
                                exact kX
                              subst hS0
                              obtain ⟨fs, hr, hrun, hended, hW, hsame⟩ := X0.leave (v := (some (.int (0 : Int32)))) (fun h => by rw [Bd.returns] at h; cases h)
                              refine ⟨_, _, pre36 _ (retN X0 hx (t := .boolean) Bd.returns (by simp) (hb hby d1_196) hr), hrun, hended, _, _, rfl, ?_, ⟨_, rfl⟩, hW, hsame.mono (by decide) (by decide)⟩
                              show Q1 Z p0 h0 n0 (some (.int (0 : Int32))) s₁.heap _
                              exact ⟨congrArg (fun z => some (Value.int z)) (show (0 : Int32) = own_nc p0 from (if_neg (show ¬ own_P p0 = true from fun q => absurd (of_decide_eq_true q) (by omega))).symm), N0, e0⟩
                            · skip
                              have ihc35 : ¬ ((p0).toInt < (895 : Int)) := fun q => hc35 (Int32.lt_iff_toInt_lt.mpr q)
                              have pre37 : ∀ t, own_s p e below s₁ m 97 #[iv p0] [(.int (8191 : Int32)), (.int p0)] t → Steps p.tables e below S0 t := by
                                intro tX kX
                                refine pre34 _ ?_
                                show own_s p e below s₁ m 90 #[iv p0] [(.int (895 : Int32)), (.int p0)] _
                                refine XS.icmpNo X0.here hx rfl (hb hby d1_90) rfl (flt hc35).1 ?_
                                show own_s p e below s₁ m 93 #[iv p0] [] _
                                refine XS.iloadN X0.here hx rfl (hb hby d1_93) rfl ?_
                                show own_s p e below s₁ m 94 #[iv p0] [(.int p0)] _
                                refine XS.sipush X0.here hx rfl (hb hby d1_94) ?_
                                exact kX
                              by_cases hc38 : (8191 : Int32) < p0
                              · skip
                                have ihc38 : (8191 : Int) < (p0).toInt := Int32.lt_iff_toInt_lt.mp hc38
                                have pre39 : ∀ t, own_s p e below s₁ m 104 #[iv p0] [(.int (8204 : Int32)), (.int p0)] t → Steps p.tables e below S0 t := by
                                  intro tX kX
                                  refine pre37 _ ?_
                                  show own_s p e below s₁ m 97 #[iv p0] [(.int (8191 : Int32)), (.int p0)] _
                                  refine XS.icmpNo X0.here hx rfl (hb hby d1_97) rfl (tlt hc38).2.2.2 ?_
                                  show own_s p e below s₁ m 100 #[iv p0] [] _
                                  refine XS.iloadN X0.here hx rfl (hb hby d1_100) rfl ?_
                                  show own_s p e below s₁ m 101 #[iv p0] [(.int p0)] _
                                  refine XS.sipush X0.here hx rfl (hb hby d1_101) ?_
                                  exact kX
                                by_cases hc40 : p0 < (8204 : Int32)
                                · skip
                                  have ihc40 : (p0).toInt < (8204 : Int) := Int32.lt_iff_toInt_lt.mp hc40
                                  have pre41 : ∀ t, own_s p e below s₁ m 196 #[iv p0] [(.int (0 : Int32))] t → Steps p.tables e below S0 t := by
                                    intro tX kX
                                    refine pre39 _ ?_
                                    show own_s p e below s₁ m 104 #[iv p0] [(.int (8204 : Int32)), (.int p0)] _
                                    refine XS.icmpYes X0.here hx rfl (pc0 := 104) (pc' := 114) rfl (hb hby d1_104) rfl (tlt hc40).1 (by decide) (by decide) ?_
                                    show own_s p e below s₁ m 114 #[iv p0] [] _
                                    refine XS.iloadN X0.here hx rfl (hb hby d1_114) rfl ?_
                                    show own_s p e below s₁ m 115 #[iv p0] [(.int p0)] _
                                    refine XS.sipush X0.here hx rfl (hb hby d1_115) ?_
                                    show own_s p e below s₁ m 118 #[iv p0] [(.int (8304 : Int32)), (.int p0)] _
                                    refine XS.icmpYes X0.here hx rfl (pc0 := 118) (pc' := 128) rfl (hb hby d1_118) rfl (tlt (show p0 < (8304 : Int32) from (Int32.lt_iff_toInt_lt.mpr (by omega : (p0).toInt < (8304 : Int))))).1 (by decide) (by decide) ?_
                                    show own_s p e below s₁ m 128 #[iv p0] [] _
                                    refine XS.iloadN X0.here hx rfl (hb hby d1_128) rfl ?_
                                    show own_s p e below s₁ m 129 #[iv p0] [(.int p0)] _
                                    refine XS.sipush X0.here hx rfl (hb hby d1_129) ?_
                                    show own_s p e below s₁ m 132 #[iv p0] [(.int (11264 : Int32)), (.int p0)] _
                                    refine XS.icmpYes X0.here hx rfl (pc0 := 132) (pc' := 142) rfl (hb hby d1_132) rfl (tlt (show p0 < (11264 : Int32) from (Int32.lt_iff_toInt_lt.mpr (by omega : (p0).toInt < (11264 : Int))))).1 (by decide) (by decide) ?_
                                    show own_s p e below s₁ m 142 #[iv p0] [] _
                                    refine XS.iloadN X0.here hx rfl (hb hby d1_142) rfl ?_
                                    show own_s p e below s₁ m 143 #[iv p0] [(.int p0)] _
                                    refine XS.sipush X0.here hx rfl (hb hby d1_143) ?_
                                    show own_s p e below s₁ m 146 #[iv p0] [(.int (12289 : Int32)), (.int p0)] _
                                    refine XS.icmpYes X0.here hx rfl (pc0 := 146) (pc' := 155) rfl (hb hby d1_146) rfl (tlt (show p0 < (12289 : Int32) from (Int32.lt_iff_toInt_lt.mpr (by omega : (p0).toInt < (12289 : Int))))).1 (by decide) (by decide) ?_
                                    show own_s p e below s₁ m 155 #[iv p0] [] _
                                    refine XS.iloadN X0.here hx rfl (hb hby d1_155) rfl ?_
                                    show own_s p e below s₁ m 156 #[iv p0] [(.int p0)] _
                                    refine X0.ldcInt hx hown (mvT hZ (hw _ (List.mem_of_getElem? (i := 15) rfl))) (g := (mkF m 156 #[iv p0] [(.int p0)])) rfl (hb hby d1_156) _ ?_
                                    show own_s p e below s₁ m 158 #[iv p0] [(.int (63744 : Int32)), (.int p0)] _
                                    refine XS.icmpYes X0.here hx rfl (pc0 := 158) (pc' := 167) rfl (hb hby d1_158) rfl (tlt (show p0 < (63744 : Int32) from (Int32.lt_iff_toInt_lt.mpr (by omega : (p0).toInt < (63744 : Int))))).1 (by decide) (by decide) ?_
                                    show own_s p e below s₁ m 167 #[iv p0] [] _
                                    refine XS.iloadN X0.here hx rfl (hb hby d1_167) rfl ?_
                                    show own_s p e below s₁ m 168 #[iv p0] [(.int p0)] _
                                    refine X0.ldcInt hx hown (mvT hZ (hw _ (List.mem_of_getElem? (i := 16) rfl))) (g := (mkF m 168 #[iv p0] [(.int p0)])) rfl (hb hby d1_168) _ ?_
                                    show own_s p e below s₁ m 170 #[iv p0] [(.int (65008 : Int32)), (.int p0)] _
                                    refine XS.icmpYes X0.here hx rfl (pc0 := 170) (pc' := 179) rfl (hb hby d1_170) rfl (tlt (show p0 < (65008 : Int32) from (Int32.lt_iff_toInt_lt.mpr (by omega : (p0).toInt < (65008 : Int))))).1 (by decide) (by decide) ?_
                                    show own_s p e below s₁ m 179 #[iv p0] [] _
                                    refine XS.iloadN X0.here hx rfl (hb hby d1_179) rfl ?_
                                    show own_s p e below s₁ m 180 #[iv p0] [(.int p0)] _
                                    refine X0.ldcInt hx hown (mvT hZ (hw _ (List.mem_of_getElem? (i := 17) rfl))) (g := (mkF m 180 #[iv p0] [(.int p0)])) rfl (hb hby d1_180) _ ?_
                                    show own_s p e below s₁ m 182 #[iv p0] [(.int (65536 : Int32)), (.int p0)] _
                                    refine XS.icmpYes X0.here hx rfl (pc0 := 182) (pc' := 195) rfl (hb hby d1_182) rfl (tlt (show p0 < (65536 : Int32) from (Int32.lt_iff_toInt_lt.mpr (by omega : (p0).toInt < (65536 : Int))))).1 (by decide) (by decide) ?_
                                    show own_s p e below s₁ m 195 #[iv p0] [] _
                                    refine XS.iconst X0.here hx rfl (hb hby d1_195) ?_
                                    exact kX
                                  subst hS0
                                  obtain ⟨fs, hr, hrun, hended, hW, hsame⟩ := X0.leave (v := (some (.int (0 : Int32)))) (fun h => by rw [Bd.returns] at h; cases h)
                                  refine ⟨_, _, pre41 _ (retN X0 hx (t := .boolean) Bd.returns (by simp) (hb hby d1_196) hr), hrun, hended, _, _, rfl, ?_, ⟨_, rfl⟩, hW, hsame.mono (by decide) (by decide)⟩
                                  show Q1 Z p0 h0 n0 (some (.int (0 : Int32))) s₁.heap _
                                  exact ⟨congrArg (fun z => some (Value.int z)) (show (0 : Int32) = own_nc p0 from (if_neg (show ¬ own_P p0 = true from fun q => absurd (of_decide_eq_true q) (by omega))).symm), N0, e0⟩
                                · skip
                                  have ihc40 : ¬ ((p0).toInt < (8204 : Int)) := fun q => hc40 (Int32.lt_iff_toInt_lt.mpr q)
                                  have pre42 : ∀ t, own_s p e below s₁ m 111 #[iv p0] [(.int (8205 : Int32)), (.int p0)] t → Steps p.tables e below S0 t := by
                                    intro tX kX
                                    refine pre39 _ ?_
                                    show own_s p e below s₁ m 104 #[iv p0] [(.int (8204 : Int32)), (.int p0)] _
                                    refine XS.icmpNo X0.here hx rfl (hb hby d1_104) rfl (flt hc40).1 ?_
                                    show own_s p e below s₁ m 107 #[iv p0] [] _
                                    refine XS.iloadN X0.here hx rfl (hb hby d1_107) rfl ?_
                                    show own_s p e below s₁ m 108 #[iv p0] [(.int p0)] _
                                    refine XS.sipush X0.here hx rfl (hb hby d1_108) ?_
                                    exact kX
                                  by_cases hc43 : (8205 : Int32) < p0
                                  · skip
                                    have ihc43 : (8205 : Int) < (p0).toInt := Int32.lt_iff_toInt_lt.mp hc43
                                    have pre44 : ∀ t, own_s p e below s₁ m 118 #[iv p0] [(.int (8304 : Int32)), (.int p0)] t → Steps p.tables e below S0 t := by
                                      intro tX kX
                                      refine pre42 _ ?_
                                      show own_s p e below s₁ m 111 #[iv p0] [(.int (8205 : Int32)), (.int p0)] _
                                      refine XS.icmpNo X0.here hx rfl (hb hby d1_111) rfl (tlt hc43).2.2.2 ?_
                                      show own_s p e below s₁ m 114 #[iv p0] [] _
                                      refine XS.iloadN X0.here hx rfl (hb hby d1_114) rfl ?_
                                      show own_s p e below s₁ m 115 #[iv p0] [(.int p0)] _
                                      refine XS.sipush X0.here hx rfl (hb hby d1_115) ?_
                                      exact kX
                                    by_cases hc45 : p0 < (8304 : Int32)
                                    · skip
                                      have ihc45 : (p0).toInt < (8304 : Int) := Int32.lt_iff_toInt_lt.mp hc45
                                      have pre46 : ∀ t, own_s p e below s₁ m 196 #[iv p0] [(.int (0 : Int32))] t → Steps p.tables e below S0 t := by
                                        intro tX kX
                                        refine pre44 _ ?_
                                        show own_s p e below s₁ m 118 #[iv p0] [(.int (8304 : Int32)), (.int p0)] _
                                        refine XS.icmpYes X0.here hx rfl (pc0 := 118) (pc' := 128) rfl (hb hby d1_118) rfl (tlt hc45).1 (by decide) (by decide) ?_
                                        show own_s p e below s₁ m 128 #[iv p0] [] _
                                        refine XS.iloadN X0.here hx rfl (hb hby d1_128) rfl ?_
                                        show own_s p e below s₁ m 129 #[iv p0] [(.int p0)] _
                                        refine XS.sipush X0.here hx rfl (hb hby d1_129) ?_
                                        show own_s p e below s₁ m 132 #[iv p0] [(.int (11264 : Int32)), (.int p0)] _
                                        refine XS.icmpYes X0.here hx rfl (pc0 := 132) (pc' := 142) rfl (hb hby d1_132) rfl (tlt (show p0 < (11264 : Int32) from (Int32.lt_iff_toInt_lt.mpr (by omega : (p0).toInt < (11264 : Int))))).1 (by decide) (by decide) ?_
                                        show own_s p e below s₁ m 142 #[iv p0] [] _
                                        refine XS.iloadN X0.here hx rfl (hb hby d1_142) rfl ?_
                                        show own_s p e below s₁ m 143 #[iv p0] [(.int p0)] _
                                        refine XS.sipush X0.here hx rfl (hb hby d1_143) ?_
                                        show own_s p e below s₁ m 146 #[iv p0] [(.int (12289 : Int32)), (.int p0)] _
                                        refine XS.icmpYes X0.here hx rfl (pc0 := 146) (pc' := 155) rfl (hb hby d1_146) rfl (tlt (show p0 < (12289 : Int32) from (Int32.lt_iff_toInt_lt.mpr (by omega : (p0).toInt < (12289 : Int))))).1 (by decide) (by decide) ?_
                                        show own_s p e below s₁ m 155 #[iv p0] [] _
                                        refine XS.iloadN X0.here hx rfl (hb hby d1_155) rfl ?_
                                        show own_s p e below s₁ m 156 #[iv p0] [(.int p0)] _
                                        refine X0.ldcInt hx hown (mvT hZ (hw _ (List.mem_of_getElem? (i := 15) rfl))) (g := (mkF m 156 #[iv p0] [(.int p0)])) rfl (hb hby d1_156) _ ?_
                                        show own_s p e below s₁ m 158 #[iv p0] [(.int (63744 : Int32)), (.int p0)] _
                                        refine XS.icmpYes X0.here hx rfl (pc0 := 158) (pc' := 167) rfl (hb hby d1_158) rfl (tlt (show p0 < (63744 : Int32) from (Int32.lt_iff_toInt_lt.mpr (by omega : (p0).toInt < (63744 : Int))))).1 (by decide) (by decide) ?_
                                        show own_s p e below s₁ m 167 #[iv p0] [] _
                                        refine XS.iloadN X0.here hx rfl (hb hby d1_167) rfl ?_
                                        show own_s p e below s₁ m 168 #[iv p0] [(.int p0)] _
                                        refine X0.ldcInt hx hown (mvT hZ (hw _ (List.mem_of_getElem? (i := 16) rfl))) (g := (mkF m 168 #[iv p0] [(.int p0)])) rfl (hb hby d1_168) _ ?_
                                        show own_s p e below s₁ m 170 #[iv p0] [(.int (65008 : Int32)), (.int p0)] _
                                        refine XS.icmpYes X0.here hx rfl (pc0 := 170) (pc' := 179) rfl (hb hby d1_170) rfl (tlt (show p0 < (65008 : Int32) from (Int32.lt_iff_toInt_lt.mpr (by omega : (p0).toInt < (65008 : Int))))).1 (by decide) (by decide) ?_
                                        show own_s p e below s₁ m 179 #[iv p0] [] _
                                        refine XS.iloadN X0.here hx rfl (hb hby d1_179) rfl ?_
                                        show own_s p e below s₁ m 180 #[iv p0] [(.int p0)] _
                                        refine X0.ldcInt hx hown (mvT hZ (hw _ (List.mem_of_getElem? (i := 17) rfl))) (g := (mkF m 180 #[iv p0] [(.int p0)])) rfl (hb hby d1_180) _ ?_
                                        show own_s p e below s₁ m 182 #[iv p0] [(.int (65536 : Int32)), (.int p0)] _
                                        refine XS.icmpYes X0.here hx rfl (pc0 := 182) (pc' := 195) rfl (hb hby d1_182) rfl (tlt (show p0 < (65536 : Int32) from (Int32.lt_iff_toInt_lt.mpr (by omega : (p0).toInt < (65536 : Int))))).1 (by decide) (by decide) ?_
                                        show own_s p e below s₁ m 195 #[iv p0] [] _
                                        refine XS.iconst X0.here hx rfl (hb hby d1_195) ?_
                                        exact kX
                                      subst hS0
                                      obtain ⟨fs, hr, hrun, hended, hW, hsame⟩ := X0.leave (v := (some (.int (0 : Int32)))) (fun h => by rw [Bd.returns] at h; cases h)
                                      refine ⟨_, _, pre46 _ (retN X0 hx (t := .boolean) Bd.returns (by simp) (hb hby d1_196) hr), hrun, hended, _, _, rfl, ?_, ⟨_, rfl⟩, hW, hsame.mono (by decide) (by decide)⟩
                                      show Q1 Z p0 h0 n0 (some (.int (0 : Int32))) s₁.heap _
                                      exact ⟨congrArg (fun z => some (Value.int z)) (show (0 : Int32) = own_nc p0 from (if_neg (show ¬ own_P p0 = true from fun q => absurd (of_decide_eq_true q) (by omega))).symm), N0, e0⟩
                                    · skip
                                      have ihc45 : ¬ ((p0).toInt < (8304 : Int)) := fun q => hc45 (Int32.lt_iff_toInt_lt.mpr q)
                                      have pre47 : ∀ t, own_s p e below s₁ m 125 #[iv p0] [(.int (8591 : Int32)), (.int p0)] t → Steps p.tables e below S0 t := by
                                        intro tX kX
                                        refine pre44 _ ?_
                                        show own_s p e below s₁ m 118 #[iv p0] [(.int (8304 : Int32)), (.int p0)] _
                                        refine XS.icmpNo X0.here hx rfl (hb hby d1_118) rfl (flt hc45).1 ?_
                                        show own_s p e below s₁ m 121 #[iv p0] [] _
                                        refine XS.iloadN X0.here hx rfl (hb hby d1_121) rfl ?_
                                        show own_s p e below s₁ m 122 #[iv p0] [(.int p0)] _
                                        refine XS.sipush X0.here hx rfl (hb hby d1_122) ?_
                                        exact kX
                                      by_cases hc48 : (8591 : Int32) < p0
                                      · skip
                                        have ihc48 : (8591 : Int) < (p0).toInt := Int32.lt_iff_toInt_lt.mp hc48
                                        have pre49 : ∀ t, own_s p e below s₁ m 132 #[iv p0] [(.int (11264 : Int32)), (.int p0)] t → Steps p.tables e below S0 t := by
                                          intro tX kX
                                          refine pre47 _ ?_
                                          show own_s p e below s₁ m 125 #[iv p0] [(.int (8591 : Int32)), (.int p0)] _
                                          refine XS.icmpNo X0.here hx rfl (hb hby d1_125) rfl (tlt hc48).2.2.2 ?_
                                          show own_s p e below s₁ m 128 #[iv p0] [] _
                                          refine XS.iloadN X0.here hx rfl (hb hby d1_128) rfl ?_
                                          show own_s p e below s₁ m 129 #[iv p0] [(.int p0)] _
                                          refine XS.sipush X0.here hx rfl (hb hby d1_129) ?_
                                          exact kX
                                        by_cases hc50 : p0 < (11264 : Int32)
                                        · skip
                                          have ihc50 : (p0).toInt < (11264 : Int) := Int32.lt_iff_toInt_lt.mp hc50
                                          have pre51 : ∀ t, own_s p e below s₁ m 196 #[iv p0] [(.int (0 : Int32))] t → Steps p.tables e below S0 t := by
                                            intro tX kX
                                            refine pre49 _ ?_
                                            show own_s p e below s₁ m 132 #[iv p0] [(.int (11264 : Int32)), (.int p0)] _
                                            refine XS.icmpYes X0.here hx rfl (pc0 := 132) (pc' := 142) rfl (hb hby d1_132) rfl (tlt hc50).1 (by decide) (by decide) ?_
                                            show own_s p e below s₁ m 142 #[iv p0] [] _
                                            refine XS.iloadN X0.here hx rfl (hb hby d1_142) rfl ?_
                                            show own_s p e below s₁ m 143 #[iv p0] [(.int p0)] _
                                            refine XS.sipush X0.here hx rfl (hb hby d1_143) ?_
                                            show own_s p e below s₁ m 146 #[iv p0] [(.int (12289 : Int32)), (.int p0)] _
                                            refine XS.icmpYes X0.here hx rfl (pc0 := 146) (pc' := 155) rfl (hb hby d1_146) rfl (tlt (show p0 < (12289 : Int32) from (Int32.lt_iff_toInt_lt.mpr (by omega : (p0).toInt < (12289 : Int))))).1 (by decide) (by decide) ?_
                                            show own_s p e below s₁ m 155 #[iv p0] [] _
                                            refine XS.iloadN X0.here hx rfl (hb hby d1_155) rfl ?_
                                            show own_s p e below s₁ m 156 #[iv p0] [(.int p0)] _
                                            refine X0.ldcInt hx hown (mvT hZ (hw _ (List.mem_of_getElem? (i := 15) rfl))) (g := (mkF m 156 #[iv p0] [(.int p0)])) rfl (hb hby d1_156) _ ?_
                                            show own_s p e below s₁ m 158 #[iv p0] [(.int (63744 : Int32)), (.int p0)] _
                                            refine XS.icmpYes X0.here hx rfl (pc0 := 158) (pc' := 167) rfl (hb hby d1_158) rfl (tlt (show p0 < (63744 : Int32) from (Int32.lt_iff_toInt_lt.mpr (by omega : (p0).toInt < (63744 : Int))))).1 (by decide) (by decide) ?_
                                            show own_s p e below s₁ m 167 #[iv p0] [] _
                                            refine XS.iloadN X0.here hx rfl (hb hby d1_167) rfl ?_
                                            show own_s p e below s₁ m 168 #[iv p0] [(.int p0)] _
                                            refine X0.ldcInt hx hown (mvT hZ (hw _ (List.mem_of_getElem? (i := 16) rfl))) (g := (mkF m 168 #[iv p0] [(.int p0)])) rfl (hb hby d1_168) _ ?_
                                            show own_s p e below s₁ m 170 #[iv p0] [(.int (65008 : Int32)), (.int p0)] _
                                            refine XS.icmpYes X0.here hx rfl (pc0 := 170) (pc' := 179) rfl (hb hby d1_170) rfl (tlt (show p0 < (65008 : Int32) from (Int32.lt_iff_toInt_lt.mpr (by omega : (p0).toInt < (65008 : Int))))).1 (by decide) (by decide) ?_
                                            show own_s p e below s₁ m 179 #[iv p0] [] _
                                            refine XS.iloadN X0.here hx rfl (hb hby d1_179) rfl ?_
                                            show own_s p e below s₁ m 180 #[iv p0] [(.int p0)] _
                                            refine X0.ldcInt hx hown (mvT hZ (hw _ (List.mem_of_getElem? (i := 17) rfl))) (g := (mkF m 180 #[iv p0] [(.int p0)])) rfl (hb hby d1_180) _ ?_
                                            show own_s p e below s₁ m 182 #[iv p0] [(.int (65536 : Int32)), (.int p0)] _
                                            refine XS.icmpYes X0.here hx rfl (pc0 := 182) (pc' := 195) rfl (hb hby d1_182) rfl (tlt (show p0 < (65536 : Int32) from (Int32.lt_iff_toInt_lt.mpr (by omega : (p0).toInt < (65536 : Int))))).1 (by decide) (by decide) ?_
                                            show own_s p e below s₁ m 195 #[iv p0] [] _
                                            refine XS.iconst X0.here hx rfl (hb hby d1_195) ?_
                                            exact kX
                                          subst hS0
                                          obtain ⟨fs, hr, hrun, hended, hW, hsame⟩ := X0.leave (v := (some (.int (0 : Int32)))) (fun h => by rw [Bd.returns] at h; cases h)
                                          refine ⟨_, _, pre51 _ (retN X0 hx (t := .boolean) Bd.returns (by simp) (hb hby d1_196) hr), hrun, hended, _, _, rfl, ?_, ⟨_, rfl⟩, hW, hsame.mono (by decide) (by decide)⟩
                                          show Q1 Z p0 h0 n0 (some (.int (0 : Int32))) s₁.heap _
                                          exact ⟨congrArg (fun z => some (Value.int z)) (show (0 : Int32) = own_nc p0 from (if_neg (show ¬ own_P p0 = true from fun q => absurd (of_decide_eq_true q) (by omega))).symm), N0, e0⟩
                                        · skip
                                          have ihc50 : ¬ ((p0).toInt < (11264 : Int)) := fun q => hc50 (Int32.lt_iff_toInt_lt.mpr q)
                                          have pre52 : ∀ t, own_s p e below s₁ m 139 #[iv p0] [(.int (12271 : Int32)), (.int p0)] t → Steps p.tables e below S0 t := by
                                            intro tX kX
                                            refine pre49 _ ?_
                                            show own_s p e below s₁ m 132 #[iv p0] [(.int (11264 : Int32)), (.int p0)] _
                                            refine XS.icmpNo X0.here hx rfl (hb hby d1_132) rfl (flt hc50).1 ?_
                                            show own_s p e below s₁ m 135 #[iv p0] [] _
                                            refine XS.iloadN X0.here hx rfl (hb hby d1_135) rfl ?_
                                            show own_s p e below s₁ m 136 #[iv p0] [(.int p0)] _
                                            refine XS.sipush X0.here hx rfl (hb hby d1_136) ?_
                                            exact kX
                                          by_cases hc53 : (12271 : Int32) < p0
                                          · skip
                                            have ihc53 : (12271 : Int) < (p0).toInt := Int32.lt_iff_toInt_lt.mp hc53
                                            have pre54 : ∀ t, own_s p e below s₁ m 146 #[iv p0] [(.int (12289 : Int32)), (.int p0)] t → Steps p.tables e below S0 t := by
                                              intro tX kX
                                              refine pre52 _ ?_
                                              show own_s p e below s₁ m 139 #[iv p0] [(.int (12271 : Int32)), (.int p0)] _
                                              refine XS.icmpNo X0.here hx rfl (hb hby d1_139) rfl (tlt hc53).2.2.2 ?_
                                              show own_s p e below s₁ m 142 #[iv p0] [] _
                                              refine XS.iloadN X0.here hx rfl (hb hby d1_142) rfl ?_
                                              show own_s p e below s₁ m 143 #[iv p0] [(.int p0)] _
                                              refine XS.sipush X0.here hx rfl (hb hby d1_143) ?_
                                              exact kX
                                            by_cases hc55 : p0 < (12289 : Int32)
                                            · skip
                                              have ihc55 : (p0).toInt < (12289 : Int) := Int32.lt_iff_toInt_lt.mp hc55
                                              have pre56 : ∀ t, own_s p e below s₁ m 196 #[iv p0] [(.int (0 : Int32))] t → Steps p.tables e below S0 t := by
                                                intro tX kX
                                                refine pre54 _ ?_
                                                show own_s p e below s₁ m 146 #[iv p0] [(.int (12289 : Int32)), (.int p0)] _
                                                refine XS.icmpYes X0.here hx rfl (pc0 := 146) (pc' := 155) rfl (hb hby d1_146) rfl (tlt hc55).1 (by decide) (by decide) ?_
                                                show own_s p e below s₁ m 155 #[iv p0] [] _
                                                refine XS.iloadN X0.here hx rfl (hb hby d1_155) rfl ?_
                                                show own_s p e below s₁ m 156 #[iv p0] [(.int p0)] _
                                                refine X0.ldcInt hx hown (mvT hZ (hw _ (List.mem_of_getElem? (i := 15) rfl))) (g := (mkF m 156 #[iv p0] [(.int p0)])) rfl (hb hby d1_156) _ ?_
                                                show own_s p e below s₁ m 158 #[iv p0] [(.int (63744 : Int32)), (.int p0)] _
                                                refine XS.icmpYes X0.here hx rfl (pc0 := 158) (pc' := 167) rfl (hb hby d1_158) rfl (tlt (show p0 < (63744 : Int32) from (Int32.lt_iff_toInt_lt.mpr (by omega : (p0).toInt < (63744 : Int))))).1 (by decide) (by decide) ?_
                                                show own_s p e below s₁ m 167 #[iv p0] [] _
                                                refine XS.iloadN X0.here hx rfl (hb hby d1_167) rfl ?_
                                                show own_s p e below s₁ m 168 #[iv p0] [(.int p0)] _
                                                refine X0.ldcInt hx hown (mvT hZ (hw _ (List.mem_of_getElem? (i := 16) rfl))) (g := (mkF m 168 #[iv p0] [(.int p0)])) rfl (hb hby d1_168) _ ?_
                                                show own_s p e below s₁ m 170 #[iv p0] [(.int (65008 : Int32)), (.int p0)] _
                                                refine XS.icmpYes X0.here hx rfl (pc0 := 170) (pc' := 179) rfl (hb hby d1_170) rfl (tlt (show p0 < (65008 : Int32) from (Int32.lt_iff_toInt_lt.mpr (by omega : (p0).toInt < (65008 : Int))))).1 (by decide) (by decide) ?_
                                                show own_s p e below s₁ m 179 #[iv p0] [] _
                                                refine XS.iloadN X0.here hx rfl (hb hby d1_179) rfl ?_
                                                show own_s p e below s₁ m 180 #[iv p0] [(.int p0)] _
                                                refine X0.ldcInt hx hown (mvT hZ (hw _ (List.mem_of_getElem? (i := 17) rfl))) (g := (mkF m 180 #[iv p0] [(.int p0)])) rfl (hb hby d1_180) _ ?_
                                                show own_s p e below s₁ m 182 #[iv p0] [(.int (65536 : Int32)), (.int p0)] _
                                                refine XS.icmpYes X0.here hx rfl (pc0 := 182) (pc' := 195) rfl (hb hby d1_182) rfl (tlt (show p0 < (65536 : Int32) from (Int32.lt_iff_toInt_lt.mpr (by omega : (p0).toInt < (65536 : Int))))).1 (by decide) (by decide) ?_
                                                show own_s p e below s₁ m 195 #[iv p0] [] _
                                                refine XS.iconst X0.here hx rfl (hb hby d1_195) ?_
                                                exact kX
                                              subst hS0
                                              obtain ⟨fs, hr, hrun, hended, hW, hsame⟩ := X0.leave (v := (some (.int (0 : Int32)))) (fun h => by rw [Bd.returns] at h; cases h)
                                              refine ⟨_, _, pre56 _ (retN X0 hx (t := .boolean) Bd.returns (by simp) (hb hby d1_196) hr), hrun, hended, _, _, rfl, ?_, ⟨_, rfl⟩, hW, hsame.mono (by decide) (by decide)⟩
                                              show Q1 Z p0 h0 n0 (some (.int (0 : Int32))) s₁.heap _
                                              exact ⟨congrArg (fun z => some (Value.int z)) (show (0 : Int32) = own_nc p0 from (if_neg (show ¬ own_P p0 = true from fun q => absurd (of_decide_eq_true q) (by omega))).symm), N0, e0⟩
                                            · skip
                                              have ihc55 : ¬ ((p0).toInt < (12289 : Int)) := fun q => hc55 (Int32.lt_iff_toInt_lt.mpr q)
                                              have pre57 : ∀ t, own_s p e below s₁ m 152 #[iv p0] [(.int (55295 : Int32)), (.int p0)] t → Steps p.tables e below S0 t := by
                                                intro tX kX
                                                refine pre54 _ ?_
                                                show own_s p e below s₁ m 146 #[iv p0] [(.int (12289 : Int32)), (.int p0)] _
                                                refine XS.icmpNo X0.here hx rfl (hb hby d1_146) rfl (flt hc55).1 ?_
                                                show own_s p e below s₁ m 149 #[iv p0] [] _
                                                refine XS.iloadN X0.here hx rfl (hb hby d1_149) rfl ?_
                                                show own_s p e below s₁ m 150 #[iv p0] [(.int p0)] _
                                                refine X0.ldcInt hx hown (mvT hZ (hw _ (List.mem_of_getElem? (i := 25) rfl))) (g := (mkF m 150 #[iv p0] [(.int p0)])) rfl (hb hby d1_150) _ ?_
                                                exact kX
                                              by_cases hc58 : (55295 : Int32) < p0
                                              · skip
                                                have ihc58 : (55295 : Int) < (p0).toInt := Int32.lt_iff_toInt_lt.mp hc58
                                                have pre59 : ∀ t, own_s p e below s₁ m 158 #[iv p0] [(.int (63744 : Int32)), (.int p0)] t → Steps p.tables e below S0 t := by
                                                  intro tX kX
                                                  refine pre57 _ ?_
                                                  show own_s p e below s₁ m 152 #[iv p0] [(.int (55295 : Int32)), (.int p0)] _
                                                  refine XS.icmpNo X0.here hx rfl (hb hby d1_152) rfl (tlt hc58).2.2.2 ?_
                                                  show own_s p e below s₁ m 155 #[iv p0] [] _
                                                  refine XS.iloadN X0.here hx rfl (hb hby d1_155) rfl ?_
                                                  show own_s p e below s₁ m 156 #[iv p0] [(.int p0)] _
                                                  refine X0.ldcInt hx hown (mvT hZ (hw _ (List.mem_of_getElem? (i := 15) rfl))) (g := (mkF m 156 #[iv p0] [(.int p0)])) rfl (hb hby d1_156) _ ?_
                                                  exact kX
                                                by_cases hc60 : p0 < (63744 : Int32)
                                                · skip
                                                  have ihc60 : (p0).toInt < (63744 : Int) := Int32.lt_iff_toInt_lt.mp hc60
                                                  have pre61 : ∀ t, own_s p e below s₁ m 196 #[iv p0] [(.int (0 : Int32))] t → Steps p.tables e below S0 t := by
                                                    intro tX kX
                                                    refine pre59 _ ?_
                                                    show own_s p e below s₁ m 158 #[iv p0] [(.int (63744 : Int32)), (.int p0)] _
                                                    refine XS.icmpYes X0.here hx rfl (pc0 := 158) (pc' := 167) rfl (hb hby d1_158) rfl (tlt hc60).1 (by decide) (by decide) ?_
                                                    show own_s p e below s₁ m 167 #[iv p0] [] _
                                                    refine XS.iloadN X0.here hx rfl (hb hby d1_167) rfl ?_
                                                    show own_s p e below s₁ m 168 #[iv p0] [(.int p0)] _
                                                    refine X0.ldcInt hx hown (mvT hZ (hw _ (List.mem_of_getElem? (i := 16) rfl))) (g := (mkF m 168 #[iv p0] [(.int p0)])) rfl (hb hby d1_168) _ ?_
                                                    show own_s p e below s₁ m 170 #[iv p0] [(.int (65008 : Int32)), (.int p0)] _
                                                    refine XS.icmpYes X0.here hx rfl (pc0 := 170) (pc' := 179) rfl (hb hby d1_170) rfl (tlt (show p0 < (65008 : Int32) from (Int32.lt_iff_toInt_lt.mpr (by omega : (p0).toInt < (65008 : Int))))).1 (by decide) (by decide) ?_
                                                    show own_s p e below s₁ m 179 #[iv p0] [] _
                                                    refine XS.iloadN X0.here hx rfl (hb hby d1_179) rfl ?_
                                                    show own_s p e below s₁ m 180 #[iv p0] [(.int p0)] _
                                                    refine X0.ldcInt hx hown (mvT hZ (hw _ (List.mem_of_getElem? (i := 17) rfl))) (g := (mkF m 180 #[iv p0] [(.int p0)])) rfl (hb hby d1_180) _ ?_
                                                    show own_s p e below s₁ m 182 #[iv p0] [(.int (65536 : Int32)), (.int p0)] _
                                                    refine XS.icmpYes X0.here hx rfl (pc0 := 182) (pc' := 195) rfl (hb hby d1_182) rfl (tlt (show p0 < (65536 : Int32) from (Int32.lt_iff_toInt_lt.mpr (by omega : (p0).toInt < (65536 : Int))))).1 (by decide) (by decide) ?_
                                                    show own_s p e below s₁ m 195 #[iv p0] [] _
                                                    refine XS.iconst X0.here hx rfl (hb hby d1_195) ?_
                                                    exact kX
                                                  subst hS0
                                                  obtain ⟨fs, hr, hrun, hended, hW, hsame⟩ := X0.leave (v := (some (.int (0 : Int32)))) (fun h => by rw [Bd.returns] at h; cases h)
                                                  refine ⟨_, _, pre61 _ (retN X0 hx (t := .boolean) Bd.returns (by simp) (hb hby d1_196) hr), hrun, hended, _, _, rfl, ?_, ⟨_, rfl⟩, hW, hsame.mono (by decide) (by decide)⟩
                                                  show Q1 Z p0 h0 n0 (some (.int (0 : Int32))) s₁.heap _
                                                  exact ⟨congrArg (fun z => some (Value.int z)) (show (0 : Int32) = own_nc p0 from (if_neg (show ¬ own_P p0 = true from fun q => absurd (of_decide_eq_true q) (by omega))).symm), N0, e0⟩
                                                · skip
                                                  have ihc60 : ¬ ((p0).toInt < (63744 : Int)) := fun q => hc60 (Int32.lt_iff_toInt_lt.mpr q)
                                                  have pre62 : ∀ t, own_s p e below s₁ m 164 #[iv p0] [(.int (64975 : Int32)), (.int p0)] t → Steps p.tables e below S0 t := by
                                                    intro tX kX
                                                    refine pre59 _ ?_
                                                    show own_s p e below s₁ m 158 #[iv p0] [(.int (63744 : Int32)), (.int p0)] _
                                                    refine XS.icmpNo X0.here hx rfl (hb hby d1_158) rfl (flt hc60).1 ?_
                                                    show own_s p e below s₁ m 161 #[iv p0] [] _
                                                    refine XS.iloadN X0.here hx rfl (hb hby d1_161) rfl ?_
                                                    show own_s p e below s₁ m 162 #[iv p0] [(.int p0)] _
                                                    refine X0.ldcInt hx hown (mvT hZ (hw _ (List.mem_of_getElem? (i := 26) rfl))) (g := (mkF m 162 #[iv p0] [(.int p0)])) rfl (hb hby d1_162) _ ?_
                                                    exact kX
                                                  by_cases hc63 : (64975 : Int32) < p0
                                                  · skip
                                                    have ihc63 : (64975 : Int) < (p0).toInt := Int32.lt_iff_toInt_lt.mp hc63
                                                    have pre64 : ∀ t, own_s p e below s₁ m 170 #[iv p0] [(.int (65008 : Int32)), (.int p0)] t → Steps p.tables e below S0 t := by
                                                      intro tX kX
                                                      refine pre62 _ ?_
                                                      show own_s p e below s₁ m 164 #[iv p0] [(.int (64975 : Int32)), (.int p0)] _
                                                      refine XS.icmpNo X0.here hx rfl (hb hby d1_164) rfl (tlt hc63).2.2.2 ?_
                                                      show own_s p e below s₁ m 167 #[iv p0] [] _
                                                      refine XS.iloadN X0.here hx rfl (hb hby d1_167) rfl ?_
                                                      show own_s p e below s₁ m 168 #[iv p0] [(.int p0)] _
                                                      refine X0.ldcInt hx hown (mvT hZ (hw _ (List.mem_of_getElem? (i := 16) rfl))) (g := (mkF m 168 #[iv p0] [(.int p0)])) rfl (hb hby d1_168) _ ?_
                                                      exact kX
                                                    by_cases hc65 : p0 < (65008 : Int32)
                                                    · skip
                                                      have ihc65 : (p0).toInt < (65008 : Int) := Int32.lt_iff_toInt_lt.mp hc65
                                                      have pre66 : ∀ t, own_s p e below s₁ m 196 #[iv p0] [(.int (0 : Int32))] t → Steps p.tables e below S0 t := by
                                                        intro tX kX
                                                        refine pre64 _ ?_
                                                        show own_s p e below s₁ m 170 #[iv p0] [(.int (65008 : Int32)), (.int p0)] _
                                                        refine XS.icmpYes X0.here hx rfl (pc0 := 170) (pc' := 179) rfl (hb hby d1_170) rfl (tlt hc65).1 (by decide) (by decide) ?_
                                                        show own_s p e below s₁ m 179 #[iv p0] [] _
                                                        refine XS.iloadN X0.here hx rfl (hb hby d1_179) rfl ?_
                                                        show own_s p e below s₁ m 180 #[iv p0] [(.int p0)] _
                                                        refine X0.ldcInt hx hown (mvT hZ (hw _ (List.mem_of_getElem? (i := 17) rfl))) (g := (mkF m 180 #[iv p0] [(.int p0)])) rfl (hb hby d1_180) _ ?_
                                                        show own_s p e below s₁ m 182 #[iv p0] [(.int (65536 : Int32)), (.int p0)] _
                                                        refine XS.icmpYes X0.here hx rfl (pc0 := 182) (pc' := 195) rfl (hb hby d1_182) rfl (tlt (show p0 < (65536 : Int32) from (Int32.lt_iff_toInt_lt.mpr (by omega : (p0).toInt < (65536 : Int))))).1 (by decide) (by decide) ?_
                                                        show own_s p e below s₁ m 195 #[iv p0] [] _
                                                        refine XS.iconst X0.here hx rfl (hb hby d1_195) ?_
                                                        exact kX
                                                      subst hS0
                                                      obtain ⟨fs, hr, hrun, hended, hW, hsame⟩ := X0.leave (v := (some (.int (0 : Int32)))) (fun h => by rw [Bd.returns] at h; cases h)
                                                      refine ⟨_, _, pre66 _ (retN X0 hx (t := .boolean) Bd.returns (by simp) (hb hby d1_196) hr), hrun, hended, _, _, rfl, ?_, ⟨_, rfl⟩, hW, hsame.mono (by decide) (by decide)⟩
                                                      show Q1 Z p0 h0 n0 (some (.int (0 : Int32))) s₁.heap _
                                                      exact ⟨congrArg (fun z => some (Value.int z)) (show (0 : Int32) = own_nc p0 from (if_neg (show ¬ own_P p0 = true from fun q => absurd (of_decide_eq_true q) (by omega))).symm), N0, e0⟩
                                                    · skip
                                                      have ihc65 : ¬ ((p0).toInt < (65008 : Int)) := fun q => hc65 (Int32.lt_iff_toInt_lt.mpr q)
                                                      have pre67 : ∀ t, own_s p e below s₁ m 176 #[iv p0] [(.int (65533 : Int32)), (.int p0)] t → Steps p.tables e below S0 t := by
                                                        intro tX kX
                                                        refine pre64 _ ?_
                                                        show own_s p e below s₁ m 170 #[iv p0] [(.int (65008 : Int32)), (.int p0)] _
                                                        refine XS.icmpNo X0.here hx rfl (hb hby d1_170) rfl (flt hc65).1 ?_
                                                        show own_s p e below s₁ m 173 #[iv p0] [] _
                                                        refine XS.iloadN X0.here hx rfl (hb hby d1_173) rfl ?_
                                                        show own_s p e below s₁ m 174 #[iv p0] [(.int p0)] _
                                                        refine X0.ldcInt hx hown (mvT hZ (hw _ (List.mem_of_getElem? (i := 27) rfl))) (g := (mkF m 174 #[iv p0] [(.int p0)])) rfl (hb hby d1_174) _ ?_
                                                        exact kX
                                                      by_cases hc68 : (65533 : Int32) < p0
                                                      · skip
                                                        have ihc68 : (65533 : Int) < (p0).toInt := Int32.lt_iff_toInt_lt.mp hc68
                                                        have pre69 : ∀ t, own_s p e below s₁ m 182 #[iv p0] [(.int (65536 : Int32)), (.int p0)] t → Steps p.tables e below S0 t := by
                                                          intro tX kX
                                                          refine pre67 _ ?_
                                                          show own_s p e below s₁ m 176 #[iv p0] [(.int (65533 : Int32)), (.int p0)] _
                                                          refine XS.icmpNo X0.here hx rfl (hb hby d1_176) rfl (tlt hc68).2.2.2 ?_
                                                          show own_s p e below s₁ m 179 #[iv p0] [] _
                                                          refine XS.iloadN X0.here hx rfl (hb hby d1_179) rfl ?_
                                                          show own_s p e below s₁ m 180 #[iv p0] [(.int p0)] _
                                                          refine X0.ldcInt hx hown (mvT hZ (hw _ (List.mem_of_getElem? (i := 17) rfl))) (g := (mkF m 180 #[iv p0] [(.int p0)])) rfl (hb hby d1_180) _ ?_
                                                          exact kX
                                                        by_cases hc70 : p0 < (65536 : Int32)
                                                        · skip
                                                          have ihc70 : (p0).toInt < (65536 : Int) := Int32.lt_iff_toInt_lt.mp hc70
                                                          have pre71 : ∀ t, own_s p e below s₁ m 196 #[iv p0] [(.int (0 : Int32))] t → Steps p.tables e below S0 t := by
                                                            intro tX kX
                                                            refine pre69 _ ?_
                                                            show own_s p e below s₁ m 182 #[iv p0] [(.int (65536 : Int32)), (.int p0)] _
                                                            refine XS.icmpYes X0.here hx rfl (pc0 := 182) (pc' := 195) rfl (hb hby d1_182) rfl (tlt hc70).1 (by decide) (by decide) ?_
                                                            show own_s p e below s₁ m 195 #[iv p0] [] _
                                                            refine XS.iconst X0.here hx rfl (hb hby d1_195) ?_
                                                            exact kX
                                                          subst hS0
                                                          obtain ⟨fs, hr, hrun, hended, hW, hsame⟩ := X0.leave (v := (some (.int (0 : Int32)))) (fun h => by rw [Bd.returns] at h; cases h)
                                                          refine ⟨_, _, pre71 _ (retN X0 hx (t := .boolean) Bd.returns (by simp) (hb hby d1_196) hr), hrun, hended, _, _, rfl, ?_, ⟨_, rfl⟩, hW, hsame.mono (by decide) (by decide)⟩
                                                          show Q1 Z p0 h0 n0 (some (.int (0 : Int32))) s₁.heap _
                                                          exact ⟨congrArg (fun z => some (Value.int z)) (show (0 : Int32) = own_nc p0 from (if_neg (show ¬ own_P p0 = true from fun q => absurd (of_decide_eq_true q) (by omega))).symm), N0, e0⟩
                                                        · skip
                                                          have ihc70 : ¬ ((p0).toInt < (65536 : Int)) := fun q => hc70 (Int32.lt_iff_toInt_lt.mpr q)
                                                          have pre72 : ∀ t, own_s p e below s₁ m 188 #[iv p0] [(.int (983039 : Int32)), (.int p0)] t → Steps p.tables e below S0 t := by
                                                            intro tX kX
                                                            refine pre69 _ ?_
                                                            show own_s p e below s₁ m 182 #[iv p0] [(.int (65536 : Int32)), (.int p0)] _
                                                            refine XS.icmpNo X0.here hx rfl (hb hby d1_182) rfl (flt hc70).1 ?_
                                                            show own_s p e below s₁ m 185 #[iv p0] [] _
                                                            refine XS.iloadN X0.here hx rfl (hb hby d1_185) rfl ?_
                                                            show own_s p e below s₁ m 186 #[iv p0] [(.int p0)] _
                                                            refine X0.ldcInt hx hown (mvT hZ (hw _ (List.mem_of_getElem? (i := 28) rfl))) (g := (mkF m 186 #[iv p0] [(.int p0)])) rfl (hb hby d1_186) _ ?_
                                                            exact kX
                                                          by_cases hc73 : (983039 : Int32) < p0
                                                          · skip
                                                            have ihc73 : (983039 : Int) < (p0).toInt := Int32.lt_iff_toInt_lt.mp hc73
                                                            have pre74 : ∀ t, own_s p e below s₁ m 196 #[iv p0] [(.int (0 : Int32))] t → Steps p.tables e below S0 t := by
                                                              intro tX kX
                                                              refine pre72 _ ?_
                                                              show own_s p e below s₁ m 188 #[iv p0] [(.int (983039 : Int32)), (.int p0)] _
                                                              refine XS.icmpYes X0.here hx rfl (pc0 := 188) (pc' := 195) rfl (hb hby d1_188) rfl (tlt hc73).2.2.1 (by decide) (by decide) ?_
                                                              show own_s p e below s₁ m 195 #[iv p0] [] _
                                                              refine XS.iconst X0.here hx rfl (hb hby d1_195) ?_
                                                              exact kX
                                                            subst hS0
                                                            obtain ⟨fs, hr, hrun, hended, hW, hsame⟩ := X0.leave (v := (some (.int (0 : Int32)))) (fun h => by rw [Bd.returns] at h; cases h)
                                                            refine ⟨_, _, pre74 _ (retN X0 hx (t := .boolean) Bd.returns (by simp) (hb hby d1_196) hr), hrun, hended, _, _, rfl, ?_, ⟨_, rfl⟩, hW, hsame.mono (by decide) (by decide)⟩
                                                            show Q1 Z p0 h0 n0 (some (.int (0 : Int32))) s₁.heap _
                                                            exact ⟨congrArg (fun z => some (Value.int z)) (show (0 : Int32) = own_nc p0 from (if_neg (show ¬ own_P p0 = true from fun q => absurd (of_decide_eq_true q) (by omega))).symm), N0, e0⟩
                                                          · skip
                                                            have ihc73 : ¬ ((983039 : Int) < (p0).toInt) := fun q => hc73 (Int32.lt_iff_toInt_lt.mpr q)
                                                            have pre75 : ∀ t, own_s p e below s₁ m 196 #[iv p0] [(.int (1 : Int32))] t → Steps p.tables e below S0 t := by
                                                              intro tX kX
                                                              refine pre72 _ ?_
                                                              show own_s p e below s₁ m 188 #[iv p0] [(.int (983039 : Int32)), (.int p0)] _
                                                              refine XS.icmpNo X0.here hx rfl (hb hby d1_188) rfl (flt hc73).2.2.1 ?_
                                                              show own_s p e below s₁ m 191 #[iv p0] [] _
                                                              refine XS.iconst X0.here hx rfl (hb hby d1_191) ?_
                                                              show own_s p e below s₁ m 192 #[iv p0] [(.int (1 : Int32))] _
                                                              refine XS.goto X0.here hx rfl (pc0 := 192) (pc' := 196) rfl (hb hby d1_192) (by decide) (by decide) ?_
                                                              exact kX
                                                            subst hS0
                                                            obtain ⟨fs, hr, hrun, hended, hW, hsame⟩ := X0.leave (v := (some (.int (1 : Int32)))) (fun h => by rw [Bd.returns] at h; cases h)
                                                            refine ⟨_, _, pre75 _ (retN X0 hx (t := .boolean) Bd.returns (by simp) (hb hby d1_196) hr), hrun, hended, _, _, rfl, ?_, ⟨_, rfl⟩, hW, hsame.mono (by decide) (by decide)⟩
                                                            show Q1 Z p0 h0 n0 (some (.int (1 : Int32))) s₁.heap _
                                                            exact ⟨congrArg (fun z => some (Value.int z)) (show (1 : Int32) = own_nc p0 from (if_pos (show own_P p0 = true from decide_eq_true (by omega))).symm), N0, e0⟩
                                                      · skip
                                                        have ihc68 : ¬ ((65533 : Int) < (p0).toInt) := fun q => hc68 (Int32.lt_iff_toInt_lt.mpr q)
                                                        have pre76 : ∀ t, own_s p e below s₁ m 196 #[iv p0] [(.int (1 : Int32))] t → Steps p.tables e below S0 t := by
                                                          intro tX kX
                                                          refine pre67 _ ?_
                                                          show own_s p e below s₁ m 176 #[iv p0] [(.int (65533 : Int32)), (.int p0)] _
                                                          refine XS.icmpYes X0.here hx rfl (pc0 := 176) (pc' := 191) rfl (hb hby d1_176) rfl (flt hc68).2.2.2 (by decide) (by decide) ?_
                                                          show own_s p e below s₁ m 191 #[iv p0] [] _
                                                          refine XS.iconst X0.here hx rfl (hb hby d1_191) ?_
                                                          show own_s p e below s₁ m 192 #[iv p0] [(.int (1 : Int32))] _
                                                          refine XS.goto X0.here hx rfl (pc0 := 192) (pc' := 196) rfl (hb hby d1_192) (by decide) (by decide) ?_
                                                          exact kX
                                                        subst hS0
                                                        obtain ⟨fs, hr, hrun, hended, hW, hsame⟩ := X0.leave (v := (some (.int (1 : Int32)))) (fun h => by rw [Bd.returns] at h; cases h)
                                                        refine ⟨_, _, pre76 _ (retN X0 hx (t := .boolean) Bd.returns (by simp) (hb hby d1_196) hr), hrun, hended, _, _, rfl, ?_, ⟨_, rfl⟩, hW, hsame.mono (by decide) (by decide)⟩
                                                        show Q1 Z p0 h0 n0 (some (.int (1 : Int32))) s₁.heap _
                                                        exact ⟨congrArg (fun z => some (Value.int z)) (show (1 : Int32) = own_nc p0 from (if_pos (show own_P p0 = true from decide_eq_true (by omega))).symm), N0, e0⟩
                                                  · skip
                                                    have ihc63 : ¬ ((64975 : Int) < (p0).toInt) := fun q => hc63 (Int32.lt_iff_toInt_lt.mpr q)
                                                    have pre77 : ∀ t, own_s p e below s₁ m 196 #[iv p0] [(.int (1 : Int32))] t → Steps p.tables e below S0 t := by
                                                      intro tX kX
                                                      refine pre62 _ ?_
                                                      show own_s p e below s₁ m 164 #[iv p0] [(.int (64975 : Int32)), (.int p0)] _
                                                      refine XS.icmpYes X0.here hx rfl (pc0 := 164) (pc' := 191) rfl (hb hby d1_164) rfl (flt hc63).2.2.2 (by decide) (by decide) ?_
                                                      show own_s p e below s₁ m 191 #[iv p0] [] _
                                                      refine XS.iconst X0.here hx rfl (hb hby d1_191) ?_
                                                      show own_s p e below s₁ m 192 #[iv p0] [(.int (1 : Int32))] _
                                                      refine XS.goto X0.here hx rfl (pc0 := 192) (pc' := 196) rfl (hb hby d1_192) (by decide) (by decide) ?_
                                                      exact kX
                                                    subst hS0
                                                    obtain ⟨fs, hr, hrun, hended, hW, hsame⟩ := X0.leave (v := (some (.int (1 : Int32)))) (fun h => by rw [Bd.returns] at h; cases h)
                                                    refine ⟨_, _, pre77 _ (retN X0 hx (t := .boolean) Bd.returns (by simp) (hb hby d1_196) hr), hrun, hended, _, _, rfl, ?_, ⟨_, rfl⟩, hW, hsame.mono (by decide) (by decide)⟩
                                                    show Q1 Z p0 h0 n0 (some (.int (1 : Int32))) s₁.heap _
                                                    exact ⟨congrArg (fun z => some (Value.int z)) (show (1 : Int32) = own_nc p0 from (if_pos (show own_P p0 = true from decide_eq_true (by omega))).symm), N0, e0⟩
                                              · skip
                                                have ihc58 : ¬ ((55295 : Int) < (p0).toInt) := fun q => hc58 (Int32.lt_iff_toInt_lt.mpr q)
                                                have pre78 : ∀ t, own_s p e below s₁ m 196 #[iv p0] [(.int (1 : Int32))] t → Steps p.tables e below S0 t := by
                                                  intro tX kX
                                                  refine pre57 _ ?_
                                                  show own_s p e below s₁ m 152 #[iv p0] [(.int (55295 : Int32)), (.int p0)] _
                                                  refine XS.icmpYes X0.here hx rfl (pc0 := 152) (pc' := 191) rfl (hb hby d1_152) rfl (flt hc58).2.2.2 (by decide) (by decide) ?_
                                                  show own_s p e below s₁ m 191 #[iv p0] [] _
                                                  refine XS.iconst X0.here hx rfl (hb hby d1_191) ?_
                                                  show own_s p e below s₁ m 192 #[iv p0] [(.int (1 : Int32))] _
                                                  refine XS.goto X0.here hx rfl (pc0 := 192) (pc' := 196) rfl (hb hby d1_192) (by decide) (by decide) ?_
                                                  exact kX
                                                subst hS0
                                                obtain ⟨fs, hr, hrun, hended, hW, hsame⟩ := X0.leave (v := (some (.int (1 : Int32)))) (fun h => by rw [Bd.returns] at h; cases h)
                                                refine ⟨_, _, pre78 _ (retN X0 hx (t := .boolean) Bd.returns (by simp) (hb hby d1_196) hr), hrun, hended, _, _, rfl, ?_, ⟨_, rfl⟩, hW, hsame.mono (by decide) (by decide)⟩
                                                show Q1 Z p0 h0 n0 (some (.int (1 : Int32))) s₁.heap _
                                                exact ⟨congrArg (fun z => some (Value.int z)) (show (1 : Int32) = own_nc p0 from (if_pos (show own_P p0 = true from decide_eq_true (by omega))).symm), N0, e0⟩
                                          · skip
                                            have ihc53 : ¬ ((12271 : Int) < (p0).toInt) := fun q => hc53 (Int32.lt_iff_toInt_lt.mpr q)
                                            have pre79 : ∀ t, own_s p e below s₁ m 196 #[iv p0] [(.int (1 : Int32))] t → Steps p.tables e below S0 t := by
                                              intro tX kX
                                              refine pre52 _ ?_
                                              show own_s p e below s₁ m 139 #[iv p0] [(.int (12271 : Int32)), (.int p0)] _
                                              refine XS.icmpYes X0.here hx rfl (pc0 := 139) (pc' := 191) rfl (hb hby d1_139) rfl (flt hc53).2.2.2 (by decide) (by decide) ?_
                                              show own_s p e below s₁ m 191 #[iv p0] [] _
                                              refine XS.iconst X0.here hx rfl (hb hby d1_191) ?_
                                              show own_s p e below s₁ m 192 #[iv p0] [(.int (1 : Int32))] _
                                              refine XS.goto X0.here hx rfl (pc0 := 192) (pc' := 196) rfl (hb hby d1_192) (by decide) (by decide) ?_
                                              exact kX
                                            subst hS0
                                            obtain ⟨fs, hr, hrun, hended, hW, hsame⟩ := X0.leave (v := (some (.int (1 : Int32)))) (fun h => by rw [Bd.returns] at h; cases h)
                                            refine ⟨_, _, pre79 _ (retN X0 hx (t := .boolean) Bd.returns (by simp) (hb hby d1_196) hr), hrun, hended, _, _, rfl, ?_, ⟨_, rfl⟩, hW, hsame.mono (by decide) (by decide)⟩
                                            show Q1 Z p0 h0 n0 (some (.int (1 : Int32))) s₁.heap _
                                            exact ⟨congrArg (fun z => some (Value.int z)) (show (1 : Int32) = own_nc p0 from (if_pos (show own_P p0 = true from decide_eq_true (by omega))).symm), N0, e0⟩
                                      · skip
                                        have ihc48 : ¬ ((8591 : Int) < (p0).toInt) := fun q => hc48 (Int32.lt_iff_toInt_lt.mpr q)
                                        have pre80 : ∀ t, own_s p e below s₁ m 196 #[iv p0] [(.int (1 : Int32))] t → Steps p.tables e below S0 t := by
                                          intro tX kX
                                          refine pre47 _ ?_
                                          show own_s p e below s₁ m 125 #[iv p0] [(.int (8591 : Int32)), (.int p0)] _
                                          refine XS.icmpYes X0.here hx rfl (pc0 := 125) (pc' := 191) rfl (hb hby d1_125) rfl (flt hc48).2.2.2 (by decide) (by decide) ?_
                                          show own_s p e below s₁ m 191 #[iv p0] [] _
                                          refine XS.iconst X0.here hx rfl (hb hby d1_191) ?_
                                          show own_s p e below s₁ m 192 #[iv p0] [(.int (1 : Int32))] _
                                          refine XS.goto X0.here hx rfl (pc0 := 192) (pc' := 196) rfl (hb hby d1_192) (by decide) (by decide) ?_
                                          exact kX
                                        subst hS0
                                        obtain ⟨fs, hr, hrun, hended, hW, hsame⟩ := X0.leave (v := (some (.int (1 : Int32)))) (fun h => by rw [Bd.returns] at h; cases h)
                                        refine ⟨_, _, pre80 _ (retN X0 hx (t := .boolean) Bd.returns (by simp) (hb hby d1_196) hr), hrun, hended, _, _, rfl, ?_, ⟨_, rfl⟩, hW, hsame.mono (by decide) (by decide)⟩
                                        show Q1 Z p0 h0 n0 (some (.int (1 : Int32))) s₁.heap _
                                        exact ⟨congrArg (fun z => some (Value.int z)) (show (1 : Int32) = own_nc p0 from (if_pos (show own_P p0 = true from decide_eq_true (by omega))).symm), N0, e0⟩
                                  · skip
                                    have ihc43 : ¬ ((8205 : Int) < (p0).toInt) := fun q => hc43 (Int32.lt_iff_toInt_lt.mpr q)
                                    have pre81 : ∀ t, own_s p e below s₁ m 196 #[iv p0] [(.int (1 : Int32))] t → Steps p.tables e below S0 t := by
                                      intro tX kX
                                      refine pre42 _ ?_
                                      show own_s p e below s₁ m 111 #[iv p0] [(.int (8205 : Int32)), (.int p0)] _
                                      refine XS.icmpYes X0.here hx rfl (pc0 := 111) (pc' := 191) rfl (hb hby d1_111) rfl (flt hc43).2.2.2 (by decide) (by decide) ?_
                                      show own_s p e below s₁ m 191 #[iv p0] [] _
                                      refine XS.iconst X0.here hx rfl (hb hby d1_191) ?_
                                      show own_s p e below s₁ m 192 #[iv p0] [(.int (1 : Int32))] _
                                      refine XS.goto X0.here hx rfl (pc0 := 192) (pc' := 196) rfl (hb hby d1_192) (by decide) (by decide) ?_
                                      exact kX
                                    subst hS0
                                    obtain ⟨fs, hr, hrun, hended, hW, hsame⟩ := X0.leave (v := (some (.int (1 : Int32)))) (fun h => by rw [Bd.returns] at h; cases h)
                                    refine ⟨_, _, pre81 _ (retN X0 hx (t := .boolean) Bd.returns (by simp) (hb hby d1_196) hr), hrun, hended, _, _, rfl, ?_, ⟨_, rfl⟩, hW, hsame.mono (by decide) (by decide)⟩
                                    show Q1 Z p0 h0 n0 (some (.int (1 : Int32))) s₁.heap _
                                    exact ⟨congrArg (fun z => some (Value.int z)) (show (1 : Int32) = own_nc p0 from (if_pos (show own_P p0 = true from decide_eq_true (by omega))).symm), N0, e0⟩
                              · skip
                                have ihc38 : ¬ ((8191 : Int) < (p0).toInt) := fun q => hc38 (Int32.lt_iff_toInt_lt.mpr q)
                                have pre82 : ∀ t, own_s p e below s₁ m 196 #[iv p0] [(.int (1 : Int32))] t → Steps p.tables e below S0 t := by
                                  intro tX kX
                                  refine pre37 _ ?_
                                  show own_s p e below s₁ m 97 #[iv p0] [(.int (8191 : Int32)), (.int p0)] _
                                  refine XS.icmpYes X0.here hx rfl (pc0 := 97) (pc' := 191) rfl (hb hby d1_97) rfl (flt hc38).2.2.2 (by decide) (by decide) ?_
                                  show own_s p e below s₁ m 191 #[iv p0] [] _
                                  refine XS.iconst X0.here hx rfl (hb hby d1_191) ?_
                                  show own_s p e below s₁ m 192 #[iv p0] [(.int (1 : Int32))] _
                                  refine XS.goto X0.here hx rfl (pc0 := 192) (pc' := 196) rfl (hb hby d1_192) (by decide) (by decide) ?_
                                  exact kX
                                subst hS0
                                obtain ⟨fs, hr, hrun, hended, hW, hsame⟩ := X0.leave (v := (some (.int (1 : Int32)))) (fun h => by rw [Bd.returns] at h; cases h)
                                refine ⟨_, _, pre82 _ (retN X0 hx (t := .boolean) Bd.returns (by simp) (hb hby d1_196) hr), hrun, hended, _, _, rfl, ?_, ⟨_, rfl⟩, hW, hsame.mono (by decide) (by decide)⟩
                                show Q1 Z p0 h0 n0 (some (.int (1 : Int32))) s₁.heap _
                                exact ⟨congrArg (fun z => some (Value.int z)) (show (1 : Int32) = own_nc p0 from (if_pos (show own_P p0 = true from decide_eq_true (by omega))).symm), N0, e0⟩
                          · skip
                            have ihc33 : ¬ ((893 : Int) < (p0).toInt) := fun q => hc33 (Int32.lt_iff_toInt_lt.mpr q)
                            have pre83 : ∀ t, own_s p e below s₁ m 196 #[iv p0] [(.int (1 : Int32))] t → Steps p.tables e below S0 t := by
                              intro tX kX
                              refine pre32 _ ?_
                              show own_s p e below s₁ m 83 #[iv p0] [(.int (893 : Int32)), (.int p0)] _
                              refine XS.icmpYes X0.here hx rfl (pc0 := 83) (pc' := 191) rfl (hb hby d1_83) rfl (flt hc33).2.2.2 (by decide) (by decide) ?_
                              show own_s p e below s₁ m 191 #[iv p0] [] _
                              refine XS.iconst X0.here hx rfl (hb hby d1_191) ?_
                              show own_s p e below s₁ m 192 #[iv p0] [(.int (1 : Int32))] _
                              refine XS.goto X0.here hx rfl (pc0 := 192) (pc' := 196) rfl (hb hby d1_192) (by decide) (by decide) ?_
                              exact kX
                            subst hS0
                            obtain ⟨fs, hr, hrun, hended, hW, hsame⟩ := X0.leave (v := (some (.int (1 : Int32)))) (fun h => by rw [Bd.returns] at h; cases h)
                            refine ⟨_, _, pre83 _ (retN X0 hx (t := .boolean) Bd.returns (by simp) (hb hby d1_196) hr), hrun, hended, _, _, rfl, ?_, ⟨_, rfl⟩, hW, hsame.mono (by decide) (by decide)⟩
                            show Q1 Z p0 h0 n0 (some (.int (1 : Int32))) s₁.heap _
                            exact ⟨congrArg (fun z => some (Value.int z)) (show (1 : Int32) = own_nc p0 from (if_pos (show own_P p0 = true from decide_eq_true (by omega))).symm), N0, e0⟩
                      · skip
                        have ihc28 : ¬ ((767 : Int) < (p0).toInt) := fun q => hc28 (Int32.lt_iff_toInt_lt.mpr q)
                        have pre84 : ∀ t, own_s p e below s₁ m 196 #[iv p0] [(.int (1 : Int32))] t → Steps p.tables e below S0 t := by
                          intro tX kX
                          refine pre27 _ ?_
                          show own_s p e below s₁ m 69 #[iv p0] [(.int (767 : Int32)), (.int p0)] _
                          refine XS.icmpYes X0.here hx rfl (pc0 := 69) (pc' := 191) rfl (hb hby d1_69) rfl (flt hc28).2.2.2 (by decide) (by decide) ?_
                          show own_s p e below s₁ m 191 #[iv p0] [] _
                          refine XS.iconst X0.here hx rfl (hb hby d1_191) ?_
                          show own_s p e below s₁ m 192 #[iv p0] [(.int (1 : Int32))] _
                          refine XS.goto X0.here hx rfl (pc0 := 192) (pc' := 196) rfl (hb hby d1_192) (by decide) (by decide) ?_
                          exact kX
                        subst hS0
                        obtain ⟨fs, hr, hrun, hended, hW, hsame⟩ := X0.leave (v := (some (.int (1 : Int32)))) (fun h => by rw [Bd.returns] at h; cases h)
                        refine ⟨_, _, pre84 _ (retN X0 hx (t := .boolean) Bd.returns (by simp) (hb hby d1_196) hr), hrun, hended, _, _, rfl, ?_, ⟨_, rfl⟩, hW, hsame.mono (by decide) (by decide)⟩
                        show Q1 Z p0 h0 n0 (some (.int (1 : Int32))) s₁.heap _
                        exact ⟨congrArg (fun z => some (Value.int z)) (show (1 : Int32) = own_nc p0 from (if_pos (show own_P p0 = true from decide_eq_true (by omega))).symm), N0, e0⟩
                  · skip
                    have ihc23 : ¬ ((246 : Int) < (p0).toInt) := fun q => hc23 (Int32.lt_iff_toInt_lt.mpr q)
                    have pre85 : ∀ t, own_s p e below s₁ m 196 #[iv p0] [(.int (1 : Int32))] t → Steps p.tables e below S0 t := by
                      intro tX kX
                      refine pre22 _ ?_
                      show own_s p e below s₁ m 55 #[iv p0] [(.int (246 : Int32)), (.int p0)] _
                      refine XS.icmpYes X0.here hx rfl (pc0 := 55) (pc' := 191) rfl (hb hby d1_55) rfl (flt hc23).2.2.2 (by decide) (by decide) ?_
                      show own_s p e below s₁ m 191 #[iv p0] [] _
                      refine XS.iconst X0.here hx rfl (hb hby d1_191) ?_
                      show own_s p e below s₁ m 192 #[iv p0] [(.int (1 : Int32))] _
                      refine XS.goto X0.here hx rfl (pc0 := 192) (pc' := 196) rfl (hb hby d1_192) (by decide) (by decide) ?_
                      exact kX
                    subst hS0
                    obtain ⟨fs, hr, hrun, hended, hW, hsame⟩ := X0.leave (v := (some (.int (1 : Int32)))) (fun h => by rw [Bd.returns] at h; cases h)
                    refine ⟨_, _, pre85 _ (retN X0 hx (t := .boolean) Bd.returns (by simp) (hb hby d1_196) hr), hrun, hended, _, _, rfl, ?_, ⟨_, rfl⟩, hW, hsame.mono (by decide) (by decide)⟩
                    show Q1 Z p0 h0 n0 (some (.int (1 : Int32))) s₁.heap _
                    exact ⟨congrArg (fun z => some (Value.int z)) (show (1 : Int32) = own_nc p0 from (if_pos (show own_P p0 = true from decide_eq_true (by omega))).symm), N0, e0⟩
              · skip
                have ihc18 : ¬ ((214 : Int) < (p0).toInt) := fun q => hc18 (Int32.lt_iff_toInt_lt.mpr q)
                have pre86 : ∀ t, own_s p e below s₁ m 196 #[iv p0] [(.int (1 : Int32))] t → Steps p.tables e below S0 t := by
                  intro tX kX
                  refine pre17 _ ?_
                  show own_s p e below s₁ m 41 #[iv p0] [(.int (214 : Int32)), (.int p0)] _
                  refine XS.icmpYes X0.here hx rfl (pc0 := 41) (pc' := 191) rfl (hb hby d1_41) rfl (flt hc18).2.2.2 (by decide) (by decide) ?_
                  show own_s p e below s₁ m 191 #[iv p0] [] _
                  refine XS.iconst X0.here hx rfl (hb hby d1_191) ?_
                  show own_s p e below s₁ m 192 #[iv p0] [(.int (1 : Int32))] _
                  refine XS.goto X0.here hx rfl (pc0 := 192) (pc' := 196) rfl (hb hby d1_192) (by decide) (by decide) ?_
                  exact kX
                subst hS0
                obtain ⟨fs, hr, hrun, hended, hW, hsame⟩ := X0.leave (v := (some (.int (1 : Int32)))) (fun h => by rw [Bd.returns] at h; cases h)
                refine ⟨_, _, pre86 _ (retN X0 hx (t := .boolean) Bd.returns (by simp) (hb hby d1_196) hr), hrun, hended, _, _, rfl, ?_, ⟨_, rfl⟩, hW, hsame.mono (by decide) (by decide)⟩
                show Q1 Z p0 h0 n0 (some (.int (1 : Int32))) s₁.heap _
                exact ⟨congrArg (fun z => some (Value.int z)) (show (1 : Int32) = own_nc p0 from (if_pos (show own_P p0 = true from decide_eq_true (by omega))).symm), N0, e0⟩
          · skip
            have ihc13 : ¬ ((122 : Int) < (p0).toInt) := fun q => hc13 (Int32.lt_iff_toInt_lt.mpr q)
            have pre87 : ∀ t, own_s p e below s₁ m 196 #[iv p0] [(.int (1 : Int32))] t → Steps p.tables e below S0 t := by
              intro tX kX
              refine pre12 _ ?_
              show own_s p e below s₁ m 27 #[iv p0] [(.int (122 : Int32)), (.int p0)] _
              refine XS.icmpYes X0.here hx rfl (pc0 := 27) (pc' := 191) rfl (hb hby d1_27) rfl (flt hc13).2.2.2 (by decide) (by decide) ?_
              show own_s p e below s₁ m 191 #[iv p0] [] _
              refine XS.iconst X0.here hx rfl (hb hby d1_191) ?_
              show own_s p e below s₁ m 192 #[iv p0] [(.int (1 : Int32))] _
              refine XS.goto X0.here hx rfl (pc0 := 192) (pc' := 196) rfl (hb hby d1_192) (by decide) (by decide) ?_
              exact kX
            subst hS0
            obtain ⟨fs, hr, hrun, hended, hW, hsame⟩ := X0.leave (v := (some (.int (1 : Int32)))) (fun h => by rw [Bd.returns] at h; cases h)
            refine ⟨_, _, pre87 _ (retN X0 hx (t := .boolean) Bd.returns (by simp) (hb hby d1_196) hr), hrun, hended, _, _, rfl, ?_, ⟨_, rfl⟩, hW, hsame.mono (by decide) (by decide)⟩
            show Q1 Z p0 h0 n0 (some (.int (1 : Int32))) s₁.heap _
            exact ⟨congrArg (fun z => some (Value.int z)) (show (1 : Int32) = own_nc p0 from (if_pos (show own_P p0 = true from decide_eq_true (by omega))).symm), N0, e0⟩
    · skip
      have ihc5 : ¬ ((90 : Int) < (p0).toInt) := fun q => hc5 (Int32.lt_iff_toInt_lt.mpr q)
      have pre88 : ∀ t, own_s p e below s₁ m 196 #[iv p0] [(.int (1 : Int32))] t → Steps p.tables e below S0 t := by
        intro tX kX
        refine pre4 _ ?_
        show own_s p e below s₁ m 9 #[iv p0] [(.int (90 : Int32)), (.int p0)] _
        refine XS.icmpYes X0.here hx rfl (pc0 := 9) (pc' := 191) rfl (hb hby d1_9) rfl (flt hc5).2.2.2 (by decide) (by decide) ?_
        show own_s p e below s₁ m 191 #[iv p0] [] _
        refine XS.iconst X0.here hx rfl (hb hby d1_191) ?_
        show own_s p e below s₁ m 192 #[iv p0] [(.int (1 : Int32))] _
        refine XS.goto X0.here hx rfl (pc0 := 192) (pc' := 196) rfl (hb hby d1_192) (by decide) (by decide) ?_
        exact kX
      subst hS0
      obtain ⟨fs, hr, hrun, hended, hW, hsame⟩ := X0.leave (v := (some (.int (1 : Int32)))) (fun h => by rw [Bd.returns] at h; cases h)
      refine ⟨_, _, pre88 _ (retN X0 hx (t := .boolean) Bd.returns (by simp) (hb hby d1_196) hr), hrun, hended, _, _, rfl, ?_, ⟨_, rfl⟩, hW, hsame.mono (by decide) (by decide)⟩
      show Q1 Z p0 h0 n0 (some (.int (1 : Int32))) s₁.heap _
      exact ⟨congrArg (fun z => some (Value.int z)) (show (1 : Int32) = own_nc p0 from (if_pos (show own_P p0 = true from decide_eq_true (by omega))).symm), N0, e0⟩
theorem d2_0 : decode method_2_code 0 = .ok (.iload_n 0, 1) := by decide +kernel
theorem d2_1 : decode method_2_code 1 = .ok (.bipush 65, 2) := by decide +kernel
theorem d2_3 : decode method_2_code 3 = .ok (.if_icmp .lt 167, 3) := by decide +kernel
theorem d2_6 : decode method_2_code 6 = .ok (.iload_n 0, 1) := by decide +kernel
theorem d2_7 : decode method_2_code 7 = .ok (.bipush 91, 2) := by decide +kernel
theorem d2_9 : decode method_2_code 9 = .ok (.if_icmp .lt 9, 3) := by decide +kernel
theorem d2_12 : decode method_2_code 12 = .ok (.iload_n 0, 1) := by decide +kernel
theorem d2_13 : decode method_2_code 13 = .ok (.bipush 94, 2) := by decide +kernel
theorem d2_15 : decode method_2_code 15 = .ok (.if_icmp .le 155, 3) := by decide +kernel
theorem d2_18 : decode method_2_code 18 = .ok (.iload_n 0, 1) := by decide +kernel
theorem d2_19 : decode method_2_code 19 = .ok (.bipush 96, 2) := by decide +kernel
theorem d2_21 : decode method_2_code 21 = .ok (.if_icmp .eq 149, 3) := by decide +kernel
theorem d2_24 : decode method_2_code 24 = .ok (.iload_n 0, 1) := by decide +kernel
theorem d2_25 : decode method_2_code 25 = .ok (.bipush 123, 2) := by decide +kernel
theorem d2_27 : decode method_2_code 27 = .ok (.if_icmp .lt 10, 3) := by decide +kernel
theorem d2_30 : decode method_2_code 30 = .ok (.iload_n 0, 1) := by decide +kernel
theorem d2_31 : decode method_2_code 31 = .ok (.sipush 191, 3) := by decide +kernel
theorem d2_34 : decode method_2_code 34 = .ok (.if_icmp .le 136, 3) := by decide +kernel
theorem d2_37 : decode method_2_code 37 = .ok (.iload_n 0, 1) := by decide +kernel
theorem d2_38 : decode method_2_code 38 = .ok (.sipush 215, 3) := by decide +kernel
theorem d2_41 : decode method_2_code 41 = .ok (.if_icmp .eq 129, 3) := by decide +kernel
theorem d2_44 : decode method_2_code 44 = .ok (.iload_n 0, 1) := by decide +kernel
theorem d2_45 : decode method_2_code 45 = .ok (.sipush 247, 3) := by decide +kernel
theorem d2_48 : decode method_2_code 48 = .ok (.if_icmp .eq 122, 3) := by decide +kernel
theorem d2_51 : decode method_2_code 51 = .ok (.iload_n 0, 1) := by decide +kernel
theorem d2_52 : decode method_2_code 52 = .ok (.sipush 768, 3) := by decide +kernel
theorem d2_55 : decode method_2_code 55 = .ok (.if_icmp .lt 10, 3) := by decide +kernel
theorem d2_58 : decode method_2_code 58 = .ok (.iload_n 0, 1) := by decide +kernel
theorem d2_59 : decode method_2_code 59 = .ok (.sipush 879, 3) := by decide +kernel
theorem d2_62 : decode method_2_code 62 = .ok (.if_icmp .le 108, 3) := by decide +kernel
theorem d2_65 : decode method_2_code 65 = .ok (.iload_n 0, 1) := by decide +kernel
theorem d2_66 : decode method_2_code 66 = .ok (.sipush 894, 3) := by decide +kernel
theorem d2_69 : decode method_2_code 69 = .ok (.if_icmp .eq 101, 3) := by decide +kernel
theorem d2_72 : decode method_2_code 72 = .ok (.iload_n 0, 1) := by decide +kernel
theorem d2_73 : decode method_2_code 73 = .ok (.sipush 8192, 3) := by decide +kernel
theorem d2_76 : decode method_2_code 76 = .ok (.if_icmp .lt 10, 3) := by decide +kernel
theorem d2_79 : decode method_2_code 79 = .ok (.iload_n 0, 1) := by decide +kernel
theorem d2_80 : decode method_2_code 80 = .ok (.sipush 8203, 3) := by decide +kernel
theorem d2_83 : decode method_2_code 83 = .ok (.if_icmp .le 87, 3) := by decide +kernel
theorem d2_86 : decode method_2_code 86 = .ok (.iload_n 0, 1) := by decide +kernel
theorem d2_87 : decode method_2_code 87 = .ok (.sipush 8206, 3) := by decide +kernel
theorem d2_90 : decode method_2_code 90 = .ok (.if_icmp .lt 10, 3) := by decide +kernel
theorem d2_93 : decode method_2_code 93 = .ok (.iload_n 0, 1) := by decide +kernel
theorem d2_94 : decode method_2_code 94 = .ok (.sipush 8303, 3) := by decide +kernel
theorem d2_97 : decode method_2_code 97 = .ok (.if_icmp .le 73, 3) := by decide +kernel
theorem d2_100 : decode method_2_code 100 = .ok (.iload_n 0, 1) := by decide +kernel
theorem d2_101 : decode method_2_code 101 = .ok (.sipush 8592, 3) := by decide +kernel
theorem d2_104 : decode method_2_code 104 = .ok (.if_icmp .lt 10, 3) := by decide +kernel
theorem d2_107 : decode method_2_code 107 = .ok (.iload_n 0, 1) := by decide +kernel
theorem d2_108 : decode method_2_code 108 = .ok (.sipush 11263, 3) := by decide +kernel
theorem d2_111 : decode method_2_code 111 = .ok (.if_icmp .le 59, 3) := by decide +kernel
theorem d2_114 : decode method_2_code 114 = .ok (.iload_n 0, 1) := by decide +kernel
theorem d2_115 : decode method_2_code 115 = .ok (.sipush 12272, 3) := by decide +kernel
theorem d2_118 : decode method_2_code 118 = .ok (.if_icmp .lt 10, 3) := by decide +kernel
theorem d2_121 : decode method_2_code 121 = .ok (.iload_n 0, 1) := by decide +kernel
theorem d2_122 : decode method_2_code 122 = .ok (.sipush 12288, 3) := by decide +kernel
theorem d2_125 : decode method_2_code 125 = .ok (.if_icmp .le 45, 3) := by decide +kernel
theorem d2_128 : decode method_2_code 128 = .ok (.iload_n 0, 1) := by decide +kernel
theorem d2_129 : decode method_2_code 129 = .ok (.ldc 7, 2) := by decide +kernel
theorem d2_131 : decode method_2_code 131 = .ok (.if_icmp .lt 9, 3) := by decide +kernel
theorem d2_134 : decode method_2_code 134 = .ok (.iload_n 0, 1) := by decide +kernel
theorem d2_135 : decode method_2_code 135 = .ok (.ldc 8, 2) := by decide +kernel
theorem d2_137 : decode method_2_code 137 = .ok (.if_icmp .le 33, 3) := by decide +kernel
theorem d2_140 : decode method_2_code 140 = .ok (.iload_n 0, 1) := by decide +kernel
theorem d2_141 : decode method_2_code 141 = .ok (.ldc 9, 2) := by decide +kernel
theorem d2_143 : decode method_2_code 143 = .ok (.if_icmp .lt 9, 3) := by decide +kernel
theorem d2_146 : decode method_2_code 146 = .ok (.iload_n 0, 1) := by decide +kernel
theorem d2_147 : decode method_2_code 147 = .ok (.ldc 10, 2) := by decide +kernel
theorem d2_149 : decode method_2_code 149 = .ok (.if_icmp .le 21, 3) := by decide +kernel
theorem d2_152 : decode method_2_code 152 = .ok (.iload_n 0, 1) := by decide +kernel
theorem d2_153 : decode method_2_code 153 = .ok (.ldc 11, 2) := by decide +kernel
theorem d2_155 : decode method_2_code 155 = .ok (.if_icmp .lt 9, 3) := by decide +kernel
theorem d2_158 : decode method_2_code 158 = .ok (.iload_n 0, 1) := by decide +kernel
theorem d2_159 : decode method_2_code 159 = .ok (.ldc 12, 2) := by decide +kernel
theorem d2_161 : decode method_2_code 161 = .ok (.if_icmp .le 9, 3) := by decide +kernel
theorem d2_164 : decode method_2_code 164 = .ok (.iload_n 0, 1) := by decide +kernel
theorem d2_165 : decode method_2_code 165 = .ok (.ldc 13, 2) := by decide +kernel
theorem d2_167 : decode method_2_code 167 = .ok (.if_icmp .le 7, 3) := by decide +kernel
theorem d2_170 : decode method_2_code 170 = .ok (.iconst 1, 1) := by decide +kernel
theorem d2_171 : decode method_2_code 171 = .ok (.goto 4, 3) := by decide +kernel
theorem d2_174 : decode method_2_code 174 = .ok (.iconst 0, 1) := by decide +kernel
theorem d2_175 : decode method_2_code 175 = .ok (.ireturn, 1) := by decide +kernel
theorem pn_2 : plainName "com/example/osier/osier/xml/XmlCharsIsNcNameStartCharPinLaw" = true := by first | (simp [plainName, overriddenIn]; done) | decide +kernel
theorem ef_2 (m : MethodId) (p0 : Int32) : entryFrame m #[(.int p0)] 1 = mkF m 0 #[iv p0] [] := by first | (simp [entryFrame, mkF, argsToLocals, Value.category]; done) | rfl
def Q2 (Z : State) (p0 : Int32) (h0 : Heap) (n0 : Nat) (v : Option Value) (h : Heap) (L : List Loc) : Prop := v = some (.int (own_ex p0)) ∧ Fr n0 L ∧ h = h0
set_option maxRecDepth 65536 in
set_option maxHeartbeats 40000000 in
theorem rm2 (l : Launch) (Z : State) (a0 : Array Value) (hw : ∀ d ∈ tables_1, d.before a0 Z = true) (ws : List Jvm.Cond) (p0 : Int32) (h0 : Heap) (n0 : Nat) (Z0 : n0 ≤ h0.size)  :
    MetFree l (⟨"com/example/osier/osier/xml/XmlCharsIsNcNameStartCharPinLaw", "excluded", "(I)Z"⟩ : MethodName) (head1 (Jvm.Cond.code (⟨"com/example/osier/osier/xml/XmlCharsIsNcNameStartCharPinLaw", "excluded", "(I)Z"⟩ : MethodName) method_2_code 1 (some .boolean) :: ws) ({ frames := 0, cells := 0, slots := 0, locals := 0 } : Room)) (fun aX UX => aX = #[(.int p0)] ∧ Z.Warmed39 UX.vm ∧ UX.heap = h0) (fun _ _ _ _ _ => True) (fun _ UX oX UY => ∃ vX LX, oX = .returned vX ∧ Q2 Z p0 h0 n0 vX UY.heap LX ∧ FrameEnd UX oX UY LX ({ frames := 0, cells := 0, slots := 0, locals := 0 } : Room).cells ({ frames := 0, cells := 0, slots := 0, locals := 0 } : Room).slots) := by
  refine MetFree.of_bodySF (plainFor_of_name pn_2) hisR ?_
  intro p e s m args below meth c s₁ Bd hml0 hP hK
  obtain ⟨rfl, hZ, hh⟩ := hP
  have hx := Bd.exec
  have hby := Bd.bytes
  have hml : c.maxLocals = 1 := hml0
  have hown : s.vm.findClass "com/example/osier/osier/xml/XmlCharsIsNcNameStartCharPinLaw" = some m.cls := findClass_of_methodNamed Bd.named
  have hnm := (name_of_methodNamed Bd.named Bd.method).1
  have X0 : Stand p l e ({ frames := 0, cells := 0, slots := 0, locals := 0 } : Room) s m #[(.int p0)] below meth c s₁ [] 0 0 := Stand.of_body Bd
  have e0 : s₁.heap = h0 := by rw [← hh, Bd.state]; rfl
  have N0 := Fr.nil n0
  have pre0 : ∀ t, Steps p.tables e below (s₁.setTop (mkF m 0 #[iv p0] [])) t → Steps p.tables e below (s₁.setTop (entryFrame m #[(.int p0)] 1)) t := fun t k => castTop (ef_2 m p0) k
  obtain ⟨S0, hS0⟩ : ∃ z, z = (s₁.setTop (entryFrame m #[(.int p0)] 1)) := ⟨_, rfl⟩
  rw [← hS0] at pre0
  have pre1 : ∀ t, own_s p e below s₁ m 3 #[iv p0] [(.int (65 : Int32)), (.int p0)] t → Steps p.tables e below S0 t := by
    intro tX kX
    refine pre0 _ ?_
    show own_s p e below s₁ m 0 #[iv p0] [] _
    refine XS.iloadN X0.here hx rfl (hb hby d2_0) rfl ?_
    show own_s p e below s₁ m 1 #[iv p0] [(.int p0)] _
    refine XS.bipush X0.here hx rfl (hb hby d2_1) ?_
    exact kX
  by_cases hc2 : p0 < (65 : Int32)
  · skip
    have ihc2 : (p0).toInt < (65 : Int) := Int32.lt_iff_toInt_lt.mp hc2
    have pre3 : ∀ t, own_s p e below s₁ m 175 #[iv p0] [(.int (1 : Int32))] t → Steps p.tables e below S0 t := by
      intro tX kX
      refine pre1 _ ?_
      show own_s p e below s₁ m 3 #[iv p0] [(.int (65 : Int32)), (.int p0)] _
      refine XS.icmpYes X0.here hx rfl (pc0 := 3) (pc' := 170) rfl (hb hby d2_3) rfl (tlt hc2).1 (by decide) (by decide) ?_
      show own_s p e below s₁ m 170 #[iv p0] [] _
      refine XS.iconst X0.here hx rfl (hb hby d2_170) ?_
      show own_s p e below s₁ m 171 #[iv p0] [(.int (1 : Int32))] _
      refine XS.goto X0.here hx rfl (pc0 := 171) (pc' := 175) rfl (hb hby d2_171) (by decide) (by decide) ?_
      exact kX
    subst hS0
    obtain ⟨fs, hr, hrun, hended, hW, hsame⟩ := X0.leave (v := (some (.int (1 : Int32)))) (fun h => by rw [Bd.returns] at h; cases h)
    refine ⟨_, _, pre3 _ (retN X0 hx (t := .boolean) Bd.returns (by simp) (hb hby d2_175) hr), hrun, hended, _, _, rfl, ?_, ⟨_, rfl⟩, hW, hsame.mono (by decide) (by decide)⟩
    show Q2 Z p0 h0 n0 (some (.int (1 : Int32))) s₁.heap _
    exact ⟨congrArg (fun z => some (Value.int z)) (show (1 : Int32) = own_ex p0 from (if_neg (show ¬ own_P p0 = true from fun q => absurd (of_decide_eq_true q) (by omega))).symm), N0, e0⟩
  · skip
    have ihc2 : ¬ ((p0).toInt < (65 : Int)) := fun q => hc2 (Int32.lt_iff_toInt_lt.mpr q)
    have pre4 : ∀ t, own_s p e below s₁ m 9 #[iv p0] [(.int (91 : Int32)), (.int p0)] t → Steps p.tables e below S0 t := by
      intro tX kX
      refine pre1 _ ?_
      show own_s p e below s₁ m 3 #[iv p0] [(.int (65 : Int32)), (.int p0)] _
      refine XS.icmpNo X0.here hx rfl (hb hby d2_3) rfl (flt hc2).1 ?_
      show own_s p e below s₁ m 6 #[iv p0] [] _
      refine XS.iloadN X0.here hx rfl (hb hby d2_6) rfl ?_
      show own_s p e below s₁ m 7 #[iv p0] [(.int p0)] _
      refine XS.bipush X0.here hx rfl (hb hby d2_7) ?_
      exact kX
    by_cases hc5 : p0 < (91 : Int32)
    · skip
      have ihc5 : (p0).toInt < (91 : Int) := Int32.lt_iff_toInt_lt.mp hc5
      have pre6 : ∀ t, own_s p e below s₁ m 175 #[iv p0] [(.int (0 : Int32))] t → Steps p.tables e below S0 t := by
        intro tX kX
        refine pre4 _ ?_
        show own_s p e below s₁ m 9 #[iv p0] [(.int (91 : Int32)), (.int p0)] _
        refine XS.icmpYes X0.here hx rfl (pc0 := 9) (pc' := 18) rfl (hb hby d2_9) rfl (tlt hc5).1 (by decide) (by decide) ?_
        show own_s p e below s₁ m 18 #[iv p0] [] _
        refine XS.iloadN X0.here hx rfl (hb hby d2_18) rfl ?_
        show own_s p e below s₁ m 19 #[iv p0] [(.int p0)] _
        refine XS.bipush X0.here hx rfl (hb hby d2_19) ?_
        show own_s p e below s₁ m 21 #[iv p0] [(.int (96 : Int32)), (.int p0)] _
        refine XS.icmpNo X0.here hx rfl (hb hby d2_21) rfl (feq (show ¬ (p0 = (96 : Int32)) from (fun q => absurd (show (p0).toInt = (96 : Int) from congrArg Int32.toInt q) (by omega)))).1 ?_
        show own_s p e below s₁ m 24 #[iv p0] [] _
        refine XS.iloadN X0.here hx rfl (hb hby d2_24) rfl ?_
        show own_s p e below s₁ m 25 #[iv p0] [(.int p0)] _
        refine XS.bipush X0.here hx rfl (hb hby d2_25) ?_
        show own_s p e below s₁ m 27 #[iv p0] [(.int (123 : Int32)), (.int p0)] _
        refine XS.icmpYes X0.here hx rfl (pc0 := 27) (pc' := 37) rfl (hb hby d2_27) rfl (tlt (show p0 < (123 : Int32) from (Int32.lt_iff_toInt_lt.mpr (by omega : (p0).toInt < (123 : Int))))).1 (by decide) (by decide) ?_
        show own_s p e below s₁ m 37 #[iv p0] [] _
        refine XS.iloadN X0.here hx rfl (hb hby d2_37) rfl ?_
        show own_s p e below s₁ m 38 #[iv p0] [(.int p0)] _
        refine XS.sipush X0.here hx rfl (hb hby d2_38) ?_
        show own_s p e below s₁ m 41 #[iv p0] [(.int (215 : Int32)), (.int p0)] _
        refine XS.icmpNo X0.here hx rfl (hb hby d2_41) rfl (feq (show ¬ (p0 = (215 : Int32)) from (fun q => absurd (show (p0).toInt = (215 : Int) from congrArg Int32.toInt q) (by omega)))).1 ?_
        show own_s p e below s₁ m 44 #[iv p0] [] _
        refine XS.iloadN X0.here hx rfl (hb hby d2_44) rfl ?_
        show own_s p e below s₁ m 45 #[iv p0] [(.int p0)] _
        refine XS.sipush X0.here hx rfl (hb hby d2_45) ?_
        show own_s p e below s₁ m 48 #[iv p0] [(.int (247 : Int32)), (.int p0)] _
        refine XS.icmpNo X0.here hx rfl (hb hby d2_48) rfl (feq (show ¬ (p0 = (247 : Int32)) from (fun q => absurd (show (p0).toInt = (247 : Int) from congrArg Int32.toInt q) (by omega)))).1 ?_
        show own_s p e below s₁ m 51 #[iv p0] [] _
        refine XS.iloadN X0.here hx rfl (hb hby d2_51) rfl ?_
        show own_s p e below s₁ m 52 #[iv p0] [(.int p0)] _
        refine XS.sipush X0.here hx rfl (hb hby d2_52) ?_
        show own_s p e below s₁ m 55 #[iv p0] [(.int (768 : Int32)), (.int p0)] _
        refine XS.icmpYes X0.here hx rfl (pc0 := 55) (pc' := 65) rfl (hb hby d2_55) rfl (tlt (show p0 < (768 : Int32) from (Int32.lt_iff_toInt_lt.mpr (by omega : (p0).toInt < (768 : Int))))).1 (by decide) (by decide) ?_
        show own_s p e below s₁ m 65 #[iv p0] [] _
        refine XS.iloadN X0.here hx rfl (hb hby d2_65) rfl ?_
        show own_s p e below s₁ m 66 #[iv p0] [(.int p0)] _
        refine XS.sipush X0.here hx rfl (hb hby d2_66) ?_
        show own_s p e below s₁ m 69 #[iv p0] [(.int (894 : Int32)), (.int p0)] _
        refine XS.icmpNo X0.here hx rfl (hb hby d2_69) rfl (feq (show ¬ (p0 = (894 : Int32)) from (fun q => absurd (show (p0).toInt = (894 : Int) from congrArg Int32.toInt q) (by omega)))).1 ?_
        show own_s p e below s₁ m 72 #[iv p0] [] _
        refine XS.iloadN X0.here hx rfl (hb hby d2_72) rfl ?_
        show own_s p e below s₁ m 73 #[iv p0] [(.int p0)] _
        refine XS.sipush X0.here hx rfl (hb hby d2_73) ?_
        show own_s p e below s₁ m 76 #[iv p0] [(.int (8192 : Int32)), (.int p0)] _
        refine XS.icmpYes X0.here hx rfl (pc0 := 76) (pc' := 86) rfl (hb hby d2_76) rfl (tlt (show p0 < (8192 : Int32) from (Int32.lt_iff_toInt_lt.mpr (by omega : (p0).toInt < (8192 : Int))))).1 (by decide) (by decide) ?_
        show own_s p e below s₁ m 86 #[iv p0] [] _
        refine XS.iloadN X0.here hx rfl (hb hby d2_86) rfl ?_
        show own_s p e below s₁ m 87 #[iv p0] [(.int p0)] _
        refine XS.sipush X0.here hx rfl (hb hby d2_87) ?_
        show own_s p e below s₁ m 90 #[iv p0] [(.int (8206 : Int32)), (.int p0)] _
        refine XS.icmpYes X0.here hx rfl (pc0 := 90) (pc' := 100) rfl (hb hby d2_90) rfl (tlt (show p0 < (8206 : Int32) from (Int32.lt_iff_toInt_lt.mpr (by omega : (p0).toInt < (8206 : Int))))).1 (by decide) (by decide) ?_
        show own_s p e below s₁ m 100 #[iv p0] [] _
        refine XS.iloadN X0.here hx rfl (hb hby d2_100) rfl ?_
        show own_s p e below s₁ m 101 #[iv p0] [(.int p0)] _
        refine XS.sipush X0.here hx rfl (hb hby d2_101) ?_
        show own_s p e below s₁ m 104 #[iv p0] [(.int (8592 : Int32)), (.int p0)] _
        refine XS.icmpYes X0.here hx rfl (pc0 := 104) (pc' := 114) rfl (hb hby d2_104) rfl (tlt (show p0 < (8592 : Int32) from (Int32.lt_iff_toInt_lt.mpr (by omega : (p0).toInt < (8592 : Int))))).1 (by decide) (by decide) ?_
        show own_s p e below s₁ m 114 #[iv p0] [] _
        refine XS.iloadN X0.here hx rfl (hb hby d2_114) rfl ?_
        show own_s p e below s₁ m 115 #[iv p0] [(.int p0)] _
        refine XS.sipush X0.here hx rfl (hb hby d2_115) ?_
        show own_s p e below s₁ m 118 #[iv p0] [(.int (12272 : Int32)), (.int p0)] _
        refine XS.icmpYes X0.here hx rfl (pc0 := 118) (pc' := 128) rfl (hb hby d2_118) rfl (tlt (show p0 < (12272 : Int32) from (Int32.lt_iff_toInt_lt.mpr (by omega : (p0).toInt < (12272 : Int))))).1 (by decide) (by decide) ?_
        show own_s p e below s₁ m 128 #[iv p0] [] _
        refine XS.iloadN X0.here hx rfl (hb hby d2_128) rfl ?_
        show own_s p e below s₁ m 129 #[iv p0] [(.int p0)] _
        refine X0.ldcInt hx hown (mvT hZ (hw _ (List.mem_of_getElem? (i := 22) rfl))) (g := (mkF m 129 #[iv p0] [(.int p0)])) rfl (hb hby d2_129) _ ?_
        show own_s p e below s₁ m 131 #[iv p0] [(.int (55296 : Int32)), (.int p0)] _
        refine XS.icmpYes X0.here hx rfl (pc0 := 131) (pc' := 140) rfl (hb hby d2_131) rfl (tlt (show p0 < (55296 : Int32) from (Int32.lt_iff_toInt_lt.mpr (by omega : (p0).toInt < (55296 : Int))))).1 (by decide) (by decide) ?_
        show own_s p e below s₁ m 140 #[iv p0] [] _
        refine XS.iloadN X0.here hx rfl (hb hby d2_140) rfl ?_
        show own_s p e below s₁ m 141 #[iv p0] [(.int p0)] _
        refine X0.ldcInt hx hown (mvT hZ (hw _ (List.mem_of_getElem? (i := 23) rfl))) (g := (mkF m 141 #[iv p0] [(.int p0)])) rfl (hb hby d2_141) _ ?_
        show own_s p e below s₁ m 143 #[iv p0] [(.int (64976 : Int32)), (.int p0)] _
        refine XS.icmpYes X0.here hx rfl (pc0 := 143) (pc' := 152) rfl (hb hby d2_143) rfl (tlt (show p0 < (64976 : Int32) from (Int32.lt_iff_toInt_lt.mpr (by omega : (p0).toInt < (64976 : Int))))).1 (by decide) (by decide) ?_
        show own_s p e below s₁ m 152 #[iv p0] [] _
        refine XS.iloadN X0.here hx rfl (hb hby d2_152) rfl ?_
        show own_s p e below s₁ m 153 #[iv p0] [(.int p0)] _
        refine X0.ldcInt hx hown (mvT hZ (hw _ (List.mem_of_getElem? (i := 24) rfl))) (g := (mkF m 153 #[iv p0] [(.int p0)])) rfl (hb hby d2_153) _ ?_
        show own_s p e below s₁ m 155 #[iv p0] [(.int (65534 : Int32)), (.int p0)] _
        refine XS.icmpYes X0.here hx rfl (pc0 := 155) (pc' := 164) rfl (hb hby d2_155) rfl (tlt (show p0 < (65534 : Int32) from (Int32.lt_iff_toInt_lt.mpr (by omega : (p0).toInt < (65534 : Int))))).1 (by decide) (by decide) ?_
        show own_s p e below s₁ m 164 #[iv p0] [] _
        refine XS.iloadN X0.here hx rfl (hb hby d2_164) rfl ?_
        show own_s p e below s₁ m 165 #[iv p0] [(.int p0)] _
        refine X0.ldcInt hx hown (mvT hZ (hw _ (List.mem_of_getElem? (i := 7) rfl))) (g := (mkF m 165 #[iv p0] [(.int p0)])) rfl (hb hby d2_165) _ ?_
        show own_s p e below s₁ m 167 #[iv p0] [(.int (983039 : Int32)), (.int p0)] _
        refine XS.icmpYes X0.here hx rfl (pc0 := 167) (pc' := 174) rfl (hb hby d2_167) rfl (flt (show ¬ ((983039 : Int32) < p0) from (fun q => absurd (show (983039 : Int) < (p0).toInt from Int32.lt_iff_toInt_lt.mp q) (by omega)))).2.2.2 (by decide) (by decide) ?_
        show own_s p e below s₁ m 174 #[iv p0] [] _
        refine XS.iconst X0.here hx rfl (hb hby d2_174) ?_
        exact kX
      subst hS0
      obtain ⟨fs, hr, hrun, hended, hW, hsame⟩ := X0.leave (v := (some (.int (0 : Int32)))) (fun h => by rw [Bd.returns] at h; cases h)
      refine ⟨_, _, pre6 _ (retN X0 hx (t := .boolean) Bd.returns (by simp) (hb hby d2_175) hr), hrun, hended, _, _, rfl, ?_, ⟨_, rfl⟩, hW, hsame.mono (by decide) (by decide)⟩
      show Q2 Z p0 h0 n0 (some (.int (0 : Int32))) s₁.heap _
      exact ⟨congrArg (fun z => some (Value.int z)) (show (0 : Int32) = own_ex p0 from (if_pos (show own_P p0 = true from decide_eq_true (by omega))).symm), N0, e0⟩
    · skip
      have ihc5 : ¬ ((p0).toInt < (91 : Int)) := fun q => hc5 (Int32.lt_iff_toInt_lt.mpr q)
      have pre7 : ∀ t, own_s p e below s₁ m 15 #[iv p0] [(.int (94 : Int32)), (.int p0)] t → Steps p.tables e below S0 t := by
        intro tX kX
        refine pre4 _ ?_
        show own_s p e below s₁ m 9 #[iv p0] [(.int (91 : Int32)), (.int p0)] _
        refine XS.icmpNo X0.here hx rfl (hb hby d2_9) rfl (flt hc5).1 ?_
        show own_s p e below s₁ m 12 #[iv p0] [] _
        refine XS.iloadN X0.here hx rfl (hb hby d2_12) rfl ?_
        show own_s p e below s₁ m 13 #[iv p0] [(.int p0)] _
        refine XS.bipush X0.here hx rfl (hb hby d2_13) ?_
        exact kX
      by_cases hc8 : (94 : Int32) < p0
      · skip
        have ihc8 : (94 : Int) < (p0).toInt := Int32.lt_iff_toInt_lt.mp hc8
        have pre9 : ∀ t, own_s p e below s₁ m 21 #[iv p0] [(.int (96 : Int32)), (.int p0)] t → Steps p.tables e below S0 t := by
          intro tX kX
          refine pre7 _ ?_
          show own_s p e below s₁ m 15 #[iv p0] [(.int (94 : Int32)), (.int p0)] _
          refine XS.icmpNo X0.here hx rfl (hb hby d2_15) rfl (tlt hc8).2.2.2 ?_
          show own_s p e below s₁ m 18 #[iv p0] [] _
          refine XS.iloadN X0.here hx rfl (hb hby d2_18) rfl ?_
          show own_s p e below s₁ m 19 #[iv p0] [(.int p0)] _
          refine XS.bipush X0.here hx rfl (hb hby d2_19) ?_
          exact kX
        by_cases hc10 : p0 = (96 : Int32)
        · skip
          have ihc10 : (p0).toInt = (96 : Int) := congrArg Int32.toInt hc10
          have pre11 : ∀ t, own_s p e below s₁ m 175 #[iv p0] [(.int (1 : Int32))] t → Steps p.tables e below S0 t := by
            intro tX kX
            refine pre9 _ ?_
            show own_s p e below s₁ m 21 #[iv p0] [(.int (96 : Int32)), (.int p0)] _
            refine XS.icmpYes X0.here hx rfl (pc0 := 21) (pc' := 170) rfl (hb hby d2_21) rfl (teq hc10).1 (by decide) (by decide) ?_
            show own_s p e below s₁ m 170 #[iv p0] [] _
            refine XS.iconst X0.here hx rfl (hb hby d2_170) ?_
            show own_s p e below s₁ m 171 #[iv p0] [(.int (1 : Int32))] _
            refine XS.goto X0.here hx rfl (pc0 := 171) (pc' := 175) rfl (hb hby d2_171) (by decide) (by decide) ?_
            exact kX
          subst hS0
          obtain ⟨fs, hr, hrun, hended, hW, hsame⟩ := X0.leave (v := (some (.int (1 : Int32)))) (fun h => by rw [Bd.returns] at h; cases h)
          refine ⟨_, _, pre11 _ (retN X0 hx (t := .boolean) Bd.returns (by simp) (hb hby d2_175) hr), hrun, hended, _, _, rfl, ?_, ⟨_, rfl⟩, hW, hsame.mono (by decide) (by decide)⟩
          show Q2 Z p0 h0 n0 (some (.int (1 : Int32))) s₁.heap _
          exact ⟨congrArg (fun z => some (Value.int z)) (show (1 : Int32) = own_ex p0 from (if_neg (show ¬ own_P p0 = true from fun q => absurd (of_decide_eq_true q) (by omega))).symm), N0, e0⟩
        · skip
          have ihc10 : ¬ ((p0).toInt = (96 : Int)) := fun q => hc10 (Int32.toInt_inj.mp q)
          have pre12 : ∀ t, own_s p e below s₁ m 27 #[iv p0] [(.int (123 : Int32)), (.int p0)] t → Steps p.tables e below S0 t := by
            intro tX kX
            refine pre9 _ ?_
            show own_s p e below s₁ m 21 #[iv p0] [(.int (96 : Int32)), (.int p0)] _
            refine XS.icmpNo X0.here hx rfl (hb hby d2_21) rfl (feq hc10).1 ?_
            show own_s p e below s₁ m 24 #[iv p0] [] _
            refine XS.iloadN X0.here hx rfl (hb hby d2_24) rfl ?_
            show own_s p e below s₁ m 25 #[iv p0] [(.int p0)] _
            refine XS.bipush X0.here hx rfl (hb hby d2_25) ?_
            exact kX
          by_cases hc13 : p0 < (123 : Int32)
          · skip
            have ihc13 : (p0).toInt < (123 : Int) := Int32.lt_iff_toInt_lt.mp hc13
            have pre14 : ∀ t, own_s p e below s₁ m 175 #[iv p0] [(.int (0 : Int32))] t → Steps p.tables e below S0 t := by
              intro tX kX
              refine pre12 _ ?_
              show own_s p e below s₁ m 27 #[iv p0] [(.int (123 : Int32)), (.int p0)] _
              refine XS.icmpYes X0.here hx rfl (pc0 := 27) (pc' := 37) rfl (hb hby d2_27) rfl (tlt hc13).1 (by decide) (by decide) ?_
              show own_s p e below s₁ m 37 #[iv p0] [] _
              refine XS.iloadN X0.here hx rfl (hb hby d2_37) rfl ?_
              show own_s p e below s₁ m 38 #[iv p0] [(.int p0)] _
              refine XS.sipush X0.here hx rfl (hb hby d2_38) ?_
              show own_s p e below s₁ m 41 #[iv p0] [(.int (215 : Int32)), (.int p0)] _
              refine XS.icmpNo X0.here hx rfl (hb hby d2_41) rfl (feq (show ¬ (p0 = (215 : Int32)) from (fun q => absurd (show (p0).toInt = (215 : Int) from congrArg Int32.toInt q) (by omega)))).1 ?_
              show own_s p e below s₁ m 44 #[iv p0] [] _
              refine XS.iloadN X0.here hx rfl (hb hby d2_44) rfl ?_
              show own_s p e below s₁ m 45 #[iv p0] [(.int p0)] _
              refine XS.sipush X0.here hx rfl (hb hby d2_45) ?_
              show own_s p e below s₁ m 48 #[iv p0] [(.int (247 : Int32)), (.int p0)] _
              refine XS.icmpNo X0.here hx rfl (hb hby d2_48) rfl (feq (show ¬ (p0 = (247 : Int32)) from (fun q => absurd (show (p0).toInt = (247 : Int) from congrArg Int32.toInt q) (by omega)))).1 ?_
              show own_s p e below s₁ m 51 #[iv p0] [] _
              refine XS.iloadN X0.here hx rfl (hb hby d2_51) rfl ?_
              show own_s p e below s₁ m 52 #[iv p0] [(.int p0)] _
              refine XS.sipush X0.here hx rfl (hb hby d2_52) ?_
              show own_s p e below s₁ m 55 #[iv p0] [(.int (768 : Int32)), (.int p0)] _
              refine XS.icmpYes X0.here hx rfl (pc0 := 55) (pc' := 65) rfl (hb hby d2_55) rfl (tlt (show p0 < (768 : Int32) from (Int32.lt_iff_toInt_lt.mpr (by omega : (p0).toInt < (768 : Int))))).1 (by decide) (by decide) ?_
              show own_s p e below s₁ m 65 #[iv p0] [] _
              refine XS.iloadN X0.here hx rfl (hb hby d2_65) rfl ?_
              show own_s p e below s₁ m 66 #[iv p0] [(.int p0)] _
              refine XS.sipush X0.here hx rfl (hb hby d2_66) ?_
              show own_s p e below s₁ m 69 #[iv p0] [(.int (894 : Int32)), (.int p0)] _
              refine XS.icmpNo X0.here hx rfl (hb hby d2_69) rfl (feq (show ¬ (p0 = (894 : Int32)) from (fun q => absurd (show (p0).toInt = (894 : Int) from congrArg Int32.toInt q) (by omega)))).1 ?_
              show own_s p e below s₁ m 72 #[iv p0] [] _
              refine XS.iloadN X0.here hx rfl (hb hby d2_72) rfl ?_
              show own_s p e below s₁ m 73 #[iv p0] [(.int p0)] _
              refine XS.sipush X0.here hx rfl (hb hby d2_73) ?_
              show own_s p e below s₁ m 76 #[iv p0] [(.int (8192 : Int32)), (.int p0)] _
              refine XS.icmpYes X0.here hx rfl (pc0 := 76) (pc' := 86) rfl (hb hby d2_76) rfl (tlt (show p0 < (8192 : Int32) from (Int32.lt_iff_toInt_lt.mpr (by omega : (p0).toInt < (8192 : Int))))).1 (by decide) (by decide) ?_
              show own_s p e below s₁ m 86 #[iv p0] [] _
              refine XS.iloadN X0.here hx rfl (hb hby d2_86) rfl ?_
              show own_s p e below s₁ m 87 #[iv p0] [(.int p0)] _
              refine XS.sipush X0.here hx rfl (hb hby d2_87) ?_
              show own_s p e below s₁ m 90 #[iv p0] [(.int (8206 : Int32)), (.int p0)] _
              refine XS.icmpYes X0.here hx rfl (pc0 := 90) (pc' := 100) rfl (hb hby d2_90) rfl (tlt (show p0 < (8206 : Int32) from (Int32.lt_iff_toInt_lt.mpr (by omega : (p0).toInt < (8206 : Int))))).1 (by decide) (by decide) ?_
              show own_s p e below s₁ m 100 #[iv p0] [] _
              refine XS.iloadN X0.here hx rfl (hb hby d2_100) rfl ?_
              show own_s p e below s₁ m 101 #[iv p0] [(.int p0)] _
              refine XS.sipush X0.here hx rfl (hb hby d2_101) ?_
              show own_s p e below s₁ m 104 #[iv p0] [(.int (8592 : Int32)), (.int p0)] _
              refine XS.icmpYes X0.here hx rfl (pc0 := 104) (pc' := 114) rfl (hb hby d2_104) rfl (tlt (show p0 < (8592 : Int32) from (Int32.lt_iff_toInt_lt.mpr (by omega : (p0).toInt < (8592 : Int))))).1 (by decide) (by decide) ?_
              show own_s p e below s₁ m 114 #[iv p0] [] _
              refine XS.iloadN X0.here hx rfl (hb hby d2_114) rfl ?_
              show own_s p e below s₁ m 115 #[iv p0] [(.int p0)] _
              refine XS.sipush X0.here hx rfl (hb hby d2_115) ?_
              show own_s p e below s₁ m 118 #[iv p0] [(.int (12272 : Int32)), (.int p0)] _
              refine XS.icmpYes X0.here hx rfl (pc0 := 118) (pc' := 128) rfl (hb hby d2_118) rfl (tlt (show p0 < (12272 : Int32) from (Int32.lt_iff_toInt_lt.mpr (by omega : (p0).toInt < (12272 : Int))))).1 (by decide) (by decide) ?_
              show own_s p e below s₁ m 128 #[iv p0] [] _
              refine XS.iloadN X0.here hx rfl (hb hby d2_128) rfl ?_
              show own_s p e below s₁ m 129 #[iv p0] [(.int p0)] _
              refine X0.ldcInt hx hown (mvT hZ (hw _ (List.mem_of_getElem? (i := 22) rfl))) (g := (mkF m 129 #[iv p0] [(.int p0)])) rfl (hb hby d2_129) _ ?_
              show own_s p e below s₁ m 131 #[iv p0] [(.int (55296 : Int32)), (.int p0)] _
              refine XS.icmpYes X0.here hx rfl (pc0 := 131) (pc' := 140) rfl (hb hby d2_131) rfl (tlt (show p0 < (55296 : Int32) from (Int32.lt_iff_toInt_lt.mpr (by omega : (p0).toInt < (55296 : Int))))).1 (by decide) (by decide) ?_
              show own_s p e below s₁ m 140 #[iv p0] [] _
              refine XS.iloadN X0.here hx rfl (hb hby d2_140) rfl ?_
              show own_s p e below s₁ m 141 #[iv p0] [(.int p0)] _
              refine X0.ldcInt hx hown (mvT hZ (hw _ (List.mem_of_getElem? (i := 23) rfl))) (g := (mkF m 141 #[iv p0] [(.int p0)])) rfl (hb hby d2_141) _ ?_
              show own_s p e below s₁ m 143 #[iv p0] [(.int (64976 : Int32)), (.int p0)] _
              refine XS.icmpYes X0.here hx rfl (pc0 := 143) (pc' := 152) rfl (hb hby d2_143) rfl (tlt (show p0 < (64976 : Int32) from (Int32.lt_iff_toInt_lt.mpr (by omega : (p0).toInt < (64976 : Int))))).1 (by decide) (by decide) ?_
              show own_s p e below s₁ m 152 #[iv p0] [] _
              refine XS.iloadN X0.here hx rfl (hb hby d2_152) rfl ?_
              show own_s p e below s₁ m 153 #[iv p0] [(.int p0)] _
              refine X0.ldcInt hx hown (mvT hZ (hw _ (List.mem_of_getElem? (i := 24) rfl))) (g := (mkF m 153 #[iv p0] [(.int p0)])) rfl (hb hby d2_153) _ ?_
              show own_s p e below s₁ m 155 #[iv p0] [(.int (65534 : Int32)), (.int p0)] _
              refine XS.icmpYes X0.here hx rfl (pc0 := 155) (pc' := 164) rfl (hb hby d2_155) rfl (tlt (show p0 < (65534 : Int32) from (Int32.lt_iff_toInt_lt.mpr (by omega : (p0).toInt < (65534 : Int))))).1 (by decide) (by decide) ?_
              show own_s p e below s₁ m 164 #[iv p0] [] _
              refine XS.iloadN X0.here hx rfl (hb hby d2_164) rfl ?_
              show own_s p e below s₁ m 165 #[iv p0] [(.int p0)] _
              refine X0.ldcInt hx hown (mvT hZ (hw _ (List.mem_of_getElem? (i := 7) rfl))) (g := (mkF m 165 #[iv p0] [(.int p0)])) rfl (hb hby d2_165) _ ?_
              show own_s p e below s₁ m 167 #[iv p0] [(.int (983039 : Int32)), (.int p0)] _
              refine XS.icmpYes X0.here hx rfl (pc0 := 167) (pc' := 174) rfl (hb hby d2_167) rfl (flt (show ¬ ((983039 : Int32) < p0) from (fun q => absurd (show (983039 : Int) < (p0).toInt from Int32.lt_iff_toInt_lt.mp q) (by omega)))).2.2.2 (by decide) (by decide) ?_
              show own_s p e below s₁ m 174 #[iv p0] [] _
              refine XS.iconst X0.here hx rfl (hb hby d2_174) ?_
              exact kX
            subst hS0
            obtain ⟨fs, hr, hrun, hended, hW, hsame⟩ := X0.leave (v := (some (.int (0 : Int32)))) (fun h => by rw [Bd.returns] at h; cases h)
            refine ⟨_, _, pre14 _ (retN X0 hx (t := .boolean) Bd.returns (by simp) (hb hby d2_175) hr), hrun, hended, _, _, rfl, ?_, ⟨_, rfl⟩, hW, hsame.mono (by decide) (by decide)⟩
            show Q2 Z p0 h0 n0 (some (.int (0 : Int32))) s₁.heap _
            exact ⟨congrArg (fun z => some (Value.int z)) (show (0 : Int32) = own_ex p0 from (if_pos (show own_P p0 = true from decide_eq_true (by omega))).symm), N0, e0⟩
          · skip
            have ihc13 : ¬ ((p0).toInt < (123 : Int)) := fun q => hc13 (Int32.lt_iff_toInt_lt.mpr q)
            have pre15 : ∀ t, own_s p e below s₁ m 34 #[iv p0] [(.int (191 : Int32)), (.int p0)] t → Steps p.tables e below S0 t := by
              intro tX kX
              refine pre12 _ ?_
              show own_s p e below s₁ m 27 #[iv p0] [(.int (123 : Int32)), (.int p0)] _
              refine XS.icmpNo X0.here hx rfl (hb hby d2_27) rfl (flt hc13).1 ?_
              show own_s p e below s₁ m 30 #[iv p0] [] _
              refine XS.iloadN X0.here hx rfl (hb hby d2_30) rfl ?_
              show own_s p e below s₁ m 31 #[iv p0] [(.int p0)] _
              refine XS.sipush X0.here hx rfl (hb hby d2_31) ?_
              exact kX
            by_cases hc16 : (191 : Int32) < p0
            · skip
              have ihc16 : (191 : Int) < (p0).toInt := Int32.lt_iff_toInt_lt.mp hc16
              have pre17 : ∀ t, own_s p e below s₁ m 41 #[iv p0] [(.int (215 : Int32)), (.int p0)] t → Steps p.tables e below S0 t := by
                intro tX kX
                refine pre15 _ ?_
                show own_s p e below s₁ m 34 #[iv p0] [(.int (191 : Int32)), (.int p0)] _
                refine XS.icmpNo X0.here hx rfl (hb hby d2_34) rfl (tlt hc16).2.2.2 ?_
                show own_s p e below s₁ m 37 #[iv p0] [] _
                refine XS.iloadN X0.here hx rfl (hb hby d2_37) rfl ?_
                show own_s p e below s₁ m 38 #[iv p0] [(.int p0)] _
                refine XS.sipush X0.here hx rfl (hb hby d2_38) ?_
                exact kX
              by_cases hc18 : p0 = (215 : Int32)
              · skip
                have ihc18 : (p0).toInt = (215 : Int) := congrArg Int32.toInt hc18
                have pre19 : ∀ t, own_s p e below s₁ m 175 #[iv p0] [(.int (1 : Int32))] t → Steps p.tables e below S0 t := by
                  intro tX kX
                  refine pre17 _ ?_
                  show own_s p e below s₁ m 41 #[iv p0] [(.int (215 : Int32)), (.int p0)] _
                  refine XS.icmpYes X0.here hx rfl (pc0 := 41) (pc' := 170) rfl (hb hby d2_41) rfl (teq hc18).1 (by decide) (by decide) ?_
                  show own_s p e below s₁ m 170 #[iv p0] [] _
                  refine XS.iconst X0.here hx rfl (hb hby d2_170) ?_
                  show own_s p e below s₁ m 171 #[iv p0] [(.int (1 : Int32))] _
                  refine XS.goto X0.here hx rfl (pc0 := 171) (pc' := 175) rfl (hb hby d2_171) (by decide) (by decide) ?_
                  exact kX
                subst hS0
                obtain ⟨fs, hr, hrun, hended, hW, hsame⟩ := X0.leave (v := (some (.int (1 : Int32)))) (fun h => by rw [Bd.returns] at h; cases h)
                refine ⟨_, _, pre19 _ (retN X0 hx (t := .boolean) Bd.returns (by simp) (hb hby d2_175) hr), hrun, hended, _, _, rfl, ?_, ⟨_, rfl⟩, hW, hsame.mono (by decide) (by decide)⟩
                show Q2 Z p0 h0 n0 (some (.int (1 : Int32))) s₁.heap _
                exact ⟨congrArg (fun z => some (Value.int z)) (show (1 : Int32) = own_ex p0 from (if_neg (show ¬ own_P p0 = true from fun q => absurd (of_decide_eq_true q) (by omega))).symm), N0, e0⟩
              · skip
                have ihc18 : ¬ ((p0).toInt = (215 : Int)) := fun q => hc18 (Int32.toInt_inj.mp q)
                have pre20 : ∀ t, own_s p e below s₁ m 48 #[iv p0] [(.int (247 : Int32)), (.int p0)] t → Steps p.tables e below S0 t := by
                  intro tX kX
                  refine pre17 _ ?_
                  show own_s p e below s₁ m 41 #[iv p0] [(.int (215 : Int32)), (.int p0)] _
                  refine XS.icmpNo X0.here hx rfl (hb hby d2_41) rfl (feq hc18).1 ?_
                  show own_s p e below s₁ m 44 #[iv p0] [] _
                  refine XS.iloadN X0.here hx rfl (hb hby d2_44) rfl ?_
                  show own_s p e below s₁ m 45 #[iv p0] [(.int p0)] _
                  refine XS.sipush X0.here hx rfl (hb hby d2_45) ?_
                  exact kX
                by_cases hc21 : p0 = (247 : Int32)
                · skip
                  have ihc21 : (p0).toInt = (247 : Int) := congrArg Int32.toInt hc21
                  have pre22 : ∀ t, own_s p e below s₁ m 175 #[iv p0] [(.int (1 : Int32))] t → Steps p.tables e below S0 t := by
                    intro tX kX
                    refine pre20 _ ?_
                    show own_s p e below s₁ m 48 #[iv p0] [(.int (247 : Int32)), (.int p0)] _
                    refine XS.icmpYes X0.here hx rfl (pc0 := 48) (pc' := 170) rfl (hb hby d2_48) rfl (teq hc21).1 (by decide) (by decide) ?_
                    show own_s p e below s₁ m 170 #[iv p0] [] _
                    refine XS.iconst X0.here hx rfl (hb hby d2_170) ?_
                    show own_s p e below s₁ m 171 #[iv p0] [(.int (1 : Int32))] _
                    refine XS.goto X0.here hx rfl (pc0 := 171) (pc' := 175) rfl (hb hby d2_171) (by decide) (by decide) ?_
                    exact kX
                  subst hS0
                  obtain ⟨fs, hr, hrun, hended, hW, hsame⟩ := X0.leave (v := (some (.int (1 : Int32)))) (fun h => by rw [Bd.returns] at h; cases h)
                  refine ⟨_, _, pre22 _ (retN X0 hx (t := .boolean) Bd.returns (by simp) (hb hby d2_175) hr), hrun, hended, _, _, rfl, ?_, ⟨_, rfl⟩, hW, hsame.mono (by decide) (by decide)⟩
                  show Q2 Z p0 h0 n0 (some (.int (1 : Int32))) s₁.heap _
                  exact ⟨congrArg (fun z => some (Value.int z)) (show (1 : Int32) = own_ex p0 from (if_neg (show ¬ own_P p0 = true from fun q => absurd (of_decide_eq_true q) (by omega))).symm), N0, e0⟩
                · skip
                  have ihc21 : ¬ ((p0).toInt = (247 : Int)) := fun q => hc21 (Int32.toInt_inj.mp q)
                  have pre23 : ∀ t, own_s p e below s₁ m 55 #[iv p0] [(.int (768 : Int32)), (.int p0)] t → Steps p.tables e below S0 t := by
                    intro tX kX
                    refine pre20 _ ?_
                    show own_s p e below s₁ m 48 #[iv p0] [(.int (247 : Int32)), (.int p0)] _
                    refine XS.icmpNo X0.here hx rfl (hb hby d2_48) rfl (feq hc21).1 ?_
                    show own_s p e below s₁ m 51 #[iv p0] [] _
                    refine XS.iloadN X0.here hx rfl (hb hby d2_51) rfl ?_
                    show own_s p e below s₁ m 52 #[iv p0] [(.int p0)] _
                    refine XS.sipush X0.here hx rfl (hb hby d2_52) ?_
                    exact kX
                  by_cases hc24 : p0 < (768 : Int32)
                  · skip
                    have ihc24 : (p0).toInt < (768 : Int) := Int32.lt_iff_toInt_lt.mp hc24
                    have pre25 : ∀ t, own_s p e below s₁ m 175 #[iv p0] [(.int (0 : Int32))] t → Steps p.tables e below S0 t := by
                      intro tX kX
                      refine pre23 _ ?_
                      show own_s p e below s₁ m 55 #[iv p0] [(.int (768 : Int32)), (.int p0)] _
                      refine XS.icmpYes X0.here hx rfl (pc0 := 55) (pc' := 65) rfl (hb hby d2_55) rfl (tlt hc24).1 (by decide) (by decide) ?_
                      show own_s p e below s₁ m 65 #[iv p0] [] _
                      refine XS.iloadN X0.here hx rfl (hb hby d2_65) rfl ?_
                      show own_s p e below s₁ m 66 #[iv p0] [(.int p0)] _
                      refine XS.sipush X0.here hx rfl (hb hby d2_66) ?_
                      show own_s p e below s₁ m 69 #[iv p0] [(.int (894 : Int32)), (.int p0)] _
                      refine XS.icmpNo X0.here hx rfl (hb hby d2_69) rfl (feq (show ¬ (p0 = (894 : Int32)) from (fun q => absurd (show (p0).toInt = (894 : Int) from congrArg Int32.toInt q) (by omega)))).1 ?_
                      show own_s p e below s₁ m 72 #[iv p0] [] _
                      refine XS.iloadN X0.here hx rfl (hb hby d2_72) rfl ?_
                      show own_s p e below s₁ m 73 #[iv p0] [(.int p0)] _
                      refine XS.sipush X0.here hx rfl (hb hby d2_73) ?_
                      show own_s p e below s₁ m 76 #[iv p0] [(.int (8192 : Int32)), (.int p0)] _
                      refine XS.icmpYes X0.here hx rfl (pc0 := 76) (pc' := 86) rfl (hb hby d2_76) rfl (tlt (show p0 < (8192 : Int32) from (Int32.lt_iff_toInt_lt.mpr (by omega : (p0).toInt < (8192 : Int))))).1 (by decide) (by decide) ?_
                      show own_s p e below s₁ m 86 #[iv p0] [] _
                      refine XS.iloadN X0.here hx rfl (hb hby d2_86) rfl ?_
                      show own_s p e below s₁ m 87 #[iv p0] [(.int p0)] _
                      refine XS.sipush X0.here hx rfl (hb hby d2_87) ?_
                      show own_s p e below s₁ m 90 #[iv p0] [(.int (8206 : Int32)), (.int p0)] _
                      refine XS.icmpYes X0.here hx rfl (pc0 := 90) (pc' := 100) rfl (hb hby d2_90) rfl (tlt (show p0 < (8206 : Int32) from (Int32.lt_iff_toInt_lt.mpr (by omega : (p0).toInt < (8206 : Int))))).1 (by decide) (by decide) ?_
                      show own_s p e below s₁ m 100 #[iv p0] [] _
                      refine XS.iloadN X0.here hx rfl (hb hby d2_100) rfl ?_
                      show own_s p e below s₁ m 101 #[iv p0] [(.int p0)] _
                      refine XS.sipush X0.here hx rfl (hb hby d2_101) ?_
                      show own_s p e below s₁ m 104 #[iv p0] [(.int (8592 : Int32)), (.int p0)] _
                      refine XS.icmpYes X0.here hx rfl (pc0 := 104) (pc' := 114) rfl (hb hby d2_104) rfl (tlt (show p0 < (8592 : Int32) from (Int32.lt_iff_toInt_lt.mpr (by omega : (p0).toInt < (8592 : Int))))).1 (by decide) (by decide) ?_
                      show own_s p e below s₁ m 114 #[iv p0] [] _
                      refine XS.iloadN X0.here hx rfl (hb hby d2_114) rfl ?_
                      show own_s p e below s₁ m 115 #[iv p0] [(.int p0)] _
                      refine XS.sipush X0.here hx rfl (hb hby d2_115) ?_
                      show own_s p e below s₁ m 118 #[iv p0] [(.int (12272 : Int32)), (.int p0)] _
                      refine XS.icmpYes X0.here hx rfl (pc0 := 118) (pc' := 128) rfl (hb hby d2_118) rfl (tlt (show p0 < (12272 : Int32) from (Int32.lt_iff_toInt_lt.mpr (by omega : (p0).toInt < (12272 : Int))))).1 (by decide) (by decide) ?_
                      show own_s p e below s₁ m 128 #[iv p0] [] _
                      refine XS.iloadN X0.here hx rfl (hb hby d2_128) rfl ?_
                      show own_s p e below s₁ m 129 #[iv p0] [(.int p0)] _
                      refine X0.ldcInt hx hown (mvT hZ (hw _ (List.mem_of_getElem? (i := 22) rfl))) (g := (mkF m 129 #[iv p0] [(.int p0)])) rfl (hb hby d2_129) _ ?_
                      show own_s p e below s₁ m 131 #[iv p0] [(.int (55296 : Int32)), (.int p0)] _
                      refine XS.icmpYes X0.here hx rfl (pc0 := 131) (pc' := 140) rfl (hb hby d2_131) rfl (tlt (show p0 < (55296 : Int32) from (Int32.lt_iff_toInt_lt.mpr (by omega : (p0).toInt < (55296 : Int))))).1 (by decide) (by decide) ?_
                      show own_s p e below s₁ m 140 #[iv p0] [] _
                      refine XS.iloadN X0.here hx rfl (hb hby d2_140) rfl ?_
                      show own_s p e below s₁ m 141 #[iv p0] [(.int p0)] _
                      refine X0.ldcInt hx hown (mvT hZ (hw _ (List.mem_of_getElem? (i := 23) rfl))) (g := (mkF m 141 #[iv p0] [(.int p0)])) rfl (hb hby d2_141) _ ?_
                      show own_s p e below s₁ m 143 #[iv p0] [(.int (64976 : Int32)), (.int p0)] _
                      refine XS.icmpYes X0.here hx rfl (pc0 := 143) (pc' := 152) rfl (hb hby d2_143) rfl (tlt (show p0 < (64976 : Int32) from (Int32.lt_iff_toInt_lt.mpr (by omega : (p0).toInt < (64976 : Int))))).1 (by decide) (by decide) ?_
                      show own_s p e below s₁ m 152 #[iv p0] [] _
                      refine XS.iloadN X0.here hx rfl (hb hby d2_152) rfl ?_
                      show own_s p e below s₁ m 153 #[iv p0] [(.int p0)] _
                      refine X0.ldcInt hx hown (mvT hZ (hw _ (List.mem_of_getElem? (i := 24) rfl))) (g := (mkF m 153 #[iv p0] [(.int p0)])) rfl (hb hby d2_153) _ ?_
                      show own_s p e below s₁ m 155 #[iv p0] [(.int (65534 : Int32)), (.int p0)] _
                      refine XS.icmpYes X0.here hx rfl (pc0 := 155) (pc' := 164) rfl (hb hby d2_155) rfl (tlt (show p0 < (65534 : Int32) from (Int32.lt_iff_toInt_lt.mpr (by omega : (p0).toInt < (65534 : Int))))).1 (by decide) (by decide) ?_
                      show own_s p e below s₁ m 164 #[iv p0] [] _
                      refine XS.iloadN X0.here hx rfl (hb hby d2_164) rfl ?_
                      show own_s p e below s₁ m 165 #[iv p0] [(.int p0)] _
                      refine X0.ldcInt hx hown (mvT hZ (hw _ (List.mem_of_getElem? (i := 7) rfl))) (g := (mkF m 165 #[iv p0] [(.int p0)])) rfl (hb hby d2_165) _ ?_
                      show own_s p e below s₁ m 167 #[iv p0] [(.int (983039 : Int32)), (.int p0)] _
                      refine XS.icmpYes X0.here hx rfl (pc0 := 167) (pc' := 174) rfl (hb hby d2_167) rfl (flt (show ¬ ((983039 : Int32) < p0) from (fun q => absurd (show (983039 : Int) < (p0).toInt from Int32.lt_iff_toInt_lt.mp q) (by omega)))).2.2.2 (by decide) (by decide) ?_
                      show own_s p e below s₁ m 174 #[iv p0] [] _
                      refine XS.iconst X0.here hx rfl (hb hby d2_174) ?_
                      exact kX
                    subst hS0
                    obtain ⟨fs, hr, hrun, hended, hW, hsame⟩ := X0.leave (v := (some (.int (0 : Int32)))) (fun h => by rw [Bd.returns] at h; cases h)
                    refine ⟨_, _, pre25 _ (retN X0 hx (t := .boolean) Bd.returns (by simp) (hb hby d2_175) hr), hrun, hended, _, _, rfl, ?_, ⟨_, rfl⟩, hW, hsame.mono (by decide) (by decide)⟩
                    show Q2 Z p0 h0 n0 (some (.int (0 : Int32))) s₁.heap _
                    exact ⟨congrArg (fun z => some (Value.int z)) (show (0 : Int32) = own_ex p0 from (if_pos (show own_P p0 = true from decide_eq_true (by omega))).symm), N0, e0⟩
                  · skip
                    have ihc24 : ¬ ((p0).toInt < (768 : Int)) := fun q => hc24 (Int32.lt_iff_toInt_lt.mpr q)
                    have pre26 : ∀ t, own_s p e below s₁ m 62 #[iv p0] [(.int (879 : Int32)), (.int p0)] t → Steps p.tables e below S0 t := by
                      intro tX kX
                      refine pre23 _ ?_
                      show own_s p e below s₁ m 55 #[iv p0] [(.int (768 : Int32)), (.int p0)] _
                      refine XS.icmpNo X0.here hx rfl (hb hby d2_55) rfl (flt hc24).1 ?_
                      show own_s p e below s₁ m 58 #[iv p0] [] _
                      refine XS.iloadN X0.here hx rfl (hb hby d2_58) rfl ?_
                      show own_s p e below s₁ m 59 #[iv p0] [(.int p0)] _
                      refine XS.sipush X0.here hx rfl (hb hby d2_59) ?_
                      exact kX
                    by_cases hc27 : (879 : Int32) < p0
                    · skip
                      have ihc27 : (879 : Int) < (p0).toInt := Int32.lt_iff_toInt_lt.mp hc27
                      have pre28 : ∀ t, own_s p e below s₁ m 69 #[iv p0] [(.int (894 : Int32)), (.int p0)] t → Steps p.tables e below S0 t := by
                        intro tX kX
                        refine pre26 _ ?_
                        show own_s p e below s₁ m 62 #[iv p0] [(.int (879 : Int32)), (.int p0)] _
                        refine XS.icmpNo X0.here hx rfl (hb hby d2_62) rfl (tlt hc27).2.2.2 ?_
                        show own_s p e below s₁ m 65 #[iv p0] [] _
                        refine XS.iloadN X0.here hx rfl (hb hby d2_65) rfl ?_
                        show own_s p e below s₁ m 66 #[iv p0] [(.int p0)] _
                        refine XS.sipush X0.here hx rfl (hb hby d2_66) ?_
                        exact kX
                      by_cases hc29 : p0 = (894 : Int32)
                      · skip
                        have ihc29 : (p0).toInt = (894 : Int) := congrArg Int32.toInt hc29
                        have pre30 : ∀ t, own_s p e below s₁ m 175 #[iv p0] [(.int (1 : Int32))] t → Steps p.tables e below S0 t := by
                          intro tX kX
                          refine pre28 _ ?_
                          show own_s p e below s₁ m 69 #[iv p0] [(.int (894 : Int32)), (.int p0)] _
                          refine XS.icmpYes X0.here hx rfl (pc0 := 69) (pc' := 170) rfl (hb hby d2_69) rfl (teq hc29).1 (by decide) (by decide) ?_
                          show own_s p e below s₁ m 170 #[iv p0] [] _
                          refine XS.iconst X0.here hx rfl (hb hby d2_170) ?_
                          show own_s p e below s₁ m 171 #[iv p0] [(.int (1 : Int32))] _
                          refine XS.goto X0.here hx rfl (pc0 := 171) (pc' := 175) rfl (hb hby d2_171) (by decide) (by decide) ?_
                          exact kX
                        subst hS0
                        obtain ⟨fs, hr, hrun, hended, hW, hsame⟩ := X0.leave (v := (some (.int (1 : Int32)))) (fun h => by rw [Bd.returns] at h; cases h)
                        refine ⟨_, _, pre30 _ (retN X0 hx (t := .boolean) Bd.returns (by simp) (hb hby d2_175) hr), hrun, hended, _, _, rfl, ?_, ⟨_, rfl⟩, hW, hsame.mono (by decide) (by decide)⟩
                        show Q2 Z p0 h0 n0 (some (.int (1 : Int32))) s₁.heap _
                        exact ⟨congrArg (fun z => some (Value.int z)) (show (1 : Int32) = own_ex p0 from (if_neg (show ¬ own_P p0 = true from fun q => absurd (of_decide_eq_true q) (by omega))).symm), N0, e0⟩
                      · skip
                        have ihc29 : ¬ ((p0).toInt = (894 : Int)) := fun q => hc29 (Int32.toInt_inj.mp q)
                        have pre31 : ∀ t, own_s p e below s₁ m 76 #[iv p0] [(.int (8192 : Int32)), (.int p0)] t → Steps p.tables e below S0 t := by
                          intro tX kX
                          refine pre28 _ ?_
                          show own_s p e below s₁ m 69 #[iv p0] [(.int (894 : Int32)), (.int p0)] _
                          refine XS.icmpNo X0.here hx rfl (hb hby d2_69) rfl (feq hc29).1 ?_
                          show own_s p e below s₁ m 72 #[iv p0] [] _
                          refine XS.iloadN X0.here hx rfl (hb hby d2_72) rfl ?_
                          show own_s p e below s₁ m 73 #[iv p0] [(.int p0)] _
                          refine XS.sipush X0.here hx rfl (hb hby d2_73) ?_
                          exact kX
                        by_cases hc32 : p0 < (8192 : Int32)
                        · skip
                          have ihc32 : (p0).toInt < (8192 : Int) := Int32.lt_iff_toInt_lt.mp hc32
                          have pre33 : ∀ t, own_s p e below s₁ m 175 #[iv p0] [(.int (0 : Int32))] t → Steps p.tables e below S0 t := by
                            intro tX kX
                            refine pre31 _ ?_
                            show own_s p e below s₁ m 76 #[iv p0] [(.int (8192 : Int32)), (.int p0)] _
                            refine XS.icmpYes X0.here hx rfl (pc0 := 76) (pc' := 86) rfl (hb hby d2_76) rfl (tlt hc32).1 (by decide) (by decide) ?_
                            show own_s p e below s₁ m 86 #[iv p0] [] _
                            refine XS.iloadN X0.here hx rfl (hb hby d2_86) rfl ?_
                            show own_s p e below s₁ m 87 #[iv p0] [(.int p0)] _
                            refine XS.sipush X0.here hx rfl (hb hby d2_87) ?_
                            show own_s p e below s₁ m 90 #[iv p0] [(.int (8206 : Int32)), (.int p0)] _
                            refine XS.icmpYes X0.here hx rfl (pc0 := 90) (pc' := 100) rfl (hb hby d2_90) rfl (tlt (show p0 < (8206 : Int32) from (Int32.lt_iff_toInt_lt.mpr (by omega : (p0).toInt < (8206 : Int))))).1 (by decide) (by decide) ?_
                            show own_s p e below s₁ m 100 #[iv p0] [] _
                            refine XS.iloadN X0.here hx rfl (hb hby d2_100) rfl ?_
                            show own_s p e below s₁ m 101 #[iv p0] [(.int p0)] _
                            refine XS.sipush X0.here hx rfl (hb hby d2_101) ?_
                            show own_s p e below s₁ m 104 #[iv p0] [(.int (8592 : Int32)), (.int p0)] _
                            refine XS.icmpYes X0.here hx rfl (pc0 := 104) (pc' := 114) rfl (hb hby d2_104) rfl (tlt (show p0 < (8592 : Int32) from (Int32.lt_iff_toInt_lt.mpr (by omega : (p0).toInt < (8592 : Int))))).1 (by decide) (by decide) ?_
                            show own_s p e below s₁ m 114 #[iv p0] [] _
                            refine XS.iloadN X0.here hx rfl (hb hby d2_114) rfl ?_
                            show own_s p e below s₁ m 115 #[iv p0] [(.int p0)] _
                            refine XS.sipush X0.here hx rfl (hb hby d2_115) ?_
                            show own_s p e below s₁ m 118 #[iv p0] [(.int (12272 : Int32)), (.int p0)] _
                            refine XS.icmpYes X0.here hx rfl (pc0 := 118) (pc' := 128) rfl (hb hby d2_118) rfl (tlt (show p0 < (12272 : Int32) from (Int32.lt_iff_toInt_lt.mpr (by omega : (p0).toInt < (12272 : Int))))).1 (by decide) (by decide) ?_
                            show own_s p e below s₁ m 128 #[iv p0] [] _
                            refine XS.iloadN X0.here hx rfl (hb hby d2_128) rfl ?_
                            show own_s p e below s₁ m 129 #[iv p0] [(.int p0)] _
                            refine X0.ldcInt hx hown (mvT hZ (hw _ (List.mem_of_getElem? (i := 22) rfl))) (g := (mkF m 129 #[iv p0] [(.int p0)])) rfl (hb hby d2_129) _ ?_
                            show own_s p e below s₁ m 131 #[iv p0] [(.int (55296 : Int32)), (.int p0)] _
                            refine XS.icmpYes X0.here hx rfl (pc0 := 131) (pc' := 140) rfl (hb hby d2_131) rfl (tlt (show p0 < (55296 : Int32) from (Int32.lt_iff_toInt_lt.mpr (by omega : (p0).toInt < (55296 : Int))))).1 (by decide) (by decide) ?_
                            show own_s p e below s₁ m 140 #[iv p0] [] _
                            refine XS.iloadN X0.here hx rfl (hb hby d2_140) rfl ?_
                            show own_s p e below s₁ m 141 #[iv p0] [(.int p0)] _
                            refine X0.ldcInt hx hown (mvT hZ (hw _ (List.mem_of_getElem? (i := 23) rfl))) (g := (mkF m 141 #[iv p0] [(.int p0)])) rfl (hb hby d2_141) _ ?_
                            show own_s p e below s₁ m 143 #[iv p0] [(.int (64976 : Int32)), (.int p0)] _
                            refine XS.icmpYes X0.here hx rfl (pc0 := 143) (pc' := 152) rfl (hb hby d2_143) rfl (tlt (show p0 < (64976 : Int32) from (Int32.lt_iff_toInt_lt.mpr (by omega : (p0).toInt < (64976 : Int))))).1 (by decide) (by decide) ?_
                            show own_s p e below s₁ m 152 #[iv p0] [] _
                            refine XS.iloadN X0.here hx rfl (hb hby d2_152) rfl ?_
                            show own_s p e below s₁ m 153 #[iv p0] [(.int p0)] _
                            refine X0.ldcInt hx hown (mvT hZ (hw _ (List.mem_of_getElem? (i := 24) rfl))) (g := (mkF m 153 #[iv p0] [(.int p0)])) rfl (hb hby d2_153) _ ?_
                            show own_s p e below s₁ m 155 #[iv p0] [(.int (65534 : Int32)), (.int p0)] _
                            refine XS.icmpYes X0.here hx rfl (pc0 := 155) (pc' := 164) rfl (hb hby d2_155) rfl (tlt (show p0 < (65534 : Int32) from (Int32.lt_iff_toInt_lt.mpr (by omega : (p0).toInt < (65534 : Int))))).1 (by decide) (by decide) ?_
                            show own_s p e below s₁ m 164 #[iv p0] [] _
                            refine XS.iloadN X0.here hx rfl (hb hby d2_164) rfl ?_
                            show own_s p e below s₁ m 165 #[iv p0] [(.int p0)] _
                            refine X0.ldcInt hx hown (mvT hZ (hw _ (List.mem_of_getElem? (i := 7) rfl))) (g := (mkF m 165 #[iv p0] [(.int p0)])) rfl (hb hby d2_165) _ ?_
                            show own_s p e below s₁ m 167 #[iv p0] [(.int (983039 : Int32)), (.int p0)] _
                            refine XS.icmpYes X0.here hx rfl (pc0 := 167) (pc' := 174) rfl (hb hby d2_167) rfl (flt (show ¬ ((983039 : Int32) < p0) from (fun q => absurd (show (983039 : Int) < (p0).toInt from Int32.lt_iff_toInt_lt.mp q) (by omega)))).2.2.2 (by decide) (by decide) ?_
                            show own_s p e below s₁ m 174 #[iv p0] [] _
                            refine XS.iconst X0.here hx rfl (hb hby d2_174) ?_
                            exact kX
                          subst hS0
                          obtain ⟨fs, hr, hrun, hended, hW, hsame⟩ := X0.leave (v := (some (.int (0 : Int32)))) (fun h => by rw [Bd.returns] at h; cases h)
                          refine ⟨_, _, pre33 _ (retN X0 hx (t := .boolean) Bd.returns (by simp) (hb hby d2_175) hr), hrun, hended, _, _, rfl, ?_, ⟨_, rfl⟩, hW, hsame.mono (by decide) (by decide)⟩
                          show Q2 Z p0 h0 n0 (some (.int (0 : Int32))) s₁.heap _
                          exact ⟨congrArg (fun z => some (Value.int z)) (show (0 : Int32) = own_ex p0 from (if_pos (show own_P p0 = true from decide_eq_true (by omega))).symm), N0, e0⟩
                        · skip
                          have ihc32 : ¬ ((p0).toInt < (8192 : Int)) := fun q => hc32 (Int32.lt_iff_toInt_lt.mpr q)
                          have pre34 : ∀ t, own_s p e below s₁ m 83 #[iv p0] [(.int (8203 : Int32)), (.int p0)] t → Steps p.tables e below S0 t := by
                            intro tX kX
                            refine pre31 _ ?_
                            show own_s p e below s₁ m 76 #[iv p0] [(.int (8192 : Int32)), (.int p0)] _
                            refine XS.icmpNo X0.here hx rfl (hb hby d2_76) rfl (flt hc32).1 ?_
                            show own_s p e below s₁ m 79 #[iv p0] [] _
                            refine XS.iloadN X0.here hx rfl (hb hby d2_79) rfl ?_
                            show own_s p e below s₁ m 80 #[iv p0] [(.int p0)] _
                            refine XS.sipush X0.here hx rfl (hb hby d2_80) ?_
                            exact kX
                          by_cases hc35 : (8203 : Int32) < p0
                          · skip
                            have ihc35 : (8203 : Int) < (p0).toInt := Int32.lt_iff_toInt_lt.mp hc35
                            have pre36 : ∀ t, own_s p e below s₁ m 90 #[iv p0] [(.int (8206 : Int32)), (.int p0)] t → Steps p.tables e below S0 t := by
                              intro tX kX
                              refine pre34 _ ?_
                              show own_s p e below s₁ m 83 #[iv p0] [(.int (8203 : Int32)), (.int p0)] _
                              refine XS.icmpNo X0.here hx rfl (hb hby d2_83) rfl (tlt hc35).2.2.2 ?_
                              show own_s p e below s₁ m 86 #[iv p0] [] _
                              refine XS.iloadN X0.here hx rfl (hb hby d2_86) rfl ?_
                              show own_s p e below s₁ m 87 #[iv p0] [(.int p0)] _
                              refine XS.sipush X0.here hx rfl (hb hby d2_87) ?_
                              exact kX
                            by_cases hc37 : p0 < (8206 : Int32)
                            · skip
                              have ihc37 : (p0).toInt < (8206 : Int) := Int32.lt_iff_toInt_lt.mp hc37
                              have pre38 : ∀ t, own_s p e below s₁ m 175 #[iv p0] [(.int (0 : Int32))] t → Steps p.tables e below S0 t := by
                                intro tX kX
                                refine pre36 _ ?_
                                show own_s p e below s₁ m 90 #[iv p0] [(.int (8206 : Int32)), (.int p0)] _
                                refine XS.icmpYes X0.here hx rfl (pc0 := 90) (pc' := 100) rfl (hb hby d2_90) rfl (tlt hc37).1 (by decide) (by decide) ?_
                                show own_s p e below s₁ m 100 #[iv p0] [] _
                                refine XS.iloadN X0.here hx rfl (hb hby d2_100) rfl ?_
                                show own_s p e below s₁ m 101 #[iv p0] [(.int p0)] _
                                refine XS.sipush X0.here hx rfl (hb hby d2_101) ?_
                                show own_s p e below s₁ m 104 #[iv p0] [(.int (8592 : Int32)), (.int p0)] _
                                refine XS.icmpYes X0.here hx rfl (pc0 := 104) (pc' := 114) rfl (hb hby d2_104) rfl (tlt (show p0 < (8592 : Int32) from (Int32.lt_iff_toInt_lt.mpr (by omega : (p0).toInt < (8592 : Int))))).1 (by decide) (by decide) ?_
                                show own_s p e below s₁ m 114 #[iv p0] [] _
                                refine XS.iloadN X0.here hx rfl (hb hby d2_114) rfl ?_
                                show own_s p e below s₁ m 115 #[iv p0] [(.int p0)] _
                                refine XS.sipush X0.here hx rfl (hb hby d2_115) ?_
                                show own_s p e below s₁ m 118 #[iv p0] [(.int (12272 : Int32)), (.int p0)] _
                                refine XS.icmpYes X0.here hx rfl (pc0 := 118) (pc' := 128) rfl (hb hby d2_118) rfl (tlt (show p0 < (12272 : Int32) from (Int32.lt_iff_toInt_lt.mpr (by omega : (p0).toInt < (12272 : Int))))).1 (by decide) (by decide) ?_
                                show own_s p e below s₁ m 128 #[iv p0] [] _
                                refine XS.iloadN X0.here hx rfl (hb hby d2_128) rfl ?_
                                show own_s p e below s₁ m 129 #[iv p0] [(.int p0)] _
                                refine X0.ldcInt hx hown (mvT hZ (hw _ (List.mem_of_getElem? (i := 22) rfl))) (g := (mkF m 129 #[iv p0] [(.int p0)])) rfl (hb hby d2_129) _ ?_
                                show own_s p e below s₁ m 131 #[iv p0] [(.int (55296 : Int32)), (.int p0)] _
                                refine XS.icmpYes X0.here hx rfl (pc0 := 131) (pc' := 140) rfl (hb hby d2_131) rfl (tlt (show p0 < (55296 : Int32) from (Int32.lt_iff_toInt_lt.mpr (by omega : (p0).toInt < (55296 : Int))))).1 (by decide) (by decide) ?_
                                show own_s p e below s₁ m 140 #[iv p0] [] _
                                refine XS.iloadN X0.here hx rfl (hb hby d2_140) rfl ?_
                                show own_s p e below s₁ m 141 #[iv p0] [(.int p0)] _
                                refine X0.ldcInt hx hown (mvT hZ (hw _ (List.mem_of_getElem? (i := 23) rfl))) (g := (mkF m 141 #[iv p0] [(.int p0)])) rfl (hb hby d2_141) _ ?_
                                show own_s p e below s₁ m 143 #[iv p0] [(.int (64976 : Int32)), (.int p0)] _
                                refine XS.icmpYes X0.here hx rfl (pc0 := 143) (pc' := 152) rfl (hb hby d2_143) rfl (tlt (show p0 < (64976 : Int32) from (Int32.lt_iff_toInt_lt.mpr (by omega : (p0).toInt < (64976 : Int))))).1 (by decide) (by decide) ?_
                                show own_s p e below s₁ m 152 #[iv p0] [] _
                                refine XS.iloadN X0.here hx rfl (hb hby d2_152) rfl ?_
                                show own_s p e below s₁ m 153 #[iv p0] [(.int p0)] _
                                refine X0.ldcInt hx hown (mvT hZ (hw _ (List.mem_of_getElem? (i := 24) rfl))) (g := (mkF m 153 #[iv p0] [(.int p0)])) rfl (hb hby d2_153) _ ?_
                                show own_s p e below s₁ m 155 #[iv p0] [(.int (65534 : Int32)), (.int p0)] _
                                refine XS.icmpYes X0.here hx rfl (pc0 := 155) (pc' := 164) rfl (hb hby d2_155) rfl (tlt (show p0 < (65534 : Int32) from (Int32.lt_iff_toInt_lt.mpr (by omega : (p0).toInt < (65534 : Int))))).1 (by decide) (by decide) ?_
                                show own_s p e below s₁ m 164 #[iv p0] [] _
                                refine XS.iloadN X0.here hx rfl (hb hby d2_164) rfl ?_
                                show own_s p e below s₁ m 165 #[iv p0] [(.int p0)] _
                                refine X0.ldcInt hx hown (mvT hZ (hw _ (List.mem_of_getElem? (i := 7) rfl))) (g := (mkF m 165 #[iv p0] [(.int p0)])) rfl (hb hby d2_165) _ ?_
                                show own_s p e below s₁ m 167 #[iv p0] [(.int (983039 : Int32)), (.int p0)] _
                                refine XS.icmpYes X0.here hx rfl (pc0 := 167) (pc' := 174) rfl (hb hby d2_167) rfl (flt (show ¬ ((983039 : Int32) < p0) from (fun q => absurd (show (983039 : Int) < (p0).toInt from Int32.lt_iff_toInt_lt.mp q) (by omega)))).2.2.2 (by decide) (by decide) ?_
                                show own_s p e below s₁ m 174 #[iv p0] [] _
                                refine XS.iconst X0.here hx rfl (hb hby d2_174) ?_
                                exact kX
                              subst hS0
                              obtain ⟨fs, hr, hrun, hended, hW, hsame⟩ := X0.leave (v := (some (.int (0 : Int32)))) (fun h => by rw [Bd.returns] at h; cases h)
                              refine ⟨_, _, pre38 _ (retN X0 hx (t := .boolean) Bd.returns (by simp) (hb hby d2_175) hr), hrun, hended, _, _, rfl, ?_, ⟨_, rfl⟩, hW, hsame.mono (by decide) (by decide)⟩
                              show Q2 Z p0 h0 n0 (some (.int (0 : Int32))) s₁.heap _
                              exact ⟨congrArg (fun z => some (Value.int z)) (show (0 : Int32) = own_ex p0 from (if_pos (show own_P p0 = true from decide_eq_true (by omega))).symm), N0, e0⟩
                            · skip
                              have ihc37 : ¬ ((p0).toInt < (8206 : Int)) := fun q => hc37 (Int32.lt_iff_toInt_lt.mpr q)
                              have pre39 : ∀ t, own_s p e below s₁ m 97 #[iv p0] [(.int (8303 : Int32)), (.int p0)] t → Steps p.tables e below S0 t := by
                                intro tX kX
                                refine pre36 _ ?_
                                show own_s p e below s₁ m 90 #[iv p0] [(.int (8206 : Int32)), (.int p0)] _
                                refine XS.icmpNo X0.here hx rfl (hb hby d2_90) rfl (flt hc37).1 ?_
                                show own_s p e below s₁ m 93 #[iv p0] [] _
                                refine XS.iloadN X0.here hx rfl (hb hby d2_93) rfl ?_
                                show own_s p e below s₁ m 94 #[iv p0] [(.int p0)] _
                                refine XS.sipush X0.here hx rfl (hb hby d2_94) ?_
                                exact kX
                              by_cases hc40 : (8303 : Int32) < p0
                              · skip
                                have ihc40 : (8303 : Int) < (p0).toInt := Int32.lt_iff_toInt_lt.mp hc40
                                have pre41 : ∀ t, own_s p e below s₁ m 104 #[iv p0] [(.int (8592 : Int32)), (.int p0)] t → Steps p.tables e below S0 t := by
                                  intro tX kX
                                  refine pre39 _ ?_
                                  show own_s p e below s₁ m 97 #[iv p0] [(.int (8303 : Int32)), (.int p0)] _
                                  refine XS.icmpNo X0.here hx rfl (hb hby d2_97) rfl (tlt hc40).2.2.2 ?_
                                  show own_s p e below s₁ m 100 #[iv p0] [] _
                                  refine XS.iloadN X0.here hx rfl (hb hby d2_100) rfl ?_
                                  show own_s p e below s₁ m 101 #[iv p0] [(.int p0)] _
                                  refine XS.sipush X0.here hx rfl (hb hby d2_101) ?_
                                  exact kX
                                by_cases hc42 : p0 < (8592 : Int32)
                                · skip
                                  have ihc42 : (p0).toInt < (8592 : Int) := Int32.lt_iff_toInt_lt.mp hc42
                                  have pre43 : ∀ t, own_s p e below s₁ m 175 #[iv p0] [(.int (0 : Int32))] t → Steps p.tables e below S0 t := by
                                    intro tX kX
                                    refine pre41 _ ?_
                                    show own_s p e below s₁ m 104 #[iv p0] [(.int (8592 : Int32)), (.int p0)] _
                                    refine XS.icmpYes X0.here hx rfl (pc0 := 104) (pc' := 114) rfl (hb hby d2_104) rfl (tlt hc42).1 (by decide) (by decide) ?_
                                    show own_s p e below s₁ m 114 #[iv p0] [] _
                                    refine XS.iloadN X0.here hx rfl (hb hby d2_114) rfl ?_
                                    show own_s p e below s₁ m 115 #[iv p0] [(.int p0)] _
                                    refine XS.sipush X0.here hx rfl (hb hby d2_115) ?_
                                    show own_s p e below s₁ m 118 #[iv p0] [(.int (12272 : Int32)), (.int p0)] _
                                    refine XS.icmpYes X0.here hx rfl (pc0 := 118) (pc' := 128) rfl (hb hby d2_118) rfl (tlt (show p0 < (12272 : Int32) from (Int32.lt_iff_toInt_lt.mpr (by omega : (p0).toInt < (12272 : Int))))).1 (by decide) (by decide) ?_
                                    show own_s p e below s₁ m 128 #[iv p0] [] _
                                    refine XS.iloadN X0.here hx rfl (hb hby d2_128) rfl ?_
                                    show own_s p e below s₁ m 129 #[iv p0] [(.int p0)] _
                                    refine X0.ldcInt hx hown (mvT hZ (hw _ (List.mem_of_getElem? (i := 22) rfl))) (g := (mkF m 129 #[iv p0] [(.int p0)])) rfl (hb hby d2_129) _ ?_
                                    show own_s p e below s₁ m 131 #[iv p0] [(.int (55296 : Int32)), (.int p0)] _
                                    refine XS.icmpYes X0.here hx rfl (pc0 := 131) (pc' := 140) rfl (hb hby d2_131) rfl (tlt (show p0 < (55296 : Int32) from (Int32.lt_iff_toInt_lt.mpr (by omega : (p0).toInt < (55296 : Int))))).1 (by decide) (by decide) ?_
                                    show own_s p e below s₁ m 140 #[iv p0] [] _
                                    refine XS.iloadN X0.here hx rfl (hb hby d2_140) rfl ?_
                                    show own_s p e below s₁ m 141 #[iv p0] [(.int p0)] _
                                    refine X0.ldcInt hx hown (mvT hZ (hw _ (List.mem_of_getElem? (i := 23) rfl))) (g := (mkF m 141 #[iv p0] [(.int p0)])) rfl (hb hby d2_141) _ ?_
                                    show own_s p e below s₁ m 143 #[iv p0] [(.int (64976 : Int32)), (.int p0)] _
                                    refine XS.icmpYes X0.here hx rfl (pc0 := 143) (pc' := 152) rfl (hb hby d2_143) rfl (tlt (show p0 < (64976 : Int32) from (Int32.lt_iff_toInt_lt.mpr (by omega : (p0).toInt < (64976 : Int))))).1 (by decide) (by decide) ?_
                                    show own_s p e below s₁ m 152 #[iv p0] [] _
                                    refine XS.iloadN X0.here hx rfl (hb hby d2_152) rfl ?_
                                    show own_s p e below s₁ m 153 #[iv p0] [(.int p0)] _
                                    refine X0.ldcInt hx hown (mvT hZ (hw _ (List.mem_of_getElem? (i := 24) rfl))) (g := (mkF m 153 #[iv p0] [(.int p0)])) rfl (hb hby d2_153) _ ?_
                                    show own_s p e below s₁ m 155 #[iv p0] [(.int (65534 : Int32)), (.int p0)] _
                                    refine XS.icmpYes X0.here hx rfl (pc0 := 155) (pc' := 164) rfl (hb hby d2_155) rfl (tlt (show p0 < (65534 : Int32) from (Int32.lt_iff_toInt_lt.mpr (by omega : (p0).toInt < (65534 : Int))))).1 (by decide) (by decide) ?_
                                    show own_s p e below s₁ m 164 #[iv p0] [] _
                                    refine XS.iloadN X0.here hx rfl (hb hby d2_164) rfl ?_
                                    show own_s p e below s₁ m 165 #[iv p0] [(.int p0)] _
                                    refine X0.ldcInt hx hown (mvT hZ (hw _ (List.mem_of_getElem? (i := 7) rfl))) (g := (mkF m 165 #[iv p0] [(.int p0)])) rfl (hb hby d2_165) _ ?_
                                    show own_s p e below s₁ m 167 #[iv p0] [(.int (983039 : Int32)), (.int p0)] _
                                    refine XS.icmpYes X0.here hx rfl (pc0 := 167) (pc' := 174) rfl (hb hby d2_167) rfl (flt (show ¬ ((983039 : Int32) < p0) from (fun q => absurd (show (983039 : Int) < (p0).toInt from Int32.lt_iff_toInt_lt.mp q) (by omega)))).2.2.2 (by decide) (by decide) ?_
                                    show own_s p e below s₁ m 174 #[iv p0] [] _
                                    refine XS.iconst X0.here hx rfl (hb hby d2_174) ?_
                                    exact kX
                                  subst hS0
                                  obtain ⟨fs, hr, hrun, hended, hW, hsame⟩ := X0.leave (v := (some (.int (0 : Int32)))) (fun h => by rw [Bd.returns] at h; cases h)
                                  refine ⟨_, _, pre43 _ (retN X0 hx (t := .boolean) Bd.returns (by simp) (hb hby d2_175) hr), hrun, hended, _, _, rfl, ?_, ⟨_, rfl⟩, hW, hsame.mono (by decide) (by decide)⟩
                                  show Q2 Z p0 h0 n0 (some (.int (0 : Int32))) s₁.heap _
                                  exact ⟨congrArg (fun z => some (Value.int z)) (show (0 : Int32) = own_ex p0 from (if_pos (show own_P p0 = true from decide_eq_true (by omega))).symm), N0, e0⟩
                                · skip
                                  have ihc42 : ¬ ((p0).toInt < (8592 : Int)) := fun q => hc42 (Int32.lt_iff_toInt_lt.mpr q)
                                  have pre44 : ∀ t, own_s p e below s₁ m 111 #[iv p0] [(.int (11263 : Int32)), (.int p0)] t → Steps p.tables e below S0 t := by
                                    intro tX kX
                                    refine pre41 _ ?_
                                    show own_s p e below s₁ m 104 #[iv p0] [(.int (8592 : Int32)), (.int p0)] _
                                    refine XS.icmpNo X0.here hx rfl (hb hby d2_104) rfl (flt hc42).1 ?_
                                    show own_s p e below s₁ m 107 #[iv p0] [] _
                                    refine XS.iloadN X0.here hx rfl (hb hby d2_107) rfl ?_
                                    show own_s p e below s₁ m 108 #[iv p0] [(.int p0)] _
                                    refine XS.sipush X0.here hx rfl (hb hby d2_108) ?_
                                    exact kX
                                  by_cases hc45 : (11263 : Int32) < p0
                                  · skip
                                    have ihc45 : (11263 : Int) < (p0).toInt := Int32.lt_iff_toInt_lt.mp hc45
                                    have pre46 : ∀ t, own_s p e below s₁ m 118 #[iv p0] [(.int (12272 : Int32)), (.int p0)] t → Steps p.tables e below S0 t := by
                                      intro tX kX
                                      refine pre44 _ ?_
                                      show own_s p e below s₁ m 111 #[iv p0] [(.int (11263 : Int32)), (.int p0)] _
                                      refine XS.icmpNo X0.here hx rfl (hb hby d2_111) rfl (tlt hc45).2.2.2 ?_
                                      show own_s p e below s₁ m 114 #[iv p0] [] _
                                      refine XS.iloadN X0.here hx rfl (hb hby d2_114) rfl ?_
                                      show own_s p e below s₁ m 115 #[iv p0] [(.int p0)] _
                                      refine XS.sipush X0.here hx rfl (hb hby d2_115) ?_
                                      exact kX
                                    by_cases hc47 : p0 < (12272 : Int32)
                                    · skip
                                      have ihc47 : (p0).toInt < (12272 : Int) := Int32.lt_iff_toInt_lt.mp hc47
                                      have pre48 : ∀ t, own_s p e below s₁ m 175 #[iv p0] [(.int (0 : Int32))] t → Steps p.tables e below S0 t := by
                                        intro tX kX
                                        refine pre46 _ ?_
                                        show own_s p e below s₁ m 118 #[iv p0] [(.int (12272 : Int32)), (.int p0)] _
                                        refine XS.icmpYes X0.here hx rfl (pc0 := 118) (pc' := 128) rfl (hb hby d2_118) rfl (tlt hc47).1 (by decide) (by decide) ?_
                                        show own_s p e below s₁ m 128 #[iv p0] [] _
                                        refine XS.iloadN X0.here hx rfl (hb hby d2_128) rfl ?_
                                        show own_s p e below s₁ m 129 #[iv p0] [(.int p0)] _
                                        refine X0.ldcInt hx hown (mvT hZ (hw _ (List.mem_of_getElem? (i := 22) rfl))) (g := (mkF m 129 #[iv p0] [(.int p0)])) rfl (hb hby d2_129) _ ?_
                                        show own_s p e below s₁ m 131 #[iv p0] [(.int (55296 : Int32)), (.int p0)] _
                                        refine XS.icmpYes X0.here hx rfl (pc0 := 131) (pc' := 140) rfl (hb hby d2_131) rfl (tlt (show p0 < (55296 : Int32) from (Int32.lt_iff_toInt_lt.mpr (by omega : (p0).toInt < (55296 : Int))))).1 (by decide) (by decide) ?_
                                        show own_s p e below s₁ m 140 #[iv p0] [] _
                                        refine XS.iloadN X0.here hx rfl (hb hby d2_140) rfl ?_
                                        show own_s p e below s₁ m 141 #[iv p0] [(.int p0)] _
                                        refine X0.ldcInt hx hown (mvT hZ (hw _ (List.mem_of_getElem? (i := 23) rfl))) (g := (mkF m 141 #[iv p0] [(.int p0)])) rfl (hb hby d2_141) _ ?_
                                        show own_s p e below s₁ m 143 #[iv p0] [(.int (64976 : Int32)), (.int p0)] _
                                        refine XS.icmpYes X0.here hx rfl (pc0 := 143) (pc' := 152) rfl (hb hby d2_143) rfl (tlt (show p0 < (64976 : Int32) from (Int32.lt_iff_toInt_lt.mpr (by omega : (p0).toInt < (64976 : Int))))).1 (by decide) (by decide) ?_
                                        show own_s p e below s₁ m 152 #[iv p0] [] _
                                        refine XS.iloadN X0.here hx rfl (hb hby d2_152) rfl ?_
                                        show own_s p e below s₁ m 153 #[iv p0] [(.int p0)] _
                                        refine X0.ldcInt hx hown (mvT hZ (hw _ (List.mem_of_getElem? (i := 24) rfl))) (g := (mkF m 153 #[iv p0] [(.int p0)])) rfl (hb hby d2_153) _ ?_
                                        show own_s p e below s₁ m 155 #[iv p0] [(.int (65534 : Int32)), (.int p0)] _
                                        refine XS.icmpYes X0.here hx rfl (pc0 := 155) (pc' := 164) rfl (hb hby d2_155) rfl (tlt (show p0 < (65534 : Int32) from (Int32.lt_iff_toInt_lt.mpr (by omega : (p0).toInt < (65534 : Int))))).1 (by decide) (by decide) ?_
                                        show own_s p e below s₁ m 164 #[iv p0] [] _
                                        refine XS.iloadN X0.here hx rfl (hb hby d2_164) rfl ?_
                                        show own_s p e below s₁ m 165 #[iv p0] [(.int p0)] _
                                        refine X0.ldcInt hx hown (mvT hZ (hw _ (List.mem_of_getElem? (i := 7) rfl))) (g := (mkF m 165 #[iv p0] [(.int p0)])) rfl (hb hby d2_165) _ ?_
                                        show own_s p e below s₁ m 167 #[iv p0] [(.int (983039 : Int32)), (.int p0)] _
                                        refine XS.icmpYes X0.here hx rfl (pc0 := 167) (pc' := 174) rfl (hb hby d2_167) rfl (flt (show ¬ ((983039 : Int32) < p0) from (fun q => absurd (show (983039 : Int) < (p0).toInt from Int32.lt_iff_toInt_lt.mp q) (by omega)))).2.2.2 (by decide) (by decide) ?_
                                        show own_s p e below s₁ m 174 #[iv p0] [] _
                                        refine XS.iconst X0.here hx rfl (hb hby d2_174) ?_
                                        exact kX
                                      subst hS0
                                      obtain ⟨fs, hr, hrun, hended, hW, hsame⟩ := X0.leave (v := (some (.int (0 : Int32)))) (fun h => by rw [Bd.returns] at h; cases h)
                                      refine ⟨_, _, pre48 _ (retN X0 hx (t := .boolean) Bd.returns (by simp) (hb hby d2_175) hr), hrun, hended, _, _, rfl, ?_, ⟨_, rfl⟩, hW, hsame.mono (by decide) (by decide)⟩
                                      show Q2 Z p0 h0 n0 (some (.int (0 : Int32))) s₁.heap _
                                      exact ⟨congrArg (fun z => some (Value.int z)) (show (0 : Int32) = own_ex p0 from (if_pos (show own_P p0 = true from decide_eq_true (by omega))).symm), N0, e0⟩
                                    · skip
                                      have ihc47 : ¬ ((p0).toInt < (12272 : Int)) := fun q => hc47 (Int32.lt_iff_toInt_lt.mpr q)
                                      have pre49 : ∀ t, own_s p e below s₁ m 125 #[iv p0] [(.int (12288 : Int32)), (.int p0)] t → Steps p.tables e below S0 t := by
                                        intro tX kX
                                        refine pre46 _ ?_
                                        show own_s p e below s₁ m 118 #[iv p0] [(.int (12272 : Int32)), (.int p0)] _
                                        refine XS.icmpNo X0.here hx rfl (hb hby d2_118) rfl (flt hc47).1 ?_
                                        show own_s p e below s₁ m 121 #[iv p0] [] _
                                        refine XS.iloadN X0.here hx rfl (hb hby d2_121) rfl ?_
                                        show own_s p e below s₁ m 122 #[iv p0] [(.int p0)] _
                                        refine XS.sipush X0.here hx rfl (hb hby d2_122) ?_
                                        exact kX
                                      by_cases hc50 : (12288 : Int32) < p0
                                      · skip
                                        have ihc50 : (12288 : Int) < (p0).toInt := Int32.lt_iff_toInt_lt.mp hc50
                                        have pre51 : ∀ t, own_s p e below s₁ m 131 #[iv p0] [(.int (55296 : Int32)), (.int p0)] t → Steps p.tables e below S0 t := by
                                          intro tX kX
                                          refine pre49 _ ?_
                                          show own_s p e below s₁ m 125 #[iv p0] [(.int (12288 : Int32)), (.int p0)] _
                                          refine XS.icmpNo X0.here hx rfl (hb hby d2_125) rfl (tlt hc50).2.2.2 ?_
                                          show own_s p e below s₁ m 128 #[iv p0] [] _
                                          refine XS.iloadN X0.here hx rfl (hb hby d2_128) rfl ?_
                                          show own_s p e below s₁ m 129 #[iv p0] [(.int p0)] _
                                          refine X0.ldcInt hx hown (mvT hZ (hw _ (List.mem_of_getElem? (i := 22) rfl))) (g := (mkF m 129 #[iv p0] [(.int p0)])) rfl (hb hby d2_129) _ ?_
                                          exact kX
                                        by_cases hc52 : p0 < (55296 : Int32)
                                        · skip
                                          have ihc52 : (p0).toInt < (55296 : Int) := Int32.lt_iff_toInt_lt.mp hc52
                                          have pre53 : ∀ t, own_s p e below s₁ m 175 #[iv p0] [(.int (0 : Int32))] t → Steps p.tables e below S0 t := by
                                            intro tX kX
                                            refine pre51 _ ?_
                                            show own_s p e below s₁ m 131 #[iv p0] [(.int (55296 : Int32)), (.int p0)] _
                                            refine XS.icmpYes X0.here hx rfl (pc0 := 131) (pc' := 140) rfl (hb hby d2_131) rfl (tlt hc52).1 (by decide) (by decide) ?_
                                            show own_s p e below s₁ m 140 #[iv p0] [] _
                                            refine XS.iloadN X0.here hx rfl (hb hby d2_140) rfl ?_
                                            show own_s p e below s₁ m 141 #[iv p0] [(.int p0)] _
                                            refine X0.ldcInt hx hown (mvT hZ (hw _ (List.mem_of_getElem? (i := 23) rfl))) (g := (mkF m 141 #[iv p0] [(.int p0)])) rfl (hb hby d2_141) _ ?_
                                            show own_s p e below s₁ m 143 #[iv p0] [(.int (64976 : Int32)), (.int p0)] _
                                            refine XS.icmpYes X0.here hx rfl (pc0 := 143) (pc' := 152) rfl (hb hby d2_143) rfl (tlt (show p0 < (64976 : Int32) from (Int32.lt_iff_toInt_lt.mpr (by omega : (p0).toInt < (64976 : Int))))).1 (by decide) (by decide) ?_
                                            show own_s p e below s₁ m 152 #[iv p0] [] _
                                            refine XS.iloadN X0.here hx rfl (hb hby d2_152) rfl ?_
                                            show own_s p e below s₁ m 153 #[iv p0] [(.int p0)] _
                                            refine X0.ldcInt hx hown (mvT hZ (hw _ (List.mem_of_getElem? (i := 24) rfl))) (g := (mkF m 153 #[iv p0] [(.int p0)])) rfl (hb hby d2_153) _ ?_
                                            show own_s p e below s₁ m 155 #[iv p0] [(.int (65534 : Int32)), (.int p0)] _
                                            refine XS.icmpYes X0.here hx rfl (pc0 := 155) (pc' := 164) rfl (hb hby d2_155) rfl (tlt (show p0 < (65534 : Int32) from (Int32.lt_iff_toInt_lt.mpr (by omega : (p0).toInt < (65534 : Int))))).1 (by decide) (by decide) ?_
                                            show own_s p e below s₁ m 164 #[iv p0] [] _
                                            refine XS.iloadN X0.here hx rfl (hb hby d2_164) rfl ?_
                                            show own_s p e below s₁ m 165 #[iv p0] [(.int p0)] _
                                            refine X0.ldcInt hx hown (mvT hZ (hw _ (List.mem_of_getElem? (i := 7) rfl))) (g := (mkF m 165 #[iv p0] [(.int p0)])) rfl (hb hby d2_165) _ ?_
                                            show own_s p e below s₁ m 167 #[iv p0] [(.int (983039 : Int32)), (.int p0)] _
                                            refine XS.icmpYes X0.here hx rfl (pc0 := 167) (pc' := 174) rfl (hb hby d2_167) rfl (flt (show ¬ ((983039 : Int32) < p0) from (fun q => absurd (show (983039 : Int) < (p0).toInt from Int32.lt_iff_toInt_lt.mp q) (by omega)))).2.2.2 (by decide) (by decide) ?_
                                            show own_s p e below s₁ m 174 #[iv p0] [] _
                                            refine XS.iconst X0.here hx rfl (hb hby d2_174) ?_
                                            exact kX
                                          subst hS0
                                          obtain ⟨fs, hr, hrun, hended, hW, hsame⟩ := X0.leave (v := (some (.int (0 : Int32)))) (fun h => by rw [Bd.returns] at h; cases h)
                                          refine ⟨_, _, pre53 _ (retN X0 hx (t := .boolean) Bd.returns (by simp) (hb hby d2_175) hr), hrun, hended, _, _, rfl, ?_, ⟨_, rfl⟩, hW, hsame.mono (by decide) (by decide)⟩
                                          show Q2 Z p0 h0 n0 (some (.int (0 : Int32))) s₁.heap _
                                          exact ⟨congrArg (fun z => some (Value.int z)) (show (0 : Int32) = own_ex p0 from (if_pos (show own_P p0 = true from decide_eq_true (by omega))).symm), N0, e0⟩
                                        · skip
                                          have ihc52 : ¬ ((p0).toInt < (55296 : Int)) := fun q => hc52 (Int32.lt_iff_toInt_lt.mpr q)
                                          have pre54 : ∀ t, own_s p e below s₁ m 137 #[iv p0] [(.int (63743 : Int32)), (.int p0)] t → Steps p.tables e below S0 t := by
                                            intro tX kX
                                            refine pre51 _ ?_
                                            show own_s p e below s₁ m 131 #[iv p0] [(.int (55296 : Int32)), (.int p0)] _
                                            refine XS.icmpNo X0.here hx rfl (hb hby d2_131) rfl (flt hc52).1 ?_
                                            show own_s p e below s₁ m 134 #[iv p0] [] _
                                            refine XS.iloadN X0.here hx rfl (hb hby d2_134) rfl ?_
                                            show own_s p e below s₁ m 135 #[iv p0] [(.int p0)] _
                                            refine X0.ldcInt hx hown (mvT hZ (hw _ (List.mem_of_getElem? (i := 29) rfl))) (g := (mkF m 135 #[iv p0] [(.int p0)])) rfl (hb hby d2_135) _ ?_
                                            exact kX
                                          by_cases hc55 : (63743 : Int32) < p0
                                          · skip
                                            have ihc55 : (63743 : Int) < (p0).toInt := Int32.lt_iff_toInt_lt.mp hc55
                                            have pre56 : ∀ t, own_s p e below s₁ m 143 #[iv p0] [(.int (64976 : Int32)), (.int p0)] t → Steps p.tables e below S0 t := by
                                              intro tX kX
                                              refine pre54 _ ?_
                                              show own_s p e below s₁ m 137 #[iv p0] [(.int (63743 : Int32)), (.int p0)] _
                                              refine XS.icmpNo X0.here hx rfl (hb hby d2_137) rfl (tlt hc55).2.2.2 ?_
                                              show own_s p e below s₁ m 140 #[iv p0] [] _
                                              refine XS.iloadN X0.here hx rfl (hb hby d2_140) rfl ?_
                                              show own_s p e below s₁ m 141 #[iv p0] [(.int p0)] _
                                              refine X0.ldcInt hx hown (mvT hZ (hw _ (List.mem_of_getElem? (i := 23) rfl))) (g := (mkF m 141 #[iv p0] [(.int p0)])) rfl (hb hby d2_141) _ ?_
                                              exact kX
                                            by_cases hc57 : p0 < (64976 : Int32)
                                            · skip
                                              have ihc57 : (p0).toInt < (64976 : Int) := Int32.lt_iff_toInt_lt.mp hc57
                                              have pre58 : ∀ t, own_s p e below s₁ m 175 #[iv p0] [(.int (0 : Int32))] t → Steps p.tables e below S0 t := by
                                                intro tX kX
                                                refine pre56 _ ?_
                                                show own_s p e below s₁ m 143 #[iv p0] [(.int (64976 : Int32)), (.int p0)] _
                                                refine XS.icmpYes X0.here hx rfl (pc0 := 143) (pc' := 152) rfl (hb hby d2_143) rfl (tlt hc57).1 (by decide) (by decide) ?_
                                                show own_s p e below s₁ m 152 #[iv p0] [] _
                                                refine XS.iloadN X0.here hx rfl (hb hby d2_152) rfl ?_
                                                show own_s p e below s₁ m 153 #[iv p0] [(.int p0)] _
                                                refine X0.ldcInt hx hown (mvT hZ (hw _ (List.mem_of_getElem? (i := 24) rfl))) (g := (mkF m 153 #[iv p0] [(.int p0)])) rfl (hb hby d2_153) _ ?_
                                                show own_s p e below s₁ m 155 #[iv p0] [(.int (65534 : Int32)), (.int p0)] _
                                                refine XS.icmpYes X0.here hx rfl (pc0 := 155) (pc' := 164) rfl (hb hby d2_155) rfl (tlt (show p0 < (65534 : Int32) from (Int32.lt_iff_toInt_lt.mpr (by omega : (p0).toInt < (65534 : Int))))).1 (by decide) (by decide) ?_
                                                show own_s p e below s₁ m 164 #[iv p0] [] _
                                                refine XS.iloadN X0.here hx rfl (hb hby d2_164) rfl ?_
                                                show own_s p e below s₁ m 165 #[iv p0] [(.int p0)] _
                                                refine X0.ldcInt hx hown (mvT hZ (hw _ (List.mem_of_getElem? (i := 7) rfl))) (g := (mkF m 165 #[iv p0] [(.int p0)])) rfl (hb hby d2_165) _ ?_
                                                show own_s p e below s₁ m 167 #[iv p0] [(.int (983039 : Int32)), (.int p0)] _
                                                refine XS.icmpYes X0.here hx rfl (pc0 := 167) (pc' := 174) rfl (hb hby d2_167) rfl (flt (show ¬ ((983039 : Int32) < p0) from (fun q => absurd (show (983039 : Int) < (p0).toInt from Int32.lt_iff_toInt_lt.mp q) (by omega)))).2.2.2 (by decide) (by decide) ?_
                                                show own_s p e below s₁ m 174 #[iv p0] [] _
                                                refine XS.iconst X0.here hx rfl (hb hby d2_174) ?_
                                                exact kX
                                              subst hS0
                                              obtain ⟨fs, hr, hrun, hended, hW, hsame⟩ := X0.leave (v := (some (.int (0 : Int32)))) (fun h => by rw [Bd.returns] at h; cases h)
                                              refine ⟨_, _, pre58 _ (retN X0 hx (t := .boolean) Bd.returns (by simp) (hb hby d2_175) hr), hrun, hended, _, _, rfl, ?_, ⟨_, rfl⟩, hW, hsame.mono (by decide) (by decide)⟩
                                              show Q2 Z p0 h0 n0 (some (.int (0 : Int32))) s₁.heap _
                                              exact ⟨congrArg (fun z => some (Value.int z)) (show (0 : Int32) = own_ex p0 from (if_pos (show own_P p0 = true from decide_eq_true (by omega))).symm), N0, e0⟩
                                            · skip
                                              have ihc57 : ¬ ((p0).toInt < (64976 : Int)) := fun q => hc57 (Int32.lt_iff_toInt_lt.mpr q)
                                              have pre59 : ∀ t, own_s p e below s₁ m 149 #[iv p0] [(.int (65007 : Int32)), (.int p0)] t → Steps p.tables e below S0 t := by
                                                intro tX kX
                                                refine pre56 _ ?_
                                                show own_s p e below s₁ m 143 #[iv p0] [(.int (64976 : Int32)), (.int p0)] _
                                                refine XS.icmpNo X0.here hx rfl (hb hby d2_143) rfl (flt hc57).1 ?_
                                                show own_s p e below s₁ m 146 #[iv p0] [] _
                                                refine XS.iloadN X0.here hx rfl (hb hby d2_146) rfl ?_
                                                show own_s p e below s₁ m 147 #[iv p0] [(.int p0)] _
                                                refine X0.ldcInt hx hown (mvT hZ (hw _ (List.mem_of_getElem? (i := 30) rfl))) (g := (mkF m 147 #[iv p0] [(.int p0)])) rfl (hb hby d2_147) _ ?_
                                                exact kX
                                              by_cases hc60 : (65007 : Int32) < p0
                                              · skip
                                                have ihc60 : (65007 : Int) < (p0).toInt := Int32.lt_iff_toInt_lt.mp hc60
                                                have pre61 : ∀ t, own_s p e below s₁ m 155 #[iv p0] [(.int (65534 : Int32)), (.int p0)] t → Steps p.tables e below S0 t := by
                                                  intro tX kX
                                                  refine pre59 _ ?_
                                                  show own_s p e below s₁ m 149 #[iv p0] [(.int (65007 : Int32)), (.int p0)] _
                                                  refine XS.icmpNo X0.here hx rfl (hb hby d2_149) rfl (tlt hc60).2.2.2 ?_
                                                  show own_s p e below s₁ m 152 #[iv p0] [] _
                                                  refine XS.iloadN X0.here hx rfl (hb hby d2_152) rfl ?_
                                                  show own_s p e below s₁ m 153 #[iv p0] [(.int p0)] _
                                                  refine X0.ldcInt hx hown (mvT hZ (hw _ (List.mem_of_getElem? (i := 24) rfl))) (g := (mkF m 153 #[iv p0] [(.int p0)])) rfl (hb hby d2_153) _ ?_
                                                  exact kX
                                                by_cases hc62 : p0 < (65534 : Int32)
                                                · skip
                                                  have ihc62 : (p0).toInt < (65534 : Int) := Int32.lt_iff_toInt_lt.mp hc62
                                                  have pre63 : ∀ t, own_s p e below s₁ m 175 #[iv p0] [(.int (0 : Int32))] t → Steps p.tables e below S0 t := by
                                                    intro tX kX
                                                    refine pre61 _ ?_
                                                    show own_s p e below s₁ m 155 #[iv p0] [(.int (65534 : Int32)), (.int p0)] _
                                                    refine XS.icmpYes X0.here hx rfl (pc0 := 155) (pc' := 164) rfl (hb hby d2_155) rfl (tlt hc62).1 (by decide) (by decide) ?_
                                                    show own_s p e below s₁ m 164 #[iv p0] [] _
                                                    refine XS.iloadN X0.here hx rfl (hb hby d2_164) rfl ?_
                                                    show own_s p e below s₁ m 165 #[iv p0] [(.int p0)] _
                                                    refine X0.ldcInt hx hown (mvT hZ (hw _ (List.mem_of_getElem? (i := 7) rfl))) (g := (mkF m 165 #[iv p0] [(.int p0)])) rfl (hb hby d2_165) _ ?_
                                                    show own_s p e below s₁ m 167 #[iv p0] [(.int (983039 : Int32)), (.int p0)] _
                                                    refine XS.icmpYes X0.here hx rfl (pc0 := 167) (pc' := 174) rfl (hb hby d2_167) rfl (flt (show ¬ ((983039 : Int32) < p0) from (fun q => absurd (show (983039 : Int) < (p0).toInt from Int32.lt_iff_toInt_lt.mp q) (by omega)))).2.2.2 (by decide) (by decide) ?_
                                                    show own_s p e below s₁ m 174 #[iv p0] [] _
                                                    refine XS.iconst X0.here hx rfl (hb hby d2_174) ?_
                                                    exact kX
                                                  subst hS0
                                                  obtain ⟨fs, hr, hrun, hended, hW, hsame⟩ := X0.leave (v := (some (.int (0 : Int32)))) (fun h => by rw [Bd.returns] at h; cases h)
                                                  refine ⟨_, _, pre63 _ (retN X0 hx (t := .boolean) Bd.returns (by simp) (hb hby d2_175) hr), hrun, hended, _, _, rfl, ?_, ⟨_, rfl⟩, hW, hsame.mono (by decide) (by decide)⟩
                                                  show Q2 Z p0 h0 n0 (some (.int (0 : Int32))) s₁.heap _
                                                  exact ⟨congrArg (fun z => some (Value.int z)) (show (0 : Int32) = own_ex p0 from (if_pos (show own_P p0 = true from decide_eq_true (by omega))).symm), N0, e0⟩
                                                · skip
                                                  have ihc62 : ¬ ((p0).toInt < (65534 : Int)) := fun q => hc62 (Int32.lt_iff_toInt_lt.mpr q)
                                                  have pre64 : ∀ t, own_s p e below s₁ m 161 #[iv p0] [(.int (65535 : Int32)), (.int p0)] t → Steps p.tables e below S0 t := by
                                                    intro tX kX
                                                    refine pre61 _ ?_
                                                    show own_s p e below s₁ m 155 #[iv p0] [(.int (65534 : Int32)), (.int p0)] _
                                                    refine XS.icmpNo X0.here hx rfl (hb hby d2_155) rfl (flt hc62).1 ?_
                                                    show own_s p e below s₁ m 158 #[iv p0] [] _
                                                    refine XS.iloadN X0.here hx rfl (hb hby d2_158) rfl ?_
                                                    show own_s p e below s₁ m 159 #[iv p0] [(.int p0)] _
                                                    refine X0.ldcInt hx hown (mvT hZ (hw _ (List.mem_of_getElem? (i := 31) rfl))) (g := (mkF m 159 #[iv p0] [(.int p0)])) rfl (hb hby d2_159) _ ?_
                                                    exact kX
                                                  by_cases hc65 : (65535 : Int32) < p0
                                                  · skip
                                                    have ihc65 : (65535 : Int) < (p0).toInt := Int32.lt_iff_toInt_lt.mp hc65
                                                    have pre66 : ∀ t, own_s p e below s₁ m 167 #[iv p0] [(.int (983039 : Int32)), (.int p0)] t → Steps p.tables e below S0 t := by
                                                      intro tX kX
                                                      refine pre64 _ ?_
                                                      show own_s p e below s₁ m 161 #[iv p0] [(.int (65535 : Int32)), (.int p0)] _
                                                      refine XS.icmpNo X0.here hx rfl (hb hby d2_161) rfl (tlt hc65).2.2.2 ?_
                                                      show own_s p e below s₁ m 164 #[iv p0] [] _
                                                      refine XS.iloadN X0.here hx rfl (hb hby d2_164) rfl ?_
                                                      show own_s p e below s₁ m 165 #[iv p0] [(.int p0)] _
                                                      refine X0.ldcInt hx hown (mvT hZ (hw _ (List.mem_of_getElem? (i := 7) rfl))) (g := (mkF m 165 #[iv p0] [(.int p0)])) rfl (hb hby d2_165) _ ?_
                                                      exact kX
                                                    by_cases hc67 : (983039 : Int32) < p0
                                                    · skip
                                                      have ihc67 : (983039 : Int) < (p0).toInt := Int32.lt_iff_toInt_lt.mp hc67
                                                      have pre68 : ∀ t, own_s p e below s₁ m 175 #[iv p0] [(.int (1 : Int32))] t → Steps p.tables e below S0 t := by
                                                        intro tX kX
                                                        refine pre66 _ ?_
                                                        show own_s p e below s₁ m 167 #[iv p0] [(.int (983039 : Int32)), (.int p0)] _
                                                        refine XS.icmpNo X0.here hx rfl (hb hby d2_167) rfl (tlt hc67).2.2.2 ?_
                                                        show own_s p e below s₁ m 170 #[iv p0] [] _
                                                        refine XS.iconst X0.here hx rfl (hb hby d2_170) ?_
                                                        show own_s p e below s₁ m 171 #[iv p0] [(.int (1 : Int32))] _
                                                        refine XS.goto X0.here hx rfl (pc0 := 171) (pc' := 175) rfl (hb hby d2_171) (by decide) (by decide) ?_
                                                        exact kX
                                                      subst hS0
                                                      obtain ⟨fs, hr, hrun, hended, hW, hsame⟩ := X0.leave (v := (some (.int (1 : Int32)))) (fun h => by rw [Bd.returns] at h; cases h)
                                                      refine ⟨_, _, pre68 _ (retN X0 hx (t := .boolean) Bd.returns (by simp) (hb hby d2_175) hr), hrun, hended, _, _, rfl, ?_, ⟨_, rfl⟩, hW, hsame.mono (by decide) (by decide)⟩
                                                      show Q2 Z p0 h0 n0 (some (.int (1 : Int32))) s₁.heap _
                                                      exact ⟨congrArg (fun z => some (Value.int z)) (show (1 : Int32) = own_ex p0 from (if_neg (show ¬ own_P p0 = true from fun q => absurd (of_decide_eq_true q) (by omega))).symm), N0, e0⟩
                                                    · skip
                                                      have ihc67 : ¬ ((983039 : Int) < (p0).toInt) := fun q => hc67 (Int32.lt_iff_toInt_lt.mpr q)
                                                      have pre69 : ∀ t, own_s p e below s₁ m 175 #[iv p0] [(.int (0 : Int32))] t → Steps p.tables e below S0 t := by
                                                        intro tX kX
                                                        refine pre66 _ ?_
                                                        show own_s p e below s₁ m 167 #[iv p0] [(.int (983039 : Int32)), (.int p0)] _
                                                        refine XS.icmpYes X0.here hx rfl (pc0 := 167) (pc' := 174) rfl (hb hby d2_167) rfl (flt hc67).2.2.2 (by decide) (by decide) ?_
                                                        show own_s p e below s₁ m 174 #[iv p0] [] _
                                                        refine XS.iconst X0.here hx rfl (hb hby d2_174) ?_
                                                        exact kX
                                                      subst hS0
                                                      obtain ⟨fs, hr, hrun, hended, hW, hsame⟩ := X0.leave (v := (some (.int (0 : Int32)))) (fun h => by rw [Bd.returns] at h; cases h)
                                                      refine ⟨_, _, pre69 _ (retN X0 hx (t := .boolean) Bd.returns (by simp) (hb hby d2_175) hr), hrun, hended, _, _, rfl, ?_, ⟨_, rfl⟩, hW, hsame.mono (by decide) (by decide)⟩
                                                      show Q2 Z p0 h0 n0 (some (.int (0 : Int32))) s₁.heap _
                                                      exact ⟨congrArg (fun z => some (Value.int z)) (show (0 : Int32) = own_ex p0 from (if_pos (show own_P p0 = true from decide_eq_true (by omega))).symm), N0, e0⟩
                                                  · skip
                                                    have ihc65 : ¬ ((65535 : Int) < (p0).toInt) := fun q => hc65 (Int32.lt_iff_toInt_lt.mpr q)
                                                    have pre70 : ∀ t, own_s p e below s₁ m 175 #[iv p0] [(.int (1 : Int32))] t → Steps p.tables e below S0 t := by
                                                      intro tX kX
                                                      refine pre64 _ ?_
                                                      show own_s p e below s₁ m 161 #[iv p0] [(.int (65535 : Int32)), (.int p0)] _
                                                      refine XS.icmpYes X0.here hx rfl (pc0 := 161) (pc' := 170) rfl (hb hby d2_161) rfl (flt hc65).2.2.2 (by decide) (by decide) ?_
                                                      show own_s p e below s₁ m 170 #[iv p0] [] _
                                                      refine XS.iconst X0.here hx rfl (hb hby d2_170) ?_
                                                      show own_s p e below s₁ m 171 #[iv p0] [(.int (1 : Int32))] _
                                                      refine XS.goto X0.here hx rfl (pc0 := 171) (pc' := 175) rfl (hb hby d2_171) (by decide) (by decide) ?_
                                                      exact kX
                                                    subst hS0
                                                    obtain ⟨fs, hr, hrun, hended, hW, hsame⟩ := X0.leave (v := (some (.int (1 : Int32)))) (fun h => by rw [Bd.returns] at h; cases h)
                                                    refine ⟨_, _, pre70 _ (retN X0 hx (t := .boolean) Bd.returns (by simp) (hb hby d2_175) hr), hrun, hended, _, _, rfl, ?_, ⟨_, rfl⟩, hW, hsame.mono (by decide) (by decide)⟩
                                                    show Q2 Z p0 h0 n0 (some (.int (1 : Int32))) s₁.heap _
                                                    exact ⟨congrArg (fun z => some (Value.int z)) (show (1 : Int32) = own_ex p0 from (if_neg (show ¬ own_P p0 = true from fun q => absurd (of_decide_eq_true q) (by omega))).symm), N0, e0⟩
                                              · skip
                                                have ihc60 : ¬ ((65007 : Int) < (p0).toInt) := fun q => hc60 (Int32.lt_iff_toInt_lt.mpr q)
                                                have pre71 : ∀ t, own_s p e below s₁ m 175 #[iv p0] [(.int (1 : Int32))] t → Steps p.tables e below S0 t := by
                                                  intro tX kX
                                                  refine pre59 _ ?_
                                                  show own_s p e below s₁ m 149 #[iv p0] [(.int (65007 : Int32)), (.int p0)] _
                                                  refine XS.icmpYes X0.here hx rfl (pc0 := 149) (pc' := 170) rfl (hb hby d2_149) rfl (flt hc60).2.2.2 (by decide) (by decide) ?_
                                                  show own_s p e below s₁ m 170 #[iv p0] [] _
                                                  refine XS.iconst X0.here hx rfl (hb hby d2_170) ?_
                                                  show own_s p e below s₁ m 171 #[iv p0] [(.int (1 : Int32))] _
                                                  refine XS.goto X0.here hx rfl (pc0 := 171) (pc' := 175) rfl (hb hby d2_171) (by decide) (by decide) ?_
                                                  exact kX
                                                subst hS0
                                                obtain ⟨fs, hr, hrun, hended, hW, hsame⟩ := X0.leave (v := (some (.int (1 : Int32)))) (fun h => by rw [Bd.returns] at h; cases h)
                                                refine ⟨_, _, pre71 _ (retN X0 hx (t := .boolean) Bd.returns (by simp) (hb hby d2_175) hr), hrun, hended, _, _, rfl, ?_, ⟨_, rfl⟩, hW, hsame.mono (by decide) (by decide)⟩
                                                show Q2 Z p0 h0 n0 (some (.int (1 : Int32))) s₁.heap _
                                                exact ⟨congrArg (fun z => some (Value.int z)) (show (1 : Int32) = own_ex p0 from (if_neg (show ¬ own_P p0 = true from fun q => absurd (of_decide_eq_true q) (by omega))).symm), N0, e0⟩
                                          · skip
                                            have ihc55 : ¬ ((63743 : Int) < (p0).toInt) := fun q => hc55 (Int32.lt_iff_toInt_lt.mpr q)
                                            have pre72 : ∀ t, own_s p e below s₁ m 175 #[iv p0] [(.int (1 : Int32))] t → Steps p.tables e below S0 t := by
                                              intro tX kX
                                              refine pre54 _ ?_
                                              show own_s p e below s₁ m 137 #[iv p0] [(.int (63743 : Int32)), (.int p0)] _
                                              refine XS.icmpYes X0.here hx rfl (pc0 := 137) (pc' := 170) rfl (hb hby d2_137) rfl (flt hc55).2.2.2 (by decide) (by decide) ?_
                                              show own_s p e below s₁ m 170 #[iv p0] [] _
                                              refine XS.iconst X0.here hx rfl (hb hby d2_170) ?_
                                              show own_s p e below s₁ m 171 #[iv p0] [(.int (1 : Int32))] _
                                              refine XS.goto X0.here hx rfl (pc0 := 171) (pc' := 175) rfl (hb hby d2_171) (by decide) (by decide) ?_
                                              exact kX
                                            subst hS0
                                            obtain ⟨fs, hr, hrun, hended, hW, hsame⟩ := X0.leave (v := (some (.int (1 : Int32)))) (fun h => by rw [Bd.returns] at h; cases h)
                                            refine ⟨_, _, pre72 _ (retN X0 hx (t := .boolean) Bd.returns (by simp) (hb hby d2_175) hr), hrun, hended, _, _, rfl, ?_, ⟨_, rfl⟩, hW, hsame.mono (by decide) (by decide)⟩
                                            show Q2 Z p0 h0 n0 (some (.int (1 : Int32))) s₁.heap _
                                            exact ⟨congrArg (fun z => some (Value.int z)) (show (1 : Int32) = own_ex p0 from (if_neg (show ¬ own_P p0 = true from fun q => absurd (of_decide_eq_true q) (by omega))).symm), N0, e0⟩
                                      · skip
                                        have ihc50 : ¬ ((12288 : Int) < (p0).toInt) := fun q => hc50 (Int32.lt_iff_toInt_lt.mpr q)
                                        have pre73 : ∀ t, own_s p e below s₁ m 175 #[iv p0] [(.int (1 : Int32))] t → Steps p.tables e below S0 t := by
                                          intro tX kX
                                          refine pre49 _ ?_
                                          show own_s p e below s₁ m 125 #[iv p0] [(.int (12288 : Int32)), (.int p0)] _
                                          refine XS.icmpYes X0.here hx rfl (pc0 := 125) (pc' := 170) rfl (hb hby d2_125) rfl (flt hc50).2.2.2 (by decide) (by decide) ?_
                                          show own_s p e below s₁ m 170 #[iv p0] [] _
                                          refine XS.iconst X0.here hx rfl (hb hby d2_170) ?_
                                          show own_s p e below s₁ m 171 #[iv p0] [(.int (1 : Int32))] _
                                          refine XS.goto X0.here hx rfl (pc0 := 171) (pc' := 175) rfl (hb hby d2_171) (by decide) (by decide) ?_
                                          exact kX
                                        subst hS0
                                        obtain ⟨fs, hr, hrun, hended, hW, hsame⟩ := X0.leave (v := (some (.int (1 : Int32)))) (fun h => by rw [Bd.returns] at h; cases h)
                                        refine ⟨_, _, pre73 _ (retN X0 hx (t := .boolean) Bd.returns (by simp) (hb hby d2_175) hr), hrun, hended, _, _, rfl, ?_, ⟨_, rfl⟩, hW, hsame.mono (by decide) (by decide)⟩
                                        show Q2 Z p0 h0 n0 (some (.int (1 : Int32))) s₁.heap _
                                        exact ⟨congrArg (fun z => some (Value.int z)) (show (1 : Int32) = own_ex p0 from (if_neg (show ¬ own_P p0 = true from fun q => absurd (of_decide_eq_true q) (by omega))).symm), N0, e0⟩
                                  · skip
                                    have ihc45 : ¬ ((11263 : Int) < (p0).toInt) := fun q => hc45 (Int32.lt_iff_toInt_lt.mpr q)
                                    have pre74 : ∀ t, own_s p e below s₁ m 175 #[iv p0] [(.int (1 : Int32))] t → Steps p.tables e below S0 t := by
                                      intro tX kX
                                      refine pre44 _ ?_
                                      show own_s p e below s₁ m 111 #[iv p0] [(.int (11263 : Int32)), (.int p0)] _
                                      refine XS.icmpYes X0.here hx rfl (pc0 := 111) (pc' := 170) rfl (hb hby d2_111) rfl (flt hc45).2.2.2 (by decide) (by decide) ?_
                                      show own_s p e below s₁ m 170 #[iv p0] [] _
                                      refine XS.iconst X0.here hx rfl (hb hby d2_170) ?_
                                      show own_s p e below s₁ m 171 #[iv p0] [(.int (1 : Int32))] _
                                      refine XS.goto X0.here hx rfl (pc0 := 171) (pc' := 175) rfl (hb hby d2_171) (by decide) (by decide) ?_
                                      exact kX
                                    subst hS0
                                    obtain ⟨fs, hr, hrun, hended, hW, hsame⟩ := X0.leave (v := (some (.int (1 : Int32)))) (fun h => by rw [Bd.returns] at h; cases h)
                                    refine ⟨_, _, pre74 _ (retN X0 hx (t := .boolean) Bd.returns (by simp) (hb hby d2_175) hr), hrun, hended, _, _, rfl, ?_, ⟨_, rfl⟩, hW, hsame.mono (by decide) (by decide)⟩
                                    show Q2 Z p0 h0 n0 (some (.int (1 : Int32))) s₁.heap _
                                    exact ⟨congrArg (fun z => some (Value.int z)) (show (1 : Int32) = own_ex p0 from (if_neg (show ¬ own_P p0 = true from fun q => absurd (of_decide_eq_true q) (by omega))).symm), N0, e0⟩
                              · skip
                                have ihc40 : ¬ ((8303 : Int) < (p0).toInt) := fun q => hc40 (Int32.lt_iff_toInt_lt.mpr q)
                                have pre75 : ∀ t, own_s p e below s₁ m 175 #[iv p0] [(.int (1 : Int32))] t → Steps p.tables e below S0 t := by
                                  intro tX kX
                                  refine pre39 _ ?_
                                  show own_s p e below s₁ m 97 #[iv p0] [(.int (8303 : Int32)), (.int p0)] _
                                  refine XS.icmpYes X0.here hx rfl (pc0 := 97) (pc' := 170) rfl (hb hby d2_97) rfl (flt hc40).2.2.2 (by decide) (by decide) ?_
                                  show own_s p e below s₁ m 170 #[iv p0] [] _
                                  refine XS.iconst X0.here hx rfl (hb hby d2_170) ?_
                                  show own_s p e below s₁ m 171 #[iv p0] [(.int (1 : Int32))] _
                                  refine XS.goto X0.here hx rfl (pc0 := 171) (pc' := 175) rfl (hb hby d2_171) (by decide) (by decide) ?_
                                  exact kX
                                subst hS0
                                obtain ⟨fs, hr, hrun, hended, hW, hsame⟩ := X0.leave (v := (some (.int (1 : Int32)))) (fun h => by rw [Bd.returns] at h; cases h)
                                refine ⟨_, _, pre75 _ (retN X0 hx (t := .boolean) Bd.returns (by simp) (hb hby d2_175) hr), hrun, hended, _, _, rfl, ?_, ⟨_, rfl⟩, hW, hsame.mono (by decide) (by decide)⟩
                                show Q2 Z p0 h0 n0 (some (.int (1 : Int32))) s₁.heap _
                                exact ⟨congrArg (fun z => some (Value.int z)) (show (1 : Int32) = own_ex p0 from (if_neg (show ¬ own_P p0 = true from fun q => absurd (of_decide_eq_true q) (by omega))).symm), N0, e0⟩
                          · skip
                            have ihc35 : ¬ ((8203 : Int) < (p0).toInt) := fun q => hc35 (Int32.lt_iff_toInt_lt.mpr q)
                            have pre76 : ∀ t, own_s p e below s₁ m 175 #[iv p0] [(.int (1 : Int32))] t → Steps p.tables e below S0 t := by
                              intro tX kX
                              refine pre34 _ ?_
                              show own_s p e below s₁ m 83 #[iv p0] [(.int (8203 : Int32)), (.int p0)] _
                              refine XS.icmpYes X0.here hx rfl (pc0 := 83) (pc' := 170) rfl (hb hby d2_83) rfl (flt hc35).2.2.2 (by decide) (by decide) ?_
                              show own_s p e below s₁ m 170 #[iv p0] [] _
                              refine XS.iconst X0.here hx rfl (hb hby d2_170) ?_
                              show own_s p e below s₁ m 171 #[iv p0] [(.int (1 : Int32))] _
                              refine XS.goto X0.here hx rfl (pc0 := 171) (pc' := 175) rfl (hb hby d2_171) (by decide) (by decide) ?_
                              exact kX
                            subst hS0
                            obtain ⟨fs, hr, hrun, hended, hW, hsame⟩ := X0.leave (v := (some (.int (1 : Int32)))) (fun h => by rw [Bd.returns] at h; cases h)
                            refine ⟨_, _, pre76 _ (retN X0 hx (t := .boolean) Bd.returns (by simp) (hb hby d2_175) hr), hrun, hended, _, _, rfl, ?_, ⟨_, rfl⟩, hW, hsame.mono (by decide) (by decide)⟩
                            show Q2 Z p0 h0 n0 (some (.int (1 : Int32))) s₁.heap _
                            exact ⟨congrArg (fun z => some (Value.int z)) (show (1 : Int32) = own_ex p0 from (if_neg (show ¬ own_P p0 = true from fun q => absurd (of_decide_eq_true q) (by omega))).symm), N0, e0⟩
                    · skip
                      have ihc27 : ¬ ((879 : Int) < (p0).toInt) := fun q => hc27 (Int32.lt_iff_toInt_lt.mpr q)
                      have pre77 : ∀ t, own_s p e below s₁ m 175 #[iv p0] [(.int (1 : Int32))] t → Steps p.tables e below S0 t := by
                        intro tX kX
                        refine pre26 _ ?_
                        show own_s p e below s₁ m 62 #[iv p0] [(.int (879 : Int32)), (.int p0)] _
                        refine XS.icmpYes X0.here hx rfl (pc0 := 62) (pc' := 170) rfl (hb hby d2_62) rfl (flt hc27).2.2.2 (by decide) (by decide) ?_
                        show own_s p e below s₁ m 170 #[iv p0] [] _
                        refine XS.iconst X0.here hx rfl (hb hby d2_170) ?_
                        show own_s p e below s₁ m 171 #[iv p0] [(.int (1 : Int32))] _
                        refine XS.goto X0.here hx rfl (pc0 := 171) (pc' := 175) rfl (hb hby d2_171) (by decide) (by decide) ?_
                        exact kX
                      subst hS0
                      obtain ⟨fs, hr, hrun, hended, hW, hsame⟩ := X0.leave (v := (some (.int (1 : Int32)))) (fun h => by rw [Bd.returns] at h; cases h)
                      refine ⟨_, _, pre77 _ (retN X0 hx (t := .boolean) Bd.returns (by simp) (hb hby d2_175) hr), hrun, hended, _, _, rfl, ?_, ⟨_, rfl⟩, hW, hsame.mono (by decide) (by decide)⟩
                      show Q2 Z p0 h0 n0 (some (.int (1 : Int32))) s₁.heap _
                      exact ⟨congrArg (fun z => some (Value.int z)) (show (1 : Int32) = own_ex p0 from (if_neg (show ¬ own_P p0 = true from fun q => absurd (of_decide_eq_true q) (by omega))).symm), N0, e0⟩
            · skip
              have ihc16 : ¬ ((191 : Int) < (p0).toInt) := fun q => hc16 (Int32.lt_iff_toInt_lt.mpr q)
              have pre78 : ∀ t, own_s p e below s₁ m 175 #[iv p0] [(.int (1 : Int32))] t → Steps p.tables e below S0 t := by
                intro tX kX
                refine pre15 _ ?_
                show own_s p e below s₁ m 34 #[iv p0] [(.int (191 : Int32)), (.int p0)] _
                refine XS.icmpYes X0.here hx rfl (pc0 := 34) (pc' := 170) rfl (hb hby d2_34) rfl (flt hc16).2.2.2 (by decide) (by decide) ?_
                show own_s p e below s₁ m 170 #[iv p0] [] _
                refine XS.iconst X0.here hx rfl (hb hby d2_170) ?_
                show own_s p e below s₁ m 171 #[iv p0] [(.int (1 : Int32))] _
                refine XS.goto X0.here hx rfl (pc0 := 171) (pc' := 175) rfl (hb hby d2_171) (by decide) (by decide) ?_
                exact kX
              subst hS0
              obtain ⟨fs, hr, hrun, hended, hW, hsame⟩ := X0.leave (v := (some (.int (1 : Int32)))) (fun h => by rw [Bd.returns] at h; cases h)
              refine ⟨_, _, pre78 _ (retN X0 hx (t := .boolean) Bd.returns (by simp) (hb hby d2_175) hr), hrun, hended, _, _, rfl, ?_, ⟨_, rfl⟩, hW, hsame.mono (by decide) (by decide)⟩
              show Q2 Z p0 h0 n0 (some (.int (1 : Int32))) s₁.heap _
              exact ⟨congrArg (fun z => some (Value.int z)) (show (1 : Int32) = own_ex p0 from (if_neg (show ¬ own_P p0 = true from fun q => absurd (of_decide_eq_true q) (by omega))).symm), N0, e0⟩
      · skip
        have ihc8 : ¬ ((94 : Int) < (p0).toInt) := fun q => hc8 (Int32.lt_iff_toInt_lt.mpr q)
        have pre79 : ∀ t, own_s p e below s₁ m 175 #[iv p0] [(.int (1 : Int32))] t → Steps p.tables e below S0 t := by
          intro tX kX
          refine pre7 _ ?_
          show own_s p e below s₁ m 15 #[iv p0] [(.int (94 : Int32)), (.int p0)] _
          refine XS.icmpYes X0.here hx rfl (pc0 := 15) (pc' := 170) rfl (hb hby d2_15) rfl (flt hc8).2.2.2 (by decide) (by decide) ?_
          show own_s p e below s₁ m 170 #[iv p0] [] _
          refine XS.iconst X0.here hx rfl (hb hby d2_170) ?_
          show own_s p e below s₁ m 171 #[iv p0] [(.int (1 : Int32))] _
          refine XS.goto X0.here hx rfl (pc0 := 171) (pc' := 175) rfl (hb hby d2_171) (by decide) (by decide) ?_
          exact kX
        subst hS0
        obtain ⟨fs, hr, hrun, hended, hW, hsame⟩ := X0.leave (v := (some (.int (1 : Int32)))) (fun h => by rw [Bd.returns] at h; cases h)
        refine ⟨_, _, pre79 _ (retN X0 hx (t := .boolean) Bd.returns (by simp) (hb hby d2_175) hr), hrun, hended, _, _, rfl, ?_, ⟨_, rfl⟩, hW, hsame.mono (by decide) (by decide)⟩
        show Q2 Z p0 h0 n0 (some (.int (1 : Int32))) s₁.heap _
        exact ⟨congrArg (fun z => some (Value.int z)) (show (1 : Int32) = own_ex p0 from (if_neg (show ¬ own_P p0 = true from fun q => absurd (of_decide_eq_true q) (by omega))).symm), N0, e0⟩
theorem pn_0 : plainName "com/example/osier/osier/xml/XmlCharsIsNcNameStartCharPinLaw" = true := by first | (simp [plainName, overriddenIn]; done) | decide +kernel
theorem pd0_0 : parseMethodDescriptor "(I)Z" = some ⟨[.int], some .boolean⟩ := by decide +kernel
theorem ef_0 (m : MethodId) (i0 : Int32) (i1 : Int32) (i2 : Int32) : entryFrame m #[(.int i0), (.int i1), (.int i2)] maxLocals = mkF m 0 #[iv i0, iv i1, iv i2, .unset, .unset, .unset, .unset] [] := by first | (simp [entryFrame, mkF, argsToLocals, Value.category, maxLocals]; done) | rfl
def Q0 (Z : State) (i0 : Int32) (i1 : Int32) (i2 : Int32) (h0 : Heap) (n0 : Nat) (v : Option Value) (h : Heap) (L : List Loc) : Prop := v = some (.int 1) ∧ Fr n0 L
set_option maxRecDepth 65536 in
set_option maxHeartbeats 40000000 in
theorem rm0 (l : Launch) (Z : State) (a0 : Array Value) (hw : ∀ d ∈ tables_1, d.before a0 Z = true) (ws : List Jvm.Cond) (i0 : Int32) (i1 : Int32) (i2 : Int32) (h0 : Heap) (n0 : Nat) (Z0 : n0 ≤ h0.size)  :
    MetFree l x (head1 (Jvm.Cond.code x code maxLocals ret :: ws) room_1) (fun aX UX => aX = #[(.int i0), (.int i1), (.int i2)] ∧ Z.Warmed39 UX.vm ∧ UX.heap = h0) (fun _ _ _ _ _ => True) (fun _ UX oX UY => ∃ vX LX, oX = .returned vX ∧ Q0 Z i0 i1 i2 h0 n0 vX UY.heap LX ∧ FrameEnd UX oX UY LX 1 33) := by
  refine MetFree.of_bodySF (plainFor_of_name pn_0) hisR ?_
  intro p e s m args below meth c s₁ Bd hml0 hP hK
  obtain ⟨rfl, hZ, hh⟩ := hP
  have hx := Bd.exec
  have hby := Bd.bytes
  have hml : c.maxLocals = 7 := hml0
  have hown : s.vm.findClass "com/example/osier/osier/xml/XmlCharsIsNcNameStartCharPinLaw" = some m.cls := findClass_of_methodNamed Bd.named
  have hnm := (name_of_methodNamed Bd.named Bd.method).1
  have X0 : Stand p l e room_1 s m #[(.int i0), (.int i1), (.int i2)] below meth c s₁ [] 0 0 := Stand.of_body Bd
  have e0 : s₁.heap = h0 := by rw [← hh, Bd.state]; rfl
  have N0 := Fr.nil n0
  have pre0 : ∀ t, Steps p.tables e below (s₁.setTop (mkF m 0 #[iv i0, iv i1, iv i2, .unset, .unset, .unset, .unset] [])) t → Steps p.tables e below (s₁.setTop (entryFrame m #[(.int i0), (.int i1), (.int i2)] maxLocals)) t := fun t k => castTop (ef_0 m i0 i1 i2) k
  obtain ⟨S0, hS0⟩ : ∃ z, z = (s₁.setTop (entryFrame m #[(.int i0), (.int i1), (.int i2)] maxLocals)) := ⟨_, rfl⟩
  rw [← hS0] at pre0
  have pre1 : ∀ t, own_s p e below s₁ m 2 #[iv i0, iv i1, iv i2, .unset, .unset, .unset, .unset] [(.int (33 : Int32))] t → Steps p.tables e below S0 t := by
    intro tX kX
    refine pre0 _ ?_
    show own_s p e below s₁ m 0 #[iv i0, iv i1, iv i2, .unset, .unset, .unset, .unset] [] _
    refine XS.bipush X0.here hx rfl (hb hby at_0) ?_
    exact kX
  obtain ⟨T2, h2, k2, X2, e2, E2, A2, st2⟩ := newP X0 hx hZ (hw _ (List.mem_of_getElem? (i := 0) rfl)) e0 (g := (mkF m 2 #[iv i0, iv i1, iv i2, .unset, .unset, .unset, .unset] [(.int (33 : Int32))])) rfl (hb hby at_2) rfl (by decide) (cap := 33) (by decide) (by decide) (by decide) (by decide)
  obtain ⟨b2, g2⟩ : ∃ z, z = h0.size := ⟨_, rfl⟩
  rw [← g2] at A2 st2
  have g_b2 : n0 ≤ b2 := Nat.le_trans Z0 (Nat.le_of_eq g2.symm)
  have pre3 : ∀ t, own_s p e below T2 m 4 #[iv i0, iv i1, iv i2, .unset, .unset, .unset, .unset] [(.ref b2)] t → Steps p.tables e below S0 t := fun tX kX => pre1 _ (st2 _ kX)
  have Z4 : n0 ≤ h2.size := Nat.le_trans Z0 E2.1
  have f5_A : own_Af Z h2 b2 .int 33 (fun _ => (.int (0 : Int32))) := own_Af.new A2 (by decide) rfl
  obtain ⟨ff6, fF6, I6⟩ : ∃ f, own_Af Z h2 b2 .int 33 f ∧ own_isI f := ⟨_, f5_A, (own_isI.c _)⟩
  have pre7 : ∀ t, own_s p e below T2 m 8 #[iv i0, iv i1, iv i2, .unset, .unset, .unset, .unset] [(.int (58 : Int32)), (.int (0 : Int32)), (.ref b2), (.ref b2)] t → Steps p.tables e below S0 t := by
    intro tX kX
    refine pre3 _ ?_
    show own_s p e below T2 m 4 #[iv i0, iv i1, iv i2, .unset, .unset, .unset, .unset] [(.ref b2)] _
    refine XS.dup X2.here hx rfl (hb hby at_4) rfl rfl ?_
    show own_s p e below T2 m 5 #[iv i0, iv i1, iv i2, .unset, .unset, .unset, .unset] [(.ref b2), (.ref b2)] _
    refine XS.iconst X2.here hx rfl (hb hby at_5) ?_
    show own_s p e below T2 m 6 #[iv i0, iv i1, iv i2, .unset, .unset, .unset, .unset] [(.int (0 : Int32)), (.ref b2), (.ref b2)] _
    refine XS.bipush X2.here hx rfl (hb hby at_6) ?_
    exact kX
  obtain ⟨cl8, Ar8, S8, M8, H8⟩ := id fF6
  obtain ⟨T9, h9, X9, e9, W9, st9⟩ := stI X2 hx hZ e2 Ar8 (j := (0 : Int32)) (own_inb S8 M8 (by decide)) (g := (mkF m 8 #[iv i0, iv i1, iv i2, .unset, .unset, .unset, .unset] [(.int (58 : Int32)), (.int (0 : Int32)), (.ref b2), (.ref b2)])) rfl rfl (hb hby at_8)
  have pre10 : ∀ t, own_s p e below T9 m 9 #[iv i0, iv i1, iv i2, .unset, .unset, .unset, .unset] [(.ref b2)] t → Steps p.tables e below S0 t := fun tX kX => pre7 _ (st9 _ kX)
  obtain ⟨LL11, X11, N11⟩ : ∃ LL, Stand p l e room_1 s m #[(.int i0), (.int i1), (.int i2)] below meth c T9 LL 1 33 ∧ Fr n0 LL := ⟨_, X9, Fr.snoc X9 N0 g_b2⟩
  have Z12 : n0 ≤ h9.size := Nat.le_trans Z4 (Keep.of_wr W9).1
  have f13_A : own_Af Z h9 b2 .int 33 (own_up ff6 (0 : Int32).toNatClampNeg (.int (58 : Int32))) := own_Af.set Ar8 S8 M8 H8 W9
  obtain ⟨ff14, fF14, I14⟩ : ∃ f, own_Af Z h9 b2 .int 33 f ∧ own_isI f := ⟨_, f13_A, (own_isI.up I6 _ _)⟩
  have pre15 : ∀ t, own_s p e below T9 m 13 #[iv i0, iv i1, iv i2, .unset, .unset, .unset, .unset] [(.int (65 : Int32)), (.int (1 : Int32)), (.ref b2), (.ref b2)] t → Steps p.tables e below S0 t := by
    intro tX kX
    refine pre10 _ ?_
    show own_s p e below T9 m 9 #[iv i0, iv i1, iv i2, .unset, .unset, .unset, .unset] [(.ref b2)] _
    refine XS.dup X11.here hx rfl (hb hby at_9) rfl rfl ?_
    show own_s p e below T9 m 10 #[iv i0, iv i1, iv i2, .unset, .unset, .unset, .unset] [(.ref b2), (.ref b2)] _
    refine XS.iconst X11.here hx rfl (hb hby at_10) ?_
    show own_s p e below T9 m 11 #[iv i0, iv i1, iv i2, .unset, .unset, .unset, .unset] [(.int (1 : Int32)), (.ref b2), (.ref b2)] _
    refine XS.bipush X11.here hx rfl (hb hby at_11) ?_
    exact kX
  obtain ⟨cl16, Ar16, S16, M16, H16⟩ := id fF14
  obtain ⟨T17, h17, X17, e17, W17, st17⟩ := stI X11 hx hZ e9 Ar16 (j := (1 : Int32)) (own_inb S16 M16 (by decide)) (g := (mkF m 13 #[iv i0, iv i1, iv i2, .unset, .unset, .unset, .unset] [(.int (65 : Int32)), (.int (1 : Int32)), (.ref b2), (.ref b2)])) rfl rfl (hb hby at_13)
  have pre18 : ∀ t, own_s p e below T17 m 14 #[iv i0, iv i1, iv i2, .unset, .unset, .unset, .unset] [(.ref b2)] t → Steps p.tables e below S0 t := fun tX kX => pre15 _ (st17 _ kX)
  obtain ⟨LL19, X19, N19⟩ : ∃ LL, Stand p l e room_1 s m #[(.int i0), (.int i1), (.int i2)] below meth c T17 LL 1 33 ∧ Fr n0 LL := ⟨_, X17, Fr.snoc X17 N11 g_b2⟩
  have Z20 : n0 ≤ h17.size := Nat.le_trans Z12 (Keep.of_wr W17).1
  have f21_A : own_Af Z h17 b2 .int 33 (own_up ff14 (1 : Int32).toNatClampNeg (.int (65 : Int32))) := own_Af.set Ar16 S16 M16 H16 W17
  obtain ⟨ff22, fF22, I22⟩ : ∃ f, own_Af Z h17 b2 .int 33 f ∧ own_isI f := ⟨_, f21_A, (own_isI.up I14 _ _)⟩
  have pre23 : ∀ t, own_s p e below T17 m 18 #[iv i0, iv i1, iv i2, .unset, .unset, .unset, .unset] [(.int (90 : Int32)), (.int (2 : Int32)), (.ref b2), (.ref b2)] t → Steps p.tables e below S0 t := by
    intro tX kX
    refine pre18 _ ?_
    show own_s p e below T17 m 14 #[iv i0, iv i1, iv i2, .unset, .unset, .unset, .unset] [(.ref b2)] _
    refine XS.dup X19.here hx rfl (hb hby at_14) rfl rfl ?_
    show own_s p e below T17 m 15 #[iv i0, iv i1, iv i2, .unset, .unset, .unset, .unset] [(.ref b2), (.ref b2)] _
    refine XS.iconst X19.here hx rfl (hb hby at_15) ?_
    show own_s p e below T17 m 16 #[iv i0, iv i1, iv i2, .unset, .unset, .unset, .unset] [(.int (2 : Int32)), (.ref b2), (.ref b2)] _
    refine XS.bipush X19.here hx rfl (hb hby at_16) ?_
    exact kX
  obtain ⟨cl24, Ar24, S24, M24, H24⟩ := id fF22
  obtain ⟨T25, h25, X25, e25, W25, st25⟩ := stI X19 hx hZ e17 Ar24 (j := (2 : Int32)) (own_inb S24 M24 (by decide)) (g := (mkF m 18 #[iv i0, iv i1, iv i2, .unset, .unset, .unset, .unset] [(.int (90 : Int32)), (.int (2 : Int32)), (.ref b2), (.ref b2)])) rfl rfl (hb hby at_18)
  have pre26 : ∀ t, own_s p e below T25 m 19 #[iv i0, iv i1, iv i2, .unset, .unset, .unset, .unset] [(.ref b2)] t → Steps p.tables e below S0 t := fun tX kX => pre23 _ (st25 _ kX)
  obtain ⟨LL27, X27, N27⟩ : ∃ LL, Stand p l e room_1 s m #[(.int i0), (.int i1), (.int i2)] below meth c T25 LL 1 33 ∧ Fr n0 LL := ⟨_, X25, Fr.snoc X25 N19 g_b2⟩
  have Z28 : n0 ≤ h25.size := Nat.le_trans Z20 (Keep.of_wr W25).1
  have f29_A : own_Af Z h25 b2 .int 33 (own_up ff22 (2 : Int32).toNatClampNeg (.int (90 : Int32))) := own_Af.set Ar24 S24 M24 H24 W25
  obtain ⟨ff30, fF30, I30⟩ : ∃ f, own_Af Z h25 b2 .int 33 f ∧ own_isI f := ⟨_, f29_A, (own_isI.up I22 _ _)⟩
  have pre31 : ∀ t, own_s p e below T25 m 23 #[iv i0, iv i1, iv i2, .unset, .unset, .unset, .unset] [(.int (95 : Int32)), (.int (3 : Int32)), (.ref b2), (.ref b2)] t → Steps p.tables e below S0 t := by
    intro tX kX
    refine pre26 _ ?_
    show own_s p e below T25 m 19 #[iv i0, iv i1, iv i2, .unset, .unset, .unset, .unset] [(.ref b2)] _
    refine XS.dup X27.here hx rfl (hb hby at_19) rfl rfl ?_
    show own_s p e below T25 m 20 #[iv i0, iv i1, iv i2, .unset, .unset, .unset, .unset] [(.ref b2), (.ref b2)] _
    refine XS.iconst X27.here hx rfl (hb hby at_20) ?_
    show own_s p e below T25 m 21 #[iv i0, iv i1, iv i2, .unset, .unset, .unset, .unset] [(.int (3 : Int32)), (.ref b2), (.ref b2)] _
    refine XS.bipush X27.here hx rfl (hb hby at_21) ?_
    exact kX
  obtain ⟨cl32, Ar32, S32, M32, H32⟩ := id fF30
  obtain ⟨T33, h33, X33, e33, W33, st33⟩ := stI X27 hx hZ e25 Ar32 (j := (3 : Int32)) (own_inb S32 M32 (by decide)) (g := (mkF m 23 #[iv i0, iv i1, iv i2, .unset, .unset, .unset, .unset] [(.int (95 : Int32)), (.int (3 : Int32)), (.ref b2), (.ref b2)])) rfl rfl (hb hby at_23)
  have pre34 : ∀ t, own_s p e below T33 m 24 #[iv i0, iv i1, iv i2, .unset, .unset, .unset, .unset] [(.ref b2)] t → Steps p.tables e below S0 t := fun tX kX => pre31 _ (st33 _ kX)
  obtain ⟨LL35, X35, N35⟩ : ∃ LL, Stand p l e room_1 s m #[(.int i0), (.int i1), (.int i2)] below meth c T33 LL 1 33 ∧ Fr n0 LL := ⟨_, X33, Fr.snoc X33 N27 g_b2⟩
  have Z36 : n0 ≤ h33.size := Nat.le_trans Z28 (Keep.of_wr W33).1
  have f37_A : own_Af Z h33 b2 .int 33 (own_up ff30 (3 : Int32).toNatClampNeg (.int (95 : Int32))) := own_Af.set Ar32 S32 M32 H32 W33
  obtain ⟨ff38, fF38, I38⟩ : ∃ f, own_Af Z h33 b2 .int 33 f ∧ own_isI f := ⟨_, f37_A, (own_isI.up I30 _ _)⟩
  have pre39 : ∀ t, own_s p e below T33 m 28 #[iv i0, iv i1, iv i2, .unset, .unset, .unset, .unset] [(.int (97 : Int32)), (.int (4 : Int32)), (.ref b2), (.ref b2)] t → Steps p.tables e below S0 t := by
    intro tX kX
    refine pre34 _ ?_
    show own_s p e below T33 m 24 #[iv i0, iv i1, iv i2, .unset, .unset, .unset, .unset] [(.ref b2)] _
    refine XS.dup X35.here hx rfl (hb hby at_24) rfl rfl ?_
    show own_s p e below T33 m 25 #[iv i0, iv i1, iv i2, .unset, .unset, .unset, .unset] [(.ref b2), (.ref b2)] _
    refine XS.iconst X35.here hx rfl (hb hby at_25) ?_
    show own_s p e below T33 m 26 #[iv i0, iv i1, iv i2, .unset, .unset, .unset, .unset] [(.int (4 : Int32)), (.ref b2), (.ref b2)] _
    refine XS.bipush X35.here hx rfl (hb hby at_26) ?_
    exact kX
  obtain ⟨cl40, Ar40, S40, M40, H40⟩ := id fF38
  obtain ⟨T41, h41, X41, e41, W41, st41⟩ := stI X35 hx hZ e33 Ar40 (j := (4 : Int32)) (own_inb S40 M40 (by decide)) (g := (mkF m 28 #[iv i0, iv i1, iv i2, .unset, .unset, .unset, .unset] [(.int (97 : Int32)), (.int (4 : Int32)), (.ref b2), (.ref b2)])) rfl rfl (hb hby at_28)
  have pre42 : ∀ t, own_s p e below T41 m 29 #[iv i0, iv i1, iv i2, .unset, .unset, .unset, .unset] [(.ref b2)] t → Steps p.tables e below S0 t := fun tX kX => pre39 _ (st41 _ kX)
  obtain ⟨LL43, X43, N43⟩ : ∃ LL, Stand p l e room_1 s m #[(.int i0), (.int i1), (.int i2)] below meth c T41 LL 1 33 ∧ Fr n0 LL := ⟨_, X41, Fr.snoc X41 N35 g_b2⟩
  have Z44 : n0 ≤ h41.size := Nat.le_trans Z36 (Keep.of_wr W41).1
  have f45_A : own_Af Z h41 b2 .int 33 (own_up ff38 (4 : Int32).toNatClampNeg (.int (97 : Int32))) := own_Af.set Ar40 S40 M40 H40 W41
  obtain ⟨ff46, fF46, I46⟩ : ∃ f, own_Af Z h41 b2 .int 33 f ∧ own_isI f := ⟨_, f45_A, (own_isI.up I38 _ _)⟩
  have pre47 : ∀ t, own_s p e below T41 m 33 #[iv i0, iv i1, iv i2, .unset, .unset, .unset, .unset] [(.int (122 : Int32)), (.int (5 : Int32)), (.ref b2), (.ref b2)] t → Steps p.tables e below S0 t := by
    intro tX kX
    refine pre42 _ ?_
    show own_s p e below T41 m 29 #[iv i0, iv i1, iv i2, .unset, .unset, .unset, .unset] [(.ref b2)] _
    refine XS.dup X43.here hx rfl (hb hby at_29) rfl rfl ?_
    show own_s p e below T41 m 30 #[iv i0, iv i1, iv i2, .unset, .unset, .unset, .unset] [(.ref b2), (.ref b2)] _
    refine XS.iconst X43.here hx rfl (hb hby at_30) ?_
    show own_s p e below T41 m 31 #[iv i0, iv i1, iv i2, .unset, .unset, .unset, .unset] [(.int (5 : Int32)), (.ref b2), (.ref b2)] _
    refine XS.bipush X43.here hx rfl (hb hby at_31) ?_
    exact kX
  obtain ⟨cl48, Ar48, S48, M48, H48⟩ := id fF46
  obtain ⟨T49, h49, X49, e49, W49, st49⟩ := stI X43 hx hZ e41 Ar48 (j := (5 : Int32)) (own_inb S48 M48 (by decide)) (g := (mkF m 33 #[iv i0, iv i1, iv i2, .unset, .unset, .unset, .unset] [(.int (122 : Int32)), (.int (5 : Int32)), (.ref b2), (.ref b2)])) rfl rfl (hb hby at_33)
  have pre50 : ∀ t, own_s p e below T49 m 34 #[iv i0, iv i1, iv i2, .unset, .unset, .unset, .unset] [(.ref b2)] t → Steps p.tables e below S0 t := fun tX kX => pre47 _ (st49 _ kX)
  obtain ⟨LL51, X51, N51⟩ : ∃ LL, Stand p l e room_1 s m #[(.int i0), (.int i1), (.int i2)] below meth c T49 LL 1 33 ∧ Fr n0 LL := ⟨_, X49, Fr.snoc X49 N43 g_b2⟩
  have Z52 : n0 ≤ h49.size := Nat.le_trans Z44 (Keep.of_wr W49).1
  have f53_A : own_Af Z h49 b2 .int 33 (own_up ff46 (5 : Int32).toNatClampNeg (.int (122 : Int32))) := own_Af.set Ar48 S48 M48 H48 W49
  obtain ⟨ff54, fF54, I54⟩ : ∃ f, own_Af Z h49 b2 .int 33 f ∧ own_isI f := ⟨_, f53_A, (own_isI.up I46 _ _)⟩
  have pre55 : ∀ t, own_s p e below T49 m 40 #[iv i0, iv i1, iv i2, .unset, .unset, .unset, .unset] [(.int (192 : Int32)), (.int (6 : Int32)), (.ref b2), (.ref b2)] t → Steps p.tables e below S0 t := by
    intro tX kX
    refine pre50 _ ?_
    show own_s p e below T49 m 34 #[iv i0, iv i1, iv i2, .unset, .unset, .unset, .unset] [(.ref b2)] _
    refine XS.dup X51.here hx rfl (hb hby at_34) rfl rfl ?_
    show own_s p e below T49 m 35 #[iv i0, iv i1, iv i2, .unset, .unset, .unset, .unset] [(.ref b2), (.ref b2)] _
    refine XS.bipush X51.here hx rfl (hb hby at_35) ?_
    show own_s p e below T49 m 37 #[iv i0, iv i1, iv i2, .unset, .unset, .unset, .unset] [(.int (6 : Int32)), (.ref b2), (.ref b2)] _
    refine XS.sipush X51.here hx rfl (hb hby at_37) ?_
    exact kX
  obtain ⟨cl56, Ar56, S56, M56, H56⟩ := id fF54
  obtain ⟨T57, h57, X57, e57, W57, st57⟩ := stI X51 hx hZ e49 Ar56 (j := (6 : Int32)) (own_inb S56 M56 (by decide)) (g := (mkF m 40 #[iv i0, iv i1, iv i2, .unset, .unset, .unset, .unset] [(.int (192 : Int32)), (.int (6 : Int32)), (.ref b2), (.ref b2)])) rfl rfl (hb hby at_40)
  have pre58 : ∀ t, own_s p e below T57 m 41 #[iv i0, iv i1, iv i2, .unset, .unset, .unset, .unset] [(.ref b2)] t → Steps p.tables e below S0 t := fun tX kX => pre55 _ (st57 _ kX)
  obtain ⟨LL59, X59, N59⟩ : ∃ LL, Stand p l e room_1 s m #[(.int i0), (.int i1), (.int i2)] below meth c T57 LL 1 33 ∧ Fr n0 LL := ⟨_, X57, Fr.snoc X57 N51 g_b2⟩
  have Z60 : n0 ≤ h57.size := Nat.le_trans Z52 (Keep.of_wr W57).1
  have f61_A : own_Af Z h57 b2 .int 33 (own_up ff54 (6 : Int32).toNatClampNeg (.int (192 : Int32))) := own_Af.set Ar56 S56 M56 H56 W57
  obtain ⟨ff62, fF62, I62⟩ : ∃ f, own_Af Z h57 b2 .int 33 f ∧ own_isI f := ⟨_, f61_A, (own_isI.up I54 _ _)⟩
  have pre63 : ∀ t, own_s p e below T57 m 47 #[iv i0, iv i1, iv i2, .unset, .unset, .unset, .unset] [(.int (214 : Int32)), (.int (7 : Int32)), (.ref b2), (.ref b2)] t → Steps p.tables e below S0 t := by
    intro tX kX
    refine pre58 _ ?_
    show own_s p e below T57 m 41 #[iv i0, iv i1, iv i2, .unset, .unset, .unset, .unset] [(.ref b2)] _
    refine XS.dup X59.here hx rfl (hb hby at_41) rfl rfl ?_
    show own_s p e below T57 m 42 #[iv i0, iv i1, iv i2, .unset, .unset, .unset, .unset] [(.ref b2), (.ref b2)] _
    refine XS.bipush X59.here hx rfl (hb hby at_42) ?_
    show own_s p e below T57 m 44 #[iv i0, iv i1, iv i2, .unset, .unset, .unset, .unset] [(.int (7 : Int32)), (.ref b2), (.ref b2)] _
    refine XS.sipush X59.here hx rfl (hb hby at_44) ?_
    exact kX
  obtain ⟨cl64, Ar64, S64, M64, H64⟩ := id fF62
  obtain ⟨T65, h65, X65, e65, W65, st65⟩ := stI X59 hx hZ e57 Ar64 (j := (7 : Int32)) (own_inb S64 M64 (by decide)) (g := (mkF m 47 #[iv i0, iv i1, iv i2, .unset, .unset, .unset, .unset] [(.int (214 : Int32)), (.int (7 : Int32)), (.ref b2), (.ref b2)])) rfl rfl (hb hby at_47)
  have pre66 : ∀ t, own_s p e below T65 m 48 #[iv i0, iv i1, iv i2, .unset, .unset, .unset, .unset] [(.ref b2)] t → Steps p.tables e below S0 t := fun tX kX => pre63 _ (st65 _ kX)
  obtain ⟨LL67, X67, N67⟩ : ∃ LL, Stand p l e room_1 s m #[(.int i0), (.int i1), (.int i2)] below meth c T65 LL 1 33 ∧ Fr n0 LL := ⟨_, X65, Fr.snoc X65 N59 g_b2⟩
  have Z68 : n0 ≤ h65.size := Nat.le_trans Z60 (Keep.of_wr W65).1
  have f69_A : own_Af Z h65 b2 .int 33 (own_up ff62 (7 : Int32).toNatClampNeg (.int (214 : Int32))) := own_Af.set Ar64 S64 M64 H64 W65
  obtain ⟨ff70, fF70, I70⟩ : ∃ f, own_Af Z h65 b2 .int 33 f ∧ own_isI f := ⟨_, f69_A, (own_isI.up I62 _ _)⟩
  have pre71 : ∀ t, own_s p e below T65 m 54 #[iv i0, iv i1, iv i2, .unset, .unset, .unset, .unset] [(.int (216 : Int32)), (.int (8 : Int32)), (.ref b2), (.ref b2)] t → Steps p.tables e below S0 t := by
    intro tX kX
    refine pre66 _ ?_
    show own_s p e below T65 m 48 #[iv i0, iv i1, iv i2, .unset, .unset, .unset, .unset] [(.ref b2)] _
    refine XS.dup X67.here hx rfl (hb hby at_48) rfl rfl ?_
    show own_s p e below T65 m 49 #[iv i0, iv i1, iv i2, .unset, .unset, .unset, .unset] [(.ref b2), (.ref b2)] _
    refine XS.bipush X67.here hx rfl (hb hby at_49) ?_
    show own_s p e below T65 m 51 #[iv i0, iv i1, iv i2, .unset, .unset, .unset, .unset] [(.int (8 : Int32)), (.ref b2), (.ref b2)] _
    refine XS.sipush X67.here hx rfl (hb hby at_51) ?_
    exact kX
  obtain ⟨cl72, Ar72, S72, M72, H72⟩ := id fF70
  obtain ⟨T73, h73, X73, e73, W73, st73⟩ := stI X67 hx hZ e65 Ar72 (j := (8 : Int32)) (own_inb S72 M72 (by decide)) (g := (mkF m 54 #[iv i0, iv i1, iv i2, .unset, .unset, .unset, .unset] [(.int (216 : Int32)), (.int (8 : Int32)), (.ref b2), (.ref b2)])) rfl rfl (hb hby at_54)
  have pre74 : ∀ t, own_s p e below T73 m 55 #[iv i0, iv i1, iv i2, .unset, .unset, .unset, .unset] [(.ref b2)] t → Steps p.tables e below S0 t := fun tX kX => pre71 _ (st73 _ kX)
  obtain ⟨LL75, X75, N75⟩ : ∃ LL, Stand p l e room_1 s m #[(.int i0), (.int i1), (.int i2)] below meth c T73 LL 1 33 ∧ Fr n0 LL := ⟨_, X73, Fr.snoc X73 N67 g_b2⟩
  have Z76 : n0 ≤ h73.size := Nat.le_trans Z68 (Keep.of_wr W73).1
  have f77_A : own_Af Z h73 b2 .int 33 (own_up ff70 (8 : Int32).toNatClampNeg (.int (216 : Int32))) := own_Af.set Ar72 S72 M72 H72 W73
  obtain ⟨ff78, fF78, I78⟩ : ∃ f, own_Af Z h73 b2 .int 33 f ∧ own_isI f := ⟨_, f77_A, (own_isI.up I70 _ _)⟩
  have pre79 : ∀ t, own_s p e below T73 m 61 #[iv i0, iv i1, iv i2, .unset, .unset, .unset, .unset] [(.int (246 : Int32)), (.int (9 : Int32)), (.ref b2), (.ref b2)] t → Steps p.tables e below S0 t := by
    intro tX kX
    refine pre74 _ ?_
    show own_s p e below T73 m 55 #[iv i0, iv i1, iv i2, .unset, .unset, .unset, .unset] [(.ref b2)] _
    refine XS.dup X75.here hx rfl (hb hby at_55) rfl rfl ?_
    show own_s p e below T73 m 56 #[iv i0, iv i1, iv i2, .unset, .unset, .unset, .unset] [(.ref b2), (.ref b2)] _
    refine XS.bipush X75.here hx rfl (hb hby at_56) ?_
    show own_s p e below T73 m 58 #[iv i0, iv i1, iv i2, .unset, .unset, .unset, .unset] [(.int (9 : Int32)), (.ref b2), (.ref b2)] _
    refine XS.sipush X75.here hx rfl (hb hby at_58) ?_
    exact kX
  obtain ⟨cl80, Ar80, S80, M80, H80⟩ := id fF78
  obtain ⟨T81, h81, X81, e81, W81, st81⟩ := stI X75 hx hZ e73 Ar80 (j := (9 : Int32)) (own_inb S80 M80 (by decide)) (g := (mkF m 61 #[iv i0, iv i1, iv i2, .unset, .unset, .unset, .unset] [(.int (246 : Int32)), (.int (9 : Int32)), (.ref b2), (.ref b2)])) rfl rfl (hb hby at_61)
  have pre82 : ∀ t, own_s p e below T81 m 62 #[iv i0, iv i1, iv i2, .unset, .unset, .unset, .unset] [(.ref b2)] t → Steps p.tables e below S0 t := fun tX kX => pre79 _ (st81 _ kX)
  obtain ⟨LL83, X83, N83⟩ : ∃ LL, Stand p l e room_1 s m #[(.int i0), (.int i1), (.int i2)] below meth c T81 LL 1 33 ∧ Fr n0 LL := ⟨_, X81, Fr.snoc X81 N75 g_b2⟩
  have Z84 : n0 ≤ h81.size := Nat.le_trans Z76 (Keep.of_wr W81).1
  have f85_A : own_Af Z h81 b2 .int 33 (own_up ff78 (9 : Int32).toNatClampNeg (.int (246 : Int32))) := own_Af.set Ar80 S80 M80 H80 W81
  obtain ⟨ff86, fF86, I86⟩ : ∃ f, own_Af Z h81 b2 .int 33 f ∧ own_isI f := ⟨_, f85_A, (own_isI.up I78 _ _)⟩
  have pre87 : ∀ t, own_s p e below T81 m 68 #[iv i0, iv i1, iv i2, .unset, .unset, .unset, .unset] [(.int (248 : Int32)), (.int (10 : Int32)), (.ref b2), (.ref b2)] t → Steps p.tables e below S0 t := by
    intro tX kX
    refine pre82 _ ?_
    show own_s p e below T81 m 62 #[iv i0, iv i1, iv i2, .unset, .unset, .unset, .unset] [(.ref b2)] _
    refine XS.dup X83.here hx rfl (hb hby at_62) rfl rfl ?_
    show own_s p e below T81 m 63 #[iv i0, iv i1, iv i2, .unset, .unset, .unset, .unset] [(.ref b2), (.ref b2)] _
    refine XS.bipush X83.here hx rfl (hb hby at_63) ?_
    show own_s p e below T81 m 65 #[iv i0, iv i1, iv i2, .unset, .unset, .unset, .unset] [(.int (10 : Int32)), (.ref b2), (.ref b2)] _
    refine XS.sipush X83.here hx rfl (hb hby at_65) ?_
    exact kX
  obtain ⟨cl88, Ar88, S88, M88, H88⟩ := id fF86
  obtain ⟨T89, h89, X89, e89, W89, st89⟩ := stI X83 hx hZ e81 Ar88 (j := (10 : Int32)) (own_inb S88 M88 (by decide)) (g := (mkF m 68 #[iv i0, iv i1, iv i2, .unset, .unset, .unset, .unset] [(.int (248 : Int32)), (.int (10 : Int32)), (.ref b2), (.ref b2)])) rfl rfl (hb hby at_68)
  have pre90 : ∀ t, own_s p e below T89 m 69 #[iv i0, iv i1, iv i2, .unset, .unset, .unset, .unset] [(.ref b2)] t → Steps p.tables e below S0 t := fun tX kX => pre87 _ (st89 _ kX)
  obtain ⟨LL91, X91, N91⟩ : ∃ LL, Stand p l e room_1 s m #[(.int i0), (.int i1), (.int i2)] below meth c T89 LL 1 33 ∧ Fr n0 LL := ⟨_, X89, Fr.snoc X89 N83 g_b2⟩
  have Z92 : n0 ≤ h89.size := Nat.le_trans Z84 (Keep.of_wr W89).1
  have f93_A : own_Af Z h89 b2 .int 33 (own_up ff86 (10 : Int32).toNatClampNeg (.int (248 : Int32))) := own_Af.set Ar88 S88 M88 H88 W89
  obtain ⟨ff94, fF94, I94⟩ : ∃ f, own_Af Z h89 b2 .int 33 f ∧ own_isI f := ⟨_, f93_A, (own_isI.up I86 _ _)⟩
  have pre95 : ∀ t, own_s p e below T89 m 75 #[iv i0, iv i1, iv i2, .unset, .unset, .unset, .unset] [(.int (767 : Int32)), (.int (11 : Int32)), (.ref b2), (.ref b2)] t → Steps p.tables e below S0 t := by
    intro tX kX
    refine pre90 _ ?_
    show own_s p e below T89 m 69 #[iv i0, iv i1, iv i2, .unset, .unset, .unset, .unset] [(.ref b2)] _
    refine XS.dup X91.here hx rfl (hb hby at_69) rfl rfl ?_
    show own_s p e below T89 m 70 #[iv i0, iv i1, iv i2, .unset, .unset, .unset, .unset] [(.ref b2), (.ref b2)] _
    refine XS.bipush X91.here hx rfl (hb hby at_70) ?_
    show own_s p e below T89 m 72 #[iv i0, iv i1, iv i2, .unset, .unset, .unset, .unset] [(.int (11 : Int32)), (.ref b2), (.ref b2)] _
    refine XS.sipush X91.here hx rfl (hb hby at_72) ?_
    exact kX
  obtain ⟨cl96, Ar96, S96, M96, H96⟩ := id fF94
  obtain ⟨T97, h97, X97, e97, W97, st97⟩ := stI X91 hx hZ e89 Ar96 (j := (11 : Int32)) (own_inb S96 M96 (by decide)) (g := (mkF m 75 #[iv i0, iv i1, iv i2, .unset, .unset, .unset, .unset] [(.int (767 : Int32)), (.int (11 : Int32)), (.ref b2), (.ref b2)])) rfl rfl (hb hby at_75)
  have pre98 : ∀ t, own_s p e below T97 m 76 #[iv i0, iv i1, iv i2, .unset, .unset, .unset, .unset] [(.ref b2)] t → Steps p.tables e below S0 t := fun tX kX => pre95 _ (st97 _ kX)
  obtain ⟨LL99, X99, N99⟩ : ∃ LL, Stand p l e room_1 s m #[(.int i0), (.int i1), (.int i2)] below meth c T97 LL 1 33 ∧ Fr n0 LL := ⟨_, X97, Fr.snoc X97 N91 g_b2⟩
  have Z100 : n0 ≤ h97.size := Nat.le_trans Z92 (Keep.of_wr W97).1
  have f101_A : own_Af Z h97 b2 .int 33 (own_up ff94 (11 : Int32).toNatClampNeg (.int (767 : Int32))) := own_Af.set Ar96 S96 M96 H96 W97
  obtain ⟨ff102, fF102, I102⟩ : ∃ f, own_Af Z h97 b2 .int 33 f ∧ own_isI f := ⟨_, f101_A, (own_isI.up I94 _ _)⟩
  have pre103 : ∀ t, own_s p e below T97 m 82 #[iv i0, iv i1, iv i2, .unset, .unset, .unset, .unset] [(.int (880 : Int32)), (.int (12 : Int32)), (.ref b2), (.ref b2)] t → Steps p.tables e below S0 t := by
    intro tX kX
    refine pre98 _ ?_
    show own_s p e below T97 m 76 #[iv i0, iv i1, iv i2, .unset, .unset, .unset, .unset] [(.ref b2)] _
    refine XS.dup X99.here hx rfl (hb hby at_76) rfl rfl ?_
    show own_s p e below T97 m 77 #[iv i0, iv i1, iv i2, .unset, .unset, .unset, .unset] [(.ref b2), (.ref b2)] _
    refine XS.bipush X99.here hx rfl (hb hby at_77) ?_
    show own_s p e below T97 m 79 #[iv i0, iv i1, iv i2, .unset, .unset, .unset, .unset] [(.int (12 : Int32)), (.ref b2), (.ref b2)] _
    refine XS.sipush X99.here hx rfl (hb hby at_79) ?_
    exact kX
  obtain ⟨cl104, Ar104, S104, M104, H104⟩ := id fF102
  obtain ⟨T105, h105, X105, e105, W105, st105⟩ := stI X99 hx hZ e97 Ar104 (j := (12 : Int32)) (own_inb S104 M104 (by decide)) (g := (mkF m 82 #[iv i0, iv i1, iv i2, .unset, .unset, .unset, .unset] [(.int (880 : Int32)), (.int (12 : Int32)), (.ref b2), (.ref b2)])) rfl rfl (hb hby at_82)
  have pre106 : ∀ t, own_s p e below T105 m 83 #[iv i0, iv i1, iv i2, .unset, .unset, .unset, .unset] [(.ref b2)] t → Steps p.tables e below S0 t := fun tX kX => pre103 _ (st105 _ kX)
  obtain ⟨LL107, X107, N107⟩ : ∃ LL, Stand p l e room_1 s m #[(.int i0), (.int i1), (.int i2)] below meth c T105 LL 1 33 ∧ Fr n0 LL := ⟨_, X105, Fr.snoc X105 N99 g_b2⟩
  have Z108 : n0 ≤ h105.size := Nat.le_trans Z100 (Keep.of_wr W105).1
  have f109_A : own_Af Z h105 b2 .int 33 (own_up ff102 (12 : Int32).toNatClampNeg (.int (880 : Int32))) := own_Af.set Ar104 S104 M104 H104 W105
  obtain ⟨ff110, fF110, I110⟩ : ∃ f, own_Af Z h105 b2 .int 33 f ∧ own_isI f := ⟨_, f109_A, (own_isI.up I102 _ _)⟩
  have pre111 : ∀ t, own_s p e below T105 m 89 #[iv i0, iv i1, iv i2, .unset, .unset, .unset, .unset] [(.int (893 : Int32)), (.int (13 : Int32)), (.ref b2), (.ref b2)] t → Steps p.tables e below S0 t := by
    intro tX kX
    refine pre106 _ ?_
    show own_s p e below T105 m 83 #[iv i0, iv i1, iv i2, .unset, .unset, .unset, .unset] [(.ref b2)] _
    refine XS.dup X107.here hx rfl (hb hby at_83) rfl rfl ?_
    show own_s p e below T105 m 84 #[iv i0, iv i1, iv i2, .unset, .unset, .unset, .unset] [(.ref b2), (.ref b2)] _
    refine XS.bipush X107.here hx rfl (hb hby at_84) ?_
    show own_s p e below T105 m 86 #[iv i0, iv i1, iv i2, .unset, .unset, .unset, .unset] [(.int (13 : Int32)), (.ref b2), (.ref b2)] _
    refine XS.sipush X107.here hx rfl (hb hby at_86) ?_
    exact kX
  obtain ⟨cl112, Ar112, S112, M112, H112⟩ := id fF110
  obtain ⟨T113, h113, X113, e113, W113, st113⟩ := stI X107 hx hZ e105 Ar112 (j := (13 : Int32)) (own_inb S112 M112 (by decide)) (g := (mkF m 89 #[iv i0, iv i1, iv i2, .unset, .unset, .unset, .unset] [(.int (893 : Int32)), (.int (13 : Int32)), (.ref b2), (.ref b2)])) rfl rfl (hb hby at_89)
  have pre114 : ∀ t, own_s p e below T113 m 90 #[iv i0, iv i1, iv i2, .unset, .unset, .unset, .unset] [(.ref b2)] t → Steps p.tables e below S0 t := fun tX kX => pre111 _ (st113 _ kX)
  obtain ⟨LL115, X115, N115⟩ : ∃ LL, Stand p l e room_1 s m #[(.int i0), (.int i1), (.int i2)] below meth c T113 LL 1 33 ∧ Fr n0 LL := ⟨_, X113, Fr.snoc X113 N107 g_b2⟩
  have Z116 : n0 ≤ h113.size := Nat.le_trans Z108 (Keep.of_wr W113).1
  have f117_A : own_Af Z h113 b2 .int 33 (own_up ff110 (13 : Int32).toNatClampNeg (.int (893 : Int32))) := own_Af.set Ar112 S112 M112 H112 W113
  obtain ⟨ff118, fF118, I118⟩ : ∃ f, own_Af Z h113 b2 .int 33 f ∧ own_isI f := ⟨_, f117_A, (own_isI.up I110 _ _)⟩
  have pre119 : ∀ t, own_s p e below T113 m 96 #[iv i0, iv i1, iv i2, .unset, .unset, .unset, .unset] [(.int (895 : Int32)), (.int (14 : Int32)), (.ref b2), (.ref b2)] t → Steps p.tables e below S0 t := by
    intro tX kX
    refine pre114 _ ?_
    show own_s p e below T113 m 90 #[iv i0, iv i1, iv i2, .unset, .unset, .unset, .unset] [(.ref b2)] _
    refine XS.dup X115.here hx rfl (hb hby at_90) rfl rfl ?_
    show own_s p e below T113 m 91 #[iv i0, iv i1, iv i2, .unset, .unset, .unset, .unset] [(.ref b2), (.ref b2)] _
    refine XS.bipush X115.here hx rfl (hb hby at_91) ?_
    show own_s p e below T113 m 93 #[iv i0, iv i1, iv i2, .unset, .unset, .unset, .unset] [(.int (14 : Int32)), (.ref b2), (.ref b2)] _
    refine XS.sipush X115.here hx rfl (hb hby at_93) ?_
    exact kX
  obtain ⟨cl120, Ar120, S120, M120, H120⟩ := id fF118
  obtain ⟨T121, h121, X121, e121, W121, st121⟩ := stI X115 hx hZ e113 Ar120 (j := (14 : Int32)) (own_inb S120 M120 (by decide)) (g := (mkF m 96 #[iv i0, iv i1, iv i2, .unset, .unset, .unset, .unset] [(.int (895 : Int32)), (.int (14 : Int32)), (.ref b2), (.ref b2)])) rfl rfl (hb hby at_96)
  have pre122 : ∀ t, own_s p e below T121 m 97 #[iv i0, iv i1, iv i2, .unset, .unset, .unset, .unset] [(.ref b2)] t → Steps p.tables e below S0 t := fun tX kX => pre119 _ (st121 _ kX)
  obtain ⟨LL123, X123, N123⟩ : ∃ LL, Stand p l e room_1 s m #[(.int i0), (.int i1), (.int i2)] below meth c T121 LL 1 33 ∧ Fr n0 LL := ⟨_, X121, Fr.snoc X121 N115 g_b2⟩
  have Z124 : n0 ≤ h121.size := Nat.le_trans Z116 (Keep.of_wr W121).1
  have f125_A : own_Af Z h121 b2 .int 33 (own_up ff118 (14 : Int32).toNatClampNeg (.int (895 : Int32))) := own_Af.set Ar120 S120 M120 H120 W121
  obtain ⟨ff126, fF126, I126⟩ : ∃ f, own_Af Z h121 b2 .int 33 f ∧ own_isI f := ⟨_, f125_A, (own_isI.up I118 _ _)⟩
  have pre127 : ∀ t, own_s p e below T121 m 103 #[iv i0, iv i1, iv i2, .unset, .unset, .unset, .unset] [(.int (8191 : Int32)), (.int (15 : Int32)), (.ref b2), (.ref b2)] t → Steps p.tables e below S0 t := by
    intro tX kX
    refine pre122 _ ?_
    show own_s p e below T121 m 97 #[iv i0, iv i1, iv i2, .unset, .unset, .unset, .unset] [(.ref b2)] _
    refine XS.dup X123.here hx rfl (hb hby at_97) rfl rfl ?_
    show own_s p e below T121 m 98 #[iv i0, iv i1, iv i2, .unset, .unset, .unset, .unset] [(.ref b2), (.ref b2)] _
    refine XS.bipush X123.here hx rfl (hb hby at_98) ?_
    show own_s p e below T121 m 100 #[iv i0, iv i1, iv i2, .unset, .unset, .unset, .unset] [(.int (15 : Int32)), (.ref b2), (.ref b2)] _
    refine XS.sipush X123.here hx rfl (hb hby at_100) ?_
    exact kX
  obtain ⟨cl128, Ar128, S128, M128, H128⟩ := id fF126
  obtain ⟨T129, h129, X129, e129, W129, st129⟩ := stI X123 hx hZ e121 Ar128 (j := (15 : Int32)) (own_inb S128 M128 (by decide)) (g := (mkF m 103 #[iv i0, iv i1, iv i2, .unset, .unset, .unset, .unset] [(.int (8191 : Int32)), (.int (15 : Int32)), (.ref b2), (.ref b2)])) rfl rfl (hb hby at_103)
  have pre130 : ∀ t, own_s p e below T129 m 104 #[iv i0, iv i1, iv i2, .unset, .unset, .unset, .unset] [(.ref b2)] t → Steps p.tables e below S0 t := fun tX kX => pre127 _ (st129 _ kX)
  obtain ⟨LL131, X131, N131⟩ : ∃ LL, Stand p l e room_1 s m #[(.int i0), (.int i1), (.int i2)] below meth c T129 LL 1 33 ∧ Fr n0 LL := ⟨_, X129, Fr.snoc X129 N123 g_b2⟩
  have Z132 : n0 ≤ h129.size := Nat.le_trans Z124 (Keep.of_wr W129).1
  have f133_A : own_Af Z h129 b2 .int 33 (own_up ff126 (15 : Int32).toNatClampNeg (.int (8191 : Int32))) := own_Af.set Ar128 S128 M128 H128 W129
  obtain ⟨ff134, fF134, I134⟩ : ∃ f, own_Af Z h129 b2 .int 33 f ∧ own_isI f := ⟨_, f133_A, (own_isI.up I126 _ _)⟩
  have pre135 : ∀ t, own_s p e below T129 m 110 #[iv i0, iv i1, iv i2, .unset, .unset, .unset, .unset] [(.int (8204 : Int32)), (.int (16 : Int32)), (.ref b2), (.ref b2)] t → Steps p.tables e below S0 t := by
    intro tX kX
    refine pre130 _ ?_
    show own_s p e below T129 m 104 #[iv i0, iv i1, iv i2, .unset, .unset, .unset, .unset] [(.ref b2)] _
    refine XS.dup X131.here hx rfl (hb hby at_104) rfl rfl ?_
    show own_s p e below T129 m 105 #[iv i0, iv i1, iv i2, .unset, .unset, .unset, .unset] [(.ref b2), (.ref b2)] _
    refine XS.bipush X131.here hx rfl (hb hby at_105) ?_
    show own_s p e below T129 m 107 #[iv i0, iv i1, iv i2, .unset, .unset, .unset, .unset] [(.int (16 : Int32)), (.ref b2), (.ref b2)] _
    refine XS.sipush X131.here hx rfl (hb hby at_107) ?_
    exact kX
  obtain ⟨cl136, Ar136, S136, M136, H136⟩ := id fF134
  obtain ⟨T137, h137, X137, e137, W137, st137⟩ := stI X131 hx hZ e129 Ar136 (j := (16 : Int32)) (own_inb S136 M136 (by decide)) (g := (mkF m 110 #[iv i0, iv i1, iv i2, .unset, .unset, .unset, .unset] [(.int (8204 : Int32)), (.int (16 : Int32)), (.ref b2), (.ref b2)])) rfl rfl (hb hby at_110)
  have pre138 : ∀ t, own_s p e below T137 m 111 #[iv i0, iv i1, iv i2, .unset, .unset, .unset, .unset] [(.ref b2)] t → Steps p.tables e below S0 t := fun tX kX => pre135 _ (st137 _ kX)
  obtain ⟨LL139, X139, N139⟩ : ∃ LL, Stand p l e room_1 s m #[(.int i0), (.int i1), (.int i2)] below meth c T137 LL 1 33 ∧ Fr n0 LL := ⟨_, X137, Fr.snoc X137 N131 g_b2⟩
  have Z140 : n0 ≤ h137.size := Nat.le_trans Z132 (Keep.of_wr W137).1
  have f141_A : own_Af Z h137 b2 .int 33 (own_up ff134 (16 : Int32).toNatClampNeg (.int (8204 : Int32))) := own_Af.set Ar136 S136 M136 H136 W137
  obtain ⟨ff142, fF142, I142⟩ : ∃ f, own_Af Z h137 b2 .int 33 f ∧ own_isI f := ⟨_, f141_A, (own_isI.up I134 _ _)⟩
  have pre143 : ∀ t, own_s p e below T137 m 117 #[iv i0, iv i1, iv i2, .unset, .unset, .unset, .unset] [(.int (8205 : Int32)), (.int (17 : Int32)), (.ref b2), (.ref b2)] t → Steps p.tables e below S0 t := by
    intro tX kX
    refine pre138 _ ?_
    show own_s p e below T137 m 111 #[iv i0, iv i1, iv i2, .unset, .unset, .unset, .unset] [(.ref b2)] _
    refine XS.dup X139.here hx rfl (hb hby at_111) rfl rfl ?_
    show own_s p e below T137 m 112 #[iv i0, iv i1, iv i2, .unset, .unset, .unset, .unset] [(.ref b2), (.ref b2)] _
    refine XS.bipush X139.here hx rfl (hb hby at_112) ?_
    show own_s p e below T137 m 114 #[iv i0, iv i1, iv i2, .unset, .unset, .unset, .unset] [(.int (17 : Int32)), (.ref b2), (.ref b2)] _
    refine XS.sipush X139.here hx rfl (hb hby at_114) ?_
    exact kX
  obtain ⟨cl144, Ar144, S144, M144, H144⟩ := id fF142
  obtain ⟨T145, h145, X145, e145, W145, st145⟩ := stI X139 hx hZ e137 Ar144 (j := (17 : Int32)) (own_inb S144 M144 (by decide)) (g := (mkF m 117 #[iv i0, iv i1, iv i2, .unset, .unset, .unset, .unset] [(.int (8205 : Int32)), (.int (17 : Int32)), (.ref b2), (.ref b2)])) rfl rfl (hb hby at_117)
  have pre146 : ∀ t, own_s p e below T145 m 118 #[iv i0, iv i1, iv i2, .unset, .unset, .unset, .unset] [(.ref b2)] t → Steps p.tables e below S0 t := fun tX kX => pre143 _ (st145 _ kX)
  obtain ⟨LL147, X147, N147⟩ : ∃ LL, Stand p l e room_1 s m #[(.int i0), (.int i1), (.int i2)] below meth c T145 LL 1 33 ∧ Fr n0 LL := ⟨_, X145, Fr.snoc X145 N139 g_b2⟩
  have Z148 : n0 ≤ h145.size := Nat.le_trans Z140 (Keep.of_wr W145).1
  have f149_A : own_Af Z h145 b2 .int 33 (own_up ff142 (17 : Int32).toNatClampNeg (.int (8205 : Int32))) := own_Af.set Ar144 S144 M144 H144 W145
  obtain ⟨ff150, fF150, I150⟩ : ∃ f, own_Af Z h145 b2 .int 33 f ∧ own_isI f := ⟨_, f149_A, (own_isI.up I142 _ _)⟩
  have pre151 : ∀ t, own_s p e below T145 m 124 #[iv i0, iv i1, iv i2, .unset, .unset, .unset, .unset] [(.int (8304 : Int32)), (.int (18 : Int32)), (.ref b2), (.ref b2)] t → Steps p.tables e below S0 t := by
    intro tX kX
    refine pre146 _ ?_
    show own_s p e below T145 m 118 #[iv i0, iv i1, iv i2, .unset, .unset, .unset, .unset] [(.ref b2)] _
    refine XS.dup X147.here hx rfl (hb hby at_118) rfl rfl ?_
    show own_s p e below T145 m 119 #[iv i0, iv i1, iv i2, .unset, .unset, .unset, .unset] [(.ref b2), (.ref b2)] _
    refine XS.bipush X147.here hx rfl (hb hby at_119) ?_
    show own_s p e below T145 m 121 #[iv i0, iv i1, iv i2, .unset, .unset, .unset, .unset] [(.int (18 : Int32)), (.ref b2), (.ref b2)] _
    refine XS.sipush X147.here hx rfl (hb hby at_121) ?_
    exact kX
  obtain ⟨cl152, Ar152, S152, M152, H152⟩ := id fF150
  obtain ⟨T153, h153, X153, e153, W153, st153⟩ := stI X147 hx hZ e145 Ar152 (j := (18 : Int32)) (own_inb S152 M152 (by decide)) (g := (mkF m 124 #[iv i0, iv i1, iv i2, .unset, .unset, .unset, .unset] [(.int (8304 : Int32)), (.int (18 : Int32)), (.ref b2), (.ref b2)])) rfl rfl (hb hby at_124)
  have pre154 : ∀ t, own_s p e below T153 m 125 #[iv i0, iv i1, iv i2, .unset, .unset, .unset, .unset] [(.ref b2)] t → Steps p.tables e below S0 t := fun tX kX => pre151 _ (st153 _ kX)
  obtain ⟨LL155, X155, N155⟩ : ∃ LL, Stand p l e room_1 s m #[(.int i0), (.int i1), (.int i2)] below meth c T153 LL 1 33 ∧ Fr n0 LL := ⟨_, X153, Fr.snoc X153 N147 g_b2⟩
  have Z156 : n0 ≤ h153.size := Nat.le_trans Z148 (Keep.of_wr W153).1
  have f157_A : own_Af Z h153 b2 .int 33 (own_up ff150 (18 : Int32).toNatClampNeg (.int (8304 : Int32))) := own_Af.set Ar152 S152 M152 H152 W153
  obtain ⟨ff158, fF158, I158⟩ : ∃ f, own_Af Z h153 b2 .int 33 f ∧ own_isI f := ⟨_, f157_A, (own_isI.up I150 _ _)⟩
  have pre159 : ∀ t, own_s p e below T153 m 131 #[iv i0, iv i1, iv i2, .unset, .unset, .unset, .unset] [(.int (8591 : Int32)), (.int (19 : Int32)), (.ref b2), (.ref b2)] t → Steps p.tables e below S0 t := by
    intro tX kX
    refine pre154 _ ?_
    show own_s p e below T153 m 125 #[iv i0, iv i1, iv i2, .unset, .unset, .unset, .unset] [(.ref b2)] _
    refine XS.dup X155.here hx rfl (hb hby at_125) rfl rfl ?_
    show own_s p e below T153 m 126 #[iv i0, iv i1, iv i2, .unset, .unset, .unset, .unset] [(.ref b2), (.ref b2)] _
    refine XS.bipush X155.here hx rfl (hb hby at_126) ?_
    show own_s p e below T153 m 128 #[iv i0, iv i1, iv i2, .unset, .unset, .unset, .unset] [(.int (19 : Int32)), (.ref b2), (.ref b2)] _
    refine XS.sipush X155.here hx rfl (hb hby at_128) ?_
    exact kX
  obtain ⟨cl160, Ar160, S160, M160, H160⟩ := id fF158
  obtain ⟨T161, h161, X161, e161, W161, st161⟩ := stI X155 hx hZ e153 Ar160 (j := (19 : Int32)) (own_inb S160 M160 (by decide)) (g := (mkF m 131 #[iv i0, iv i1, iv i2, .unset, .unset, .unset, .unset] [(.int (8591 : Int32)), (.int (19 : Int32)), (.ref b2), (.ref b2)])) rfl rfl (hb hby at_131)
  have pre162 : ∀ t, own_s p e below T161 m 132 #[iv i0, iv i1, iv i2, .unset, .unset, .unset, .unset] [(.ref b2)] t → Steps p.tables e below S0 t := fun tX kX => pre159 _ (st161 _ kX)
  obtain ⟨LL163, X163, N163⟩ : ∃ LL, Stand p l e room_1 s m #[(.int i0), (.int i1), (.int i2)] below meth c T161 LL 1 33 ∧ Fr n0 LL := ⟨_, X161, Fr.snoc X161 N155 g_b2⟩
  have Z164 : n0 ≤ h161.size := Nat.le_trans Z156 (Keep.of_wr W161).1
  have f165_A : own_Af Z h161 b2 .int 33 (own_up ff158 (19 : Int32).toNatClampNeg (.int (8591 : Int32))) := own_Af.set Ar160 S160 M160 H160 W161
  obtain ⟨ff166, fF166, I166⟩ : ∃ f, own_Af Z h161 b2 .int 33 f ∧ own_isI f := ⟨_, f165_A, (own_isI.up I158 _ _)⟩
  have pre167 : ∀ t, own_s p e below T161 m 138 #[iv i0, iv i1, iv i2, .unset, .unset, .unset, .unset] [(.int (11264 : Int32)), (.int (20 : Int32)), (.ref b2), (.ref b2)] t → Steps p.tables e below S0 t := by
    intro tX kX
    refine pre162 _ ?_
    show own_s p e below T161 m 132 #[iv i0, iv i1, iv i2, .unset, .unset, .unset, .unset] [(.ref b2)] _
    refine XS.dup X163.here hx rfl (hb hby at_132) rfl rfl ?_
    show own_s p e below T161 m 133 #[iv i0, iv i1, iv i2, .unset, .unset, .unset, .unset] [(.ref b2), (.ref b2)] _
    refine XS.bipush X163.here hx rfl (hb hby at_133) ?_
    show own_s p e below T161 m 135 #[iv i0, iv i1, iv i2, .unset, .unset, .unset, .unset] [(.int (20 : Int32)), (.ref b2), (.ref b2)] _
    refine XS.sipush X163.here hx rfl (hb hby at_135) ?_
    exact kX
  obtain ⟨cl168, Ar168, S168, M168, H168⟩ := id fF166
  obtain ⟨T169, h169, X169, e169, W169, st169⟩ := stI X163 hx hZ e161 Ar168 (j := (20 : Int32)) (own_inb S168 M168 (by decide)) (g := (mkF m 138 #[iv i0, iv i1, iv i2, .unset, .unset, .unset, .unset] [(.int (11264 : Int32)), (.int (20 : Int32)), (.ref b2), (.ref b2)])) rfl rfl (hb hby at_138)
  have pre170 : ∀ t, own_s p e below T169 m 139 #[iv i0, iv i1, iv i2, .unset, .unset, .unset, .unset] [(.ref b2)] t → Steps p.tables e below S0 t := fun tX kX => pre167 _ (st169 _ kX)
  obtain ⟨LL171, X171, N171⟩ : ∃ LL, Stand p l e room_1 s m #[(.int i0), (.int i1), (.int i2)] below meth c T169 LL 1 33 ∧ Fr n0 LL := ⟨_, X169, Fr.snoc X169 N163 g_b2⟩
  have Z172 : n0 ≤ h169.size := Nat.le_trans Z164 (Keep.of_wr W169).1
  have f173_A : own_Af Z h169 b2 .int 33 (own_up ff166 (20 : Int32).toNatClampNeg (.int (11264 : Int32))) := own_Af.set Ar168 S168 M168 H168 W169
  obtain ⟨ff174, fF174, I174⟩ : ∃ f, own_Af Z h169 b2 .int 33 f ∧ own_isI f := ⟨_, f173_A, (own_isI.up I166 _ _)⟩
  have pre175 : ∀ t, own_s p e below T169 m 145 #[iv i0, iv i1, iv i2, .unset, .unset, .unset, .unset] [(.int (12271 : Int32)), (.int (21 : Int32)), (.ref b2), (.ref b2)] t → Steps p.tables e below S0 t := by
    intro tX kX
    refine pre170 _ ?_
    show own_s p e below T169 m 139 #[iv i0, iv i1, iv i2, .unset, .unset, .unset, .unset] [(.ref b2)] _
    refine XS.dup X171.here hx rfl (hb hby at_139) rfl rfl ?_
    show own_s p e below T169 m 140 #[iv i0, iv i1, iv i2, .unset, .unset, .unset, .unset] [(.ref b2), (.ref b2)] _
    refine XS.bipush X171.here hx rfl (hb hby at_140) ?_
    show own_s p e below T169 m 142 #[iv i0, iv i1, iv i2, .unset, .unset, .unset, .unset] [(.int (21 : Int32)), (.ref b2), (.ref b2)] _
    refine XS.sipush X171.here hx rfl (hb hby at_142) ?_
    exact kX
  obtain ⟨cl176, Ar176, S176, M176, H176⟩ := id fF174
  obtain ⟨T177, h177, X177, e177, W177, st177⟩ := stI X171 hx hZ e169 Ar176 (j := (21 : Int32)) (own_inb S176 M176 (by decide)) (g := (mkF m 145 #[iv i0, iv i1, iv i2, .unset, .unset, .unset, .unset] [(.int (12271 : Int32)), (.int (21 : Int32)), (.ref b2), (.ref b2)])) rfl rfl (hb hby at_145)
  have pre178 : ∀ t, own_s p e below T177 m 146 #[iv i0, iv i1, iv i2, .unset, .unset, .unset, .unset] [(.ref b2)] t → Steps p.tables e below S0 t := fun tX kX => pre175 _ (st177 _ kX)
  obtain ⟨LL179, X179, N179⟩ : ∃ LL, Stand p l e room_1 s m #[(.int i0), (.int i1), (.int i2)] below meth c T177 LL 1 33 ∧ Fr n0 LL := ⟨_, X177, Fr.snoc X177 N171 g_b2⟩
  have Z180 : n0 ≤ h177.size := Nat.le_trans Z172 (Keep.of_wr W177).1
  have f181_A : own_Af Z h177 b2 .int 33 (own_up ff174 (21 : Int32).toNatClampNeg (.int (12271 : Int32))) := own_Af.set Ar176 S176 M176 H176 W177
  obtain ⟨ff182, fF182, I182⟩ : ∃ f, own_Af Z h177 b2 .int 33 f ∧ own_isI f := ⟨_, f181_A, (own_isI.up I174 _ _)⟩
  have pre183 : ∀ t, own_s p e below T177 m 152 #[iv i0, iv i1, iv i2, .unset, .unset, .unset, .unset] [(.int (12289 : Int32)), (.int (22 : Int32)), (.ref b2), (.ref b2)] t → Steps p.tables e below S0 t := by
    intro tX kX
    refine pre178 _ ?_
    show own_s p e below T177 m 146 #[iv i0, iv i1, iv i2, .unset, .unset, .unset, .unset] [(.ref b2)] _
    refine XS.dup X179.here hx rfl (hb hby at_146) rfl rfl ?_
    show own_s p e below T177 m 147 #[iv i0, iv i1, iv i2, .unset, .unset, .unset, .unset] [(.ref b2), (.ref b2)] _
    refine XS.bipush X179.here hx rfl (hb hby at_147) ?_
    show own_s p e below T177 m 149 #[iv i0, iv i1, iv i2, .unset, .unset, .unset, .unset] [(.int (22 : Int32)), (.ref b2), (.ref b2)] _
    refine XS.sipush X179.here hx rfl (hb hby at_149) ?_
    exact kX
  obtain ⟨cl184, Ar184, S184, M184, H184⟩ := id fF182
  obtain ⟨T185, h185, X185, e185, W185, st185⟩ := stI X179 hx hZ e177 Ar184 (j := (22 : Int32)) (own_inb S184 M184 (by decide)) (g := (mkF m 152 #[iv i0, iv i1, iv i2, .unset, .unset, .unset, .unset] [(.int (12289 : Int32)), (.int (22 : Int32)), (.ref b2), (.ref b2)])) rfl rfl (hb hby at_152)
  have pre186 : ∀ t, own_s p e below T185 m 153 #[iv i0, iv i1, iv i2, .unset, .unset, .unset, .unset] [(.ref b2)] t → Steps p.tables e below S0 t := fun tX kX => pre183 _ (st185 _ kX)
  obtain ⟨LL187, X187, N187⟩ : ∃ LL, Stand p l e room_1 s m #[(.int i0), (.int i1), (.int i2)] below meth c T185 LL 1 33 ∧ Fr n0 LL := ⟨_, X185, Fr.snoc X185 N179 g_b2⟩
  have Z188 : n0 ≤ h185.size := Nat.le_trans Z180 (Keep.of_wr W185).1
  have f189_A : own_Af Z h185 b2 .int 33 (own_up ff182 (22 : Int32).toNatClampNeg (.int (12289 : Int32))) := own_Af.set Ar184 S184 M184 H184 W185
  obtain ⟨ff190, fF190, I190⟩ : ∃ f, own_Af Z h185 b2 .int 33 f ∧ own_isI f := ⟨_, f189_A, (own_isI.up I182 _ _)⟩
  have pre191 : ∀ t, own_s p e below T185 m 158 #[iv i0, iv i1, iv i2, .unset, .unset, .unset, .unset] [(.int (55295 : Int32)), (.int (23 : Int32)), (.ref b2), (.ref b2)] t → Steps p.tables e below S0 t := by
    intro tX kX
    refine pre186 _ ?_
    show own_s p e below T185 m 153 #[iv i0, iv i1, iv i2, .unset, .unset, .unset, .unset] [(.ref b2)] _
    refine XS.dup X187.here hx rfl (hb hby at_153) rfl rfl ?_
    show own_s p e below T185 m 154 #[iv i0, iv i1, iv i2, .unset, .unset, .unset, .unset] [(.ref b2), (.ref b2)] _
    refine XS.bipush X187.here hx rfl (hb hby at_154) ?_
    show own_s p e below T185 m 156 #[iv i0, iv i1, iv i2, .unset, .unset, .unset, .unset] [(.int (23 : Int32)), (.ref b2), (.ref b2)] _
    refine X187.ldcInt hx hown (mvT hZ (hw _ (List.mem_of_getElem? (i := 1) rfl))) (g := (mkF m 156 #[iv i0, iv i1, iv i2, .unset, .unset, .unset, .unset] [(.int (23 : Int32)), (.ref b2), (.ref b2)])) rfl (hb hby at_156) _ ?_
    exact kX
  obtain ⟨cl192, Ar192, S192, M192, H192⟩ := id fF190
  obtain ⟨T193, h193, X193, e193, W193, st193⟩ := stI X187 hx hZ e185 Ar192 (j := (23 : Int32)) (own_inb S192 M192 (by decide)) (g := (mkF m 158 #[iv i0, iv i1, iv i2, .unset, .unset, .unset, .unset] [(.int (55295 : Int32)), (.int (23 : Int32)), (.ref b2), (.ref b2)])) rfl rfl (hb hby at_158)
  have pre194 : ∀ t, own_s p e below T193 m 159 #[iv i0, iv i1, iv i2, .unset, .unset, .unset, .unset] [(.ref b2)] t → Steps p.tables e below S0 t := fun tX kX => pre191 _ (st193 _ kX)
  obtain ⟨LL195, X195, N195⟩ : ∃ LL, Stand p l e room_1 s m #[(.int i0), (.int i1), (.int i2)] below meth c T193 LL 1 33 ∧ Fr n0 LL := ⟨_, X193, Fr.snoc X193 N187 g_b2⟩
  have Z196 : n0 ≤ h193.size := Nat.le_trans Z188 (Keep.of_wr W193).1
  have f197_A : own_Af Z h193 b2 .int 33 (own_up ff190 (23 : Int32).toNatClampNeg (.int (55295 : Int32))) := own_Af.set Ar192 S192 M192 H192 W193
  obtain ⟨ff198, fF198, I198⟩ : ∃ f, own_Af Z h193 b2 .int 33 f ∧ own_isI f := ⟨_, f197_A, (own_isI.up I190 _ _)⟩
  have pre199 : ∀ t, own_s p e below T193 m 164 #[iv i0, iv i1, iv i2, .unset, .unset, .unset, .unset] [(.int (63744 : Int32)), (.int (24 : Int32)), (.ref b2), (.ref b2)] t → Steps p.tables e below S0 t := by
    intro tX kX
    refine pre194 _ ?_
    show own_s p e below T193 m 159 #[iv i0, iv i1, iv i2, .unset, .unset, .unset, .unset] [(.ref b2)] _
    refine XS.dup X195.here hx rfl (hb hby at_159) rfl rfl ?_
    show own_s p e below T193 m 160 #[iv i0, iv i1, iv i2, .unset, .unset, .unset, .unset] [(.ref b2), (.ref b2)] _
    refine XS.bipush X195.here hx rfl (hb hby at_160) ?_
    show own_s p e below T193 m 162 #[iv i0, iv i1, iv i2, .unset, .unset, .unset, .unset] [(.int (24 : Int32)), (.ref b2), (.ref b2)] _
    refine X195.ldcInt hx hown (mvT hZ (hw _ (List.mem_of_getElem? (i := 2) rfl))) (g := (mkF m 162 #[iv i0, iv i1, iv i2, .unset, .unset, .unset, .unset] [(.int (24 : Int32)), (.ref b2), (.ref b2)])) rfl (hb hby at_162) _ ?_
    exact kX
  obtain ⟨cl200, Ar200, S200, M200, H200⟩ := id fF198
  obtain ⟨T201, h201, X201, e201, W201, st201⟩ := stI X195 hx hZ e193 Ar200 (j := (24 : Int32)) (own_inb S200 M200 (by decide)) (g := (mkF m 164 #[iv i0, iv i1, iv i2, .unset, .unset, .unset, .unset] [(.int (63744 : Int32)), (.int (24 : Int32)), (.ref b2), (.ref b2)])) rfl rfl (hb hby at_164)
  have pre202 : ∀ t, own_s p e below T201 m 165 #[iv i0, iv i1, iv i2, .unset, .unset, .unset, .unset] [(.ref b2)] t → Steps p.tables e below S0 t := fun tX kX => pre199 _ (st201 _ kX)
  obtain ⟨LL203, X203, N203⟩ : ∃ LL, Stand p l e room_1 s m #[(.int i0), (.int i1), (.int i2)] below meth c T201 LL 1 33 ∧ Fr n0 LL := ⟨_, X201, Fr.snoc X201 N195 g_b2⟩
  have Z204 : n0 ≤ h201.size := Nat.le_trans Z196 (Keep.of_wr W201).1
  have f205_A : own_Af Z h201 b2 .int 33 (own_up ff198 (24 : Int32).toNatClampNeg (.int (63744 : Int32))) := own_Af.set Ar200 S200 M200 H200 W201
  obtain ⟨ff206, fF206, I206⟩ : ∃ f, own_Af Z h201 b2 .int 33 f ∧ own_isI f := ⟨_, f205_A, (own_isI.up I198 _ _)⟩
  have pre207 : ∀ t, own_s p e below T201 m 170 #[iv i0, iv i1, iv i2, .unset, .unset, .unset, .unset] [(.int (64975 : Int32)), (.int (25 : Int32)), (.ref b2), (.ref b2)] t → Steps p.tables e below S0 t := by
    intro tX kX
    refine pre202 _ ?_
    show own_s p e below T201 m 165 #[iv i0, iv i1, iv i2, .unset, .unset, .unset, .unset] [(.ref b2)] _
    refine XS.dup X203.here hx rfl (hb hby at_165) rfl rfl ?_
    show own_s p e below T201 m 166 #[iv i0, iv i1, iv i2, .unset, .unset, .unset, .unset] [(.ref b2), (.ref b2)] _
    refine XS.bipush X203.here hx rfl (hb hby at_166) ?_
    show own_s p e below T201 m 168 #[iv i0, iv i1, iv i2, .unset, .unset, .unset, .unset] [(.int (25 : Int32)), (.ref b2), (.ref b2)] _
    refine X203.ldcInt hx hown (mvT hZ (hw _ (List.mem_of_getElem? (i := 3) rfl))) (g := (mkF m 168 #[iv i0, iv i1, iv i2, .unset, .unset, .unset, .unset] [(.int (25 : Int32)), (.ref b2), (.ref b2)])) rfl (hb hby at_168) _ ?_
    exact kX
  obtain ⟨cl208, Ar208, S208, M208, H208⟩ := id fF206
  obtain ⟨T209, h209, X209, e209, W209, st209⟩ := stI X203 hx hZ e201 Ar208 (j := (25 : Int32)) (own_inb S208 M208 (by decide)) (g := (mkF m 170 #[iv i0, iv i1, iv i2, .unset, .unset, .unset, .unset] [(.int (64975 : Int32)), (.int (25 : Int32)), (.ref b2), (.ref b2)])) rfl rfl (hb hby at_170)
  have pre210 : ∀ t, own_s p e below T209 m 171 #[iv i0, iv i1, iv i2, .unset, .unset, .unset, .unset] [(.ref b2)] t → Steps p.tables e below S0 t := fun tX kX => pre207 _ (st209 _ kX)
  obtain ⟨LL211, X211, N211⟩ : ∃ LL, Stand p l e room_1 s m #[(.int i0), (.int i1), (.int i2)] below meth c T209 LL 1 33 ∧ Fr n0 LL := ⟨_, X209, Fr.snoc X209 N203 g_b2⟩
  have Z212 : n0 ≤ h209.size := Nat.le_trans Z204 (Keep.of_wr W209).1
  have f213_A : own_Af Z h209 b2 .int 33 (own_up ff206 (25 : Int32).toNatClampNeg (.int (64975 : Int32))) := own_Af.set Ar208 S208 M208 H208 W209
  obtain ⟨ff214, fF214, I214⟩ : ∃ f, own_Af Z h209 b2 .int 33 f ∧ own_isI f := ⟨_, f213_A, (own_isI.up I206 _ _)⟩
  have pre215 : ∀ t, own_s p e below T209 m 176 #[iv i0, iv i1, iv i2, .unset, .unset, .unset, .unset] [(.int (65008 : Int32)), (.int (26 : Int32)), (.ref b2), (.ref b2)] t → Steps p.tables e below S0 t := by
    intro tX kX
    refine pre210 _ ?_
    show own_s p e below T209 m 171 #[iv i0, iv i1, iv i2, .unset, .unset, .unset, .unset] [(.ref b2)] _
    refine XS.dup X211.here hx rfl (hb hby at_171) rfl rfl ?_
    show own_s p e below T209 m 172 #[iv i0, iv i1, iv i2, .unset, .unset, .unset, .unset] [(.ref b2), (.ref b2)] _
    refine XS.bipush X211.here hx rfl (hb hby at_172) ?_
    show own_s p e below T209 m 174 #[iv i0, iv i1, iv i2, .unset, .unset, .unset, .unset] [(.int (26 : Int32)), (.ref b2), (.ref b2)] _
    refine X211.ldcInt hx hown (mvT hZ (hw _ (List.mem_of_getElem? (i := 4) rfl))) (g := (mkF m 174 #[iv i0, iv i1, iv i2, .unset, .unset, .unset, .unset] [(.int (26 : Int32)), (.ref b2), (.ref b2)])) rfl (hb hby at_174) _ ?_
    exact kX
  obtain ⟨cl216, Ar216, S216, M216, H216⟩ := id fF214
  obtain ⟨T217, h217, X217, e217, W217, st217⟩ := stI X211 hx hZ e209 Ar216 (j := (26 : Int32)) (own_inb S216 M216 (by decide)) (g := (mkF m 176 #[iv i0, iv i1, iv i2, .unset, .unset, .unset, .unset] [(.int (65008 : Int32)), (.int (26 : Int32)), (.ref b2), (.ref b2)])) rfl rfl (hb hby at_176)
  have pre218 : ∀ t, own_s p e below T217 m 177 #[iv i0, iv i1, iv i2, .unset, .unset, .unset, .unset] [(.ref b2)] t → Steps p.tables e below S0 t := fun tX kX => pre215 _ (st217 _ kX)
  obtain ⟨LL219, X219, N219⟩ : ∃ LL, Stand p l e room_1 s m #[(.int i0), (.int i1), (.int i2)] below meth c T217 LL 1 33 ∧ Fr n0 LL := ⟨_, X217, Fr.snoc X217 N211 g_b2⟩
  have Z220 : n0 ≤ h217.size := Nat.le_trans Z212 (Keep.of_wr W217).1
  have f221_A : own_Af Z h217 b2 .int 33 (own_up ff214 (26 : Int32).toNatClampNeg (.int (65008 : Int32))) := own_Af.set Ar216 S216 M216 H216 W217
  obtain ⟨ff222, fF222, I222⟩ : ∃ f, own_Af Z h217 b2 .int 33 f ∧ own_isI f := ⟨_, f221_A, (own_isI.up I214 _ _)⟩
  have pre223 : ∀ t, own_s p e below T217 m 182 #[iv i0, iv i1, iv i2, .unset, .unset, .unset, .unset] [(.int (65533 : Int32)), (.int (27 : Int32)), (.ref b2), (.ref b2)] t → Steps p.tables e below S0 t := by
    intro tX kX
    refine pre218 _ ?_
    show own_s p e below T217 m 177 #[iv i0, iv i1, iv i2, .unset, .unset, .unset, .unset] [(.ref b2)] _
    refine XS.dup X219.here hx rfl (hb hby at_177) rfl rfl ?_
    show own_s p e below T217 m 178 #[iv i0, iv i1, iv i2, .unset, .unset, .unset, .unset] [(.ref b2), (.ref b2)] _
    refine XS.bipush X219.here hx rfl (hb hby at_178) ?_
    show own_s p e below T217 m 180 #[iv i0, iv i1, iv i2, .unset, .unset, .unset, .unset] [(.int (27 : Int32)), (.ref b2), (.ref b2)] _
    refine X219.ldcInt hx hown (mvT hZ (hw _ (List.mem_of_getElem? (i := 5) rfl))) (g := (mkF m 180 #[iv i0, iv i1, iv i2, .unset, .unset, .unset, .unset] [(.int (27 : Int32)), (.ref b2), (.ref b2)])) rfl (hb hby at_180) _ ?_
    exact kX
  obtain ⟨cl224, Ar224, S224, M224, H224⟩ := id fF222
  obtain ⟨T225, h225, X225, e225, W225, st225⟩ := stI X219 hx hZ e217 Ar224 (j := (27 : Int32)) (own_inb S224 M224 (by decide)) (g := (mkF m 182 #[iv i0, iv i1, iv i2, .unset, .unset, .unset, .unset] [(.int (65533 : Int32)), (.int (27 : Int32)), (.ref b2), (.ref b2)])) rfl rfl (hb hby at_182)
  have pre226 : ∀ t, own_s p e below T225 m 183 #[iv i0, iv i1, iv i2, .unset, .unset, .unset, .unset] [(.ref b2)] t → Steps p.tables e below S0 t := fun tX kX => pre223 _ (st225 _ kX)
  obtain ⟨LL227, X227, N227⟩ : ∃ LL, Stand p l e room_1 s m #[(.int i0), (.int i1), (.int i2)] below meth c T225 LL 1 33 ∧ Fr n0 LL := ⟨_, X225, Fr.snoc X225 N219 g_b2⟩
  have Z228 : n0 ≤ h225.size := Nat.le_trans Z220 (Keep.of_wr W225).1
  have f229_A : own_Af Z h225 b2 .int 33 (own_up ff222 (27 : Int32).toNatClampNeg (.int (65533 : Int32))) := own_Af.set Ar224 S224 M224 H224 W225
  obtain ⟨ff230, fF230, I230⟩ : ∃ f, own_Af Z h225 b2 .int 33 f ∧ own_isI f := ⟨_, f229_A, (own_isI.up I222 _ _)⟩
  have pre231 : ∀ t, own_s p e below T225 m 188 #[iv i0, iv i1, iv i2, .unset, .unset, .unset, .unset] [(.int (65536 : Int32)), (.int (28 : Int32)), (.ref b2), (.ref b2)] t → Steps p.tables e below S0 t := by
    intro tX kX
    refine pre226 _ ?_
    show own_s p e below T225 m 183 #[iv i0, iv i1, iv i2, .unset, .unset, .unset, .unset] [(.ref b2)] _
    refine XS.dup X227.here hx rfl (hb hby at_183) rfl rfl ?_
    show own_s p e below T225 m 184 #[iv i0, iv i1, iv i2, .unset, .unset, .unset, .unset] [(.ref b2), (.ref b2)] _
    refine XS.bipush X227.here hx rfl (hb hby at_184) ?_
    show own_s p e below T225 m 186 #[iv i0, iv i1, iv i2, .unset, .unset, .unset, .unset] [(.int (28 : Int32)), (.ref b2), (.ref b2)] _
    refine X227.ldcInt hx hown (mvT hZ (hw _ (List.mem_of_getElem? (i := 6) rfl))) (g := (mkF m 186 #[iv i0, iv i1, iv i2, .unset, .unset, .unset, .unset] [(.int (28 : Int32)), (.ref b2), (.ref b2)])) rfl (hb hby at_186) _ ?_
    exact kX
  obtain ⟨cl232, Ar232, S232, M232, H232⟩ := id fF230
  obtain ⟨T233, h233, X233, e233, W233, st233⟩ := stI X227 hx hZ e225 Ar232 (j := (28 : Int32)) (own_inb S232 M232 (by decide)) (g := (mkF m 188 #[iv i0, iv i1, iv i2, .unset, .unset, .unset, .unset] [(.int (65536 : Int32)), (.int (28 : Int32)), (.ref b2), (.ref b2)])) rfl rfl (hb hby at_188)
  have pre234 : ∀ t, own_s p e below T233 m 189 #[iv i0, iv i1, iv i2, .unset, .unset, .unset, .unset] [(.ref b2)] t → Steps p.tables e below S0 t := fun tX kX => pre231 _ (st233 _ kX)
  obtain ⟨LL235, X235, N235⟩ : ∃ LL, Stand p l e room_1 s m #[(.int i0), (.int i1), (.int i2)] below meth c T233 LL 1 33 ∧ Fr n0 LL := ⟨_, X233, Fr.snoc X233 N227 g_b2⟩
  have Z236 : n0 ≤ h233.size := Nat.le_trans Z228 (Keep.of_wr W233).1
  have f237_A : own_Af Z h233 b2 .int 33 (own_up ff230 (28 : Int32).toNatClampNeg (.int (65536 : Int32))) := own_Af.set Ar232 S232 M232 H232 W233
  obtain ⟨ff238, fF238, I238⟩ : ∃ f, own_Af Z h233 b2 .int 33 f ∧ own_isI f := ⟨_, f237_A, (own_isI.up I230 _ _)⟩
  have pre239 : ∀ t, own_s p e below T233 m 194 #[iv i0, iv i1, iv i2, .unset, .unset, .unset, .unset] [(.int (983039 : Int32)), (.int (29 : Int32)), (.ref b2), (.ref b2)] t → Steps p.tables e below S0 t := by
    intro tX kX
    refine pre234 _ ?_
    show own_s p e below T233 m 189 #[iv i0, iv i1, iv i2, .unset, .unset, .unset, .unset] [(.ref b2)] _
    refine XS.dup X235.here hx rfl (hb hby at_189) rfl rfl ?_
    show own_s p e below T233 m 190 #[iv i0, iv i1, iv i2, .unset, .unset, .unset, .unset] [(.ref b2), (.ref b2)] _
    refine XS.bipush X235.here hx rfl (hb hby at_190) ?_
    show own_s p e below T233 m 192 #[iv i0, iv i1, iv i2, .unset, .unset, .unset, .unset] [(.int (29 : Int32)), (.ref b2), (.ref b2)] _
    refine X235.ldcInt hx hown (mvT hZ (hw _ (List.mem_of_getElem? (i := 7) rfl))) (g := (mkF m 192 #[iv i0, iv i1, iv i2, .unset, .unset, .unset, .unset] [(.int (29 : Int32)), (.ref b2), (.ref b2)])) rfl (hb hby at_192) _ ?_
    exact kX
  obtain ⟨cl240, Ar240, S240, M240, H240⟩ := id fF238
  obtain ⟨T241, h241, X241, e241, W241, st241⟩ := stI X235 hx hZ e233 Ar240 (j := (29 : Int32)) (own_inb S240 M240 (by decide)) (g := (mkF m 194 #[iv i0, iv i1, iv i2, .unset, .unset, .unset, .unset] [(.int (983039 : Int32)), (.int (29 : Int32)), (.ref b2), (.ref b2)])) rfl rfl (hb hby at_194)
  have pre242 : ∀ t, own_s p e below T241 m 195 #[iv i0, iv i1, iv i2, .unset, .unset, .unset, .unset] [(.ref b2)] t → Steps p.tables e below S0 t := fun tX kX => pre239 _ (st241 _ kX)
  obtain ⟨LL243, X243, N243⟩ : ∃ LL, Stand p l e room_1 s m #[(.int i0), (.int i1), (.int i2)] below meth c T241 LL 1 33 ∧ Fr n0 LL := ⟨_, X241, Fr.snoc X241 N235 g_b2⟩
  have Z244 : n0 ≤ h241.size := Nat.le_trans Z236 (Keep.of_wr W241).1
  have f245_A : own_Af Z h241 b2 .int 33 (own_up ff238 (29 : Int32).toNatClampNeg (.int (983039 : Int32))) := own_Af.set Ar240 S240 M240 H240 W241
  obtain ⟨ff246, fF246, I246⟩ : ∃ f, own_Af Z h241 b2 .int 33 f ∧ own_isI f := ⟨_, f245_A, (own_isI.up I238 _ _)⟩
  have pre247 : ∀ t, own_s p e below T241 m 200 #[iv i0, iv i1, iv i2, .unset, .unset, .unset, .unset] [(.int (-2147483647 : Int32)), (.int (30 : Int32)), (.ref b2), (.ref b2)] t → Steps p.tables e below S0 t := by
    intro tX kX
    refine pre242 _ ?_
    show own_s p e below T241 m 195 #[iv i0, iv i1, iv i2, .unset, .unset, .unset, .unset] [(.ref b2)] _
    refine XS.dup X243.here hx rfl (hb hby at_195) rfl rfl ?_
    show own_s p e below T241 m 196 #[iv i0, iv i1, iv i2, .unset, .unset, .unset, .unset] [(.ref b2), (.ref b2)] _
    refine XS.bipush X243.here hx rfl (hb hby at_196) ?_
    show own_s p e below T241 m 198 #[iv i0, iv i1, iv i2, .unset, .unset, .unset, .unset] [(.int (30 : Int32)), (.ref b2), (.ref b2)] _
    refine X243.ldcInt hx hown (mvT hZ (hw _ (List.mem_of_getElem? (i := 8) rfl))) (g := (mkF m 198 #[iv i0, iv i1, iv i2, .unset, .unset, .unset, .unset] [(.int (30 : Int32)), (.ref b2), (.ref b2)])) rfl (hb hby at_198) _ ?_
    exact kX
  obtain ⟨cl248, Ar248, S248, M248, H248⟩ := id fF246
  obtain ⟨T249, h249, X249, e249, W249, st249⟩ := stI X243 hx hZ e241 Ar248 (j := (30 : Int32)) (own_inb S248 M248 (by decide)) (g := (mkF m 200 #[iv i0, iv i1, iv i2, .unset, .unset, .unset, .unset] [(.int (-2147483647 : Int32)), (.int (30 : Int32)), (.ref b2), (.ref b2)])) rfl rfl (hb hby at_200)
  have pre250 : ∀ t, own_s p e below T249 m 201 #[iv i0, iv i1, iv i2, .unset, .unset, .unset, .unset] [(.ref b2)] t → Steps p.tables e below S0 t := fun tX kX => pre247 _ (st249 _ kX)
  obtain ⟨LL251, X251, N251⟩ : ∃ LL, Stand p l e room_1 s m #[(.int i0), (.int i1), (.int i2)] below meth c T249 LL 1 33 ∧ Fr n0 LL := ⟨_, X249, Fr.snoc X249 N243 g_b2⟩
  have Z252 : n0 ≤ h249.size := Nat.le_trans Z244 (Keep.of_wr W249).1
  have f253_A : own_Af Z h249 b2 .int 33 (own_up ff246 (30 : Int32).toNatClampNeg (.int (-2147483647 : Int32))) := own_Af.set Ar248 S248 M248 H248 W249
  obtain ⟨ff254, fF254, I254⟩ : ∃ f, own_Af Z h249 b2 .int 33 f ∧ own_isI f := ⟨_, f253_A, (own_isI.up I246 _ _)⟩
  have pre255 : ∀ t, own_s p e below T249 m 206 #[iv i0, iv i1, iv i2, .unset, .unset, .unset, .unset] [(.int (2147483646 : Int32)), (.int (31 : Int32)), (.ref b2), (.ref b2)] t → Steps p.tables e below S0 t := by
    intro tX kX
    refine pre250 _ ?_
    show own_s p e below T249 m 201 #[iv i0, iv i1, iv i2, .unset, .unset, .unset, .unset] [(.ref b2)] _
    refine XS.dup X251.here hx rfl (hb hby at_201) rfl rfl ?_
    show own_s p e below T249 m 202 #[iv i0, iv i1, iv i2, .unset, .unset, .unset, .unset] [(.ref b2), (.ref b2)] _
    refine XS.bipush X251.here hx rfl (hb hby at_202) ?_
    show own_s p e below T249 m 204 #[iv i0, iv i1, iv i2, .unset, .unset, .unset, .unset] [(.int (31 : Int32)), (.ref b2), (.ref b2)] _
    refine X251.ldcInt hx hown (mvT hZ (hw _ (List.mem_of_getElem? (i := 9) rfl))) (g := (mkF m 204 #[iv i0, iv i1, iv i2, .unset, .unset, .unset, .unset] [(.int (31 : Int32)), (.ref b2), (.ref b2)])) rfl (hb hby at_204) _ ?_
    exact kX
  obtain ⟨cl256, Ar256, S256, M256, H256⟩ := id fF254
  obtain ⟨T257, h257, X257, e257, W257, st257⟩ := stI X251 hx hZ e249 Ar256 (j := (31 : Int32)) (own_inb S256 M256 (by decide)) (g := (mkF m 206 #[iv i0, iv i1, iv i2, .unset, .unset, .unset, .unset] [(.int (2147483646 : Int32)), (.int (31 : Int32)), (.ref b2), (.ref b2)])) rfl rfl (hb hby at_206)
  have pre258 : ∀ t, own_s p e below T257 m 207 #[iv i0, iv i1, iv i2, .unset, .unset, .unset, .unset] [(.ref b2)] t → Steps p.tables e below S0 t := fun tX kX => pre255 _ (st257 _ kX)
  obtain ⟨LL259, X259, N259⟩ : ∃ LL, Stand p l e room_1 s m #[(.int i0), (.int i1), (.int i2)] below meth c T257 LL 1 33 ∧ Fr n0 LL := ⟨_, X257, Fr.snoc X257 N251 g_b2⟩
  have Z260 : n0 ≤ h257.size := Nat.le_trans Z252 (Keep.of_wr W257).1
  have f261_A : own_Af Z h257 b2 .int 33 (own_up ff254 (31 : Int32).toNatClampNeg (.int (2147483646 : Int32))) := own_Af.set Ar256 S256 M256 H256 W257
  obtain ⟨ff262, fF262, I262⟩ : ∃ f, own_Af Z h257 b2 .int 33 f ∧ own_isI f := ⟨_, f261_A, (own_isI.up I254 _ _)⟩
  have pre263 : ∀ t, own_s p e below T257 m 211 #[iv i0, iv i1, iv i2, .unset, .unset, .unset, .unset] [(.int (0 : Int32)), (.int (32 : Int32)), (.ref b2), (.ref b2)] t → Steps p.tables e below S0 t := by
    intro tX kX
    refine pre258 _ ?_
    show own_s p e below T257 m 207 #[iv i0, iv i1, iv i2, .unset, .unset, .unset, .unset] [(.ref b2)] _
    refine XS.dup X259.here hx rfl (hb hby at_207) rfl rfl ?_
    show own_s p e below T257 m 208 #[iv i0, iv i1, iv i2, .unset, .unset, .unset, .unset] [(.ref b2), (.ref b2)] _
    refine XS.bipush X259.here hx rfl (hb hby at_208) ?_
    show own_s p e below T257 m 210 #[iv i0, iv i1, iv i2, .unset, .unset, .unset, .unset] [(.int (32 : Int32)), (.ref b2), (.ref b2)] _
    refine XS.iconst X259.here hx rfl (hb hby at_210) ?_
    exact kX
  obtain ⟨cl264, Ar264, S264, M264, H264⟩ := id fF262
  obtain ⟨T265, h265, X265, e265, W265, st265⟩ := stI X259 hx hZ e257 Ar264 (j := (32 : Int32)) (own_inb S264 M264 (by decide)) (g := (mkF m 211 #[iv i0, iv i1, iv i2, .unset, .unset, .unset, .unset] [(.int (0 : Int32)), (.int (32 : Int32)), (.ref b2), (.ref b2)])) rfl rfl (hb hby at_211)
  have pre266 : ∀ t, own_s p e below T265 m 212 #[iv i0, iv i1, iv i2, .unset, .unset, .unset, .unset] [(.ref b2)] t → Steps p.tables e below S0 t := fun tX kX => pre263 _ (st265 _ kX)
  obtain ⟨LL267, X267, N267⟩ : ∃ LL, Stand p l e room_1 s m #[(.int i0), (.int i1), (.int i2)] below meth c T265 LL 1 33 ∧ Fr n0 LL := ⟨_, X265, Fr.snoc X265 N259 g_b2⟩
  have Z268 : n0 ≤ h265.size := Nat.le_trans Z260 (Keep.of_wr W265).1
  have f269_A : own_Af Z h265 b2 .int 33 (own_up ff262 (32 : Int32).toNatClampNeg (.int (0 : Int32))) := own_Af.set Ar264 S264 M264 H264 W265
  obtain ⟨ff270, fF270, I270⟩ : ∃ f, own_Af Z h265 b2 .int 33 f ∧ own_isI f := ⟨_, f269_A, (own_isI.up I262 _ _)⟩
  have pre272 : ∀ t, own_s p e below T265 m 219 #[iv i0, iv i1, iv i2, rv b2, .unset, .unset, .unset] [(.ref b2), (.int (i1 &&& (2147483647 : Int32))), (.ref b2)] t → Steps p.tables e below S0 t := by
    intro tX kX
    refine pre266 _ ?_
    show own_s p e below T265 m 212 #[iv i0, iv i1, iv i2, .unset, .unset, .unset, .unset] [(.ref b2)] _
    refine XS.astoreN X267.here hx rfl (hb hby at_212) rfl rfl (l' := #[iv i0, iv i1, iv i2, rv b2, .unset, .unset, .unset]) rfl ?_
    show own_s p e below T265 m 213 #[iv i0, iv i1, iv i2, rv b2, .unset, .unset, .unset] [] _
    refine XS.aloadN X267.here hx rfl (hb hby at_213) rfl rfl ?_
    show own_s p e below T265 m 214 #[iv i0, iv i1, iv i2, rv b2, .unset, .unset, .unset] [(.ref b2)] _
    refine XS.iloadN X267.here hx rfl (hb hby at_214) rfl ?_
    show own_s p e below T265 m 215 #[iv i0, iv i1, iv i2, rv b2, .unset, .unset, .unset] [(.int i1), (.ref b2)] _
    refine X267.ldcInt hx hown (mvT hZ (hw _ (List.mem_of_getElem? (i := 10) rfl))) (g := (mkF m 215 #[iv i0, iv i1, iv i2, rv b2, .unset, .unset, .unset] [(.int i1), (.ref b2)])) rfl (hb hby at_215) _ ?_
    show own_s p e below T265 m 217 #[iv i0, iv i1, iv i2, rv b2, .unset, .unset, .unset] [(.int (2147483647 : Int32)), (.int i1), (.ref b2)] _
    refine XS.iand X267.here hx rfl (hb hby at_217) rfl ?_
    show own_s p e below T265 m 218 #[iv i0, iv i1, iv i2, rv b2, .unset, .unset, .unset] [(.int (i1 &&& (2147483647 : Int32))), (.ref b2)] _
    refine XS.aloadN X267.here hx rfl (hb hby at_218) rfl rfl ?_
    exact kX
  obtain ⟨cl271, Ar271, S271, M271, H271⟩ := id fF270
  have pre274 : ∀ t, own_s p e below T265 m 221 #[iv i0, iv i1, iv i2, rv b2, .unset, .unset, .unset] [(.int ((i1 &&& (2147483647 : Int32)) % (33 : Int32))), (.ref b2)] t → Steps p.tables e below S0 t := by
    intro tX kX
    refine pre272 _ ?_
    show own_s p e below T265 m 219 #[iv i0, iv i1, iv i2, rv b2, .unset, .unset, .unset] [(.ref b2), (.int (i1 &&& (2147483647 : Int32))), (.ref b2)] _
    refine X267.arraylength hx (by rw [e265]; exact Ar271.1) (State.isArrayOf_alike hZ.alike Ar271.2.1) (g := (mkF m 219 #[iv i0, iv i1, iv i2, rv b2, .unset, .unset, .unset] [(.ref b2), (.int (i1 &&& (2147483647 : Int32))), (.ref b2)])) rfl rfl (hb hby at_219) _ ?_
    rw [show cl271.slots.size.toInt32 = (33 : Int32) from by rw [S271]; exact rfl]
    show own_s p e below T265 m 220 #[iv i0, iv i1, iv i2, rv b2, .unset, .unset, .unset] [(.int (33 : Int32)), (.int (i1 &&& (2147483647 : Int32))), (.ref b2)] _
    refine iremM X267 hx rfl (hb hby at_220) rfl (by decide) ?_
    exact kX
  have mk := c_mask i1 2147483647 31 (by decide) (by decide)
  have rm := (c_irem (i1 &&& 2147483647) 33 33 (by decide)).1 (by omega)
  obtain ⟨z275, hz275⟩ := I270 (((i1 &&& (2147483647 : Int32)) % (33 : Int32)).toNatClampNeg)
  obtain ⟨cl273, Ar273, S273, M273, H273⟩ := id fF270
  have pre276 : ∀ t, own_s p e below T265 m 231 #[iv i0, iv i1, iv i2, rv b2, .unset, .unset, .unset] [(.int ((z275 + ((i2 &&& (2147483647 : Int32)) % (3 : Int32))) - (1 : Int32)))] t → Steps p.tables e below S0 t := by
    intro tX kX
    refine pre274 _ ?_
    show own_s p e below T265 m 221 #[iv i0, iv i1, iv i2, rv b2, .unset, .unset, .unset] [(.int ((i1 &&& (2147483647 : Int32)) % (33 : Int32))), (.ref b2)] _
    refine X267.iaload hx (j := ((i1 &&& (2147483647 : Int32)) % (33 : Int32))) (v := (.int z275)) (by rw [e265]; exact Ar273.1) (State.isArrayOf_alike hZ.alike Ar273.2.1) Ar273.2.2 (own_inb S273 M273 (own_idx (by omega) (by omega))) (own_get H273 S273 (own_idx (by omega) (by omega)) hz275) (g := (mkF m 221 #[iv i0, iv i1, iv i2, rv b2, .unset, .unset, .unset] [(.int ((i1 &&& (2147483647 : Int32)) % (33 : Int32))), (.ref b2)])) rfl rfl (hb hby at_221) _ ?_
    show own_s p e below T265 m 222 #[iv i0, iv i1, iv i2, rv b2, .unset, .unset, .unset] [(.int z275)] _
    refine XS.iloadN X267.here hx rfl (hb hby at_222) rfl ?_
    show own_s p e below T265 m 223 #[iv i0, iv i1, iv i2, rv b2, .unset, .unset, .unset] [(.int i2), (.int z275)] _
    refine X267.ldcInt hx hown (mvT hZ (hw _ (List.mem_of_getElem? (i := 10) rfl))) (g := (mkF m 223 #[iv i0, iv i1, iv i2, rv b2, .unset, .unset, .unset] [(.int i2), (.int z275)])) rfl (hb hby at_223) _ ?_
    show own_s p e below T265 m 225 #[iv i0, iv i1, iv i2, rv b2, .unset, .unset, .unset] [(.int (2147483647 : Int32)), (.int i2), (.int z275)] _
    refine XS.iand X267.here hx rfl (hb hby at_225) rfl ?_
    show own_s p e below T265 m 226 #[iv i0, iv i1, iv i2, rv b2, .unset, .unset, .unset] [(.int (i2 &&& (2147483647 : Int32))), (.int z275)] _
    refine XS.iconst X267.here hx rfl (hb hby at_226) ?_
    show own_s p e below T265 m 227 #[iv i0, iv i1, iv i2, rv b2, .unset, .unset, .unset] [(.int (3 : Int32)), (.int (i2 &&& (2147483647 : Int32))), (.int z275)] _
    refine iremM X267 hx rfl (hb hby at_227) rfl (by decide) ?_
    show own_s p e below T265 m 228 #[iv i0, iv i1, iv i2, rv b2, .unset, .unset, .unset] [(.int ((i2 &&& (2147483647 : Int32)) % (3 : Int32))), (.int z275)] _
    refine XS.iadd X267.here hx rfl (hb hby at_228) rfl ?_
    show own_s p e below T265 m 229 #[iv i0, iv i1, iv i2, rv b2, .unset, .unset, .unset] [(.int (z275 + ((i2 &&& (2147483647 : Int32)) % (3 : Int32))))] _
    refine XS.iconst X267.here hx rfl (hb hby at_229) ?_
    show own_s p e below T265 m 230 #[iv i0, iv i1, iv i2, rv b2, .unset, .unset, .unset] [(.int (1 : Int32)), (.int (z275 + ((i2 &&& (2147483647 : Int32)) % (3 : Int32))))] _
    refine XS.isub X267.here hx rfl (hb hby at_230) rfl ?_
    exact kX
  obtain ⟨pp, hpp⟩ : ∃ z : Int32, z = ((z275 + ((i2 &&& (2147483647 : Int32)) % (3 : Int32))) - (1 : Int32)) := ⟨_, rfl⟩
  rw [← hpp] at pre276
  have pre277 : ∀ t, own_s p e below T265 m 234 #[iv i0, iv i1, iv i2, rv b2, iv pp, .unset, .unset] [(.int i0)] t → Steps p.tables e below S0 t := by
    intro tX kX
    refine pre276 _ ?_
    show own_s p e below T265 m 231 #[iv i0, iv i1, iv i2, rv b2, .unset, .unset, .unset] [(.int pp)] _
    refine XS.istore X267.here hx rfl (hb hby at_231) rfl (l' := #[iv i0, iv i1, iv i2, rv b2, iv pp, .unset, .unset]) rfl ?_
    show own_s p e below T265 m 233 #[iv i0, iv i1, iv i2, rv b2, iv pp, .unset, .unset] [] _
    refine XS.iloadN X267.here hx rfl (hb hby at_233) rfl ?_
    exact kX
  obtain ⟨_, _, ⟨T278, L278, k278, n278⟩, -, X278, ⟨Lc278, hQ278, l278, y278, z278⟩, st278⟩ := Jvm.LawKit.callS X267 hx (y := (⟨"com/example/osier/osier/xml/XmlChars", "isNcNameStartChar", "(I)Z"⟩ : MethodName)) hown (mvT hZ (hw _ (List.mem_of_getElem? (i := 11) rfl))) (mvT hZ (hw _ (List.mem_of_getElem? (i := 12) rfl))) (mvT hZ (hw _ (List.mem_of_getElem? (i := 13) rfl))) (mvT hZ (hw _ (List.mem_of_getElem? (i := 14) rfl))) (by decide) (backOf (W := 0) (rm1 l Z a0 hw [] i0  h265 n0 Z268 ) hZ (hw _ (List.mem_of_getElem? (i := 14) rfl)) (hw _ (List.mem_of_getElem? (i := 13) rfl)) (by decide) (by decide)) (g := (mkF m 234 #[iv i0, iv i1, iv i2, rv b2, iv pp, .unset, .unset] [(.int i0)])) rfl (by rw [hml]; rfl) (argsL := [(.int i0)]) (rest := []) (lenOf pd0_0 rfl) rfl (by show 2 * 0 + _ ≤ _; exact Nat.le_of_eq rfl) (hb hby at_234) (fun _ _ => ⟨rfl, e265, (by decide : 1 + 0 ≤ _), (by decide : 33 + 0 ≤ _)⟩)
  dsimp only [Pt.U, Pt.locs, Pt.cells, Pt.slots] at X278 l278 y278 z278 st278 hQ278
  subst l278 y278 z278
  obtain ⟨rfl, Nq278, e278⟩ := hQ278
  have N278 := Fr.app N267 Nq278
  obtain ⟨LL279, X279, N279⟩ : ∃ LL, Stand p l e room_1 s m #[(.int i0), (.int i1), (.int i2)] below meth c T278 LL 1 33 ∧ Fr n0 LL := ⟨_, X278, N278⟩
  have pre280 : ∀ t, own_s p e below T278 m 237 #[iv i0, iv i1, iv i2, rv b2, iv pp, .unset, .unset] [(.int (own_nc i0))] t → Steps p.tables e below S0 t := fun tX kX => pre277 _ (st278 _ kX)
  have pre281 : ∀ t, own_s p e below T278 m 238 #[iv i0, iv i1, iv i2, rv b2, iv pp, .unset, .unset] [(.int i0), (.int (own_nc i0))] t → Steps p.tables e below S0 t := by
    intro tX kX
    refine pre280 _ ?_
    show own_s p e below T278 m 237 #[iv i0, iv i1, iv i2, rv b2, iv pp, .unset, .unset] [(.int (own_nc i0))] _
    refine XS.iloadN X279.here hx rfl (hb hby at_237) rfl ?_
    exact kX
  obtain ⟨_, _, ⟨T282, L282, k282, n282⟩, -, X282, ⟨Lc282, hQ282, l282, y282, z282⟩, st282⟩ := Jvm.LawKit.callS X279 hx (y := (⟨"com/example/osier/osier/xml/XmlCharsIsNcNameStartCharPinLaw", "excluded", "(I)Z"⟩ : MethodName)) hown (mvT hZ (hw _ (List.mem_of_getElem? (i := 18) rfl))) (mvT hZ (hw _ (List.mem_of_getElem? (i := 19) rfl))) (mvT hZ (hw _ (List.mem_of_getElem? (i := 20) rfl))) (mvT hZ (hw _ (List.mem_of_getElem? (i := 21) rfl))) (by decide) (backOf (W := 1) (rm2 l Z a0 hw [] i0  h265 n0 Z268 ) hZ (hw _ (List.mem_of_getElem? (i := 21) rfl)) (hw _ (List.mem_of_getElem? (i := 20) rfl)) (by decide) (by decide)) (g := (mkF m 238 #[iv i0, iv i1, iv i2, rv b2, iv pp, .unset, .unset] [(.int i0), (.int (own_nc i0))])) rfl (by rw [hml]; rfl) (argsL := [(.int i0)]) (rest := [(.int (own_nc i0))]) (lenOf pd0_0 rfl) rfl (by show 2 * 0 + _ ≤ _; exact Nat.le_of_eq rfl) (hb hby at_238) (fun _ _ => ⟨rfl, e278, (by decide : 1 + 0 ≤ _), (by decide : 33 + 0 ≤ _)⟩)
  dsimp only [Pt.U, Pt.locs, Pt.cells, Pt.slots] at X282 l282 y282 z282 st282 hQ282
  subst l282 y282 z282
  obtain ⟨rfl, Nq282, e282⟩ := hQ282
  have N282 := Fr.app N279 Nq282
  obtain ⟨LL283, X283, N283⟩ : ∃ LL, Stand p l e room_1 s m #[(.int i0), (.int i1), (.int i2)] below meth c T282 LL 1 33 ∧ Fr n0 LL := ⟨_, X282, N282⟩
  have pre284 : ∀ t, own_s p e below T282 m 241 #[iv i0, iv i1, iv i2, rv b2, iv pp, .unset, .unset] [(.int (own_ex i0)), (.int (own_nc i0))] t → Steps p.tables e below S0 t := fun tX kX => pre281 _ (st282 _ kX)
  by_cases hc285 : (own_ex i0) = (0 : Int32)
  · skip
    have pre286 : ∀ t, own_s p e below T282 m 261 #[iv i0, iv i1, iv i2, rv b2, iv pp, iv (1 : Int32), .unset] [(.int pp)] t → Steps p.tables e below S0 t := by
      intro tX kX
      refine pre284 _ ?_
      show own_s p e below T282 m 241 #[iv i0, iv i1, iv i2, rv b2, iv pp, .unset, .unset] [(.int (own_ex i0)), (.int (own_nc i0))] _
      refine XS.ifNo X283.here hx rfl (hb hby at_241) rfl ((if0 _ _).trans (teq hc285).2) ?_
      show own_s p e below T282 m 244 #[iv i0, iv i1, iv i2, rv b2, iv pp, .unset, .unset] [(.int (own_nc i0))] _
      refine XS.iconst X283.here hx rfl (hb hby at_244) ?_
      show own_s p e below T282 m 245 #[iv i0, iv i1, iv i2, rv b2, iv pp, .unset, .unset] [(.int (1 : Int32)), (.int (own_nc i0))] _
      refine XS.goto X283.here hx rfl (pc0 := 245) (pc' := 249) rfl (hb hby at_245) (by decide) (by decide) ?_
      show own_s p e below T282 m 249 #[iv i0, iv i1, iv i2, rv b2, iv pp, .unset, .unset] [(.int (1 : Int32)), (.int (own_nc i0))] _
      refine XS.icmpNo X283.here hx rfl (hb hby at_249) rfl (teq (own_nc1 hc285)).2 ?_
      show own_s p e below T282 m 252 #[iv i0, iv i1, iv i2, rv b2, iv pp, .unset, .unset] [] _
      refine XS.iconst X283.here hx rfl (hb hby at_252) ?_
      show own_s p e below T282 m 253 #[iv i0, iv i1, iv i2, rv b2, iv pp, .unset, .unset] [(.int (1 : Int32))] _
      refine XS.goto X283.here hx rfl (pc0 := 253) (pc' := 257) rfl (hb hby at_253) (by decide) (by decide) ?_
      show own_s p e below T282 m 257 #[iv i0, iv i1, iv i2, rv b2, iv pp, .unset, .unset] [(.int (1 : Int32))] _
      refine XS.istore X283.here hx rfl (hb hby at_257) rfl (l' := #[iv i0, iv i1, iv i2, rv b2, iv pp, iv (1 : Int32), .unset]) rfl ?_
      show own_s p e below T282 m 259 #[iv i0, iv i1, iv i2, rv b2, iv pp, iv (1 : Int32), .unset] [] _
      refine XS.iload X283.here hx rfl (hb hby at_259) rfl ?_
      exact kX
    obtain ⟨_, _, ⟨T287, L287, k287, n287⟩, -, X287, ⟨Lc287, hQ287, l287, y287, z287⟩, st287⟩ := Jvm.LawKit.callS X283 hx (y := (⟨"com/example/osier/osier/xml/XmlChars", "isNcNameStartChar", "(I)Z"⟩ : MethodName)) hown (mvT hZ (hw _ (List.mem_of_getElem? (i := 11) rfl))) (mvT hZ (hw _ (List.mem_of_getElem? (i := 12) rfl))) (mvT hZ (hw _ (List.mem_of_getElem? (i := 13) rfl))) (mvT hZ (hw _ (List.mem_of_getElem? (i := 14) rfl))) (by decide) (backOf (W := 0) (rm1 l Z a0 hw [] pp  h265 n0 Z268 ) hZ (hw _ (List.mem_of_getElem? (i := 14) rfl)) (hw _ (List.mem_of_getElem? (i := 13) rfl)) (by decide) (by decide)) (g := (mkF m 261 #[iv i0, iv i1, iv i2, rv b2, iv pp, iv (1 : Int32), .unset] [(.int pp)])) rfl (by rw [hml]; rfl) (argsL := [(.int pp)]) (rest := []) (lenOf pd0_0 rfl) rfl (by show 2 * 0 + _ ≤ _; exact Nat.le_of_eq rfl) (hb hby at_261) (fun _ _ => ⟨rfl, e282, (by decide : 1 + 0 ≤ _), (by decide : 33 + 0 ≤ _)⟩)
    dsimp only [Pt.U, Pt.locs, Pt.cells, Pt.slots] at X287 l287 y287 z287 st287 hQ287
    subst l287 y287 z287
    obtain ⟨rfl, Nq287, e287⟩ := hQ287
    have N287 := Fr.app N283 Nq287
    obtain ⟨LL288, X288, N288⟩ : ∃ LL, Stand p l e room_1 s m #[(.int i0), (.int i1), (.int i2)] below meth c T287 LL 1 33 ∧ Fr n0 LL := ⟨_, X287, N287⟩
    have pre289 : ∀ t, own_s p e below T287 m 264 #[iv i0, iv i1, iv i2, rv b2, iv pp, iv (1 : Int32), .unset] [(.int (own_nc pp))] t → Steps p.tables e below S0 t := fun tX kX => pre286 _ (st287 _ kX)
    have pre290 : ∀ t, own_s p e below T287 m 266 #[iv i0, iv i1, iv i2, rv b2, iv pp, iv (1 : Int32), .unset] [(.int pp), (.int (own_nc pp))] t → Steps p.tables e below S0 t := by
      intro tX kX
      refine pre289 _ ?_
      show own_s p e below T287 m 264 #[iv i0, iv i1, iv i2, rv b2, iv pp, iv (1 : Int32), .unset] [(.int (own_nc pp))] _
      refine XS.iload X288.here hx rfl (hb hby at_264) rfl ?_
      exact kX
    obtain ⟨_, _, ⟨T291, L291, k291, n291⟩, -, X291, ⟨Lc291, hQ291, l291, y291, z291⟩, st291⟩ := Jvm.LawKit.callS X288 hx (y := (⟨"com/example/osier/osier/xml/XmlCharsIsNcNameStartCharPinLaw", "excluded", "(I)Z"⟩ : MethodName)) hown (mvT hZ (hw _ (List.mem_of_getElem? (i := 18) rfl))) (mvT hZ (hw _ (List.mem_of_getElem? (i := 19) rfl))) (mvT hZ (hw _ (List.mem_of_getElem? (i := 20) rfl))) (mvT hZ (hw _ (List.mem_of_getElem? (i := 21) rfl))) (by decide) (backOf (W := 1) (rm2 l Z a0 hw [] pp  h265 n0 Z268 ) hZ (hw _ (List.mem_of_getElem? (i := 21) rfl)) (hw _ (List.mem_of_getElem? (i := 20) rfl)) (by decide) (by decide)) (g := (mkF m 266 #[iv i0, iv i1, iv i2, rv b2, iv pp, iv (1 : Int32), .unset] [(.int pp), (.int (own_nc pp))])) rfl (by rw [hml]; rfl) (argsL := [(.int pp)]) (rest := [(.int (own_nc pp))]) (lenOf pd0_0 rfl) rfl (by show 2 * 0 + _ ≤ _; exact Nat.le_of_eq rfl) (hb hby at_266) (fun _ _ => ⟨rfl, e287, (by decide : 1 + 0 ≤ _), (by decide : 33 + 0 ≤ _)⟩)
    dsimp only [Pt.U, Pt.locs, Pt.cells, Pt.slots] at X291 l291 y291 z291 st291 hQ291
    subst l291 y291 z291
    obtain ⟨rfl, Nq291, e291⟩ := hQ291
    have N291 := Fr.app N288 Nq291
    obtain ⟨LL292, X292, N292⟩ : ∃ LL, Stand p l e room_1 s m #[(.int i0), (.int i1), (.int i2)] below meth c T291 LL 1 33 ∧ Fr n0 LL := ⟨_, X291, N291⟩
    have pre293 : ∀ t, own_s p e below T291 m 269 #[iv i0, iv i1, iv i2, rv b2, iv pp, iv (1 : Int32), .unset] [(.int (own_ex pp)), (.int (own_nc pp))] t → Steps p.tables e below S0 t := fun tX kX => pre290 _ (st291 _ kX)
    by_cases hc294 : (own_ex pp) = (0 : Int32)
    · skip
      have pre295 : ∀ t, own_s p e below T291 m 302 #[iv i0, iv i1, iv i2, rv b2, iv pp, iv (1 : Int32), iv (1 : Int32)] [(.int (1 : Int32))] t → Steps p.tables e below S0 t := by
        intro tX kX
        refine pre293 _ ?_
        show own_s p e below T291 m 269 #[iv i0, iv i1, iv i2, rv b2, iv pp, iv (1 : Int32), .unset] [(.int (own_ex pp)), (.int (own_nc pp))] _
        refine XS.ifNo X292.here hx rfl (hb hby at_269) rfl ((if0 _ _).trans (teq hc294).2) ?_
        show own_s p e below T291 m 272 #[iv i0, iv i1, iv i2, rv b2, iv pp, iv (1 : Int32), .unset] [(.int (own_nc pp))] _
        refine XS.iconst X292.here hx rfl (hb hby at_272) ?_
        show own_s p e below T291 m 273 #[iv i0, iv i1, iv i2, rv b2, iv pp, iv (1 : Int32), .unset] [(.int (1 : Int32)), (.int (own_nc pp))] _
        refine XS.goto X292.here hx rfl (pc0 := 273) (pc' := 277) rfl (hb hby at_273) (by decide) (by decide) ?_
        show own_s p e below T291 m 277 #[iv i0, iv i1, iv i2, rv b2, iv pp, iv (1 : Int32), .unset] [(.int (1 : Int32)), (.int (own_nc pp))] _
        refine XS.icmpNo X292.here hx rfl (hb hby at_277) rfl (teq (own_nc1 hc294)).2 ?_
        show own_s p e below T291 m 280 #[iv i0, iv i1, iv i2, rv b2, iv pp, iv (1 : Int32), .unset] [] _
        refine XS.iconst X292.here hx rfl (hb hby at_280) ?_
        show own_s p e below T291 m 281 #[iv i0, iv i1, iv i2, rv b2, iv pp, iv (1 : Int32), .unset] [(.int (1 : Int32))] _
        refine XS.goto X292.here hx rfl (pc0 := 281) (pc' := 285) rfl (hb hby at_281) (by decide) (by decide) ?_
        show own_s p e below T291 m 285 #[iv i0, iv i1, iv i2, rv b2, iv pp, iv (1 : Int32), .unset] [(.int (1 : Int32))] _
        refine XS.istore X292.here hx rfl (hb hby at_285) rfl (l' := #[iv i0, iv i1, iv i2, rv b2, iv pp, iv (1 : Int32), iv (1 : Int32)]) rfl ?_
        show own_s p e below T291 m 287 #[iv i0, iv i1, iv i2, rv b2, iv pp, iv (1 : Int32), iv (1 : Int32)] [] _
        refine XS.iload X292.here hx rfl (hb hby at_287) rfl ?_
        show own_s p e below T291 m 289 #[iv i0, iv i1, iv i2, rv b2, iv pp, iv (1 : Int32), iv (1 : Int32)] [(.int (1 : Int32))] _
        refine XS.ifNo X292.here hx rfl (hb hby at_289) rfl ((if0 _ _).trans (feq (by decide : ¬ ((1 : Int32) = (0 : Int32)))).1) ?_
        show own_s p e below T291 m 292 #[iv i0, iv i1, iv i2, rv b2, iv pp, iv (1 : Int32), iv (1 : Int32)] [] _
        refine XS.iload X292.here hx rfl (hb hby at_292) rfl ?_
        show own_s p e below T291 m 294 #[iv i0, iv i1, iv i2, rv b2, iv pp, iv (1 : Int32), iv (1 : Int32)] [(.int (1 : Int32))] _
        refine XS.ifNo X292.here hx rfl (hb hby at_294) rfl ((if0 _ _).trans (feq (by decide : ¬ ((1 : Int32) = (0 : Int32)))).1) ?_
        show own_s p e below T291 m 297 #[iv i0, iv i1, iv i2, rv b2, iv pp, iv (1 : Int32), iv (1 : Int32)] [] _
        refine XS.iconst X292.here hx rfl (hb hby at_297) ?_
        show own_s p e below T291 m 298 #[iv i0, iv i1, iv i2, rv b2, iv pp, iv (1 : Int32), iv (1 : Int32)] [(.int (1 : Int32))] _
        refine XS.goto X292.here hx rfl (pc0 := 298) (pc' := 302) rfl (hb hby at_298) (by decide) (by decide) ?_
        exact kX
      subst hS0
      obtain ⟨fs, hr, hrun, hended, hW, hsame⟩ := X292.leave (v := (some (.int (1 : Int32)))) (fun h => by rw [Bd.returns] at h; cases h)
      refine ⟨_, _, pre295 _ (retN X292 hx (t := .boolean) Bd.returns (by simp) (hb hby at_302) hr), hrun, hended, _, _, rfl, ?_, ⟨_, rfl⟩, hW, hsame.mono (by decide) (by decide)⟩
      show Q0 Z i0 i1 i2 h0 n0 (some (.int (1 : Int32))) T291.heap _
      exact ⟨rfl, N292⟩
    · skip
      have pre296 : ∀ t, own_s p e below T291 m 302 #[iv i0, iv i1, iv i2, rv b2, iv pp, iv (1 : Int32), iv (1 : Int32)] [(.int (1 : Int32))] t → Steps p.tables e below S0 t := by
        intro tX kX
        refine pre293 _ ?_
        show own_s p e below T291 m 269 #[iv i0, iv i1, iv i2, rv b2, iv pp, iv (1 : Int32), .unset] [(.int (own_ex pp)), (.int (own_nc pp))] _
        refine XS.ifYes X292.here hx rfl (pc0 := 269) (pc' := 276) rfl (hb hby at_269) rfl ((if0 _ _).trans (feq hc294).2) (by decide) (by decide) ?_
        show own_s p e below T291 m 276 #[iv i0, iv i1, iv i2, rv b2, iv pp, iv (1 : Int32), .unset] [(.int (own_nc pp))] _
        refine XS.iconst X292.here hx rfl (hb hby at_276) ?_
        show own_s p e below T291 m 277 #[iv i0, iv i1, iv i2, rv b2, iv pp, iv (1 : Int32), .unset] [(.int (0 : Int32)), (.int (own_nc pp))] _
        refine XS.icmpNo X292.here hx rfl (hb hby at_277) rfl (teq (own_nc0 hc294)).2 ?_
        show own_s p e below T291 m 280 #[iv i0, iv i1, iv i2, rv b2, iv pp, iv (1 : Int32), .unset] [] _
        refine XS.iconst X292.here hx rfl (hb hby at_280) ?_
        show own_s p e below T291 m 281 #[iv i0, iv i1, iv i2, rv b2, iv pp, iv (1 : Int32), .unset] [(.int (1 : Int32))] _
        refine XS.goto X292.here hx rfl (pc0 := 281) (pc' := 285) rfl (hb hby at_281) (by decide) (by decide) ?_
        show own_s p e below T291 m 285 #[iv i0, iv i1, iv i2, rv b2, iv pp, iv (1 : Int32), .unset] [(.int (1 : Int32))] _
        refine XS.istore X292.here hx rfl (hb hby at_285) rfl (l' := #[iv i0, iv i1, iv i2, rv b2, iv pp, iv (1 : Int32), iv (1 : Int32)]) rfl ?_
        show own_s p e below T291 m 287 #[iv i0, iv i1, iv i2, rv b2, iv pp, iv (1 : Int32), iv (1 : Int32)] [] _
        refine XS.iload X292.here hx rfl (hb hby at_287) rfl ?_
        show own_s p e below T291 m 289 #[iv i0, iv i1, iv i2, rv b2, iv pp, iv (1 : Int32), iv (1 : Int32)] [(.int (1 : Int32))] _
        refine XS.ifNo X292.here hx rfl (hb hby at_289) rfl ((if0 _ _).trans (feq (by decide : ¬ ((1 : Int32) = (0 : Int32)))).1) ?_
        show own_s p e below T291 m 292 #[iv i0, iv i1, iv i2, rv b2, iv pp, iv (1 : Int32), iv (1 : Int32)] [] _
        refine XS.iload X292.here hx rfl (hb hby at_292) rfl ?_
        show own_s p e below T291 m 294 #[iv i0, iv i1, iv i2, rv b2, iv pp, iv (1 : Int32), iv (1 : Int32)] [(.int (1 : Int32))] _
        refine XS.ifNo X292.here hx rfl (hb hby at_294) rfl ((if0 _ _).trans (feq (by decide : ¬ ((1 : Int32) = (0 : Int32)))).1) ?_
        show own_s p e below T291 m 297 #[iv i0, iv i1, iv i2, rv b2, iv pp, iv (1 : Int32), iv (1 : Int32)] [] _
        refine XS.iconst X292.here hx rfl (hb hby at_297) ?_
        show own_s p e below T291 m 298 #[iv i0, iv i1, iv i2, rv b2, iv pp, iv (1 : Int32), iv (1 : Int32)] [(.int (1 : Int32))] _
        refine XS.goto X292.here hx rfl (pc0 := 298) (pc' := 302) rfl (hb hby at_298) (by decide) (by decide) ?_
        exact kX
      subst hS0
      obtain ⟨fs, hr, hrun, hended, hW, hsame⟩ := X292.leave (v := (some (.int (1 : Int32)))) (fun h => by rw [Bd.returns] at h; cases h)
      refine ⟨_, _, pre296 _ (retN X292 hx (t := .boolean) Bd.returns (by simp) (hb hby at_302) hr), hrun, hended, _, _, rfl, ?_, ⟨_, rfl⟩, hW, hsame.mono (by decide) (by decide)⟩
      show Q0 Z i0 i1 i2 h0 n0 (some (.int (1 : Int32))) T291.heap _
      exact ⟨rfl, N292⟩
  · skip
    have pre297 : ∀ t, own_s p e below T282 m 261 #[iv i0, iv i1, iv i2, rv b2, iv pp, iv (1 : Int32), .unset] [(.int pp)] t → Steps p.tables e below S0 t := by
      intro tX kX
      refine pre284 _ ?_
      show own_s p e below T282 m 241 #[iv i0, iv i1, iv i2, rv b2, iv pp, .unset, .unset] [(.int (own_ex i0)), (.int (own_nc i0))] _
      refine XS.ifYes X283.here hx rfl (pc0 := 241) (pc' := 248) rfl (hb hby at_241) rfl ((if0 _ _).trans (feq hc285).2) (by decide) (by decide) ?_
      show own_s p e below T282 m 248 #[iv i0, iv i1, iv i2, rv b2, iv pp, .unset, .unset] [(.int (own_nc i0))] _
      refine XS.iconst X283.here hx rfl (hb hby at_248) ?_
      show own_s p e below T282 m 249 #[iv i0, iv i1, iv i2, rv b2, iv pp, .unset, .unset] [(.int (0 : Int32)), (.int (own_nc i0))] _
      refine XS.icmpNo X283.here hx rfl (hb hby at_249) rfl (teq (own_nc0 hc285)).2 ?_
      show own_s p e below T282 m 252 #[iv i0, iv i1, iv i2, rv b2, iv pp, .unset, .unset] [] _
      refine XS.iconst X283.here hx rfl (hb hby at_252) ?_
      show own_s p e below T282 m 253 #[iv i0, iv i1, iv i2, rv b2, iv pp, .unset, .unset] [(.int (1 : Int32))] _
      refine XS.goto X283.here hx rfl (pc0 := 253) (pc' := 257) rfl (hb hby at_253) (by decide) (by decide) ?_
      show own_s p e below T282 m 257 #[iv i0, iv i1, iv i2, rv b2, iv pp, .unset, .unset] [(.int (1 : Int32))] _
      refine XS.istore X283.here hx rfl (hb hby at_257) rfl (l' := #[iv i0, iv i1, iv i2, rv b2, iv pp, iv (1 : Int32), .unset]) rfl ?_
      show own_s p e below T282 m 259 #[iv i0, iv i1, iv i2, rv b2, iv pp, iv (1 : Int32), .unset] [] _
      refine XS.iload X283.here hx rfl (hb hby at_259) rfl ?_
      exact kX
    obtain ⟨_, _, ⟨T298, L298, k298, n298⟩, -, X298, ⟨Lc298, hQ298, l298, y298, z298⟩, st298⟩ := Jvm.LawKit.callS X283 hx (y := (⟨"com/example/osier/osier/xml/XmlChars", "isNcNameStartChar", "(I)Z"⟩ : MethodName)) hown (mvT hZ (hw _ (List.mem_of_getElem? (i := 11) rfl))) (mvT hZ (hw _ (List.mem_of_getElem? (i := 12) rfl))) (mvT hZ (hw _ (List.mem_of_getElem? (i := 13) rfl))) (mvT hZ (hw _ (List.mem_of_getElem? (i := 14) rfl))) (by decide) (backOf (W := 0) (rm1 l Z a0 hw [] pp  h265 n0 Z268 ) hZ (hw _ (List.mem_of_getElem? (i := 14) rfl)) (hw _ (List.mem_of_getElem? (i := 13) rfl)) (by decide) (by decide)) (g := (mkF m 261 #[iv i0, iv i1, iv i2, rv b2, iv pp, iv (1 : Int32), .unset] [(.int pp)])) rfl (by rw [hml]; rfl) (argsL := [(.int pp)]) (rest := []) (lenOf pd0_0 rfl) rfl (by show 2 * 0 + _ ≤ _; exact Nat.le_of_eq rfl) (hb hby at_261) (fun _ _ => ⟨rfl, e282, (by decide : 1 + 0 ≤ _), (by decide : 33 + 0 ≤ _)⟩)
    dsimp only [Pt.U, Pt.locs, Pt.cells, Pt.slots] at X298 l298 y298 z298 st298 hQ298
    subst l298 y298 z298
    obtain ⟨rfl, Nq298, e298⟩ := hQ298
    have N298 := Fr.app N283 Nq298
    obtain ⟨LL299, X299, N299⟩ : ∃ LL, Stand p l e room_1 s m #[(.int i0), (.int i1), (.int i2)] below meth c T298 LL 1 33 ∧ Fr n0 LL := ⟨_, X298, N298⟩
    have pre300 : ∀ t, own_s p e below T298 m 264 #[iv i0, iv i1, iv i2, rv b2, iv pp, iv (1 : Int32), .unset] [(.int (own_nc pp))] t → Steps p.tables e below S0 t := fun tX kX => pre297 _ (st298 _ kX)
    have pre301 : ∀ t, own_s p e below T298 m 266 #[iv i0, iv i1, iv i2, rv b2, iv pp, iv (1 : Int32), .unset] [(.int pp), (.int (own_nc pp))] t → Steps p.tables e below S0 t := by
      intro tX kX
      refine pre300 _ ?_
      show own_s p e below T298 m 264 #[iv i0, iv i1, iv i2, rv b2, iv pp, iv (1 : Int32), .unset] [(.int (own_nc pp))] _
      refine XS.iload X299.here hx rfl (hb hby at_264) rfl ?_
      exact kX
    obtain ⟨_, _, ⟨T302, L302, k302, n302⟩, -, X302, ⟨Lc302, hQ302, l302, y302, z302⟩, st302⟩ := Jvm.LawKit.callS X299 hx (y := (⟨"com/example/osier/osier/xml/XmlCharsIsNcNameStartCharPinLaw", "excluded", "(I)Z"⟩ : MethodName)) hown (mvT hZ (hw _ (List.mem_of_getElem? (i := 18) rfl))) (mvT hZ (hw _ (List.mem_of_getElem? (i := 19) rfl))) (mvT hZ (hw _ (List.mem_of_getElem? (i := 20) rfl))) (mvT hZ (hw _ (List.mem_of_getElem? (i := 21) rfl))) (by decide) (backOf (W := 1) (rm2 l Z a0 hw [] pp  h265 n0 Z268 ) hZ (hw _ (List.mem_of_getElem? (i := 21) rfl)) (hw _ (List.mem_of_getElem? (i := 20) rfl)) (by decide) (by decide)) (g := (mkF m 266 #[iv i0, iv i1, iv i2, rv b2, iv pp, iv (1 : Int32), .unset] [(.int pp), (.int (own_nc pp))])) rfl (by rw [hml]; rfl) (argsL := [(.int pp)]) (rest := [(.int (own_nc pp))]) (lenOf pd0_0 rfl) rfl (by show 2 * 0 + _ ≤ _; exact Nat.le_of_eq rfl) (hb hby at_266) (fun _ _ => ⟨rfl, e298, (by decide : 1 + 0 ≤ _), (by decide : 33 + 0 ≤ _)⟩)
    dsimp only [Pt.U, Pt.locs, Pt.cells, Pt.slots] at X302 l302 y302 z302 st302 hQ302
    subst l302 y302 z302
    obtain ⟨rfl, Nq302, e302⟩ := hQ302
    have N302 := Fr.app N299 Nq302
    obtain ⟨LL303, X303, N303⟩ : ∃ LL, Stand p l e room_1 s m #[(.int i0), (.int i1), (.int i2)] below meth c T302 LL 1 33 ∧ Fr n0 LL := ⟨_, X302, N302⟩
    have pre304 : ∀ t, own_s p e below T302 m 269 #[iv i0, iv i1, iv i2, rv b2, iv pp, iv (1 : Int32), .unset] [(.int (own_ex pp)), (.int (own_nc pp))] t → Steps p.tables e below S0 t := fun tX kX => pre301 _ (st302 _ kX)
    by_cases hc305 : (own_ex pp) = (0 : Int32)
    · skip
      have pre306 : ∀ t, own_s p e below T302 m 302 #[iv i0, iv i1, iv i2, rv b2, iv pp, iv (1 : Int32), iv (1 : Int32)] [(.int (1 : Int32))] t → Steps p.tables e below S0 t := by
        intro tX kX
        refine pre304 _ ?_
        show own_s p e below T302 m 269 #[iv i0, iv i1, iv i2, rv b2, iv pp, iv (1 : Int32), .unset] [(.int (own_ex pp)), (.int (own_nc pp))] _
        refine XS.ifNo X303.here hx rfl (hb hby at_269) rfl ((if0 _ _).trans (teq hc305).2) ?_
        show own_s p e below T302 m 272 #[iv i0, iv i1, iv i2, rv b2, iv pp, iv (1 : Int32), .unset] [(.int (own_nc pp))] _
        refine XS.iconst X303.here hx rfl (hb hby at_272) ?_
        show own_s p e below T302 m 273 #[iv i0, iv i1, iv i2, rv b2, iv pp, iv (1 : Int32), .unset] [(.int (1 : Int32)), (.int (own_nc pp))] _
        refine XS.goto X303.here hx rfl (pc0 := 273) (pc' := 277) rfl (hb hby at_273) (by decide) (by decide) ?_
        show own_s p e below T302 m 277 #[iv i0, iv i1, iv i2, rv b2, iv pp, iv (1 : Int32), .unset] [(.int (1 : Int32)), (.int (own_nc pp))] _
        refine XS.icmpNo X303.here hx rfl (hb hby at_277) rfl (teq (own_nc1 hc305)).2 ?_
        show own_s p e below T302 m 280 #[iv i0, iv i1, iv i2, rv b2, iv pp, iv (1 : Int32), .unset] [] _
        refine XS.iconst X303.here hx rfl (hb hby at_280) ?_
        show own_s p e below T302 m 281 #[iv i0, iv i1, iv i2, rv b2, iv pp, iv (1 : Int32), .unset] [(.int (1 : Int32))] _
        refine XS.goto X303.here hx rfl (pc0 := 281) (pc' := 285) rfl (hb hby at_281) (by decide) (by decide) ?_
        show own_s p e below T302 m 285 #[iv i0, iv i1, iv i2, rv b2, iv pp, iv (1 : Int32), .unset] [(.int (1 : Int32))] _
        refine XS.istore X303.here hx rfl (hb hby at_285) rfl (l' := #[iv i0, iv i1, iv i2, rv b2, iv pp, iv (1 : Int32), iv (1 : Int32)]) rfl ?_
        show own_s p e below T302 m 287 #[iv i0, iv i1, iv i2, rv b2, iv pp, iv (1 : Int32), iv (1 : Int32)] [] _
        refine XS.iload X303.here hx rfl (hb hby at_287) rfl ?_
        show own_s p e below T302 m 289 #[iv i0, iv i1, iv i2, rv b2, iv pp, iv (1 : Int32), iv (1 : Int32)] [(.int (1 : Int32))] _
        refine XS.ifNo X303.here hx rfl (hb hby at_289) rfl ((if0 _ _).trans (feq (by decide : ¬ ((1 : Int32) = (0 : Int32)))).1) ?_
        show own_s p e below T302 m 292 #[iv i0, iv i1, iv i2, rv b2, iv pp, iv (1 : Int32), iv (1 : Int32)] [] _
        refine XS.iload X303.here hx rfl (hb hby at_292) rfl ?_
        show own_s p e below T302 m 294 #[iv i0, iv i1, iv i2, rv b2, iv pp, iv (1 : Int32), iv (1 : Int32)] [(.int (1 : Int32))] _
        refine XS.ifNo X303.here hx rfl (hb hby at_294) rfl ((if0 _ _).trans (feq (by decide : ¬ ((1 : Int32) = (0 : Int32)))).1) ?_
        show own_s p e below T302 m 297 #[iv i0, iv i1, iv i2, rv b2, iv pp, iv (1 : Int32), iv (1 : Int32)] [] _
        refine XS.iconst X303.here hx rfl (hb hby at_297) ?_
        show own_s p e below T302 m 298 #[iv i0, iv i1, iv i2, rv b2, iv pp, iv (1 : Int32), iv (1 : Int32)] [(.int (1 : Int32))] _
        refine XS.goto X303.here hx rfl (pc0 := 298) (pc' := 302) rfl (hb hby at_298) (by decide) (by decide) ?_
        exact kX
      subst hS0
      obtain ⟨fs, hr, hrun, hended, hW, hsame⟩ := X303.leave (v := (some (.int (1 : Int32)))) (fun h => by rw [Bd.returns] at h; cases h)
      refine ⟨_, _, pre306 _ (retN X303 hx (t := .boolean) Bd.returns (by simp) (hb hby at_302) hr), hrun, hended, _, _, rfl, ?_, ⟨_, rfl⟩, hW, hsame.mono (by decide) (by decide)⟩
      show Q0 Z i0 i1 i2 h0 n0 (some (.int (1 : Int32))) T302.heap _
      exact ⟨rfl, N303⟩
    · skip
      have pre307 : ∀ t, own_s p e below T302 m 302 #[iv i0, iv i1, iv i2, rv b2, iv pp, iv (1 : Int32), iv (1 : Int32)] [(.int (1 : Int32))] t → Steps p.tables e below S0 t := by
        intro tX kX
        refine pre304 _ ?_
        show own_s p e below T302 m 269 #[iv i0, iv i1, iv i2, rv b2, iv pp, iv (1 : Int32), .unset] [(.int (own_ex pp)), (.int (own_nc pp))] _
        refine XS.ifYes X303.here hx rfl (pc0 := 269) (pc' := 276) rfl (hb hby at_269) rfl ((if0 _ _).trans (feq hc305).2) (by decide) (by decide) ?_
        show own_s p e below T302 m 276 #[iv i0, iv i1, iv i2, rv b2, iv pp, iv (1 : Int32), .unset] [(.int (own_nc pp))] _
        refine XS.iconst X303.here hx rfl (hb hby at_276) ?_
        show own_s p e below T302 m 277 #[iv i0, iv i1, iv i2, rv b2, iv pp, iv (1 : Int32), .unset] [(.int (0 : Int32)), (.int (own_nc pp))] _
        refine XS.icmpNo X303.here hx rfl (hb hby at_277) rfl (teq (own_nc0 hc305)).2 ?_
        show own_s p e below T302 m 280 #[iv i0, iv i1, iv i2, rv b2, iv pp, iv (1 : Int32), .unset] [] _
        refine XS.iconst X303.here hx rfl (hb hby at_280) ?_
        show own_s p e below T302 m 281 #[iv i0, iv i1, iv i2, rv b2, iv pp, iv (1 : Int32), .unset] [(.int (1 : Int32))] _
        refine XS.goto X303.here hx rfl (pc0 := 281) (pc' := 285) rfl (hb hby at_281) (by decide) (by decide) ?_
        show own_s p e below T302 m 285 #[iv i0, iv i1, iv i2, rv b2, iv pp, iv (1 : Int32), .unset] [(.int (1 : Int32))] _
        refine XS.istore X303.here hx rfl (hb hby at_285) rfl (l' := #[iv i0, iv i1, iv i2, rv b2, iv pp, iv (1 : Int32), iv (1 : Int32)]) rfl ?_
        show own_s p e below T302 m 287 #[iv i0, iv i1, iv i2, rv b2, iv pp, iv (1 : Int32), iv (1 : Int32)] [] _
        refine XS.iload X303.here hx rfl (hb hby at_287) rfl ?_
        show own_s p e below T302 m 289 #[iv i0, iv i1, iv i2, rv b2, iv pp, iv (1 : Int32), iv (1 : Int32)] [(.int (1 : Int32))] _
        refine XS.ifNo X303.here hx rfl (hb hby at_289) rfl ((if0 _ _).trans (feq (by decide : ¬ ((1 : Int32) = (0 : Int32)))).1) ?_
        show own_s p e below T302 m 292 #[iv i0, iv i1, iv i2, rv b2, iv pp, iv (1 : Int32), iv (1 : Int32)] [] _
        refine XS.iload X303.here hx rfl (hb hby at_292) rfl ?_
        show own_s p e below T302 m 294 #[iv i0, iv i1, iv i2, rv b2, iv pp, iv (1 : Int32), iv (1 : Int32)] [(.int (1 : Int32))] _
        refine XS.ifNo X303.here hx rfl (hb hby at_294) rfl ((if0 _ _).trans (feq (by decide : ¬ ((1 : Int32) = (0 : Int32)))).1) ?_
        show own_s p e below T302 m 297 #[iv i0, iv i1, iv i2, rv b2, iv pp, iv (1 : Int32), iv (1 : Int32)] [] _
        refine XS.iconst X303.here hx rfl (hb hby at_297) ?_
        show own_s p e below T302 m 298 #[iv i0, iv i1, iv i2, rv b2, iv pp, iv (1 : Int32), iv (1 : Int32)] [(.int (1 : Int32))] _
        refine XS.goto X303.here hx rfl (pc0 := 298) (pc' := 302) rfl (hb hby at_298) (by decide) (by decide) ?_
        exact kX
      subst hS0
      obtain ⟨fs, hr, hrun, hended, hW, hsame⟩ := X303.leave (v := (some (.int (1 : Int32)))) (fun h => by rw [Bd.returns] at h; cases h)
      refine ⟨_, _, pre307 _ (retN X303 hx (t := .boolean) Bd.returns (by simp) (hb hby at_302) hr), hrun, hended, _, _, rfl, ?_, ⟨_, rfl⟩, hW, hsame.mono (by decide) (by decide)⟩
      show Q0 Z i0 i1 i2 h0 n0 (some (.int (1 : Int32))) T302.heap _
      exact ⟨rfl, N303⟩
set_option maxRecDepth 65536 in
set_option maxHeartbeats 40000000 in
theorem comes_1 {Post : Tables → Env → Array Value → State → Outcome → State → Prop} (hpost : ∀ tb e args s v u, (limb_1_1.after args s (.returned v) u = true ∧ limb_1_2.after args s (.returned v) u = true ∧ True) → FrameEnd s (.returned v) u (Jvm.fieldLocs frame_1_writes args s ++ Jvm.arrayLocs frame_1_arrays args s ++ Jvm.staticLocs frame_1_statics s) 16 192 → Post tb e args s (.returned v) u) :
    ArmFor flags0 classFile x code maxLocals ret World_1 tables_1 room_1 Calls_1 rest_1 Pre_1 Post := by
  intro l hfl _ _ p e ha hc hk s m args below hf hA hF happ hP
  obtain ⟨hcalls, hrest, hpre⟩ := hP
  obtain ⟨-, -, -, hnamed, -, -, -, hat⟩ := (Spec.applies_iff hf).mp happ
  obtain ⟨hg, hn⟩ := and_e (Cond.before_iff.mp (show (Jvm.Cond.and given_1 narrow_1).before args s = true from hpre))
  obtain ⟨hcnt, q0⟩ := and_e hg
  obtain ⟨ha0, q1⟩ := and_e q0
  obtain ⟨ha1, q2⟩ := and_e q1
  have ha2 := q2
  obtain ⟨w0, w1, w2, rfl⟩ : ∃ w0 w1 w2 : Value, args = #[w0, w1, w2] := by
    have hs : args.size = 3 := by simpa [Cond.value, given_1] using hcnt
    obtain ⟨L⟩ := args
    match L, hs with
    | [w0, w1, w2], _ => exact ⟨w0, w1, w2, rfl⟩
  have hw := fun d (hd : d ∈ tables_1) => atoms_spec (ws := Jvm.Cond.code x code maxLocals ret :: tables_1) hat d (List.mem_cons_of_mem _ hd)
  have hfit : Fit s := fun {y c} hc i hi => by
    obtain ⟨ha, rfl⟩ := Array.getElem?_eq_some_iff.mp hc
    have q := List.all_eq_true.mp ((Array.all_eq_true_iff_forall_mem.mp hF) _ (Array.getElem_mem ha)) i (List.mem_range.mpr hi)
    simpa [Array.getElem?_eq_getElem hi] using q
  obtain ⟨i0, ei0⟩ := is_v ha0
  obtain rfl : w0 = (.int i0) := Option.some.inj ei0
  obtain ⟨i1, ei1⟩ := is_v ha1
  obtain rfl : w1 = (.int i1) := Option.some.inj ei1
  obtain ⟨i2, ei2⟩ := is_v ha2
  obtain rfl : w2 = (.int i2) := Option.some.inj ei2
  obtain ⟨n, o, h1, h2, h3, _, L, rfl, ⟨rfl, N⟩, hq⟩ := rm0 l s _ hw tables_1 i0 i1 i2  s.heap s.heap.size (Nat.le_refl _)  p e ha hc hk s m _ below hf ((Spec.applies_iff_loose hf).mp happ).1 ⟨rfl, State.Warmed39.refl s, rfl⟩ trivial
  refine ⟨n, _, h1, h2, h3, hpost _ _ _ _ _ _ ⟨Cond.after_iff.mpr rfl, Cond.after_iff.mpr (eq_i res_at (Term.int_eval (1)) rfl), trivial⟩ ⟨hq.1, hq.2.1, (hq.2.2.sift fun y hy => Or.inr (N y hy)).mono (by decide) (by decide)⟩⟩
theorem main_1_1 : Claimed_1_1 := comes_1 fun _ _ _ _ _ _ h hF => ⟨h.1, hF⟩
theorem main_1_2 : Claimed_1_2 := comes_1 fun _ _ _ _ _ _ h hF => ⟨h.2.1, hF⟩
end Jvm.Pilot.@@N@@
namespace Jvm.Pilot.@@N@@
open Jvm Jvm.ClassFile Sem Op Lib Jvm.Free Jvm.Stand Jvm.Pilot.@@N@@.Jvm.D
/-! MADE BY PROGRAM (witnessworld.py) out of the Statement's table words and the real class files: 9 classes; the members and pool entries that the words name. The judged class is class 1, her method 2. -/
namespace start1
open Jvm.ClassFile
def u (s : String) : CpInfo := .utf8 (stringToUtf16 s)
/-- a pool by its gaps: so many unusable entries, then the entry; so many at the end -/
def gap : Nat → List CpInfo → List CpInfo
  | 0, r => r
  | n + 1, r => .unusable :: gap n r
def poolList (es : List (Nat × CpInfo)) (last : Nat) : List CpInfo := es.foldr (fun e r => gap e.1 (e.2 :: r)) (gap last [])
def pool (es : List (Nat × CpInfo)) (last : Nat) : Array CpInfo := ⟨poolList es last⟩
def fileOf (pool : Array CpInfo) (this : Nat) (attrs : Array Attribute := #[]) (ms : Array MethodInfo := #[]) (fl : Nat := 33) (sup : Nat := 0) (ifs : Array Nat := #[]) (fds : Array FieldInfo := #[]) : ClassFile where
  minorVersion := 0
  majorVersion := 65
  constantPool := pool
  accessFlags := fl
  thisClass := this
  superClass := sup
  interfaces := ifs
  fields := fds
  methods := ms
  attributes := attrs
def plain (name : String) (sup : Option ClassId) : Class where
  name := name
  kind := .ordinary
  loader := none
  accessFlags := 33
  super := sup
  interfaces := #[]
  cf := none
  fields := #[]
  methods := #[]
  instanceTypes := #[]
  staticTypes := #[]
  resolved := #[]
  callSites := []
  init := .initialized
  statics := none
  mirror := none

def pool0 : Array CpInfo := pool [(5, u "<init>"), (0, u "()V"), (1, .class_ 10), (1, u "java/lang/Object")] 113

def k0m0 : Method := { name := "<init>", desc := "()V", sig := { parameters := [], returnType := none }, accessFlags := 1, code := none }
/-- java/lang/Object -/
def k0 : Class := { plain "java/lang/Object" none with
  accessFlags := 33
  interfaces := #[]
  cf := some (fileOf pool0 8 #[] #[{ accessFlags := 1, nameIndex := 5, descriptorIndex := 6, attributes := #[] }] 33 0 #[] #[])
  fields := #[]
  methods := #[k0m0]
  instanceTypes := #[]
  staticTypes := #[]
  resolved := Array.replicate 124 none
  statics := none }

def pool1 : Array CpInfo := pool [(2, .class_ 4), (1, u "java/lang/Object"), (0, u "<init>"), (0, u "()V"), (0, .integer 55296), (0, .integer 63743), (0, .integer 64976), (0, .integer 65007), (0, .integer 65534), (0, .integer 65535), (0, .integer 983039), (0, .integer 55295), (0, .integer 63744), (0, .integer 64975), (0, .integer 65008), (0, .integer 65533), (0, .integer 65536), (2, .integer 2147483649), (0, .integer 2147483646), (0, .integer 2147483647), (0, .methodref 26 27), (0, .class_ 28), (0, .nameAndType 29 30), (0, u "com/example/osier/osier/xml/XmlChars"), (0, u "isNcNameStartChar"), (0, u "(I)Z"), (0, .methodref 32 33), (0, .class_ 34), (0, .nameAndType 35 30), (0, u "com/example/osier/osier/xml/XmlCharsIsNcNameStartCharPinLaw"), (0, u "excluded"), (3, u "law"), (0, u "(III)Z")] 4

def k1m0 : Method := { name := "<init>", desc := "()V", sig := { parameters := [], returnType := none }, accessFlags := 2, code := none }
def k1c1 : Code := { maxStack := 2, maxLocals := 1, code := method_2_code, exceptionTable := #[], attributes := #[] }
def k1m1 : Method := { name := "excluded", desc := "(I)Z", sig := { parameters := [.int], returnType := some .boolean }, accessFlags := 10, code := some k1c1 }
def k1c2 : Code := { maxStack := 4, maxLocals := 7, code := code, exceptionTable := #[], attributes := #[] }
def k1m2 : Method := { name := "law", desc := "(III)Z", sig := { parameters := [.int, .int, .int], returnType := some .boolean }, accessFlags := 9, code := some k1c2 }
/-- com/example/osier/osier/xml/XmlCharsIsNcNameStartCharPinLaw -/
def k1 : Class := { plain "com/example/osier/osier/xml/XmlCharsIsNcNameStartCharPinLaw" (some 0) with
  accessFlags := 49
  interfaces := #[]
  cf := some (fileOf pool1 32 #[] #[{ accessFlags := 2, nameIndex := 5, descriptorIndex := 6, attributes := #[] }, { accessFlags := 10, nameIndex := 35, descriptorIndex := 30, attributes := #[] }, { accessFlags := 9, nameIndex := 39, descriptorIndex := 40, attributes := #[] }] 49 2 #[] #[])
  fields := #[]
  methods := #[k1m0, k1m1, k1m2]
  instanceTypes := #[]
  staticTypes := #[]
  resolved := Array.replicate 45 none
  statics := none }

def pool2 : Array CpInfo := pool [(2, .class_ 4), (1, u "java/lang/Object"), (0, u "<init>"), (0, u "()V"), (0, .integer 55295), (1, .integer 65533), (0, .integer 65536), (12, .class_ 25), (1, u "com/example/osier/osier/xml/XmlChars"), (0, u "NAME_CHARS"), (0, u "[B"), (6, u "isNcNameStartChar"), (0, u "(I)Z"), (29, .integer 63744), (0, .integer 64975), (0, .integer 65008), (0, .integer 983039), (4, u "NAME_START"), (0, u "B"), (2, u "NAME_PART")] 19

def k2m0 : Method := { name := "<init>", desc := "()V", sig := { parameters := [], returnType := none }, accessFlags := 2, code := none }
def k2c1 : Code := { maxStack := 2, maxLocals := 1, code := prog_51_method_9_code, exceptionTable := #[], attributes := #[] }
def k2m1 : Method := { name := "isNcNameStartChar", desc := "(I)Z", sig := { parameters := [.int], returnType := some .boolean }, accessFlags := 9, code := some k2c1 }
/-- com/example/osier/osier/xml/XmlChars -/
def k2 : Class := { plain "com/example/osier/osier/xml/XmlChars" (some 0) with
  accessFlags := 33
  interfaces := #[]
  cf := some (fileOf pool2 23 #[] #[{ accessFlags := 2, nameIndex := 5, descriptorIndex := 6, attributes := #[] }, { accessFlags := 9, nameIndex := 34, descriptorIndex := 35, attributes := #[] }] 33 2 #[] #[{ accessFlags := 26, nameIndex := 73, descriptorIndex := 74, attributes := #[] }, { accessFlags := 26, nameIndex := 77, descriptorIndex := 74, attributes := #[] }, { accessFlags := 26, nameIndex := 26, descriptorIndex := 27, attributes := #[] }])
  fields := #[{ name := "NAME_START", type := .byte, accessFlags := 26, slot := 0, constantValue := 0 }, { name := "NAME_PART", type := .byte, accessFlags := 26, slot := 1, constantValue := 0 }, { name := "NAME_CHARS", type := (.array .byte), accessFlags := 26, slot := 2, constantValue := 0 }]
  methods := #[k2m0, k2m1]
  instanceTypes := #[]
  staticTypes := #[.byte, .byte, (.array .byte)]
  resolved := Array.replicate 97 none
  statics := none }

def pool3 : Array CpInfo := pool [(1, u "java/lang/Cloneable"), (0, .class_ 1), (0, u "java/lang/Object"), (0, .class_ 3)] 3

/-- java/lang/Cloneable -/
def k3 : Class := { plain "java/lang/Cloneable" (some 0) with
  accessFlags := 1537
  interfaces := #[]
  cf := some (fileOf pool3 2 #[] #[] 1537 4 #[] #[])
  fields := #[]
  methods := #[]
  instanceTypes := #[]
  staticTypes := #[]
  resolved := Array.replicate 8 none
  statics := none }

def pool4 : Array CpInfo := pool [(1, u "java/io/Serializable"), (0, .class_ 1), (0, u "java/lang/Object"), (0, .class_ 3)] 3

/-- java/io/Serializable -/
def k4 : Class := { plain "java/io/Serializable" (some 0) with
  accessFlags := 1537
  interfaces := #[]
  cf := some (fileOf pool4 2 #[] #[] 1537 4 #[] #[])
  fields := #[]
  methods := #[]
  instanceTypes := #[]
  staticTypes := #[]
  resolved := Array.replicate 8 none
  statics := none }

/-- the primitive byte -/
def k5 : Class := { plain "byte" none with kind := .primitive 'B', accessFlags := 0x411 }
/-- [B -/
def k6 : Class := { plain "[B" (some 0) with kind := .array 5 .byte, interfaces := #[3, 4], accessFlags := 1041 }

/-- the primitive int -/
def k7 : Class := { plain "int" none with kind := .primitive 'I', accessFlags := 0x411 }
/-- [I -/
def k8 : Class := { plain "[I" (some 0) with kind := .array 7 .int, interfaces := #[3, 4], accessFlags := 1041 }

def heap : Heap := #[]
def classes : Array Class := #[k0, k1, k2, k3, k4, k5, k6, k7, k8]
def interned : List (Array UInt16 × Addr) := []
def slotsUsed : Nat := 0
def theMethod : MethodId := ⟨1, 2⟩
def args0 : Array Value := #[.int 65, .int 3, .int 7]
def aboutOver (below : List Frame) : State where
  vm := { classes := classes, interned := interned.toArray }
  heap := heap
  slotsUsed := slotsUsed
  threads := #[{ frames := .invoking theMethod args0 :: below }]
def below0 : List Frame := [.native { method := ⟨0, 0⟩, args := #[] }]
def about1 : State := aboutOver below0
def p0 : Program := .bare "" "" ""
def e0 : Env := launch0.env 0 0 0
theorem w_frames : about1.frames = Frame.invoking theMethod args0 :: below0 := rfl
set_option maxRecDepth 65536 in
theorem w_args : argsFit about1.vm theMethod args0 = true := by decide +kernel
set_option maxRecDepth 65536 in
theorem w_heap : heapFits about1 = true := by decide +kernel
set_option maxRecDepth 65536 in
theorem w_runnable : about1.curStatus? = some .runnable := by decide +kernel
set_option maxRecDepth 65536 in
theorem w_alone : about1.alone = true := by decide +kernel
set_option maxRecDepth 65536 in
theorem w_named : about1.methodNamed? x = some theMethod := by decide +kernel
set_option maxRecDepth 65536 in
theorem w_hears : about1.hears theMethod below0 = true := by decide +kernel
set_option maxRecDepth 65536 in
theorem w_ripe : about1.ripe theMethod args0 below0 = true := by decide +kernel
theorem w_running : about1.status = .running := rfl
set_option maxRecDepth 65536 in
theorem w_room : about1.hasRoom e0.platform room_1 = true :=
  launch0.hasRoom_least _ room_1 (by decide +kernel) (by decide +kernel) (by decide +kernel) (by decide +kernel) (by decide +kernel) (by decide +kernel)
theorem allAtoms_all (ts : List Jvm.Cond) (a : Array Jvm.Value) (st : Jvm.State) : (allAtoms ts).before a st = ts.all (fun c => c.before a st) := by
  induction ts with
  | nil => rfl
  | cons c t ih =>
    show (Jvm.Cond.and c (allAtoms t)).before a st = _
    rw [Jvm.Cond.before_and, ih, List.all_cons]
def words1 : List Jvm.Cond := Jvm.Cond.code x code maxLocals ret :: tables_1
/-- a 'code' word, met by the world's own term for the bytes: nothing is compared byte by byte -/
theorem code_word {y : MethodName} {bytes : ByteArray} {mx : Nat} {rt : Option FieldType} {a : Array Value} {s : State} {m : MethodId} {meth : Method} {c : Code} (h1 : s.methodNamed? y = some m) (h2 : s.vm.method? m = some meth) (h3 : meth.code = some c) (h4 : c.code = bytes)
    (h5 : (c.maxLocals == mx && c.exceptionTable.isEmpty && decide (c.maxStack ≤ mostOperands) && decide (meth.sig.returnType = rt) && !meth.locks && decide (parseMethodDescriptor y.desc = some meth.sig)) = true) : (Jvm.Cond.code y bytes mx rt).before a s = true := by
  simp only [Bool.and_eq_true, beq_iff_eq, Bool.not_eq_true', decide_eq_true_eq] at h5
  obtain ⟨⟨⟨⟨⟨g1, g2⟩, g3⟩, g4⟩, g5⟩, g6⟩ := h5
  simp [Cond.before, Cond.holds, Cond.value, h1, h2, h3, h4, g1, g2, g3, g4, g5, g6]
def isCode : Jvm.Cond → Bool
  | .code _ _ _ _ => true
  | _ => false
theorem all_split {L : List Jvm.Cond} {P : Jvm.Cond → Bool} (h1 : L.all (fun c => isCode c || P c) = true) (h2 : ∀ c ∈ L.filter isCode, P c = true) : L.all P = true := by
  refine List.all_eq_true.mpr fun c hc => ?_
  have h := List.all_eq_true.mp h1 c hc
  rcases Bool.eq_false_or_eq_true (isCode c) with hi | hi
  · exact h2 c (List.mem_filter.mpr ⟨hc, hi⟩)
  · simpa [hi] using h
set_option maxRecDepth 65536 in
theorem w_c0 : (Jvm.Cond.code x code maxLocals ret).before args0 about1 = true := code_word (m := ⟨1, 2⟩) (meth := k1m2) (c := k1c2) (by decide +kernel) rfl rfl rfl (by decide +kernel)
set_option maxRecDepth 65536 in
theorem w_c1 : (Jvm.Cond.code ({ cls := "com/example/osier/osier/xml/XmlChars", name := "isNcNameStartChar", desc := "(I)Z" } : Jvm.MethodName) prog_51_method_9_code (1 : Nat) (Option.some Jvm.ClassFile.FieldType.boolean)).before args0 about1 = true := code_word (m := ⟨2, 1⟩) (meth := k2m1) (c := k2c1) (by decide +kernel) rfl rfl rfl (by decide +kernel)
set_option maxRecDepth 65536 in
theorem w_c2 : (Jvm.Cond.code ({ cls := "com/example/osier/osier/xml/XmlCharsIsNcNameStartCharPinLaw", name := "excluded", desc := "(I)Z" } : Jvm.MethodName) method_2_code (1 : Nat) (Option.some Jvm.ClassFile.FieldType.boolean)).before args0 about1 = true := code_word (m := ⟨1, 1⟩) (meth := k1m1) (c := k1c1) (by decide +kernel) rfl rfl rfl (by decide +kernel)
def codes1 : List Jvm.Cond := [Jvm.Cond.code x code maxLocals ret, Jvm.Cond.code ({ cls := "com/example/osier/osier/xml/XmlChars", name := "isNcNameStartChar", desc := "(I)Z" } : Jvm.MethodName) prog_51_method_9_code (1 : Nat) (Option.some Jvm.ClassFile.FieldType.boolean), Jvm.Cond.code ({ cls := "com/example/osier/osier/xml/XmlCharsIsNcNameStartCharPinLaw", name := "excluded", desc := "(I)Z" } : Jvm.MethodName) method_2_code (1 : Nat) (Option.some Jvm.ClassFile.FieldType.boolean)]
set_option maxRecDepth 65536 in
theorem codes_eq : words1.filter isCode = codes1 := rfl
theorem w_codes : ∀ c ∈ words1.filter isCode, c.before args0 about1 = true := by
  rw [codes_eq]
  intro c hc
  simp only [codes1, List.mem_cons, List.not_mem_nil, or_false] at hc
  rcases hc with rfl | rfl | rfl
  · exact w_c0
  · exact w_c1
  · exact w_c2
set_option maxRecDepth 65536 in
theorem w_t1 : (words1.take 24).all (fun c => isCode c || c.before args0 about1) = true := by decide +kernel
set_option maxRecDepth 65536 in
theorem w_t2 : (words1.drop 24).all (fun c => isCode c || c.before args0 about1) = true := by decide +kernel
theorem w_tables : (allAtoms (Jvm.Cond.code x code maxLocals ret :: tables_1)).before args0 about1 = true := by
  rw [allAtoms_all]
  show words1.all (fun c => c.before args0 about1) = true
  refine all_split ?_ w_codes
  rw [← List.take_append_drop 24 words1, List.all_append, w_t1, w_t2]
  rfl
set_option maxRecDepth 65536 in
theorem w_case : (Jvm.Cond.and given_1 narrow_1).before args0 about1 = true := by decide +kernel
theorem w_applies : (headSpec (Jvm.Cond.code x code maxLocals ret :: tables_1) room_1).applies x e0.platform about1 = true :=
  (Spec.applies_iff w_frames).mpr ⟨w_running, w_runnable, w_alone, w_named, w_hears, w_ripe, w_room, w_tables⟩
theorem atStart : AtStart classFile x code maxLocals ret World_1 tables_1 room_1 Calls_1 rest_1 Pre_1 launch0 p0 e0 about1 theMethod args0 below0 :=
  ⟨lists_1, trivial, launch0.admits_env _ _ _, launch0.least_env, fairChoices_fair.cas, fairChoices_fair.clock, w_frames, w_args, w_heap, w_applies, trivial, trivial, w_case⟩
end start1
theorem witness_1 : WitnessClaimed_1 := ⟨start1.p0, start1.e0, start1.about1, start1.theMethod, start1.args0, start1.below0, start1.atStart⟩
end Jvm.Pilot.@@N@@
