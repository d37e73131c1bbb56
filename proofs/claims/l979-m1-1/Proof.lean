import JvmDerived
import JvmDerived.Pilot.@@N@@Statement
import JvmDerived.Pilot.@@N@@Code
set_option linter.unusedVariables false
set_option linter.unusedSimpArgs false
namespace Jvm.RoadKit
open Sem ClassFile Op Lib Jvm.Stand Jvm.Free Jvm.LawKit
section New
variable {p : Program} {l : Launch} {e : Env} {R : Room} {s : State} {m : MethodId} {args : Array Value} {below : List Frame} {meth : Method} {c : Code} {T : State} {locs : List Loc} {cells slots : Nat}
theorem retI (X : Stand p l e R s m args below meth c T locs cells slots) (hx : p.tables.exec = Jvm.exec) {pc : Nat} {Ls : Array Slot} {z : Int32} {rest : List Value} (hret : meth.sig.returnType = some .int) (hd : decode c.code pc = .ok (.ireturn, 1)) {fs : List Frame}
    (hl : ∀ (f : JFrame) (acts : List Action), f.method = m → f.locked = none → f.entered = [] → (doReturn e (T.setTop f) acts (some (.int z))).1 = T.setFrames fs) : Steps p.tables e below (T.setTop (mkF m pc Ls (.int z :: rest))) (T.setFrames fs) := by
  have hm' : T.vm.method? m = some meth := X.method'
  have hn : narrow .int (.int z) = .int z := rfl
  show Steps p.tables e below (T.setTop { method := m, pc := pc, locals := Ls, stack := _ :: rest, locked := none }) _
  jvm_step X.here [X.here.top, hx, hd, hm', hret, hn]
  first | (intro acts; rw [hl _ acts rfl rfl rfl]) | rw [hl _ _ rfl rfl rfl]
  exact Steps.refl _
end New
end Jvm.RoadKit
namespace Jvm.Pilot.@@N@@
open Jvm Jvm.ClassFile Sem Op Lib Jvm.Free Jvm.Stand Jvm.LawKit Jvm.RoadKit Bundle Jvm.Pilot.@@N@@.Jvm.D
abbrev own_s (p : Program) (e : Env) (below : List Frame) (T : State) (m : MethodId) (pc : Nat) (L : Array Slot) (S : List Value) (t : State) : Prop := Steps p.tables e below (T.setTop (mkF m pc L S)) t
theorem own_fit {C : String} {v : Value} (h : v.isRef = true) : fits (.object C) v = true := by rcases ref_cases h with rfl | ⟨_, rfl⟩ <;> rfl
theorem own_cat1 {v : Value} (h : v.isRef = true) : v.category = 1 := by rcases ref_cases h with rfl | ⟨_, rfl⟩ <;> rfl
theorem own_narR {t : FieldType} {v : Value} (h : v.isRef = true) : narrow t v = v := by cases v <;> first | (cases t <;> rfl) | (cases h)
theorem own_miss {l : List (Int × Int)} {q : Int × Int} {k : Int} (h : q ∈ l) (n : ¬ k ∈ l.map (·.1)) : q.1 ≠ k := fun e => n (e ▸ List.mem_map_of_mem h)
def own_up (f : Nat → Value) (i : Nat) (v : Value) : Nat → Value := fun j => if j = i then v else f j
def own_Af (Z : State) (h : Heap) (a : Addr) (ty : FieldType) (n : Nat) (f : Nat → Value) : Prop := ∃ c : Cell, Arr Z h a c ty ∧ c.slots.size = n ∧ n < 2 ^ 31 ∧ ∀ j, j < n → c.slots[j]? = some (f j)
theorem own_Af.lt {Z : State} {h : Heap} {a : Addr} {ty : FieldType} {n : Nat} {f : Nat → Value} (F : own_Af Z h a ty n f) : a < h.size := by obtain ⟨c, A, -⟩ := F; exact A.lt
theorem own_Af.ext {Z : State} {h h' : Heap} {a : Addr} {ty : FieldType} {n : Nat} {f : Nat → Value} (F : own_Af Z h a ty n f) (E : Ext h h') : own_Af Z h' a ty n f := by obtain ⟨c, A, r⟩ := F; exact ⟨c, A.ext E, r⟩
theorem own_Af.other {Z : State} {h h' : Heap} {a b : Addr} {ty : FieldType} {n : Nat} {f : Nat → Value} {sl : Nat} {v : Value} (F : own_Af Z h b ty n f) (W : Wr h h' a sl v) (q : b ≠ a) : own_Af Z h' b ty n f := by obtain ⟨c, A, r⟩ := F; exact ⟨c, A.other W q, r⟩
theorem own_Af.keep {Z : State} {h h' : Heap} {a : Addr} {ty : FieldType} {n : Nat} {f : Nat → Value} {ws : List Addr} (F : own_Af Z h a ty n f) (K : Keep h h' ws) (q : a ∉ ws) : own_Af Z h' a ty n f := by obtain ⟨c, A, r⟩ := F; exact ⟨c, ⟨K.2.1 a c A.1 q, A.2⟩, r⟩
theorem own_Af.new {Z : State} {h : Heap} {a : Addr} {ty : FieldType} {k : ClassId} {z : Int32} {n : Nat} {d : Value} (A : Arr Z h a (newA k ty z) ty) (q : ¬ z < 0) (hn : z.toNatClampNeg = n) (hd : defaultValue ty = d := by rfl) : own_Af Z h a ty n (fun _ => d) := by
  subst hn hd
  refine ⟨_, A, sz_new _ _ _, (back32 q).2, fun j hj => ?_⟩
  simp [newA, hj]
theorem own_Af.set {Z : State} {h h' : Heap} {a : Addr} {ty : FieldType} {n i : Nat} {f : Nat → Value} {v : Value} {c : Cell} (A : Arr Z h a c ty) (S : c.slots.size = n) (M : n < 2 ^ 31) (H : ∀ j, j < n → c.slots[j]? = some (f j)) (W : Wr h h' a i v) : own_Af Z h' a ty n (own_up f i v) := by
  refine ⟨_, A.same W, by rw [sz_set]; exact S, M, fun j hj => ?_⟩
  have := H j hj
  simp only [own_up, Cell.setSlot]
  by_cases e : j = i
  · subst e; simp [Array.getElem?_setIfInBounds, S, hj]
  · rw [if_neg e, Array.getElem?_setIfInBounds, if_neg (fun q => e q.symm)]; exact this
theorem own_inb {c : Cell} {n : Nat} {j : Int32} (S : c.slots.size = n) (M : n < 2 ^ 31) (q : ¬ j < 0 ∧ j.toNatClampNeg < n) : ¬ (j < 0 ∨ c.slots.size ≤ j.toNatClampNeg) := by
  rw [S]; exact fun z => z.elim q.1 (fun w => absurd q.2 (Nat.not_lt.mpr w))
theorem own_get {c : Cell} {n : Nat} {f : Nat → Value} {j : Int32} {v : Value} (H : ∀ j, j < n → c.slots[j]? = some (f j)) (S : c.slots.size = n) (q : ¬ j < 0 ∧ j.toNatClampNeg < n) (e : f j.toNatClampNeg = v) : c.slots[j.toNatClampNeg]? = some v := by
  rw [H _ q.2, e]
def own_ix (z : Int) : Nat := if z = -7 ∨ z = 16 then 0 else if z = -6 then 1 else if z = 5 then 2 else if z = 4 then 3 else if z = -5 then 4 else if z = 2 ∨ z = 3 then 5 else if z = 7 then 6 else if z = 6 ∨ z = 8 then 7 else if z = 91 then 8 else if z = 92 then 9 else if z = 93 then 10 else if z = 2013 then 11 else if z = 2014 then 12 else if z = -2 ∨ z = -3 ∨ z = -4 ∨ z = 2004 then 13 else if z = 2003 then 14 else if z = 2009 then 15 else if z = 1 ∨ z = 12 ∨ z = -1 ∨ z = -15 ∨ z = -9 ∨ z = -16 ∨ z = 2005 ∨ z = 2011 then 16 else 17
def own_St (Z : State) (h : Heap) (K : Nat → Addr) : Prop := Sta Z h "com/example/osier/osier/jdbc/ColumnKind" "BOOLEAN" "Lcom/example/osier/osier/jdbc/ColumnKind;" (.ref (K 0)) ∧ Sta Z h "com/example/osier/osier/jdbc/ColumnKind" "TINYINT" "Lcom/example/osier/osier/jdbc/ColumnKind;" (.ref (K 1)) ∧ Sta Z h "com/example/osier/osier/jdbc/ColumnKind" "SMALLINT" "Lcom/example/osier/osier/jdbc/ColumnKind;" (.ref (K 2)) ∧ Sta Z h "com/example/osier/osier/jdbc/ColumnKind" "INTEGER" "Lcom/example/osier/osier/jdbc/ColumnKind;" (.ref (K 3)) ∧ Sta Z h "com/example/osier/osier/jdbc/ColumnKind" "BIGINT" "Lcom/example/osier/osier/jdbc/ColumnKind;" (.ref (K 4)) ∧ Sta Z h "com/example/osier/osier/jdbc/ColumnKind" "DECIMAL" "Lcom/example/osier/osier/jdbc/ColumnKind;" (.ref (K 5)) ∧ Sta Z h "com/example/osier/osier/jdbc/ColumnKind" "REAL" "Lcom/example/osier/osier/jdbc/ColumnKind;" (.ref (K 6)) ∧ Sta Z h "com/example/osier/osier/jdbc/ColumnKind" "DOUBLE" "Lcom/example/osier/osier/jdbc/ColumnKind;" (.ref (K 7)) ∧ Sta Z h "com/example/osier/osier/jdbc/ColumnKind" "DATE" "Lcom/example/osier/osier/jdbc/ColumnKind;" (.ref (K 8)) ∧ Sta Z h "com/example/osier/osier/jdbc/ColumnKind" "TIME" "Lcom/example/osier/osier/jdbc/ColumnKind;" (.ref (K 9)) ∧ Sta Z h "com/example/osier/osier/jdbc/ColumnKind" "TIMESTAMP" "Lcom/example/osier/osier/jdbc/ColumnKind;" (.ref (K 10)) ∧ Sta Z h "com/example/osier/osier/jdbc/ColumnKind" "TIME_WITH_TIME_ZONE" "Lcom/example/osier/osier/jdbc/ColumnKind;" (.ref (K 11)) ∧ Sta Z h "com/example/osier/osier/jdbc/ColumnKind" "TIMESTAMP_WITH_TIME_ZONE" "Lcom/example/osier/osier/jdbc/ColumnKind;" (.ref (K 12)) ∧ Sta Z h "com/example/osier/osier/jdbc/ColumnKind" "BINARY" "Lcom/example/osier/osier/jdbc/ColumnKind;" (.ref (K 13)) ∧ Sta Z h "com/example/osier/osier/jdbc/ColumnKind" "ARRAY" "Lcom/example/osier/osier/jdbc/ColumnKind;" (.ref (K 14)) ∧ Sta Z h "com/example/osier/osier/jdbc/ColumnKind" "XML" "Lcom/example/osier/osier/jdbc/ColumnKind;" (.ref (K 15)) ∧ Sta Z h "com/example/osier/osier/jdbc/ColumnKind" "CHARACTER" "Lcom/example/osier/osier/jdbc/ColumnKind;" (.ref (K 16)) ∧ Sta Z h "com/example/osier/osier/jdbc/ColumnKind" "OTHER" "Lcom/example/osier/osier/jdbc/ColumnKind;" (.ref (K 17))
theorem own_St.ext {Z : State} {h h' : Heap} {K : Nat → Addr} (F : own_St Z h K) (E : Ext h h') : own_St Z h' K := by
  obtain ⟨s0, s1, s2, s3, s4, s5, s6, s7, s8, s9, s10, s11, s12, s13, s14, s15, s16, s17⟩ := F
  exact ⟨s0.ext E, s1.ext E, s2.ext E, s3.ext E, s4.ext E, s5.ext E, s6.ext E, s7.ext E, s8.ext E, s9.ext E, s10.ext E, s11.ext E, s12.ext E, s13.ext E, s14.ext E, s15.ext E, s16.ext E, s17.ext E⟩
theorem own_St.wr {Z : State} {h h' : Heap} {K : Nat → Addr} {a : Addr} {sl : Nat} {v : Value} (F : own_St Z h K) (W : Wr h h' a sl v) : own_St Z h' K := by
  obtain ⟨s0, s1, s2, s3, s4, s5, s6, s7, s8, s9, s10, s11, s12, s13, s14, s15, s16, s17⟩ := F
  exact ⟨s0.wr W, s1.wr W, s2.wr W, s3.wr W, s4.wr W, s5.wr W, s6.wr W, s7.wr W, s8.wr W, s9.wr W, s10.wr W, s11.wr W, s12.wr W, s13.wr W, s14.wr W, s15.wr W, s16.wr W, s17.wr W⟩
def own_isI (f : Nat → Value) : Prop := ∀ j, ∃ z, f j = .int z
theorem own_isI.c (z : Int32) : own_isI (fun _ => .int z) := fun _ => ⟨z, rfl⟩
theorem own_isI.up {f : Nat → Value} (I : own_isI f) (i : Nat) (z : Int32) : own_isI (own_up f i (.int z)) := fun j => by
  unfold own_up; by_cases e : j = i
  · exact ⟨z, if_pos e⟩
  · rw [if_neg e]; exact I j
theorem own_idx {j : Int32} {n : Nat} (h0 : 0 ≤ j.toInt) (h1 : j.toInt < n) : ¬ j < 0 ∧ j.toNatClampNeg < n := by
  have q : ¬ j < 0 := fun w => by have := Int32.lt_iff_toInt_lt.mp w; have e : (0 : Int32).toInt = 0 := rfl; omega
  exact ⟨q, by have := nat_of q; omega⟩
theorem d1_0 : decode prog_1_method_4_code 0 = .ok (.iload_n 0, 1) := by decide +kernel
theorem d1_1 : decode prog_1_method_4_code 1 = .ok (.lookupswitch 353 #[((-16), 347), ((-15), 347), ((-9), 347), ((-7), 251), ((-6), 257), ((-5), 275), ((-4), 329), ((-3), 329), ((-2), 329), ((-1), 347), (1, 347), (2, 281), (3, 281), (4, 269), (5, 263), (6, 293), (7, 287), (8, 293), (12, 347), (16, 251), (91, 299), (92, 305), (93, 311), (2003, 335), (2004, 329), (2005, 347), (2009, 341), (2011, 347), (2013, 317), (2014, 323)], 251) := by decide +kernel
theorem d1_252 : decode prog_1_method_4_code 252 = .ok (.getstatic 3, 3) := by decide +kernel
theorem d1_255 : decode prog_1_method_4_code 255 = .ok (.goto 102, 3) := by decide +kernel
theorem d1_258 : decode prog_1_method_4_code 258 = .ok (.getstatic 7, 3) := by decide +kernel
theorem d1_261 : decode prog_1_method_4_code 261 = .ok (.goto 96, 3) := by decide +kernel
theorem d1_264 : decode prog_1_method_4_code 264 = .ok (.getstatic 10, 3) := by decide +kernel
theorem d1_267 : decode prog_1_method_4_code 267 = .ok (.goto 90, 3) := by decide +kernel
theorem d1_270 : decode prog_1_method_4_code 270 = .ok (.getstatic 13, 3) := by decide +kernel
theorem d1_273 : decode prog_1_method_4_code 273 = .ok (.goto 84, 3) := by decide +kernel
theorem d1_276 : decode prog_1_method_4_code 276 = .ok (.getstatic 16, 3) := by decide +kernel
theorem d1_279 : decode prog_1_method_4_code 279 = .ok (.goto 78, 3) := by decide +kernel
theorem d1_282 : decode prog_1_method_4_code 282 = .ok (.getstatic 19, 3) := by decide +kernel
theorem d1_285 : decode prog_1_method_4_code 285 = .ok (.goto 72, 3) := by decide +kernel
theorem d1_288 : decode prog_1_method_4_code 288 = .ok (.getstatic 22, 3) := by decide +kernel
theorem d1_291 : decode prog_1_method_4_code 291 = .ok (.goto 66, 3) := by decide +kernel
theorem d1_294 : decode prog_1_method_4_code 294 = .ok (.getstatic 25, 3) := by decide +kernel
theorem d1_297 : decode prog_1_method_4_code 297 = .ok (.goto 60, 3) := by decide +kernel
theorem d1_300 : decode prog_1_method_4_code 300 = .ok (.getstatic 28, 3) := by decide +kernel
theorem d1_303 : decode prog_1_method_4_code 303 = .ok (.goto 54, 3) := by decide +kernel
theorem d1_306 : decode prog_1_method_4_code 306 = .ok (.getstatic 31, 3) := by decide +kernel
theorem d1_309 : decode prog_1_method_4_code 309 = .ok (.goto 48, 3) := by decide +kernel
theorem d1_312 : decode prog_1_method_4_code 312 = .ok (.getstatic 34, 3) := by decide +kernel
theorem d1_315 : decode prog_1_method_4_code 315 = .ok (.goto 42, 3) := by decide +kernel
theorem d1_318 : decode prog_1_method_4_code 318 = .ok (.getstatic 37, 3) := by decide +kernel
theorem d1_321 : decode prog_1_method_4_code 321 = .ok (.goto 36, 3) := by decide +kernel
theorem d1_324 : decode prog_1_method_4_code 324 = .ok (.getstatic 40, 3) := by decide +kernel
theorem d1_327 : decode prog_1_method_4_code 327 = .ok (.goto 30, 3) := by decide +kernel
theorem d1_330 : decode prog_1_method_4_code 330 = .ok (.getstatic 43, 3) := by decide +kernel
theorem d1_333 : decode prog_1_method_4_code 333 = .ok (.goto 24, 3) := by decide +kernel
theorem d1_336 : decode prog_1_method_4_code 336 = .ok (.getstatic 46, 3) := by decide +kernel
theorem d1_339 : decode prog_1_method_4_code 339 = .ok (.goto 18, 3) := by decide +kernel
theorem d1_342 : decode prog_1_method_4_code 342 = .ok (.getstatic 49, 3) := by decide +kernel
theorem d1_345 : decode prog_1_method_4_code 345 = .ok (.goto 12, 3) := by decide +kernel
theorem d1_348 : decode prog_1_method_4_code 348 = .ok (.getstatic 52, 3) := by decide +kernel
theorem d1_351 : decode prog_1_method_4_code 351 = .ok (.goto 6, 3) := by decide +kernel
theorem d1_354 : decode prog_1_method_4_code 354 = .ok (.getstatic 55, 3) := by decide +kernel
theorem d1_357 : decode prog_1_method_4_code 357 = .ok (.areturn, 1) := by decide +kernel
theorem pn_1 : plainName "com/example/osier/osier/jdbc/ColumnKind" = true := by first | (simp [plainName, overriddenIn]; done) | decide +kernel
theorem ef_1 (m : MethodId) (p0 : Int32) : entryFrame m #[(.int p0)] 1 = mkF m 0 #[iv p0] [] := by first | (simp [entryFrame, mkF, argsToLocals, Value.category]; done) | rfl
def Q1 (Z : State) (p0 : Int32) (K : Nat → Addr) (h0 : Heap) (n0 : Nat) (v : Option Value) (h : Heap) (L : List Loc) : Prop := v = some (.ref (K (own_ix p0.toInt))) ∧ Fr n0 L ∧ h = h0
set_option maxRecDepth 65536 in
set_option maxHeartbeats 40000000 in
theorem rm1 (l : Launch) (Z : State) (a0 : Array Value) (hw : ∀ d ∈ tables_1, d.before a0 Z = true) (ws : List Jvm.Cond) (p0 : Int32) (K : Nat → Addr) (h0 : Heap) (n0 : Nat) (Z0 : n0 ≤ h0.size) (B0 : own_St Z h0 K) :
    MetFree l (⟨"com/example/osier/osier/jdbc/ColumnKind", "of", "(I)Lcom/example/osier/osier/jdbc/ColumnKind;"⟩ : MethodName) (head1 (Jvm.Cond.code (⟨"com/example/osier/osier/jdbc/ColumnKind", "of", "(I)Lcom/example/osier/osier/jdbc/ColumnKind;"⟩ : MethodName) prog_1_method_4_code 1 (some (.object "com/example/osier/osier/jdbc/ColumnKind")) :: ws) ({ frames := 0, cells := 0, slots := 0, locals := 0 } : Room)) (fun aX UX => aX = #[(.int p0)] ∧ Z.Warmed39 UX.vm ∧ UX.heap = h0) (fun _ _ _ _ _ => True) (fun _ UX oX UY => ∃ vX LX, oX = .returned vX ∧ Q1 Z p0 K h0 n0 vX UY.heap LX ∧ FrameEnd UX oX UY LX ({ frames := 0, cells := 0, slots := 0, locals := 0 } : Room).cells ({ frames := 0, cells := 0, slots := 0, locals := 0 } : Room).slots) := by
  refine MetFree.of_bodySF (plainFor_of_name pn_1) hisR ?_
  intro p e s m args below meth c s₁ Bd hml0 hP hK
  obtain ⟨rfl, hZ, hh⟩ := hP
  have hx := Bd.exec
  have hby := Bd.bytes
  have hml : c.maxLocals = 1 := hml0
  have hown : s.vm.findClass "com/example/osier/osier/jdbc/ColumnKind" = some m.cls := findClass_of_methodNamed Bd.named
  have hnm := (name_of_methodNamed Bd.named Bd.method).1
  have X0 : Stand p l e ({ frames := 0, cells := 0, slots := 0, locals := 0 } : Room) s m #[(.int p0)] below meth c s₁ [] 0 0 := Stand.of_body Bd
  have e0 : s₁.heap = h0 := by rw [← hh, Bd.state]; rfl
  have N0 := Fr.nil n0
  have pre0 : ∀ t, Steps p.tables e below (s₁.setTop (mkF m 0 #[iv p0] [])) t → Steps p.tables e below (s₁.setTop (entryFrame m #[(.int p0)] 1)) t := fun t k => castTop (ef_1 m p0) k
  obtain ⟨S0, hS0⟩ : ∃ z, z = (s₁.setTop (entryFrame m #[(.int p0)] 1)) := ⟨_, rfl⟩
  rw [← hS0] at pre0
  obtain ⟨S_0, S_1, S_2, S_3, S_4, S_5, S_6, S_7, S_8, S_9, S_10, S_11, S_12, S_13, S_14, S_15, S_16, S_17⟩ := B0
  have pre1 : ∀ t, own_s p e below s₁ m 1 #[iv p0] [(.int p0)] t → Steps p.tables e below S0 t := by
    intro tX kX
    refine pre0 _ ?_
    show own_s p e below s₁ m 0 #[iv p0] [] _
    refine XS.iloadN X0.here hx rfl (hb hby d1_0) rfl ?_
    exact kX
  by_cases hc2 : p0 = (-16 : Int32)
  · skip
    have ihc2 : (p0).toInt = (-16 : Int) := congrArg Int32.toInt hc2
    have pre3 : ∀ t, own_s p e below s₁ m 348 #[iv p0] [] t → Steps p.tables e below S0 t := by
      intro tX kX
      refine pre1 _ ?_
      show own_s p e below s₁ m 1 #[iv p0] [(.int p0)] _
      refine X0.lookupswitchHit hx (g := (mkF m 1 #[iv p0] [(.int p0)])) rfl (k := p0) rfl (hb hby d1_1) (by decide) (a := (-16)) (off := 347) (by rw [hc2]; rfl) (show (0 : Int) ≤ ((1 : Nat) : Int) + 347 from by decide) _ ?_
      exact kX
    obtain ⟨T4, X4, e4, st4⟩ := getS2 X0 hx hZ hown (host := "") (Or.inl (hw _ (List.mem_of_getElem? (i := 27) rfl))) Via.refl e0 S_16 (g := (mkF m 348 #[iv p0] [])) rfl (hb hby d1_348)
    have pre5 : ∀ t, own_s p e below T4 m 351 #[iv p0] [(.ref (K 16))] t → Steps p.tables e below S0 t := fun tX kX => pre3 _ (st4 _ kX)
    have pre6 : ∀ t, own_s p e below T4 m 357 #[iv p0] [(.ref (K 16))] t → Steps p.tables e below S0 t := by
      intro tX kX
      refine pre5 _ ?_
      show own_s p e below T4 m 351 #[iv p0] [(.ref (K 16))] _
      refine XS.goto X4.here hx rfl (pc0 := 351) (pc' := 357) rfl (hb hby d1_351) (by decide) (by decide) ?_
      exact kX
    subst hS0
    obtain ⟨fs, hr, hrun, hended, hW, hsame⟩ := X4.leave (v := (some (.ref (K 16)))) (fun h => by rw [Bd.returns] at h; cases h)
    refine ⟨_, _, pre6 _ (retOut X4 hx Bd.returns (own_narR rfl) (Or.inr (Or.inr (Or.inr (Or.inr ⟨rfl, rfl, rfl⟩)))) (hb hby d1_357) hr), hrun, hended, _, _, rfl, ?_, ⟨_, rfl⟩, hW, hsame.mono (by decide) (by decide)⟩
    show Q1 Z p0 K h0 n0 (some (.ref (K 16))) T4.heap _
    exact ⟨congrArg (fun z => some (Value.ref (K z))) (show 16 = own_ix p0.toInt from Eq.symm (by rw [ihc2]; rfl)), N0, e4⟩
  · skip
    have ihc2 : ¬ ((p0).toInt = (-16 : Int)) := fun q => hc2 (Int32.toInt_inj.mp q)
    by_cases hc7 : p0 = (-15 : Int32)
    · skip
      have ihc7 : (p0).toInt = (-15 : Int) := congrArg Int32.toInt hc7
      have pre8 : ∀ t, own_s p e below s₁ m 348 #[iv p0] [] t → Steps p.tables e below S0 t := by
        intro tX kX
        refine pre1 _ ?_
        show own_s p e below s₁ m 1 #[iv p0] [(.int p0)] _
        refine X0.lookupswitchHit hx (g := (mkF m 1 #[iv p0] [(.int p0)])) rfl (k := p0) rfl (hb hby d1_1) (by decide) (a := (-15)) (off := 347) (by rw [hc7]; rfl) (show (0 : Int) ≤ ((1 : Nat) : Int) + 347 from by decide) _ ?_
        exact kX
      obtain ⟨T9, X9, e9, st9⟩ := getS2 X0 hx hZ hown (host := "") (Or.inl (hw _ (List.mem_of_getElem? (i := 27) rfl))) Via.refl e0 S_16 (g := (mkF m 348 #[iv p0] [])) rfl (hb hby d1_348)
      have pre10 : ∀ t, own_s p e below T9 m 351 #[iv p0] [(.ref (K 16))] t → Steps p.tables e below S0 t := fun tX kX => pre8 _ (st9 _ kX)
      have pre11 : ∀ t, own_s p e below T9 m 357 #[iv p0] [(.ref (K 16))] t → Steps p.tables e below S0 t := by
        intro tX kX
        refine pre10 _ ?_
        show own_s p e below T9 m 351 #[iv p0] [(.ref (K 16))] _
        refine XS.goto X9.here hx rfl (pc0 := 351) (pc' := 357) rfl (hb hby d1_351) (by decide) (by decide) ?_
        exact kX
      subst hS0
      obtain ⟨fs, hr, hrun, hended, hW, hsame⟩ := X9.leave (v := (some (.ref (K 16)))) (fun h => by rw [Bd.returns] at h; cases h)
      refine ⟨_, _, pre11 _ (retOut X9 hx Bd.returns (own_narR rfl) (Or.inr (Or.inr (Or.inr (Or.inr ⟨rfl, rfl, rfl⟩)))) (hb hby d1_357) hr), hrun, hended, _, _, rfl, ?_, ⟨_, rfl⟩, hW, hsame.mono (by decide) (by decide)⟩
      show Q1 Z p0 K h0 n0 (some (.ref (K 16))) T9.heap _
      exact ⟨congrArg (fun z => some (Value.ref (K z))) (show 16 = own_ix p0.toInt from Eq.symm (by rw [ihc7]; rfl)), N0, e9⟩
    · skip
      have ihc7 : ¬ ((p0).toInt = (-15 : Int)) := fun q => hc7 (Int32.toInt_inj.mp q)
      by_cases hc12 : p0 = (-9 : Int32)
      · skip
        have ihc12 : (p0).toInt = (-9 : Int) := congrArg Int32.toInt hc12
        have pre13 : ∀ t, own_s p e below s₁ m 348 #[iv p0] [] t → Steps p.tables e below S0 t := by
          intro tX kX
          refine pre1 _ ?_
          show own_s p e below s₁ m 1 #[iv p0] [(.int p0)] _
          refine X0.lookupswitchHit hx (g := (mkF m 1 #[iv p0] [(.int p0)])) rfl (k := p0) rfl (hb hby d1_1) (by decide) (a := (-9)) (off := 347) (by rw [hc12]; rfl) (show (0 : Int) ≤ ((1 : Nat) : Int) + 347 from by decide) _ ?_
          exact kX
        obtain ⟨T14, X14, e14, st14⟩ := getS2 X0 hx hZ hown (host := "") (Or.inl (hw _ (List.mem_of_getElem? (i := 27) rfl))) Via.refl e0 S_16 (g := (mkF m 348 #[iv p0] [])) rfl (hb hby d1_348)
        have pre15 : ∀ t, own_s p e below T14 m 351 #[iv p0] [(.ref (K 16))] t → Steps p.tables e below S0 t := fun tX kX => pre13 _ (st14 _ kX)
        have pre16 : ∀ t, own_s p e below T14 m 357 #[iv p0] [(.ref (K 16))] t → Steps p.tables e below S0 t := by
          intro tX kX
          refine pre15 _ ?_
          show own_s p e below T14 m 351 #[iv p0] [(.ref (K 16))] _
          refine XS.goto X14.here hx rfl (pc0 := 351) (pc' := 357) rfl (hb hby d1_351) (by decide) (by decide) ?_
          exact kX
        subst hS0
        obtain ⟨fs, hr, hrun, hended, hW, hsame⟩ := X14.leave (v := (some (.ref (K 16)))) (fun h => by rw [Bd.returns] at h; cases h)
        refine ⟨_, _, pre16 _ (retOut X14 hx Bd.returns (own_narR rfl) (Or.inr (Or.inr (Or.inr (Or.inr ⟨rfl, rfl, rfl⟩)))) (hb hby d1_357) hr), hrun, hended, _, _, rfl, ?_, ⟨_, rfl⟩, hW, hsame.mono (by decide) (by decide)⟩
        show Q1 Z p0 K h0 n0 (some (.ref (K 16))) T14.heap _
        exact ⟨congrArg (fun z => some (Value.ref (K z))) (show 16 = own_ix p0.toInt from Eq.symm (by rw [ihc12]; rfl)), N0, e14⟩
      · skip
        have ihc12 : ¬ ((p0).toInt = (-9 : Int)) := fun q => hc12 (Int32.toInt_inj.mp q)
        by_cases hc17 : p0 = (-7 : Int32)
        · skip
          have ihc17 : (p0).toInt = (-7 : Int) := congrArg Int32.toInt hc17
          have pre18 : ∀ t, own_s p e below s₁ m 252 #[iv p0] [] t → Steps p.tables e below S0 t := by
            intro tX kX
            refine pre1 _ ?_
            show own_s p e below s₁ m 1 #[iv p0] [(.int p0)] _
            refine X0.lookupswitchHit hx (g := (mkF m 1 #[iv p0] [(.int p0)])) rfl (k := p0) rfl (hb hby d1_1) (by decide) (a := (-7)) (off := 251) (by rw [hc17]; rfl) (show (0 : Int) ≤ ((1 : Nat) : Int) + 251 from by decide) _ ?_
            exact kX
          obtain ⟨T19, X19, e19, st19⟩ := getS2 X0 hx hZ hown (host := "") (Or.inl (hw _ (List.mem_of_getElem? (i := 5) rfl))) Via.refl e0 S_0 (g := (mkF m 252 #[iv p0] [])) rfl (hb hby d1_252)
          have pre20 : ∀ t, own_s p e below T19 m 255 #[iv p0] [(.ref (K 0))] t → Steps p.tables e below S0 t := fun tX kX => pre18 _ (st19 _ kX)
          have pre21 : ∀ t, own_s p e below T19 m 357 #[iv p0] [(.ref (K 0))] t → Steps p.tables e below S0 t := by
            intro tX kX
            refine pre20 _ ?_
            show own_s p e below T19 m 255 #[iv p0] [(.ref (K 0))] _
            refine XS.goto X19.here hx rfl (pc0 := 255) (pc' := 357) rfl (hb hby d1_255) (by decide) (by decide) ?_
            exact kX
          subst hS0
          obtain ⟨fs, hr, hrun, hended, hW, hsame⟩ := X19.leave (v := (some (.ref (K 0)))) (fun h => by rw [Bd.returns] at h; cases h)
          refine ⟨_, _, pre21 _ (retOut X19 hx Bd.returns (own_narR rfl) (Or.inr (Or.inr (Or.inr (Or.inr ⟨rfl, rfl, rfl⟩)))) (hb hby d1_357) hr), hrun, hended, _, _, rfl, ?_, ⟨_, rfl⟩, hW, hsame.mono (by decide) (by decide)⟩
          show Q1 Z p0 K h0 n0 (some (.ref (K 0))) T19.heap _
          exact ⟨congrArg (fun z => some (Value.ref (K z))) (show 0 = own_ix p0.toInt from Eq.symm (by rw [ihc17]; rfl)), N0, e19⟩
        · skip
          have ihc17 : ¬ ((p0).toInt = (-7 : Int)) := fun q => hc17 (Int32.toInt_inj.mp q)
          by_cases hc22 : p0 = (-6 : Int32)
          · skip
            have ihc22 : (p0).toInt = (-6 : Int) := congrArg Int32.toInt hc22
            have pre23 : ∀ t, own_s p e below s₁ m 258 #[iv p0] [] t → Steps p.tables e below S0 t := by
              intro tX kX
              refine pre1 _ ?_
              show own_s p e below s₁ m 1 #[iv p0] [(.int p0)] _
              refine X0.lookupswitchHit hx (g := (mkF m 1 #[iv p0] [(.int p0)])) rfl (k := p0) rfl (hb hby d1_1) (by decide) (a := (-6)) (off := 257) (by rw [hc22]; rfl) (show (0 : Int) ≤ ((1 : Nat) : Int) + 257 from by decide) _ ?_
              exact kX
            obtain ⟨T24, X24, e24, st24⟩ := getS2 X0 hx hZ hown (host := "") (Or.inl (hw _ (List.mem_of_getElem? (i := 48) rfl))) Via.refl e0 S_1 (g := (mkF m 258 #[iv p0] [])) rfl (hb hby d1_258)
            have pre25 : ∀ t, own_s p e below T24 m 261 #[iv p0] [(.ref (K 1))] t → Steps p.tables e below S0 t := fun tX kX => pre23 _ (st24 _ kX)
            have pre26 : ∀ t, own_s p e below T24 m 357 #[iv p0] [(.ref (K 1))] t → Steps p.tables e below S0 t := by
              intro tX kX
              refine pre25 _ ?_
              show own_s p e below T24 m 261 #[iv p0] [(.ref (K 1))] _
              refine XS.goto X24.here hx rfl (pc0 := 261) (pc' := 357) rfl (hb hby d1_261) (by decide) (by decide) ?_
              exact kX
            subst hS0
            obtain ⟨fs, hr, hrun, hended, hW, hsame⟩ := X24.leave (v := (some (.ref (K 1)))) (fun h => by rw [Bd.returns] at h; cases h)
            refine ⟨_, _, pre26 _ (retOut X24 hx Bd.returns (own_narR rfl) (Or.inr (Or.inr (Or.inr (Or.inr ⟨rfl, rfl, rfl⟩)))) (hb hby d1_357) hr), hrun, hended, _, _, rfl, ?_, ⟨_, rfl⟩, hW, hsame.mono (by decide) (by decide)⟩
            show Q1 Z p0 K h0 n0 (some (.ref (K 1))) T24.heap _
            exact ⟨congrArg (fun z => some (Value.ref (K z))) (show 1 = own_ix p0.toInt from Eq.symm (by rw [ihc22]; rfl)), N0, e24⟩
          · skip
            have ihc22 : ¬ ((p0).toInt = (-6 : Int)) := fun q => hc22 (Int32.toInt_inj.mp q)
            by_cases hc27 : p0 = (-5 : Int32)
            · skip
              have ihc27 : (p0).toInt = (-5 : Int) := congrArg Int32.toInt hc27
              have pre28 : ∀ t, own_s p e below s₁ m 276 #[iv p0] [] t → Steps p.tables e below S0 t := by
                intro tX kX
                refine pre1 _ ?_
                show own_s p e below s₁ m 1 #[iv p0] [(.int p0)] _
                refine X0.lookupswitchHit hx (g := (mkF m 1 #[iv p0] [(.int p0)])) rfl (k := p0) rfl (hb hby d1_1) (by decide) (a := (-5)) (off := 275) (by rw [hc27]; rfl) (show (0 : Int) ≤ ((1 : Nat) : Int) + 275 from by decide) _ ?_
                exact kX
              obtain ⟨T29, X29, e29, st29⟩ := getS2 X0 hx hZ hown (host := "") (Or.inl (hw _ (List.mem_of_getElem? (i := 36) rfl))) Via.refl e0 S_4 (g := (mkF m 276 #[iv p0] [])) rfl (hb hby d1_276)
              have pre30 : ∀ t, own_s p e below T29 m 279 #[iv p0] [(.ref (K 4))] t → Steps p.tables e below S0 t := fun tX kX => pre28 _ (st29 _ kX)
              have pre31 : ∀ t, own_s p e below T29 m 357 #[iv p0] [(.ref (K 4))] t → Steps p.tables e below S0 t := by
                intro tX kX
                refine pre30 _ ?_
                show own_s p e below T29 m 279 #[iv p0] [(.ref (K 4))] _
                refine XS.goto X29.here hx rfl (pc0 := 279) (pc' := 357) rfl (hb hby d1_279) (by decide) (by decide) ?_
                exact kX
              subst hS0
              obtain ⟨fs, hr, hrun, hended, hW, hsame⟩ := X29.leave (v := (some (.ref (K 4)))) (fun h => by rw [Bd.returns] at h; cases h)
              refine ⟨_, _, pre31 _ (retOut X29 hx Bd.returns (own_narR rfl) (Or.inr (Or.inr (Or.inr (Or.inr ⟨rfl, rfl, rfl⟩)))) (hb hby d1_357) hr), hrun, hended, _, _, rfl, ?_, ⟨_, rfl⟩, hW, hsame.mono (by decide) (by decide)⟩
              show Q1 Z p0 K h0 n0 (some (.ref (K 4))) T29.heap _
              exact ⟨congrArg (fun z => some (Value.ref (K z))) (show 4 = own_ix p0.toInt from Eq.symm (by rw [ihc27]; rfl)), N0, e29⟩
            · skip
              have ihc27 : ¬ ((p0).toInt = (-5 : Int)) := fun q => hc27 (Int32.toInt_inj.mp q)
              by_cases hc32 : p0 = (-4 : Int32)
              · skip
                have ihc32 : (p0).toInt = (-4 : Int) := congrArg Int32.toInt hc32
                have pre33 : ∀ t, own_s p e below s₁ m 330 #[iv p0] [] t → Steps p.tables e below S0 t := by
                  intro tX kX
                  refine pre1 _ ?_
                  show own_s p e below s₁ m 1 #[iv p0] [(.int p0)] _
                  refine X0.lookupswitchHit hx (g := (mkF m 1 #[iv p0] [(.int p0)])) rfl (k := p0) rfl (hb hby d1_1) (by decide) (a := (-4)) (off := 329) (by rw [hc32]; rfl) (show (0 : Int) ≤ ((1 : Nat) : Int) + 329 from by decide) _ ?_
                  exact kX
                obtain ⟨T34, X34, e34, st34⟩ := getS2 X0 hx hZ hown (host := "") (Or.inl (hw _ (List.mem_of_getElem? (i := 33) rfl))) Via.refl e0 S_13 (g := (mkF m 330 #[iv p0] [])) rfl (hb hby d1_330)
                have pre35 : ∀ t, own_s p e below T34 m 333 #[iv p0] [(.ref (K 13))] t → Steps p.tables e below S0 t := fun tX kX => pre33 _ (st34 _ kX)
                have pre36 : ∀ t, own_s p e below T34 m 357 #[iv p0] [(.ref (K 13))] t → Steps p.tables e below S0 t := by
                  intro tX kX
                  refine pre35 _ ?_
                  show own_s p e below T34 m 333 #[iv p0] [(.ref (K 13))] _
                  refine XS.goto X34.here hx rfl (pc0 := 333) (pc' := 357) rfl (hb hby d1_333) (by decide) (by decide) ?_
                  exact kX
                subst hS0
                obtain ⟨fs, hr, hrun, hended, hW, hsame⟩ := X34.leave (v := (some (.ref (K 13)))) (fun h => by rw [Bd.returns] at h; cases h)
                refine ⟨_, _, pre36 _ (retOut X34 hx Bd.returns (own_narR rfl) (Or.inr (Or.inr (Or.inr (Or.inr ⟨rfl, rfl, rfl⟩)))) (hb hby d1_357) hr), hrun, hended, _, _, rfl, ?_, ⟨_, rfl⟩, hW, hsame.mono (by decide) (by decide)⟩
                show Q1 Z p0 K h0 n0 (some (.ref (K 13))) T34.heap _
                exact ⟨congrArg (fun z => some (Value.ref (K z))) (show 13 = own_ix p0.toInt from Eq.symm (by rw [ihc32]; rfl)), N0, e34⟩
              · skip
                have ihc32 : ¬ ((p0).toInt = (-4 : Int)) := fun q => hc32 (Int32.toInt_inj.mp q)
                by_cases hc37 : p0 = (-3 : Int32)
                · skip
                  have ihc37 : (p0).toInt = (-3 : Int) := congrArg Int32.toInt hc37
                  have pre38 : ∀ t, own_s p e below s₁ m 330 #[iv p0] [] t → Steps p.tables e below S0 t := by
                    intro tX kX
                    refine pre1 _ ?_
                    show own_s p e below s₁ m 1 #[iv p0] [(.int p0)] _
                    refine X0.lookupswitchHit hx (g := (mkF m 1 #[iv p0] [(.int p0)])) rfl (k := p0) rfl (hb hby d1_1) (by decide) (a := (-3)) (off := 329) (by rw [hc37]; rfl) (show (0 : Int) ≤ ((1 : Nat) : Int) + 329 from by decide) _ ?_
                    exact kX
                  obtain ⟨T39, X39, e39, st39⟩ := getS2 X0 hx hZ hown (host := "") (Or.inl (hw _ (List.mem_of_getElem? (i := 33) rfl))) Via.refl e0 S_13 (g := (mkF m 330 #[iv p0] [])) rfl (hb hby d1_330)
                  have pre40 : ∀ t, own_s p e below T39 m 333 #[iv p0] [(.ref (K 13))] t → Steps p.tables e below S0 t := fun tX kX => pre38 _ (st39 _ kX)
                  have pre41 : ∀ t, own_s p e below T39 m 357 #[iv p0] [(.ref (K 13))] t → Steps p.tables e below S0 t := by
                    intro tX kX
                    refine pre40 _ ?_
                    show own_s p e below T39 m 333 #[iv p0] [(.ref (K 13))] _
                    refine XS.goto X39.here hx rfl (pc0 := 333) (pc' := 357) rfl (hb hby d1_333) (by decide) (by decide) ?_
                    exact kX
                  subst hS0
                  obtain ⟨fs, hr, hrun, hended, hW, hsame⟩ := X39.leave (v := (some (.ref (K 13)))) (fun h => by rw [Bd.returns] at h; cases h)
                  refine ⟨_, _, pre41 _ (retOut X39 hx Bd.returns (own_narR rfl) (Or.inr (Or.inr (Or.inr (Or.inr ⟨rfl, rfl, rfl⟩)))) (hb hby d1_357) hr), hrun, hended, _, _, rfl, ?_, ⟨_, rfl⟩, hW, hsame.mono (by decide) (by decide)⟩
                  show Q1 Z p0 K h0 n0 (some (.ref (K 13))) T39.heap _
                  exact ⟨congrArg (fun z => some (Value.ref (K z))) (show 13 = own_ix p0.toInt from Eq.symm (by rw [ihc37]; rfl)), N0, e39⟩
                · skip
                  have ihc37 : ¬ ((p0).toInt = (-3 : Int)) := fun q => hc37 (Int32.toInt_inj.mp q)
                  by_cases hc42 : p0 = (-2 : Int32)
                  · skip
                    have ihc42 : (p0).toInt = (-2 : Int) := congrArg Int32.toInt hc42
                    have pre43 : ∀ t, own_s p e below s₁ m 330 #[iv p0] [] t → Steps p.tables e below S0 t := by
                      intro tX kX
                      refine pre1 _ ?_
                      show own_s p e below s₁ m 1 #[iv p0] [(.int p0)] _
                      refine X0.lookupswitchHit hx (g := (mkF m 1 #[iv p0] [(.int p0)])) rfl (k := p0) rfl (hb hby d1_1) (by decide) (a := (-2)) (off := 329) (by rw [hc42]; rfl) (show (0 : Int) ≤ ((1 : Nat) : Int) + 329 from by decide) _ ?_
                      exact kX
                    obtain ⟨T44, X44, e44, st44⟩ := getS2 X0 hx hZ hown (host := "") (Or.inl (hw _ (List.mem_of_getElem? (i := 33) rfl))) Via.refl e0 S_13 (g := (mkF m 330 #[iv p0] [])) rfl (hb hby d1_330)
                    have pre45 : ∀ t, own_s p e below T44 m 333 #[iv p0] [(.ref (K 13))] t → Steps p.tables e below S0 t := fun tX kX => pre43 _ (st44 _ kX)
                    have pre46 : ∀ t, own_s p e below T44 m 357 #[iv p0] [(.ref (K 13))] t → Steps p.tables e below S0 t := by
                      intro tX kX
                      refine pre45 _ ?_
                      show own_s p e below T44 m 333 #[iv p0] [(.ref (K 13))] _
                      refine XS.goto X44.here hx rfl (pc0 := 333) (pc' := 357) rfl (hb hby d1_333) (by decide) (by decide) ?_
                      exact kX
                    subst hS0
                    obtain ⟨fs, hr, hrun, hended, hW, hsame⟩ := X44.leave (v := (some (.ref (K 13)))) (fun h => by rw [Bd.returns] at h; cases h)
                    refine ⟨_, _, pre46 _ (retOut X44 hx Bd.returns (own_narR rfl) (Or.inr (Or.inr (Or.inr (Or.inr ⟨rfl, rfl, rfl⟩)))) (hb hby d1_357) hr), hrun, hended, _, _, rfl, ?_, ⟨_, rfl⟩, hW, hsame.mono (by decide) (by decide)⟩
                    show Q1 Z p0 K h0 n0 (some (.ref (K 13))) T44.heap _
                    exact ⟨congrArg (fun z => some (Value.ref (K z))) (show 13 = own_ix p0.toInt from Eq.symm (by rw [ihc42]; rfl)), N0, e44⟩
                  · skip
                    have ihc42 : ¬ ((p0).toInt = (-2 : Int)) := fun q => hc42 (Int32.toInt_inj.mp q)
                    by_cases hc47 : p0 = (-1 : Int32)
                    · skip
                      have ihc47 : (p0).toInt = (-1 : Int) := congrArg Int32.toInt hc47
                      have pre48 : ∀ t, own_s p e below s₁ m 348 #[iv p0] [] t → Steps p.tables e below S0 t := by
                        intro tX kX
                        refine pre1 _ ?_
                        show own_s p e below s₁ m 1 #[iv p0] [(.int p0)] _
                        refine X0.lookupswitchHit hx (g := (mkF m 1 #[iv p0] [(.int p0)])) rfl (k := p0) rfl (hb hby d1_1) (by decide) (a := (-1)) (off := 347) (by rw [hc47]; rfl) (show (0 : Int) ≤ ((1 : Nat) : Int) + 347 from by decide) _ ?_
                        exact kX
                      obtain ⟨T49, X49, e49, st49⟩ := getS2 X0 hx hZ hown (host := "") (Or.inl (hw _ (List.mem_of_getElem? (i := 27) rfl))) Via.refl e0 S_16 (g := (mkF m 348 #[iv p0] [])) rfl (hb hby d1_348)
                      have pre50 : ∀ t, own_s p e below T49 m 351 #[iv p0] [(.ref (K 16))] t → Steps p.tables e below S0 t := fun tX kX => pre48 _ (st49 _ kX)
                      have pre51 : ∀ t, own_s p e below T49 m 357 #[iv p0] [(.ref (K 16))] t → Steps p.tables e below S0 t := by
                        intro tX kX
                        refine pre50 _ ?_
                        show own_s p e below T49 m 351 #[iv p0] [(.ref (K 16))] _
                        refine XS.goto X49.here hx rfl (pc0 := 351) (pc' := 357) rfl (hb hby d1_351) (by decide) (by decide) ?_
                        exact kX
                      subst hS0
                      obtain ⟨fs, hr, hrun, hended, hW, hsame⟩ := X49.leave (v := (some (.ref (K 16)))) (fun h => by rw [Bd.returns] at h; cases h)
                      refine ⟨_, _, pre51 _ (retOut X49 hx Bd.returns (own_narR rfl) (Or.inr (Or.inr (Or.inr (Or.inr ⟨rfl, rfl, rfl⟩)))) (hb hby d1_357) hr), hrun, hended, _, _, rfl, ?_, ⟨_, rfl⟩, hW, hsame.mono (by decide) (by decide)⟩
                      show Q1 Z p0 K h0 n0 (some (.ref (K 16))) T49.heap _
                      exact ⟨congrArg (fun z => some (Value.ref (K z))) (show 16 = own_ix p0.toInt from Eq.symm (by rw [ihc47]; rfl)), N0, e49⟩
                    · skip
                      have ihc47 : ¬ ((p0).toInt = (-1 : Int)) := fun q => hc47 (Int32.toInt_inj.mp q)
                      by_cases hc52 : p0 = (1 : Int32)
                      · skip
                        have ihc52 : (p0).toInt = (1 : Int) := congrArg Int32.toInt hc52
                        have pre53 : ∀ t, own_s p e below s₁ m 348 #[iv p0] [] t → Steps p.tables e below S0 t := by
                          intro tX kX
                          refine pre1 _ ?_
                          show own_s p e below s₁ m 1 #[iv p0] [(.int p0)] _
                          refine X0.lookupswitchHit hx (g := (mkF m 1 #[iv p0] [(.int p0)])) rfl (k := p0) rfl (hb hby d1_1) (by decide) (a := 1) (off := 347) (by rw [hc52]; rfl) (show (0 : Int) ≤ ((1 : Nat) : Int) + 347 from by decide) _ ?_
                          exact kX
                        obtain ⟨T54, X54, e54, st54⟩ := getS2 X0 hx hZ hown (host := "") (Or.inl (hw _ (List.mem_of_getElem? (i := 27) rfl))) Via.refl e0 S_16 (g := (mkF m 348 #[iv p0] [])) rfl (hb hby d1_348)
                        have pre55 : ∀ t, own_s p e below T54 m 351 #[iv p0] [(.ref (K 16))] t → Steps p.tables e below S0 t := fun tX kX => pre53 _ (st54 _ kX)
                        have pre56 : ∀ t, own_s p e below T54 m 357 #[iv p0] [(.ref (K 16))] t → Steps p.tables e below S0 t := by
                          intro tX kX
                          refine pre55 _ ?_
                          show own_s p e below T54 m 351 #[iv p0] [(.ref (K 16))] _
                          refine XS.goto X54.here hx rfl (pc0 := 351) (pc' := 357) rfl (hb hby d1_351) (by decide) (by decide) ?_
                          exact kX
                        subst hS0
                        obtain ⟨fs, hr, hrun, hended, hW, hsame⟩ := X54.leave (v := (some (.ref (K 16)))) (fun h => by rw [Bd.returns] at h; cases h)
                        refine ⟨_, _, pre56 _ (retOut X54 hx Bd.returns (own_narR rfl) (Or.inr (Or.inr (Or.inr (Or.inr ⟨rfl, rfl, rfl⟩)))) (hb hby d1_357) hr), hrun, hended, _, _, rfl, ?_, ⟨_, rfl⟩, hW, hsame.mono (by decide) (by decide)⟩
                        show Q1 Z p0 K h0 n0 (some (.ref (K 16))) T54.heap _
                        exact ⟨congrArg (fun z => some (Value.ref (K z))) (show 16 = own_ix p0.toInt from Eq.symm (by rw [ihc52]; rfl)), N0, e54⟩
                      · skip
                        have ihc52 : ¬ ((p0).toInt = (1 : Int)) := fun q => hc52 (Int32.toInt_inj.mp q)
                        by_cases hc57 : p0 = (2 : Int32)
                        · skip
                          have ihc57 : (p0).toInt = (2 : Int) := congrArg Int32.toInt hc57
                          have pre58 : ∀ t, own_s p e below s₁ m 282 #[iv p0] [] t → Steps p.tables e below S0 t := by
                            intro tX kX
                            refine pre1 _ ?_
                            show own_s p e below s₁ m 1 #[iv p0] [(.int p0)] _
                            refine X0.lookupswitchHit hx (g := (mkF m 1 #[iv p0] [(.int p0)])) rfl (k := p0) rfl (hb hby d1_1) (by decide) (a := 2) (off := 281) (by rw [hc57]; rfl) (show (0 : Int) ≤ ((1 : Nat) : Int) + 281 from by decide) _ ?_
                            exact kX
                          obtain ⟨T59, X59, e59, st59⟩ := getS2 X0 hx hZ hown (host := "") (Or.inl (hw _ (List.mem_of_getElem? (i := 12) rfl))) Via.refl e0 S_5 (g := (mkF m 282 #[iv p0] [])) rfl (hb hby d1_282)
                          have pre60 : ∀ t, own_s p e below T59 m 285 #[iv p0] [(.ref (K 5))] t → Steps p.tables e below S0 t := fun tX kX => pre58 _ (st59 _ kX)
                          have pre61 : ∀ t, own_s p e below T59 m 357 #[iv p0] [(.ref (K 5))] t → Steps p.tables e below S0 t := by
                            intro tX kX
                            refine pre60 _ ?_
                            show own_s p e below T59 m 285 #[iv p0] [(.ref (K 5))] _
                            refine XS.goto X59.here hx rfl (pc0 := 285) (pc' := 357) rfl (hb hby d1_285) (by decide) (by decide) ?_
                            exact kX
                          subst hS0
                          obtain ⟨fs, hr, hrun, hended, hW, hsame⟩ := X59.leave (v := (some (.ref (K 5)))) (fun h => by rw [Bd.returns] at h; cases h)
                          refine ⟨_, _, pre61 _ (retOut X59 hx Bd.returns (own_narR rfl) (Or.inr (Or.inr (Or.inr (Or.inr ⟨rfl, rfl, rfl⟩)))) (hb hby d1_357) hr), hrun, hended, _, _, rfl, ?_, ⟨_, rfl⟩, hW, hsame.mono (by decide) (by decide)⟩
                          show Q1 Z p0 K h0 n0 (some (.ref (K 5))) T59.heap _
                          exact ⟨congrArg (fun z => some (Value.ref (K z))) (show 5 = own_ix p0.toInt from Eq.symm (by rw [ihc57]; rfl)), N0, e59⟩
                        · skip
                          have ihc57 : ¬ ((p0).toInt = (2 : Int)) := fun q => hc57 (Int32.toInt_inj.mp q)
                          by_cases hc62 : p0 = (3 : Int32)
                          · skip
                            have ihc62 : (p0).toInt = (3 : Int) := congrArg Int32.toInt hc62
                            have pre63 : ∀ t, own_s p e below s₁ m 282 #[iv p0] [] t → Steps p.tables e below S0 t := by
                              intro tX kX
                              refine pre1 _ ?_
                              show own_s p e below s₁ m 1 #[iv p0] [(.int p0)] _
                              refine X0.lookupswitchHit hx (g := (mkF m 1 #[iv p0] [(.int p0)])) rfl (k := p0) rfl (hb hby d1_1) (by decide) (a := 3) (off := 281) (by rw [hc62]; rfl) (show (0 : Int) ≤ ((1 : Nat) : Int) + 281 from by decide) _ ?_
                              exact kX
                            obtain ⟨T64, X64, e64, st64⟩ := getS2 X0 hx hZ hown (host := "") (Or.inl (hw _ (List.mem_of_getElem? (i := 12) rfl))) Via.refl e0 S_5 (g := (mkF m 282 #[iv p0] [])) rfl (hb hby d1_282)
                            have pre65 : ∀ t, own_s p e below T64 m 285 #[iv p0] [(.ref (K 5))] t → Steps p.tables e below S0 t := fun tX kX => pre63 _ (st64 _ kX)
                            have pre66 : ∀ t, own_s p e below T64 m 357 #[iv p0] [(.ref (K 5))] t → Steps p.tables e below S0 t := by
                              intro tX kX
                              refine pre65 _ ?_
                              show own_s p e below T64 m 285 #[iv p0] [(.ref (K 5))] _
                              refine XS.goto X64.here hx rfl (pc0 := 285) (pc' := 357) rfl (hb hby d1_285) (by decide) (by decide) ?_
                              exact kX
                            subst hS0
                            obtain ⟨fs, hr, hrun, hended, hW, hsame⟩ := X64.leave (v := (some (.ref (K 5)))) (fun h => by rw [Bd.returns] at h; cases h)
                            refine ⟨_, _, pre66 _ (retOut X64 hx Bd.returns (own_narR rfl) (Or.inr (Or.inr (Or.inr (Or.inr ⟨rfl, rfl, rfl⟩)))) (hb hby d1_357) hr), hrun, hended, _, _, rfl, ?_, ⟨_, rfl⟩, hW, hsame.mono (by decide) (by decide)⟩
                            show Q1 Z p0 K h0 n0 (some (.ref (K 5))) T64.heap _
                            exact ⟨congrArg (fun z => some (Value.ref (K z))) (show 5 = own_ix p0.toInt from Eq.symm (by rw [ihc62]; rfl)), N0, e64⟩
                          · skip
                            have ihc62 : ¬ ((p0).toInt = (3 : Int)) := fun q => hc62 (Int32.toInt_inj.mp q)
                            by_cases hc67 : p0 = (4 : Int32)
                            · skip
                              have ihc67 : (p0).toInt = (4 : Int) := congrArg Int32.toInt hc67
                              have pre68 : ∀ t, own_s p e below s₁ m 270 #[iv p0] [] t → Steps p.tables e below S0 t := by
                                intro tX kX
                                refine pre1 _ ?_
                                show own_s p e below s₁ m 1 #[iv p0] [(.int p0)] _
                                refine X0.lookupswitchHit hx (g := (mkF m 1 #[iv p0] [(.int p0)])) rfl (k := p0) rfl (hb hby d1_1) (by decide) (a := 4) (off := 269) (by rw [hc67]; rfl) (show (0 : Int) ≤ ((1 : Nat) : Int) + 269 from by decide) _ ?_
                                exact kX
                              obtain ⟨T69, X69, e69, st69⟩ := getS2 X0 hx hZ hown (host := "") (Or.inl (hw _ (List.mem_of_getElem? (i := 24) rfl))) Via.refl e0 S_3 (g := (mkF m 270 #[iv p0] [])) rfl (hb hby d1_270)
                              have pre70 : ∀ t, own_s p e below T69 m 273 #[iv p0] [(.ref (K 3))] t → Steps p.tables e below S0 t := fun tX kX => pre68 _ (st69 _ kX)
                              have pre71 : ∀ t, own_s p e below T69 m 357 #[iv p0] [(.ref (K 3))] t → Steps p.tables e below S0 t := by
                                intro tX kX
                                refine pre70 _ ?_
                                show own_s p e below T69 m 273 #[iv p0] [(.ref (K 3))] _
                                refine XS.goto X69.here hx rfl (pc0 := 273) (pc' := 357) rfl (hb hby d1_273) (by decide) (by decide) ?_
                                exact kX
                              subst hS0
                              obtain ⟨fs, hr, hrun, hended, hW, hsame⟩ := X69.leave (v := (some (.ref (K 3)))) (fun h => by rw [Bd.returns] at h; cases h)
                              refine ⟨_, _, pre71 _ (retOut X69 hx Bd.returns (own_narR rfl) (Or.inr (Or.inr (Or.inr (Or.inr ⟨rfl, rfl, rfl⟩)))) (hb hby d1_357) hr), hrun, hended, _, _, rfl, ?_, ⟨_, rfl⟩, hW, hsame.mono (by decide) (by decide)⟩
                              show Q1 Z p0 K h0 n0 (some (.ref (K 3))) T69.heap _
                              exact ⟨congrArg (fun z => some (Value.ref (K z))) (show 3 = own_ix p0.toInt from Eq.symm (by rw [ihc67]; rfl)), N0, e69⟩
                            · skip
                              have ihc67 : ¬ ((p0).toInt = (4 : Int)) := fun q => hc67 (Int32.toInt_inj.mp q)
                              by_cases hc72 : p0 = (5 : Int32)
                              · skip
                                have ihc72 : (p0).toInt = (5 : Int) := congrArg Int32.toInt hc72
                                have pre73 : ∀ t, own_s p e below s₁ m 264 #[iv p0] [] t → Steps p.tables e below S0 t := by
                                  intro tX kX
                                  refine pre1 _ ?_
                                  show own_s p e below s₁ m 1 #[iv p0] [(.int p0)] _
                                  refine X0.lookupswitchHit hx (g := (mkF m 1 #[iv p0] [(.int p0)])) rfl (k := p0) rfl (hb hby d1_1) (by decide) (a := 5) (off := 263) (by rw [hc72]; rfl) (show (0 : Int) ≤ ((1 : Nat) : Int) + 263 from by decide) _ ?_
                                  exact kX
                                obtain ⟨T74, X74, e74, st74⟩ := getS2 X0 hx hZ hown (host := "") (Or.inl (hw _ (List.mem_of_getElem? (i := 21) rfl))) Via.refl e0 S_2 (g := (mkF m 264 #[iv p0] [])) rfl (hb hby d1_264)
                                have pre75 : ∀ t, own_s p e below T74 m 267 #[iv p0] [(.ref (K 2))] t → Steps p.tables e below S0 t := fun tX kX => pre73 _ (st74 _ kX)
                                have pre76 : ∀ t, own_s p e below T74 m 357 #[iv p0] [(.ref (K 2))] t → Steps p.tables e below S0 t := by
                                  intro tX kX
                                  refine pre75 _ ?_
                                  show own_s p e below T74 m 267 #[iv p0] [(.ref (K 2))] _
                                  refine XS.goto X74.here hx rfl (pc0 := 267) (pc' := 357) rfl (hb hby d1_267) (by decide) (by decide) ?_
                                  exact kX
                                subst hS0
                                obtain ⟨fs, hr, hrun, hended, hW, hsame⟩ := X74.leave (v := (some (.ref (K 2)))) (fun h => by rw [Bd.returns] at h; cases h)
                                refine ⟨_, _, pre76 _ (retOut X74 hx Bd.returns (own_narR rfl) (Or.inr (Or.inr (Or.inr (Or.inr ⟨rfl, rfl, rfl⟩)))) (hb hby d1_357) hr), hrun, hended, _, _, rfl, ?_, ⟨_, rfl⟩, hW, hsame.mono (by decide) (by decide)⟩
                                show Q1 Z p0 K h0 n0 (some (.ref (K 2))) T74.heap _
                                exact ⟨congrArg (fun z => some (Value.ref (K z))) (show 2 = own_ix p0.toInt from Eq.symm (by rw [ihc72]; rfl)), N0, e74⟩
                              · skip
                                have ihc72 : ¬ ((p0).toInt = (5 : Int)) := fun q => hc72 (Int32.toInt_inj.mp q)
                                by_cases hc77 : p0 = (6 : Int32)
                                · skip
                                  have ihc77 : (p0).toInt = (6 : Int) := congrArg Int32.toInt hc77
                                  have pre78 : ∀ t, own_s p e below s₁ m 294 #[iv p0] [] t → Steps p.tables e below S0 t := by
                                    intro tX kX
                                    refine pre1 _ ?_
                                    show own_s p e below s₁ m 1 #[iv p0] [(.int p0)] _
                                    refine X0.lookupswitchHit hx (g := (mkF m 1 #[iv p0] [(.int p0)])) rfl (k := p0) rfl (hb hby d1_1) (by decide) (a := 6) (off := 293) (by rw [hc77]; rfl) (show (0 : Int) ≤ ((1 : Nat) : Int) + 293 from by decide) _ ?_
                                    exact kX
                                  obtain ⟨T79, X79, e79, st79⟩ := getS2 X0 hx hZ hown (host := "") (Or.inl (hw _ (List.mem_of_getElem? (i := 42) rfl))) Via.refl e0 S_7 (g := (mkF m 294 #[iv p0] [])) rfl (hb hby d1_294)
                                  have pre80 : ∀ t, own_s p e below T79 m 297 #[iv p0] [(.ref (K 7))] t → Steps p.tables e below S0 t := fun tX kX => pre78 _ (st79 _ kX)
                                  have pre81 : ∀ t, own_s p e below T79 m 357 #[iv p0] [(.ref (K 7))] t → Steps p.tables e below S0 t := by
                                    intro tX kX
                                    refine pre80 _ ?_
                                    show own_s p e below T79 m 297 #[iv p0] [(.ref (K 7))] _
                                    refine XS.goto X79.here hx rfl (pc0 := 297) (pc' := 357) rfl (hb hby d1_297) (by decide) (by decide) ?_
                                    exact kX
                                  subst hS0
                                  obtain ⟨fs, hr, hrun, hended, hW, hsame⟩ := X79.leave (v := (some (.ref (K 7)))) (fun h => by rw [Bd.returns] at h; cases h)
                                  refine ⟨_, _, pre81 _ (retOut X79 hx Bd.returns (own_narR rfl) (Or.inr (Or.inr (Or.inr (Or.inr ⟨rfl, rfl, rfl⟩)))) (hb hby d1_357) hr), hrun, hended, _, _, rfl, ?_, ⟨_, rfl⟩, hW, hsame.mono (by decide) (by decide)⟩
                                  show Q1 Z p0 K h0 n0 (some (.ref (K 7))) T79.heap _
                                  exact ⟨congrArg (fun z => some (Value.ref (K z))) (show 7 = own_ix p0.toInt from Eq.symm (by rw [ihc77]; rfl)), N0, e79⟩
                                · skip
                                  have ihc77 : ¬ ((p0).toInt = (6 : Int)) := fun q => hc77 (Int32.toInt_inj.mp q)
                                  by_cases hc82 : p0 = (7 : Int32)
                                  · skip
                                    have ihc82 : (p0).toInt = (7 : Int) := congrArg Int32.toInt hc82
                                    have pre83 : ∀ t, own_s p e below s₁ m 288 #[iv p0] [] t → Steps p.tables e below S0 t := by
                                      intro tX kX
                                      refine pre1 _ ?_
                                      show own_s p e below s₁ m 1 #[iv p0] [(.int p0)] _
                                      refine X0.lookupswitchHit hx (g := (mkF m 1 #[iv p0] [(.int p0)])) rfl (k := p0) rfl (hb hby d1_1) (by decide) (a := 7) (off := 287) (by rw [hc82]; rfl) (show (0 : Int) ≤ ((1 : Nat) : Int) + 287 from by decide) _ ?_
                                      exact kX
                                    obtain ⟨T84, X84, e84, st84⟩ := getS2 X0 hx hZ hown (host := "") (Or.inl (hw _ (List.mem_of_getElem? (i := 45) rfl))) Via.refl e0 S_6 (g := (mkF m 288 #[iv p0] [])) rfl (hb hby d1_288)
                                    have pre85 : ∀ t, own_s p e below T84 m 291 #[iv p0] [(.ref (K 6))] t → Steps p.tables e below S0 t := fun tX kX => pre83 _ (st84 _ kX)
                                    have pre86 : ∀ t, own_s p e below T84 m 357 #[iv p0] [(.ref (K 6))] t → Steps p.tables e below S0 t := by
                                      intro tX kX
                                      refine pre85 _ ?_
                                      show own_s p e below T84 m 291 #[iv p0] [(.ref (K 6))] _
                                      refine XS.goto X84.here hx rfl (pc0 := 291) (pc' := 357) rfl (hb hby d1_291) (by decide) (by decide) ?_
                                      exact kX
                                    subst hS0
                                    obtain ⟨fs, hr, hrun, hended, hW, hsame⟩ := X84.leave (v := (some (.ref (K 6)))) (fun h => by rw [Bd.returns] at h; cases h)
                                    refine ⟨_, _, pre86 _ (retOut X84 hx Bd.returns (own_narR rfl) (Or.inr (Or.inr (Or.inr (Or.inr ⟨rfl, rfl, rfl⟩)))) (hb hby d1_357) hr), hrun, hended, _, _, rfl, ?_, ⟨_, rfl⟩, hW, hsame.mono (by decide) (by decide)⟩
                                    show Q1 Z p0 K h0 n0 (some (.ref (K 6))) T84.heap _
                                    exact ⟨congrArg (fun z => some (Value.ref (K z))) (show 6 = own_ix p0.toInt from Eq.symm (by rw [ihc82]; rfl)), N0, e84⟩
                                  · skip
                                    have ihc82 : ¬ ((p0).toInt = (7 : Int)) := fun q => hc82 (Int32.toInt_inj.mp q)
                                    by_cases hc87 : p0 = (8 : Int32)
                                    · skip
                                      have ihc87 : (p0).toInt = (8 : Int) := congrArg Int32.toInt hc87
                                      have pre88 : ∀ t, own_s p e below s₁ m 294 #[iv p0] [] t → Steps p.tables e below S0 t := by
                                        intro tX kX
                                        refine pre1 _ ?_
                                        show own_s p e below s₁ m 1 #[iv p0] [(.int p0)] _
                                        refine X0.lookupswitchHit hx (g := (mkF m 1 #[iv p0] [(.int p0)])) rfl (k := p0) rfl (hb hby d1_1) (by decide) (a := 8) (off := 293) (by rw [hc87]; rfl) (show (0 : Int) ≤ ((1 : Nat) : Int) + 293 from by decide) _ ?_
                                        exact kX
                                      obtain ⟨T89, X89, e89, st89⟩ := getS2 X0 hx hZ hown (host := "") (Or.inl (hw _ (List.mem_of_getElem? (i := 42) rfl))) Via.refl e0 S_7 (g := (mkF m 294 #[iv p0] [])) rfl (hb hby d1_294)
                                      have pre90 : ∀ t, own_s p e below T89 m 297 #[iv p0] [(.ref (K 7))] t → Steps p.tables e below S0 t := fun tX kX => pre88 _ (st89 _ kX)
                                      have pre91 : ∀ t, own_s p e below T89 m 357 #[iv p0] [(.ref (K 7))] t → Steps p.tables e below S0 t := by
                                        intro tX kX
                                        refine pre90 _ ?_
                                        show own_s p e below T89 m 297 #[iv p0] [(.ref (K 7))] _
                                        refine XS.goto X89.here hx rfl (pc0 := 297) (pc' := 357) rfl (hb hby d1_297) (by decide) (by decide) ?_
                                        exact kX
                                      subst hS0
                                      obtain ⟨fs, hr, hrun, hended, hW, hsame⟩ := X89.leave (v := (some (.ref (K 7)))) (fun h => by rw [Bd.returns] at h; cases h)
                                      refine ⟨_, _, pre91 _ (retOut X89 hx Bd.returns (own_narR rfl) (Or.inr (Or.inr (Or.inr (Or.inr ⟨rfl, rfl, rfl⟩)))) (hb hby d1_357) hr), hrun, hended, _, _, rfl, ?_, ⟨_, rfl⟩, hW, hsame.mono (by decide) (by decide)⟩
                                      show Q1 Z p0 K h0 n0 (some (.ref (K 7))) T89.heap _
                                      exact ⟨congrArg (fun z => some (Value.ref (K z))) (show 7 = own_ix p0.toInt from Eq.symm (by rw [ihc87]; rfl)), N0, e89⟩
                                    · skip
                                      have ihc87 : ¬ ((p0).toInt = (8 : Int)) := fun q => hc87 (Int32.toInt_inj.mp q)
                                      by_cases hc92 : p0 = (12 : Int32)
                                      · skip
                                        have ihc92 : (p0).toInt = (12 : Int) := congrArg Int32.toInt hc92
                                        have pre93 : ∀ t, own_s p e below s₁ m 348 #[iv p0] [] t → Steps p.tables e below S0 t := by
                                          intro tX kX
                                          refine pre1 _ ?_
                                          show own_s p e below s₁ m 1 #[iv p0] [(.int p0)] _
                                          refine X0.lookupswitchHit hx (g := (mkF m 1 #[iv p0] [(.int p0)])) rfl (k := p0) rfl (hb hby d1_1) (by decide) (a := 12) (off := 347) (by rw [hc92]; rfl) (show (0 : Int) ≤ ((1 : Nat) : Int) + 347 from by decide) _ ?_
                                          exact kX
                                        obtain ⟨T94, X94, e94, st94⟩ := getS2 X0 hx hZ hown (host := "") (Or.inl (hw _ (List.mem_of_getElem? (i := 27) rfl))) Via.refl e0 S_16 (g := (mkF m 348 #[iv p0] [])) rfl (hb hby d1_348)
                                        have pre95 : ∀ t, own_s p e below T94 m 351 #[iv p0] [(.ref (K 16))] t → Steps p.tables e below S0 t := fun tX kX => pre93 _ (st94 _ kX)
                                        have pre96 : ∀ t, own_s p e below T94 m 357 #[iv p0] [(.ref (K 16))] t → Steps p.tables e below S0 t := by
                                          intro tX kX
                                          refine pre95 _ ?_
                                          show own_s p e below T94 m 351 #[iv p0] [(.ref (K 16))] _
                                          refine XS.goto X94.here hx rfl (pc0 := 351) (pc' := 357) rfl (hb hby d1_351) (by decide) (by decide) ?_
                                          exact kX
                                        subst hS0
                                        obtain ⟨fs, hr, hrun, hended, hW, hsame⟩ := X94.leave (v := (some (.ref (K 16)))) (fun h => by rw [Bd.returns] at h; cases h)
                                        refine ⟨_, _, pre96 _ (retOut X94 hx Bd.returns (own_narR rfl) (Or.inr (Or.inr (Or.inr (Or.inr ⟨rfl, rfl, rfl⟩)))) (hb hby d1_357) hr), hrun, hended, _, _, rfl, ?_, ⟨_, rfl⟩, hW, hsame.mono (by decide) (by decide)⟩
                                        show Q1 Z p0 K h0 n0 (some (.ref (K 16))) T94.heap _
                                        exact ⟨congrArg (fun z => some (Value.ref (K z))) (show 16 = own_ix p0.toInt from Eq.symm (by rw [ihc92]; rfl)), N0, e94⟩
                                      · skip
                                        have ihc92 : ¬ ((p0).toInt = (12 : Int)) := fun q => hc92 (Int32.toInt_inj.mp q)
                                        by_cases hc97 : p0 = (16 : Int32)
                                        · skip
                                          have ihc97 : (p0).toInt = (16 : Int) := congrArg Int32.toInt hc97
                                          have pre98 : ∀ t, own_s p e below s₁ m 252 #[iv p0] [] t → Steps p.tables e below S0 t := by
                                            intro tX kX
                                            refine pre1 _ ?_
                                            show own_s p e below s₁ m 1 #[iv p0] [(.int p0)] _
                                            refine X0.lookupswitchHit hx (g := (mkF m 1 #[iv p0] [(.int p0)])) rfl (k := p0) rfl (hb hby d1_1) (by decide) (a := 16) (off := 251) (by rw [hc97]; rfl) (show (0 : Int) ≤ ((1 : Nat) : Int) + 251 from by decide) _ ?_
                                            exact kX
                                          obtain ⟨T99, X99, e99, st99⟩ := getS2 X0 hx hZ hown (host := "") (Or.inl (hw _ (List.mem_of_getElem? (i := 5) rfl))) Via.refl e0 S_0 (g := (mkF m 252 #[iv p0] [])) rfl (hb hby d1_252)
                                          have pre100 : ∀ t, own_s p e below T99 m 255 #[iv p0] [(.ref (K 0))] t → Steps p.tables e below S0 t := fun tX kX => pre98 _ (st99 _ kX)
                                          have pre101 : ∀ t, own_s p e below T99 m 357 #[iv p0] [(.ref (K 0))] t → Steps p.tables e below S0 t := by
                                            intro tX kX
                                            refine pre100 _ ?_
                                            show own_s p e below T99 m 255 #[iv p0] [(.ref (K 0))] _
                                            refine XS.goto X99.here hx rfl (pc0 := 255) (pc' := 357) rfl (hb hby d1_255) (by decide) (by decide) ?_
                                            exact kX
                                          subst hS0
                                          obtain ⟨fs, hr, hrun, hended, hW, hsame⟩ := X99.leave (v := (some (.ref (K 0)))) (fun h => by rw [Bd.returns] at h; cases h)
                                          refine ⟨_, _, pre101 _ (retOut X99 hx Bd.returns (own_narR rfl) (Or.inr (Or.inr (Or.inr (Or.inr ⟨rfl, rfl, rfl⟩)))) (hb hby d1_357) hr), hrun, hended, _, _, rfl, ?_, ⟨_, rfl⟩, hW, hsame.mono (by decide) (by decide)⟩
                                          show Q1 Z p0 K h0 n0 (some (.ref (K 0))) T99.heap _
                                          exact ⟨congrArg (fun z => some (Value.ref (K z))) (show 0 = own_ix p0.toInt from Eq.symm (by rw [ihc97]; rfl)), N0, e99⟩
                                        · skip
                                          have ihc97 : ¬ ((p0).toInt = (16 : Int)) := fun q => hc97 (Int32.toInt_inj.mp q)
                                          by_cases hc102 : p0 = (91 : Int32)
                                          · skip
                                            have ihc102 : (p0).toInt = (91 : Int) := congrArg Int32.toInt hc102
                                            have pre103 : ∀ t, own_s p e below s₁ m 300 #[iv p0] [] t → Steps p.tables e below S0 t := by
                                              intro tX kX
                                              refine pre1 _ ?_
                                              show own_s p e below s₁ m 1 #[iv p0] [(.int p0)] _
                                              refine X0.lookupswitchHit hx (g := (mkF m 1 #[iv p0] [(.int p0)])) rfl (k := p0) rfl (hb hby d1_1) (by decide) (a := 91) (off := 299) (by rw [hc102]; rfl) (show (0 : Int) ≤ ((1 : Nat) : Int) + 299 from by decide) _ ?_
                                              exact kX
                                            obtain ⟨T104, X104, e104, st104⟩ := getS2 X0 hx hZ hown (host := "") (Or.inl (hw _ (List.mem_of_getElem? (i := 51) rfl))) Via.refl e0 S_8 (g := (mkF m 300 #[iv p0] [])) rfl (hb hby d1_300)
                                            have pre105 : ∀ t, own_s p e below T104 m 303 #[iv p0] [(.ref (K 8))] t → Steps p.tables e below S0 t := fun tX kX => pre103 _ (st104 _ kX)
                                            have pre106 : ∀ t, own_s p e below T104 m 357 #[iv p0] [(.ref (K 8))] t → Steps p.tables e below S0 t := by
                                              intro tX kX
                                              refine pre105 _ ?_
                                              show own_s p e below T104 m 303 #[iv p0] [(.ref (K 8))] _
                                              refine XS.goto X104.here hx rfl (pc0 := 303) (pc' := 357) rfl (hb hby d1_303) (by decide) (by decide) ?_
                                              exact kX
                                            subst hS0
                                            obtain ⟨fs, hr, hrun, hended, hW, hsame⟩ := X104.leave (v := (some (.ref (K 8)))) (fun h => by rw [Bd.returns] at h; cases h)
                                            refine ⟨_, _, pre106 _ (retOut X104 hx Bd.returns (own_narR rfl) (Or.inr (Or.inr (Or.inr (Or.inr ⟨rfl, rfl, rfl⟩)))) (hb hby d1_357) hr), hrun, hended, _, _, rfl, ?_, ⟨_, rfl⟩, hW, hsame.mono (by decide) (by decide)⟩
                                            show Q1 Z p0 K h0 n0 (some (.ref (K 8))) T104.heap _
                                            exact ⟨congrArg (fun z => some (Value.ref (K z))) (show 8 = own_ix p0.toInt from Eq.symm (by rw [ihc102]; rfl)), N0, e104⟩
                                          · skip
                                            have ihc102 : ¬ ((p0).toInt = (91 : Int)) := fun q => hc102 (Int32.toInt_inj.mp q)
                                            by_cases hc107 : p0 = (92 : Int32)
                                            · skip
                                              have ihc107 : (p0).toInt = (92 : Int) := congrArg Int32.toInt hc107
                                              have pre108 : ∀ t, own_s p e below s₁ m 306 #[iv p0] [] t → Steps p.tables e below S0 t := by
                                                intro tX kX
                                                refine pre1 _ ?_
                                                show own_s p e below s₁ m 1 #[iv p0] [(.int p0)] _
                                                refine X0.lookupswitchHit hx (g := (mkF m 1 #[iv p0] [(.int p0)])) rfl (k := p0) rfl (hb hby d1_1) (by decide) (a := 92) (off := 305) (by rw [hc107]; rfl) (show (0 : Int) ≤ ((1 : Nat) : Int) + 305 from by decide) _ ?_
                                                exact kX
                                              obtain ⟨T109, X109, e109, st109⟩ := getS2 X0 hx hZ hown (host := "") (Or.inl (hw _ (List.mem_of_getElem? (i := 15) rfl))) Via.refl e0 S_9 (g := (mkF m 306 #[iv p0] [])) rfl (hb hby d1_306)
                                              have pre110 : ∀ t, own_s p e below T109 m 309 #[iv p0] [(.ref (K 9))] t → Steps p.tables e below S0 t := fun tX kX => pre108 _ (st109 _ kX)
                                              have pre111 : ∀ t, own_s p e below T109 m 357 #[iv p0] [(.ref (K 9))] t → Steps p.tables e below S0 t := by
                                                intro tX kX
                                                refine pre110 _ ?_
                                                show own_s p e below T109 m 309 #[iv p0] [(.ref (K 9))] _
                                                refine XS.goto X109.here hx rfl (pc0 := 309) (pc' := 357) rfl (hb hby d1_309) (by decide) (by decide) ?_
                                                exact kX
                                              subst hS0
                                              obtain ⟨fs, hr, hrun, hended, hW, hsame⟩ := X109.leave (v := (some (.ref (K 9)))) (fun h => by rw [Bd.returns] at h; cases h)
                                              refine ⟨_, _, pre111 _ (retOut X109 hx Bd.returns (own_narR rfl) (Or.inr (Or.inr (Or.inr (Or.inr ⟨rfl, rfl, rfl⟩)))) (hb hby d1_357) hr), hrun, hended, _, _, rfl, ?_, ⟨_, rfl⟩, hW, hsame.mono (by decide) (by decide)⟩
                                              show Q1 Z p0 K h0 n0 (some (.ref (K 9))) T109.heap _
                                              exact ⟨congrArg (fun z => some (Value.ref (K z))) (show 9 = own_ix p0.toInt from Eq.symm (by rw [ihc107]; rfl)), N0, e109⟩
                                            · skip
                                              have ihc107 : ¬ ((p0).toInt = (92 : Int)) := fun q => hc107 (Int32.toInt_inj.mp q)
                                              by_cases hc112 : p0 = (93 : Int32)
                                              · skip
                                                have ihc112 : (p0).toInt = (93 : Int) := congrArg Int32.toInt hc112
                                                have pre113 : ∀ t, own_s p e below s₁ m 312 #[iv p0] [] t → Steps p.tables e below S0 t := by
                                                  intro tX kX
                                                  refine pre1 _ ?_
                                                  show own_s p e below s₁ m 1 #[iv p0] [(.int p0)] _
                                                  refine X0.lookupswitchHit hx (g := (mkF m 1 #[iv p0] [(.int p0)])) rfl (k := p0) rfl (hb hby d1_1) (by decide) (a := 93) (off := 311) (by rw [hc112]; rfl) (show (0 : Int) ≤ ((1 : Nat) : Int) + 311 from by decide) _ ?_
                                                  exact kX
                                                obtain ⟨T114, X114, e114, st114⟩ := getS2 X0 hx hZ hown (host := "") (Or.inl (hw _ (List.mem_of_getElem? (i := 54) rfl))) Via.refl e0 S_10 (g := (mkF m 312 #[iv p0] [])) rfl (hb hby d1_312)
                                                have pre115 : ∀ t, own_s p e below T114 m 315 #[iv p0] [(.ref (K 10))] t → Steps p.tables e below S0 t := fun tX kX => pre113 _ (st114 _ kX)
                                                have pre116 : ∀ t, own_s p e below T114 m 357 #[iv p0] [(.ref (K 10))] t → Steps p.tables e below S0 t := by
                                                  intro tX kX
                                                  refine pre115 _ ?_
                                                  show own_s p e below T114 m 315 #[iv p0] [(.ref (K 10))] _
                                                  refine XS.goto X114.here hx rfl (pc0 := 315) (pc' := 357) rfl (hb hby d1_315) (by decide) (by decide) ?_
                                                  exact kX
                                                subst hS0
                                                obtain ⟨fs, hr, hrun, hended, hW, hsame⟩ := X114.leave (v := (some (.ref (K 10)))) (fun h => by rw [Bd.returns] at h; cases h)
                                                refine ⟨_, _, pre116 _ (retOut X114 hx Bd.returns (own_narR rfl) (Or.inr (Or.inr (Or.inr (Or.inr ⟨rfl, rfl, rfl⟩)))) (hb hby d1_357) hr), hrun, hended, _, _, rfl, ?_, ⟨_, rfl⟩, hW, hsame.mono (by decide) (by decide)⟩
                                                show Q1 Z p0 K h0 n0 (some (.ref (K 10))) T114.heap _
                                                exact ⟨congrArg (fun z => some (Value.ref (K z))) (show 10 = own_ix p0.toInt from Eq.symm (by rw [ihc112]; rfl)), N0, e114⟩
                                              · skip
                                                have ihc112 : ¬ ((p0).toInt = (93 : Int)) := fun q => hc112 (Int32.toInt_inj.mp q)
                                                by_cases hc117 : p0 = (2003 : Int32)
                                                · skip
                                                  have ihc117 : (p0).toInt = (2003 : Int) := congrArg Int32.toInt hc117
                                                  have pre118 : ∀ t, own_s p e below s₁ m 336 #[iv p0] [] t → Steps p.tables e below S0 t := by
                                                    intro tX kX
                                                    refine pre1 _ ?_
                                                    show own_s p e below s₁ m 1 #[iv p0] [(.int p0)] _
                                                    refine X0.lookupswitchHit hx (g := (mkF m 1 #[iv p0] [(.int p0)])) rfl (k := p0) rfl (hb hby d1_1) (by decide) (a := 2003) (off := 335) (by rw [hc117]; rfl) (show (0 : Int) ≤ ((1 : Nat) : Int) + 335 from by decide) _ ?_
                                                    exact kX
                                                  obtain ⟨T119, X119, e119, st119⟩ := getS2 X0 hx hZ hown (host := "") (Or.inl (hw _ (List.mem_of_getElem? (i := 39) rfl))) Via.refl e0 S_14 (g := (mkF m 336 #[iv p0] [])) rfl (hb hby d1_336)
                                                  have pre120 : ∀ t, own_s p e below T119 m 339 #[iv p0] [(.ref (K 14))] t → Steps p.tables e below S0 t := fun tX kX => pre118 _ (st119 _ kX)
                                                  have pre121 : ∀ t, own_s p e below T119 m 357 #[iv p0] [(.ref (K 14))] t → Steps p.tables e below S0 t := by
                                                    intro tX kX
                                                    refine pre120 _ ?_
                                                    show own_s p e below T119 m 339 #[iv p0] [(.ref (K 14))] _
                                                    refine XS.goto X119.here hx rfl (pc0 := 339) (pc' := 357) rfl (hb hby d1_339) (by decide) (by decide) ?_
                                                    exact kX
                                                  subst hS0
                                                  obtain ⟨fs, hr, hrun, hended, hW, hsame⟩ := X119.leave (v := (some (.ref (K 14)))) (fun h => by rw [Bd.returns] at h; cases h)
                                                  refine ⟨_, _, pre121 _ (retOut X119 hx Bd.returns (own_narR rfl) (Or.inr (Or.inr (Or.inr (Or.inr ⟨rfl, rfl, rfl⟩)))) (hb hby d1_357) hr), hrun, hended, _, _, rfl, ?_, ⟨_, rfl⟩, hW, hsame.mono (by decide) (by decide)⟩
                                                  show Q1 Z p0 K h0 n0 (some (.ref (K 14))) T119.heap _
                                                  exact ⟨congrArg (fun z => some (Value.ref (K z))) (show 14 = own_ix p0.toInt from Eq.symm (by rw [ihc117]; rfl)), N0, e119⟩
                                                · skip
                                                  have ihc117 : ¬ ((p0).toInt = (2003 : Int)) := fun q => hc117 (Int32.toInt_inj.mp q)
                                                  by_cases hc122 : p0 = (2004 : Int32)
                                                  · skip
                                                    have ihc122 : (p0).toInt = (2004 : Int) := congrArg Int32.toInt hc122
                                                    have pre123 : ∀ t, own_s p e below s₁ m 330 #[iv p0] [] t → Steps p.tables e below S0 t := by
                                                      intro tX kX
                                                      refine pre1 _ ?_
                                                      show own_s p e below s₁ m 1 #[iv p0] [(.int p0)] _
                                                      refine X0.lookupswitchHit hx (g := (mkF m 1 #[iv p0] [(.int p0)])) rfl (k := p0) rfl (hb hby d1_1) (by decide) (a := 2004) (off := 329) (by rw [hc122]; rfl) (show (0 : Int) ≤ ((1 : Nat) : Int) + 329 from by decide) _ ?_
                                                      exact kX
                                                    obtain ⟨T124, X124, e124, st124⟩ := getS2 X0 hx hZ hown (host := "") (Or.inl (hw _ (List.mem_of_getElem? (i := 33) rfl))) Via.refl e0 S_13 (g := (mkF m 330 #[iv p0] [])) rfl (hb hby d1_330)
                                                    have pre125 : ∀ t, own_s p e below T124 m 333 #[iv p0] [(.ref (K 13))] t → Steps p.tables e below S0 t := fun tX kX => pre123 _ (st124 _ kX)
                                                    have pre126 : ∀ t, own_s p e below T124 m 357 #[iv p0] [(.ref (K 13))] t → Steps p.tables e below S0 t := by
                                                      intro tX kX
                                                      refine pre125 _ ?_
                                                      show own_s p e below T124 m 333 #[iv p0] [(.ref (K 13))] _
                                                      refine XS.goto X124.here hx rfl (pc0 := 333) (pc' := 357) rfl (hb hby d1_333) (by decide) (by decide) ?_
                                                      exact kX
                                                    subst hS0
                                                    obtain ⟨fs, hr, hrun, hended, hW, hsame⟩ := X124.leave (v := (some (.ref (K 13)))) (fun h => by rw [Bd.returns] at h; cases h)
                                                    refine ⟨_, _, pre126 _ (retOut X124 hx Bd.returns (own_narR rfl) (Or.inr (Or.inr (Or.inr (Or.inr ⟨rfl, rfl, rfl⟩)))) (hb hby d1_357) hr), hrun, hended, _, _, rfl, ?_, ⟨_, rfl⟩, hW, hsame.mono (by decide) (by decide)⟩
                                                    show Q1 Z p0 K h0 n0 (some (.ref (K 13))) T124.heap _
                                                    exact ⟨congrArg (fun z => some (Value.ref (K z))) (show 13 = own_ix p0.toInt from Eq.symm (by rw [ihc122]; rfl)), N0, e124⟩
                                                  · skip
                                                    have ihc122 : ¬ ((p0).toInt = (2004 : Int)) := fun q => hc122 (Int32.toInt_inj.mp q)
                                                    by_cases hc127 : p0 = (2005 : Int32)
                                                    · skip
                                                      have ihc127 : (p0).toInt = (2005 : Int) := congrArg Int32.toInt hc127
                                                      have pre128 : ∀ t, own_s p e below s₁ m 348 #[iv p0] [] t → Steps p.tables e below S0 t := by
                                                        intro tX kX
                                                        refine pre1 _ ?_
                                                        show own_s p e below s₁ m 1 #[iv p0] [(.int p0)] _
                                                        refine X0.lookupswitchHit hx (g := (mkF m 1 #[iv p0] [(.int p0)])) rfl (k := p0) rfl (hb hby d1_1) (by decide) (a := 2005) (off := 347) (by rw [hc127]; rfl) (show (0 : Int) ≤ ((1 : Nat) : Int) + 347 from by decide) _ ?_
                                                        exact kX
                                                      obtain ⟨T129, X129, e129, st129⟩ := getS2 X0 hx hZ hown (host := "") (Or.inl (hw _ (List.mem_of_getElem? (i := 27) rfl))) Via.refl e0 S_16 (g := (mkF m 348 #[iv p0] [])) rfl (hb hby d1_348)
                                                      have pre130 : ∀ t, own_s p e below T129 m 351 #[iv p0] [(.ref (K 16))] t → Steps p.tables e below S0 t := fun tX kX => pre128 _ (st129 _ kX)
                                                      have pre131 : ∀ t, own_s p e below T129 m 357 #[iv p0] [(.ref (K 16))] t → Steps p.tables e below S0 t := by
                                                        intro tX kX
                                                        refine pre130 _ ?_
                                                        show own_s p e below T129 m 351 #[iv p0] [(.ref (K 16))] _
                                                        refine XS.goto X129.here hx rfl (pc0 := 351) (pc' := 357) rfl (hb hby d1_351) (by decide) (by decide) ?_
                                                        exact kX
                                                      subst hS0
                                                      obtain ⟨fs, hr, hrun, hended, hW, hsame⟩ := X129.leave (v := (some (.ref (K 16)))) (fun h => by rw [Bd.returns] at h; cases h)
                                                      refine ⟨_, _, pre131 _ (retOut X129 hx Bd.returns (own_narR rfl) (Or.inr (Or.inr (Or.inr (Or.inr ⟨rfl, rfl, rfl⟩)))) (hb hby d1_357) hr), hrun, hended, _, _, rfl, ?_, ⟨_, rfl⟩, hW, hsame.mono (by decide) (by decide)⟩
                                                      show Q1 Z p0 K h0 n0 (some (.ref (K 16))) T129.heap _
                                                      exact ⟨congrArg (fun z => some (Value.ref (K z))) (show 16 = own_ix p0.toInt from Eq.symm (by rw [ihc127]; rfl)), N0, e129⟩
                                                    · skip
                                                      have ihc127 : ¬ ((p0).toInt = (2005 : Int)) := fun q => hc127 (Int32.toInt_inj.mp q)
                                                      by_cases hc132 : p0 = (2009 : Int32)
                                                      · skip
                                                        have ihc132 : (p0).toInt = (2009 : Int) := congrArg Int32.toInt hc132
                                                        have pre133 : ∀ t, own_s p e below s₁ m 342 #[iv p0] [] t → Steps p.tables e below S0 t := by
                                                          intro tX kX
                                                          refine pre1 _ ?_
                                                          show own_s p e below s₁ m 1 #[iv p0] [(.int p0)] _
                                                          refine X0.lookupswitchHit hx (g := (mkF m 1 #[iv p0] [(.int p0)])) rfl (k := p0) rfl (hb hby d1_1) (by decide) (a := 2009) (off := 341) (by rw [hc132]; rfl) (show (0 : Int) ≤ ((1 : Nat) : Int) + 341 from by decide) _ ?_
                                                          exact kX
                                                        obtain ⟨T134, X134, e134, st134⟩ := getS2 X0 hx hZ hown (host := "") (Or.inl (hw _ (List.mem_of_getElem? (i := 57) rfl))) Via.refl e0 S_15 (g := (mkF m 342 #[iv p0] [])) rfl (hb hby d1_342)
                                                        have pre135 : ∀ t, own_s p e below T134 m 345 #[iv p0] [(.ref (K 15))] t → Steps p.tables e below S0 t := fun tX kX => pre133 _ (st134 _ kX)
                                                        have pre136 : ∀ t, own_s p e below T134 m 357 #[iv p0] [(.ref (K 15))] t → Steps p.tables e below S0 t := by
                                                          intro tX kX
                                                          refine pre135 _ ?_
                                                          show own_s p e below T134 m 345 #[iv p0] [(.ref (K 15))] _
                                                          refine XS.goto X134.here hx rfl (pc0 := 345) (pc' := 357) rfl (hb hby d1_345) (by decide) (by decide) ?_
                                                          exact kX
                                                        subst hS0
                                                        obtain ⟨fs, hr, hrun, hended, hW, hsame⟩ := X134.leave (v := (some (.ref (K 15)))) (fun h => by rw [Bd.returns] at h; cases h)
                                                        refine ⟨_, _, pre136 _ (retOut X134 hx Bd.returns (own_narR rfl) (Or.inr (Or.inr (Or.inr (Or.inr ⟨rfl, rfl, rfl⟩)))) (hb hby d1_357) hr), hrun, hended, _, _, rfl, ?_, ⟨_, rfl⟩, hW, hsame.mono (by decide) (by decide)⟩
                                                        show Q1 Z p0 K h0 n0 (some (.ref (K 15))) T134.heap _
                                                        exact ⟨congrArg (fun z => some (Value.ref (K z))) (show 15 = own_ix p0.toInt from Eq.symm (by rw [ihc132]; rfl)), N0, e134⟩
                                                      · skip
                                                        have ihc132 : ¬ ((p0).toInt = (2009 : Int)) := fun q => hc132 (Int32.toInt_inj.mp q)
                                                        by_cases hc137 : p0 = (2011 : Int32)
                                                        · skip
                                                          have ihc137 : (p0).toInt = (2011 : Int) := congrArg Int32.toInt hc137
                                                          have pre138 : ∀ t, own_s p e below s₁ m 348 #[iv p0] [] t → Steps p.tables e below S0 t := by
                                                            intro tX kX
                                                            refine pre1 _ ?_
                                                            show own_s p e below s₁ m 1 #[iv p0] [(.int p0)] _
                                                            refine X0.lookupswitchHit hx (g := (mkF m 1 #[iv p0] [(.int p0)])) rfl (k := p0) rfl (hb hby d1_1) (by decide) (a := 2011) (off := 347) (by rw [hc137]; rfl) (show (0 : Int) ≤ ((1 : Nat) : Int) + 347 from by decide) _ ?_
                                                            exact kX
                                                          obtain ⟨T139, X139, e139, st139⟩ := getS2 X0 hx hZ hown (host := "") (Or.inl (hw _ (List.mem_of_getElem? (i := 27) rfl))) Via.refl e0 S_16 (g := (mkF m 348 #[iv p0] [])) rfl (hb hby d1_348)
                                                          have pre140 : ∀ t, own_s p e below T139 m 351 #[iv p0] [(.ref (K 16))] t → Steps p.tables e below S0 t := fun tX kX => pre138 _ (st139 _ kX)
                                                          have pre141 : ∀ t, own_s p e below T139 m 357 #[iv p0] [(.ref (K 16))] t → Steps p.tables e below S0 t := by
                                                            intro tX kX
                                                            refine pre140 _ ?_
                                                            show own_s p e below T139 m 351 #[iv p0] [(.ref (K 16))] _
                                                            refine XS.goto X139.here hx rfl (pc0 := 351) (pc' := 357) rfl (hb hby d1_351) (by decide) (by decide) ?_
                                                            exact kX
                                                          subst hS0
                                                          obtain ⟨fs, hr, hrun, hended, hW, hsame⟩ := X139.leave (v := (some (.ref (K 16)))) (fun h => by rw [Bd.returns] at h; cases h)
                                                          refine ⟨_, _, pre141 _ (retOut X139 hx Bd.returns (own_narR rfl) (Or.inr (Or.inr (Or.inr (Or.inr ⟨rfl, rfl, rfl⟩)))) (hb hby d1_357) hr), hrun, hended, _, _, rfl, ?_, ⟨_, rfl⟩, hW, hsame.mono (by decide) (by decide)⟩
                                                          show Q1 Z p0 K h0 n0 (some (.ref (K 16))) T139.heap _
                                                          exact ⟨congrArg (fun z => some (Value.ref (K z))) (show 16 = own_ix p0.toInt from Eq.symm (by rw [ihc137]; rfl)), N0, e139⟩
                                                        · skip
                                                          have ihc137 : ¬ ((p0).toInt = (2011 : Int)) := fun q => hc137 (Int32.toInt_inj.mp q)
                                                          by_cases hc142 : p0 = (2013 : Int32)
                                                          · skip
                                                            have ihc142 : (p0).toInt = (2013 : Int) := congrArg Int32.toInt hc142
                                                            have pre143 : ∀ t, own_s p e below s₁ m 318 #[iv p0] [] t → Steps p.tables e below S0 t := by
                                                              intro tX kX
                                                              refine pre1 _ ?_
                                                              show own_s p e below s₁ m 1 #[iv p0] [(.int p0)] _
                                                              refine X0.lookupswitchHit hx (g := (mkF m 1 #[iv p0] [(.int p0)])) rfl (k := p0) rfl (hb hby d1_1) (by decide) (a := 2013) (off := 317) (by rw [hc142]; rfl) (show (0 : Int) ≤ ((1 : Nat) : Int) + 317 from by decide) _ ?_
                                                              exact kX
                                                            obtain ⟨T144, X144, e144, st144⟩ := getS2 X0 hx hZ hown (host := "") (Or.inl (hw _ (List.mem_of_getElem? (i := 30) rfl))) Via.refl e0 S_11 (g := (mkF m 318 #[iv p0] [])) rfl (hb hby d1_318)
                                                            have pre145 : ∀ t, own_s p e below T144 m 321 #[iv p0] [(.ref (K 11))] t → Steps p.tables e below S0 t := fun tX kX => pre143 _ (st144 _ kX)
                                                            have pre146 : ∀ t, own_s p e below T144 m 357 #[iv p0] [(.ref (K 11))] t → Steps p.tables e below S0 t := by
                                                              intro tX kX
                                                              refine pre145 _ ?_
                                                              show own_s p e below T144 m 321 #[iv p0] [(.ref (K 11))] _
                                                              refine XS.goto X144.here hx rfl (pc0 := 321) (pc' := 357) rfl (hb hby d1_321) (by decide) (by decide) ?_
                                                              exact kX
                                                            subst hS0
                                                            obtain ⟨fs, hr, hrun, hended, hW, hsame⟩ := X144.leave (v := (some (.ref (K 11)))) (fun h => by rw [Bd.returns] at h; cases h)
                                                            refine ⟨_, _, pre146 _ (retOut X144 hx Bd.returns (own_narR rfl) (Or.inr (Or.inr (Or.inr (Or.inr ⟨rfl, rfl, rfl⟩)))) (hb hby d1_357) hr), hrun, hended, _, _, rfl, ?_, ⟨_, rfl⟩, hW, hsame.mono (by decide) (by decide)⟩
                                                            show Q1 Z p0 K h0 n0 (some (.ref (K 11))) T144.heap _
                                                            exact ⟨congrArg (fun z => some (Value.ref (K z))) (show 11 = own_ix p0.toInt from Eq.symm (by rw [ihc142]; rfl)), N0, e144⟩
                                                          · skip
                                                            have ihc142 : ¬ ((p0).toInt = (2013 : Int)) := fun q => hc142 (Int32.toInt_inj.mp q)
                                                            by_cases hc147 : p0 = (2014 : Int32)
                                                            · skip
                                                              have ihc147 : (p0).toInt = (2014 : Int) := congrArg Int32.toInt hc147
                                                              have pre148 : ∀ t, own_s p e below s₁ m 324 #[iv p0] [] t → Steps p.tables e below S0 t := by
                                                                intro tX kX
                                                                refine pre1 _ ?_
                                                                show own_s p e below s₁ m 1 #[iv p0] [(.int p0)] _
                                                                refine X0.lookupswitchHit hx (g := (mkF m 1 #[iv p0] [(.int p0)])) rfl (k := p0) rfl (hb hby d1_1) (by decide) (a := 2014) (off := 323) (by rw [hc147]; rfl) (show (0 : Int) ≤ ((1 : Nat) : Int) + 323 from by decide) _ ?_
                                                                exact kX
                                                              obtain ⟨T149, X149, e149, st149⟩ := getS2 X0 hx hZ hown (host := "") (Or.inl (hw _ (List.mem_of_getElem? (i := 60) rfl))) Via.refl e0 S_12 (g := (mkF m 324 #[iv p0] [])) rfl (hb hby d1_324)
                                                              have pre150 : ∀ t, own_s p e below T149 m 327 #[iv p0] [(.ref (K 12))] t → Steps p.tables e below S0 t := fun tX kX => pre148 _ (st149 _ kX)
                                                              have pre151 : ∀ t, own_s p e below T149 m 357 #[iv p0] [(.ref (K 12))] t → Steps p.tables e below S0 t := by
                                                                intro tX kX
                                                                refine pre150 _ ?_
                                                                show own_s p e below T149 m 327 #[iv p0] [(.ref (K 12))] _
                                                                refine XS.goto X149.here hx rfl (pc0 := 327) (pc' := 357) rfl (hb hby d1_327) (by decide) (by decide) ?_
                                                                exact kX
                                                              subst hS0
                                                              obtain ⟨fs, hr, hrun, hended, hW, hsame⟩ := X149.leave (v := (some (.ref (K 12)))) (fun h => by rw [Bd.returns] at h; cases h)
                                                              refine ⟨_, _, pre151 _ (retOut X149 hx Bd.returns (own_narR rfl) (Or.inr (Or.inr (Or.inr (Or.inr ⟨rfl, rfl, rfl⟩)))) (hb hby d1_357) hr), hrun, hended, _, _, rfl, ?_, ⟨_, rfl⟩, hW, hsame.mono (by decide) (by decide)⟩
                                                              show Q1 Z p0 K h0 n0 (some (.ref (K 12))) T149.heap _
                                                              exact ⟨congrArg (fun z => some (Value.ref (K z))) (show 12 = own_ix p0.toInt from Eq.symm (by rw [ihc147]; rfl)), N0, e149⟩
                                                            · skip
                                                              have ihc147 : ¬ ((p0).toInt = (2014 : Int)) := fun q => hc147 (Int32.toInt_inj.mp q)
                                                              have pre152 : ∀ t, own_s p e below s₁ m 354 #[iv p0] [] t → Steps p.tables e below S0 t := by
                                                                intro tX kX
                                                                refine pre1 _ ?_
                                                                show own_s p e below s₁ m 1 #[iv p0] [(.int p0)] _
                                                                refine X0.lookupswitchMiss hx (g := (mkF m 1 #[iv p0] [(.int p0)])) rfl (k := p0) rfl (hb hby d1_1) (by decide) (find_miss (fun q hq => own_miss (show q ∈ ([((-16), 347), ((-15), 347), ((-9), 347), ((-7), 251), ((-6), 257), ((-5), 275), ((-4), 329), ((-3), 329), ((-2), 329), ((-1), 347), (1, 347), (2, 281), (3, 281), (4, 269), (5, 263), (6, 293), (7, 287), (8, 293), (12, 347), (16, 251), (91, 299), (92, 305), (93, 311), (2003, 335), (2004, 329), (2005, 347), (2009, 341), (2011, 347), (2013, 317), (2014, 323)] : List (Int × Int)) from hq) (by simp only [List.map_cons, List.map_nil, List.mem_cons, List.not_mem_nil, or_false]; omega))) (show (0 : Int) ≤ ((1 : Nat) : Int) + 353 from by decide) _ ?_
                                                                exact kX
                                                              obtain ⟨T153, X153, e153, st153⟩ := getS2 X0 hx hZ hown (host := "") (Or.inl (hw _ (List.mem_of_getElem? (i := 18) rfl))) Via.refl e0 S_17 (g := (mkF m 354 #[iv p0] [])) rfl (hb hby d1_354)
                                                              have pre154 : ∀ t, own_s p e below T153 m 357 #[iv p0] [(.ref (K 17))] t → Steps p.tables e below S0 t := fun tX kX => pre152 _ (st153 _ kX)
                                                              subst hS0
                                                              obtain ⟨fs, hr, hrun, hended, hW, hsame⟩ := X153.leave (v := (some (.ref (K 17)))) (fun h => by rw [Bd.returns] at h; cases h)
                                                              refine ⟨_, _, pre154 _ (retOut X153 hx Bd.returns (own_narR rfl) (Or.inr (Or.inr (Or.inr (Or.inr ⟨rfl, rfl, rfl⟩)))) (hb hby d1_357) hr), hrun, hended, _, _, rfl, ?_, ⟨_, rfl⟩, hW, hsame.mono (by decide) (by decide)⟩
                                                              show Q1 Z p0 K h0 n0 (some (.ref (K 17))) T153.heap _
                                                              exact ⟨congrArg (fun z => some (Value.ref (K z))) (show 17 = own_ix p0.toInt from Eq.symm (by unfold own_ix; rw [if_neg (by omega)]; rw [if_neg (by omega)]; rw [if_neg (by omega)]; rw [if_neg (by omega)]; rw [if_neg (by omega)]; rw [if_neg (by omega)]; rw [if_neg (by omega)]; rw [if_neg (by omega)]; rw [if_neg (by omega)]; rw [if_neg (by omega)]; rw [if_neg (by omega)]; rw [if_neg (by omega)]; rw [if_neg (by omega)]; rw [if_neg (by omega)]; rw [if_neg (by omega)]; rw [if_neg (by omega)]; rw [if_neg (by omega)])), N0, e153⟩
theorem d2_0 : decode method_3_code 0 = .ok (.iload_n 0, 1) := by decide +kernel
theorem d2_1 : decode method_3_code 1 = .ok (.bipush (-7), 2) := by decide +kernel
theorem d2_3 : decode method_3_code 3 = .ok (.if_icmp .eq 9, 3) := by decide +kernel
theorem d2_6 : decode method_3_code 6 = .ok (.iload_n 0, 1) := by decide +kernel
theorem d2_7 : decode method_3_code 7 = .ok (.bipush 16, 2) := by decide +kernel
theorem d2_9 : decode method_3_code 9 = .ok (.if_icmp .ne 7, 3) := by decide +kernel
theorem d2_12 : decode method_3_code 12 = .ok (.getstatic 18, 3) := by decide +kernel
theorem d2_15 : decode method_3_code 15 = .ok (.areturn, 1) := by decide +kernel
theorem d2_16 : decode method_3_code 16 = .ok (.iload_n 0, 1) := by decide +kernel
theorem d2_17 : decode method_3_code 17 = .ok (.bipush (-6), 2) := by decide +kernel
theorem d2_19 : decode method_3_code 19 = .ok (.if_icmp .ne 7, 3) := by decide +kernel
theorem d2_22 : decode method_3_code 22 = .ok (.getstatic 22, 3) := by decide +kernel
theorem d2_25 : decode method_3_code 25 = .ok (.areturn, 1) := by decide +kernel
theorem d2_26 : decode method_3_code 26 = .ok (.iload_n 0, 1) := by decide +kernel
theorem d2_27 : decode method_3_code 27 = .ok (.iconst 5, 1) := by decide +kernel
theorem d2_28 : decode method_3_code 28 = .ok (.if_icmp .ne 7, 3) := by decide +kernel
theorem d2_31 : decode method_3_code 31 = .ok (.getstatic 25, 3) := by decide +kernel
theorem d2_34 : decode method_3_code 34 = .ok (.areturn, 1) := by decide +kernel
theorem d2_35 : decode method_3_code 35 = .ok (.iload_n 0, 1) := by decide +kernel
theorem d2_36 : decode method_3_code 36 = .ok (.iconst 4, 1) := by decide +kernel
theorem d2_37 : decode method_3_code 37 = .ok (.if_icmp .ne 7, 3) := by decide +kernel
theorem d2_40 : decode method_3_code 40 = .ok (.getstatic 28, 3) := by decide +kernel
theorem d2_43 : decode method_3_code 43 = .ok (.areturn, 1) := by decide +kernel
theorem d2_44 : decode method_3_code 44 = .ok (.iload_n 0, 1) := by decide +kernel
theorem d2_45 : decode method_3_code 45 = .ok (.bipush (-5), 2) := by decide +kernel
theorem d2_47 : decode method_3_code 47 = .ok (.if_icmp .ne 7, 3) := by decide +kernel
theorem d2_50 : decode method_3_code 50 = .ok (.getstatic 31, 3) := by decide +kernel
theorem d2_53 : decode method_3_code 53 = .ok (.areturn, 1) := by decide +kernel
theorem d2_54 : decode method_3_code 54 = .ok (.iload_n 0, 1) := by decide +kernel
theorem d2_55 : decode method_3_code 55 = .ok (.iconst 2, 1) := by decide +kernel
theorem d2_56 : decode method_3_code 56 = .ok (.if_icmp .eq 8, 3) := by decide +kernel
theorem d2_59 : decode method_3_code 59 = .ok (.iload_n 0, 1) := by decide +kernel
theorem d2_60 : decode method_3_code 60 = .ok (.iconst 3, 1) := by decide +kernel
theorem d2_61 : decode method_3_code 61 = .ok (.if_icmp .ne 7, 3) := by decide +kernel
theorem d2_64 : decode method_3_code 64 = .ok (.getstatic 34, 3) := by decide +kernel
theorem d2_67 : decode method_3_code 67 = .ok (.areturn, 1) := by decide +kernel
theorem d2_68 : decode method_3_code 68 = .ok (.iload_n 0, 1) := by decide +kernel
theorem d2_69 : decode method_3_code 69 = .ok (.bipush 7, 2) := by decide +kernel
theorem d2_71 : decode method_3_code 71 = .ok (.if_icmp .ne 7, 3) := by decide +kernel
theorem d2_74 : decode method_3_code 74 = .ok (.getstatic 37, 3) := by decide +kernel
theorem d2_77 : decode method_3_code 77 = .ok (.areturn, 1) := by decide +kernel
theorem d2_78 : decode method_3_code 78 = .ok (.iload_n 0, 1) := by decide +kernel
theorem d2_79 : decode method_3_code 79 = .ok (.bipush 6, 2) := by decide +kernel
theorem d2_81 : decode method_3_code 81 = .ok (.if_icmp .eq 9, 3) := by decide +kernel
theorem d2_84 : decode method_3_code 84 = .ok (.iload_n 0, 1) := by decide +kernel
theorem d2_85 : decode method_3_code 85 = .ok (.bipush 8, 2) := by decide +kernel
theorem d2_87 : decode method_3_code 87 = .ok (.if_icmp .ne 7, 3) := by decide +kernel
theorem d2_90 : decode method_3_code 90 = .ok (.getstatic 40, 3) := by decide +kernel
theorem d2_93 : decode method_3_code 93 = .ok (.areturn, 1) := by decide +kernel
theorem d2_94 : decode method_3_code 94 = .ok (.iload_n 0, 1) := by decide +kernel
theorem d2_95 : decode method_3_code 95 = .ok (.bipush 91, 2) := by decide +kernel
theorem d2_97 : decode method_3_code 97 = .ok (.if_icmp .ne 7, 3) := by decide +kernel
theorem d2_100 : decode method_3_code 100 = .ok (.getstatic 43, 3) := by decide +kernel
theorem d2_103 : decode method_3_code 103 = .ok (.areturn, 1) := by decide +kernel
theorem d2_104 : decode method_3_code 104 = .ok (.iload_n 0, 1) := by decide +kernel
theorem d2_105 : decode method_3_code 105 = .ok (.bipush 92, 2) := by decide +kernel
theorem d2_107 : decode method_3_code 107 = .ok (.if_icmp .ne 7, 3) := by decide +kernel
theorem d2_110 : decode method_3_code 110 = .ok (.getstatic 46, 3) := by decide +kernel
theorem d2_113 : decode method_3_code 113 = .ok (.areturn, 1) := by decide +kernel
theorem d2_114 : decode method_3_code 114 = .ok (.iload_n 0, 1) := by decide +kernel
theorem d2_115 : decode method_3_code 115 = .ok (.bipush 93, 2) := by decide +kernel
theorem d2_117 : decode method_3_code 117 = .ok (.if_icmp .ne 7, 3) := by decide +kernel
theorem d2_120 : decode method_3_code 120 = .ok (.getstatic 49, 3) := by decide +kernel
theorem d2_123 : decode method_3_code 123 = .ok (.areturn, 1) := by decide +kernel
theorem d2_124 : decode method_3_code 124 = .ok (.iload_n 0, 1) := by decide +kernel
theorem d2_125 : decode method_3_code 125 = .ok (.sipush 2013, 3) := by decide +kernel
theorem d2_128 : decode method_3_code 128 = .ok (.if_icmp .ne 7, 3) := by decide +kernel
theorem d2_131 : decode method_3_code 131 = .ok (.getstatic 52, 3) := by decide +kernel
theorem d2_134 : decode method_3_code 134 = .ok (.areturn, 1) := by decide +kernel
theorem d2_135 : decode method_3_code 135 = .ok (.iload_n 0, 1) := by decide +kernel
theorem d2_136 : decode method_3_code 136 = .ok (.sipush 2014, 3) := by decide +kernel
theorem d2_139 : decode method_3_code 139 = .ok (.if_icmp .ne 7, 3) := by decide +kernel
theorem d2_142 : decode method_3_code 142 = .ok (.getstatic 55, 3) := by decide +kernel
theorem d2_145 : decode method_3_code 145 = .ok (.areturn, 1) := by decide +kernel
theorem d2_146 : decode method_3_code 146 = .ok (.iload_n 0, 1) := by decide +kernel
theorem d2_147 : decode method_3_code 147 = .ok (.bipush (-2), 2) := by decide +kernel
theorem d2_149 : decode method_3_code 149 = .ok (.if_icmp .eq 22, 3) := by decide +kernel
theorem d2_152 : decode method_3_code 152 = .ok (.iload_n 0, 1) := by decide +kernel
theorem d2_153 : decode method_3_code 153 = .ok (.bipush (-3), 2) := by decide +kernel
theorem d2_155 : decode method_3_code 155 = .ok (.if_icmp .eq 16, 3) := by decide +kernel
theorem d2_158 : decode method_3_code 158 = .ok (.iload_n 0, 1) := by decide +kernel
theorem d2_159 : decode method_3_code 159 = .ok (.bipush (-4), 2) := by decide +kernel
theorem d2_161 : decode method_3_code 161 = .ok (.if_icmp .eq 10, 3) := by decide +kernel
theorem d2_164 : decode method_3_code 164 = .ok (.iload_n 0, 1) := by decide +kernel
theorem d2_165 : decode method_3_code 165 = .ok (.sipush 2004, 3) := by decide +kernel
theorem d2_168 : decode method_3_code 168 = .ok (.if_icmp .ne 7, 3) := by decide +kernel
theorem d2_171 : decode method_3_code 171 = .ok (.getstatic 58, 3) := by decide +kernel
theorem d2_174 : decode method_3_code 174 = .ok (.areturn, 1) := by decide +kernel
theorem d2_175 : decode method_3_code 175 = .ok (.iload_n 0, 1) := by decide +kernel
theorem d2_176 : decode method_3_code 176 = .ok (.sipush 2003, 3) := by decide +kernel
theorem d2_179 : decode method_3_code 179 = .ok (.if_icmp .ne 7, 3) := by decide +kernel
theorem d2_182 : decode method_3_code 182 = .ok (.getstatic 61, 3) := by decide +kernel
theorem d2_185 : decode method_3_code 185 = .ok (.areturn, 1) := by decide +kernel
theorem d2_186 : decode method_3_code 186 = .ok (.iload_n 0, 1) := by decide +kernel
theorem d2_187 : decode method_3_code 187 = .ok (.sipush 2009, 3) := by decide +kernel
theorem d2_190 : decode method_3_code 190 = .ok (.if_icmp .ne 7, 3) := by decide +kernel
theorem d2_193 : decode method_3_code 193 = .ok (.getstatic 64, 3) := by decide +kernel
theorem d2_196 : decode method_3_code 196 = .ok (.areturn, 1) := by decide +kernel
theorem d2_197 : decode method_3_code 197 = .ok (.iload_n 0, 1) := by decide +kernel
theorem d2_198 : decode method_3_code 198 = .ok (.iconst 1, 1) := by decide +kernel
theorem d2_199 : decode method_3_code 199 = .ok (.if_icmp .eq 46, 3) := by decide +kernel
theorem d2_202 : decode method_3_code 202 = .ok (.iload_n 0, 1) := by decide +kernel
theorem d2_203 : decode method_3_code 203 = .ok (.bipush 12, 2) := by decide +kernel
theorem d2_205 : decode method_3_code 205 = .ok (.if_icmp .eq 40, 3) := by decide +kernel
theorem d2_208 : decode method_3_code 208 = .ok (.iload_n 0, 1) := by decide +kernel
theorem d2_209 : decode method_3_code 209 = .ok (.iconst (-1), 1) := by decide +kernel
theorem d2_210 : decode method_3_code 210 = .ok (.if_icmp .eq 35, 3) := by decide +kernel
theorem d2_213 : decode method_3_code 213 = .ok (.iload_n 0, 1) := by decide +kernel
theorem d2_214 : decode method_3_code 214 = .ok (.bipush (-15), 2) := by decide +kernel
theorem d2_216 : decode method_3_code 216 = .ok (.if_icmp .eq 29, 3) := by decide +kernel
theorem d2_219 : decode method_3_code 219 = .ok (.iload_n 0, 1) := by decide +kernel
theorem d2_220 : decode method_3_code 220 = .ok (.bipush (-9), 2) := by decide +kernel
theorem d2_222 : decode method_3_code 222 = .ok (.if_icmp .eq 23, 3) := by decide +kernel
theorem d2_225 : decode method_3_code 225 = .ok (.iload_n 0, 1) := by decide +kernel
theorem d2_226 : decode method_3_code 226 = .ok (.bipush (-16), 2) := by decide +kernel
theorem d2_228 : decode method_3_code 228 = .ok (.if_icmp .eq 17, 3) := by decide +kernel
theorem d2_231 : decode method_3_code 231 = .ok (.iload_n 0, 1) := by decide +kernel
theorem d2_232 : decode method_3_code 232 = .ok (.sipush 2005, 3) := by decide +kernel
theorem d2_235 : decode method_3_code 235 = .ok (.if_icmp .eq 10, 3) := by decide +kernel
theorem d2_238 : decode method_3_code 238 = .ok (.iload_n 0, 1) := by decide +kernel
theorem d2_239 : decode method_3_code 239 = .ok (.sipush 2011, 3) := by decide +kernel
theorem d2_242 : decode method_3_code 242 = .ok (.if_icmp .ne 7, 3) := by decide +kernel
theorem d2_245 : decode method_3_code 245 = .ok (.getstatic 67, 3) := by decide +kernel
theorem d2_248 : decode method_3_code 248 = .ok (.areturn, 1) := by decide +kernel
theorem d2_249 : decode method_3_code 249 = .ok (.getstatic 70, 3) := by decide +kernel
theorem d2_252 : decode method_3_code 252 = .ok (.areturn, 1) := by decide +kernel
theorem pn_2 : plainName "com/example/osier/osier/jdbc/ColumnKindOfPinLaw" = true := by first | (simp [plainName, overriddenIn]; done) | decide +kernel
theorem ef_2 (m : MethodId) (p0 : Int32) : entryFrame m #[(.int p0)] 1 = mkF m 0 #[iv p0] [] := by first | (simp [entryFrame, mkF, argsToLocals, Value.category]; done) | rfl
def Q2 (Z : State) (p0 : Int32) (K : Nat → Addr) (h0 : Heap) (n0 : Nat) (v : Option Value) (h : Heap) (L : List Loc) : Prop := v = some (.ref (K (own_ix p0.toInt))) ∧ Fr n0 L ∧ h = h0
set_option maxRecDepth 65536 in
set_option maxHeartbeats 40000000 in
theorem rm2 (l : Launch) (Z : State) (a0 : Array Value) (hw : ∀ d ∈ tables_1, d.before a0 Z = true) (ws : List Jvm.Cond) (p0 : Int32) (K : Nat → Addr) (h0 : Heap) (n0 : Nat) (Z0 : n0 ≤ h0.size) (B0 : own_St Z h0 K) :
    MetFree l (⟨"com/example/osier/osier/jdbc/ColumnKindOfPinLaw", "expected", "(I)Lcom/example/osier/osier/jdbc/ColumnKind;"⟩ : MethodName) (head1 (Jvm.Cond.code (⟨"com/example/osier/osier/jdbc/ColumnKindOfPinLaw", "expected", "(I)Lcom/example/osier/osier/jdbc/ColumnKind;"⟩ : MethodName) method_3_code 1 (some (.object "com/example/osier/osier/jdbc/ColumnKind")) :: ws) ({ frames := 0, cells := 0, slots := 0, locals := 0 } : Room)) (fun aX UX => aX = #[(.int p0)] ∧ Z.Warmed39 UX.vm ∧ UX.heap = h0) (fun _ _ _ _ _ => True) (fun _ UX oX UY => ∃ vX LX, oX = .returned vX ∧ Q2 Z p0 K h0 n0 vX UY.heap LX ∧ FrameEnd UX oX UY LX ({ frames := 0, cells := 0, slots := 0, locals := 0 } : Room).cells ({ frames := 0, cells := 0, slots := 0, locals := 0 } : Room).slots) := by
  refine MetFree.of_bodySF (plainFor_of_name pn_2) hisR ?_
  intro p e s m args below meth c s₁ Bd hml0 hP hK
  obtain ⟨rfl, hZ, hh⟩ := hP
  have hx := Bd.exec
  have hby := Bd.bytes
  have hml : c.maxLocals = 1 := hml0
  have hown : s.vm.findClass "com/example/osier/osier/jdbc/ColumnKindOfPinLaw" = some m.cls := findClass_of_methodNamed Bd.named
  have hnm := (name_of_methodNamed Bd.named Bd.method).1
  have X0 : Stand p l e ({ frames := 0, cells := 0, slots := 0, locals := 0 } : Room) s m #[(.int p0)] below meth c s₁ [] 0 0 := Stand.of_body Bd
  have e0 : s₁.heap = h0 := by rw [← hh, Bd.state]; rfl
  have N0 := Fr.nil n0
  have pre0 : ∀ t, Steps p.tables e below (s₁.setTop (mkF m 0 #[iv p0] [])) t → Steps p.tables e below (s₁.setTop (entryFrame m #[(.int p0)] 1)) t := fun t k => castTop (ef_2 m p0) k
  obtain ⟨S0, hS0⟩ : ∃ z, z = (s₁.setTop (entryFrame m #[(.int p0)] 1)) := ⟨_, rfl⟩
  rw [← hS0] at pre0
  obtain ⟨S_0, S_1, S_2, S_3, S_4, S_5, S_6, S_7, S_8, S_9, S_10, S_11, S_12, S_13, S_14, S_15, S_16, S_17⟩ := B0
  have pre1 : ∀ t, own_s p e below s₁ m 3 #[iv p0] [(.int (-7 : Int32)), (.int p0)] t → Steps p.tables e below S0 t := by
    intro tX kX
    refine pre0 _ ?_
    show own_s p e below s₁ m 0 #[iv p0] [] _
    refine XS.iloadN X0.here hx rfl (hb hby d2_0) rfl ?_
    show own_s p e below s₁ m 1 #[iv p0] [(.int p0)] _
    refine XS.bipush X0.here hx rfl (hb hby d2_1) ?_
    exact kX
  by_cases hc2 : p0 = (-7 : Int32)
  · skip
    have ihc2 : (p0).toInt = (-7 : Int) := congrArg Int32.toInt hc2
    have pre3 : ∀ t, own_s p e below s₁ m 12 #[iv p0] [] t → Steps p.tables e below S0 t := by
      intro tX kX
      refine pre1 _ ?_
      show own_s p e below s₁ m 3 #[iv p0] [(.int (-7 : Int32)), (.int p0)] _
      refine XS.icmpYes X0.here hx rfl (pc0 := 3) (pc' := 12) rfl (hb hby d2_3) rfl (teq hc2).1 (by decide) (by decide) ?_
      exact kX
    obtain ⟨T4, X4, e4, st4⟩ := getS2 X0 hx hZ hown (host := "") (Or.inl (hw _ (List.mem_of_getElem? (i := 11) rfl))) Via.refl e0 S_0 (g := (mkF m 12 #[iv p0] [])) rfl (hb hby d2_12)
    have pre5 : ∀ t, own_s p e below T4 m 15 #[iv p0] [(.ref (K 0))] t → Steps p.tables e below S0 t := fun tX kX => pre3 _ (st4 _ kX)
    subst hS0
    obtain ⟨fs, hr, hrun, hended, hW, hsame⟩ := X4.leave (v := (some (.ref (K 0)))) (fun h => by rw [Bd.returns] at h; cases h)
    refine ⟨_, _, pre5 _ (retOut X4 hx Bd.returns (own_narR rfl) (Or.inr (Or.inr (Or.inr (Or.inr ⟨rfl, rfl, rfl⟩)))) (hb hby d2_15) hr), hrun, hended, _, _, rfl, ?_, ⟨_, rfl⟩, hW, hsame.mono (by decide) (by decide)⟩
    show Q2 Z p0 K h0 n0 (some (.ref (K 0))) T4.heap _
    exact ⟨congrArg (fun z => some (Value.ref (K z))) (show 0 = own_ix p0.toInt from Eq.symm (by rw [ihc2]; rfl)), N0, e4⟩
  · skip
    have ihc2 : ¬ ((p0).toInt = (-7 : Int)) := fun q => hc2 (Int32.toInt_inj.mp q)
    have pre6 : ∀ t, own_s p e below s₁ m 9 #[iv p0] [(.int (16 : Int32)), (.int p0)] t → Steps p.tables e below S0 t := by
      intro tX kX
      refine pre1 _ ?_
      show own_s p e below s₁ m 3 #[iv p0] [(.int (-7 : Int32)), (.int p0)] _
      refine XS.icmpNo X0.here hx rfl (hb hby d2_3) rfl (feq hc2).1 ?_
      show own_s p e below s₁ m 6 #[iv p0] [] _
      refine XS.iloadN X0.here hx rfl (hb hby d2_6) rfl ?_
      show own_s p e below s₁ m 7 #[iv p0] [(.int p0)] _
      refine XS.bipush X0.here hx rfl (hb hby d2_7) ?_
      exact kX
    by_cases hc7 : p0 = (16 : Int32)
    · skip
      have ihc7 : (p0).toInt = (16 : Int) := congrArg Int32.toInt hc7
      have pre8 : ∀ t, own_s p e below s₁ m 12 #[iv p0] [] t → Steps p.tables e below S0 t := by
        intro tX kX
        refine pre6 _ ?_
        show own_s p e below s₁ m 9 #[iv p0] [(.int (16 : Int32)), (.int p0)] _
        refine XS.icmpNo X0.here hx rfl (hb hby d2_9) rfl (teq hc7).2 ?_
        exact kX
      obtain ⟨T9, X9, e9, st9⟩ := getS2 X0 hx hZ hown (host := "") (Or.inl (hw _ (List.mem_of_getElem? (i := 11) rfl))) Via.refl e0 S_0 (g := (mkF m 12 #[iv p0] [])) rfl (hb hby d2_12)
      have pre10 : ∀ t, own_s p e below T9 m 15 #[iv p0] [(.ref (K 0))] t → Steps p.tables e below S0 t := fun tX kX => pre8 _ (st9 _ kX)
      subst hS0
      obtain ⟨fs, hr, hrun, hended, hW, hsame⟩ := X9.leave (v := (some (.ref (K 0)))) (fun h => by rw [Bd.returns] at h; cases h)
      refine ⟨_, _, pre10 _ (retOut X9 hx Bd.returns (own_narR rfl) (Or.inr (Or.inr (Or.inr (Or.inr ⟨rfl, rfl, rfl⟩)))) (hb hby d2_15) hr), hrun, hended, _, _, rfl, ?_, ⟨_, rfl⟩, hW, hsame.mono (by decide) (by decide)⟩
      show Q2 Z p0 K h0 n0 (some (.ref (K 0))) T9.heap _
      exact ⟨congrArg (fun z => some (Value.ref (K z))) (show 0 = own_ix p0.toInt from Eq.symm (by rw [ihc7]; rfl)), N0, e9⟩
    · skip
      have ihc7 : ¬ ((p0).toInt = (16 : Int)) := fun q => hc7 (Int32.toInt_inj.mp q)
      have pre11 : ∀ t, own_s p e below s₁ m 19 #[iv p0] [(.int (-6 : Int32)), (.int p0)] t → Steps p.tables e below S0 t := by
        intro tX kX
        refine pre6 _ ?_
        show own_s p e below s₁ m 9 #[iv p0] [(.int (16 : Int32)), (.int p0)] _
        refine XS.icmpYes X0.here hx rfl (pc0 := 9) (pc' := 16) rfl (hb hby d2_9) rfl (feq hc7).2 (by decide) (by decide) ?_
        show own_s p e below s₁ m 16 #[iv p0] [] _
        refine XS.iloadN X0.here hx rfl (hb hby d2_16) rfl ?_
        show own_s p e below s₁ m 17 #[iv p0] [(.int p0)] _
        refine XS.bipush X0.here hx rfl (hb hby d2_17) ?_
        exact kX
      by_cases hc12 : p0 = (-6 : Int32)
      · skip
        have ihc12 : (p0).toInt = (-6 : Int) := congrArg Int32.toInt hc12
        have pre13 : ∀ t, own_s p e below s₁ m 22 #[iv p0] [] t → Steps p.tables e below S0 t := by
          intro tX kX
          refine pre11 _ ?_
          show own_s p e below s₁ m 19 #[iv p0] [(.int (-6 : Int32)), (.int p0)] _
          refine XS.icmpNo X0.here hx rfl (hb hby d2_19) rfl (teq hc12).2 ?_
          exact kX
        obtain ⟨T14, X14, e14, st14⟩ := getS2 X0 hx hZ hown (host := "") (Or.inl (hw _ (List.mem_of_getElem? (i := 50) rfl))) Via.refl e0 S_1 (g := (mkF m 22 #[iv p0] [])) rfl (hb hby d2_22)
        have pre15 : ∀ t, own_s p e below T14 m 25 #[iv p0] [(.ref (K 1))] t → Steps p.tables e below S0 t := fun tX kX => pre13 _ (st14 _ kX)
        subst hS0
        obtain ⟨fs, hr, hrun, hended, hW, hsame⟩ := X14.leave (v := (some (.ref (K 1)))) (fun h => by rw [Bd.returns] at h; cases h)
        refine ⟨_, _, pre15 _ (retOut X14 hx Bd.returns (own_narR rfl) (Or.inr (Or.inr (Or.inr (Or.inr ⟨rfl, rfl, rfl⟩)))) (hb hby d2_25) hr), hrun, hended, _, _, rfl, ?_, ⟨_, rfl⟩, hW, hsame.mono (by decide) (by decide)⟩
        show Q2 Z p0 K h0 n0 (some (.ref (K 1))) T14.heap _
        exact ⟨congrArg (fun z => some (Value.ref (K z))) (show 1 = own_ix p0.toInt from Eq.symm (by rw [ihc12]; rfl)), N0, e14⟩
      · skip
        have ihc12 : ¬ ((p0).toInt = (-6 : Int)) := fun q => hc12 (Int32.toInt_inj.mp q)
        have pre16 : ∀ t, own_s p e below s₁ m 28 #[iv p0] [(.int (5 : Int32)), (.int p0)] t → Steps p.tables e below S0 t := by
          intro tX kX
          refine pre11 _ ?_
          show own_s p e below s₁ m 19 #[iv p0] [(.int (-6 : Int32)), (.int p0)] _
          refine XS.icmpYes X0.here hx rfl (pc0 := 19) (pc' := 26) rfl (hb hby d2_19) rfl (feq hc12).2 (by decide) (by decide) ?_
          show own_s p e below s₁ m 26 #[iv p0] [] _
          refine XS.iloadN X0.here hx rfl (hb hby d2_26) rfl ?_
          show own_s p e below s₁ m 27 #[iv p0] [(.int p0)] _
          refine XS.iconst X0.here hx rfl (hb hby d2_27) ?_
          exact kX
        by_cases hc17 : p0 = (5 : Int32)
        · skip
          have ihc17 : (p0).toInt = (5 : Int) := congrArg Int32.toInt hc17
          have pre18 : ∀ t, own_s p e below s₁ m 31 #[iv p0] [] t → Steps p.tables e below S0 t := by
            intro tX kX
            refine pre16 _ ?_
            show own_s p e below s₁ m 28 #[iv p0] [(.int (5 : Int32)), (.int p0)] _
            refine XS.icmpNo X0.here hx rfl (hb hby d2_28) rfl (teq hc17).2 ?_
            exact kX
          obtain ⟨T19, X19, e19, st19⟩ := getS2 X0 hx hZ hown (host := "") (Or.inl (hw _ (List.mem_of_getElem? (i := 23) rfl))) Via.refl e0 S_2 (g := (mkF m 31 #[iv p0] [])) rfl (hb hby d2_31)
          have pre20 : ∀ t, own_s p e below T19 m 34 #[iv p0] [(.ref (K 2))] t → Steps p.tables e below S0 t := fun tX kX => pre18 _ (st19 _ kX)
          subst hS0
          obtain ⟨fs, hr, hrun, hended, hW, hsame⟩ := X19.leave (v := (some (.ref (K 2)))) (fun h => by rw [Bd.returns] at h; cases h)
          refine ⟨_, _, pre20 _ (retOut X19 hx Bd.returns (own_narR rfl) (Or.inr (Or.inr (Or.inr (Or.inr ⟨rfl, rfl, rfl⟩)))) (hb hby d2_34) hr), hrun, hended, _, _, rfl, ?_, ⟨_, rfl⟩, hW, hsame.mono (by decide) (by decide)⟩
          show Q2 Z p0 K h0 n0 (some (.ref (K 2))) T19.heap _
          exact ⟨congrArg (fun z => some (Value.ref (K z))) (show 2 = own_ix p0.toInt from Eq.symm (by rw [ihc17]; rfl)), N0, e19⟩
        · skip
          have ihc17 : ¬ ((p0).toInt = (5 : Int)) := fun q => hc17 (Int32.toInt_inj.mp q)
          have pre21 : ∀ t, own_s p e below s₁ m 37 #[iv p0] [(.int (4 : Int32)), (.int p0)] t → Steps p.tables e below S0 t := by
            intro tX kX
            refine pre16 _ ?_
            show own_s p e below s₁ m 28 #[iv p0] [(.int (5 : Int32)), (.int p0)] _
            refine XS.icmpYes X0.here hx rfl (pc0 := 28) (pc' := 35) rfl (hb hby d2_28) rfl (feq hc17).2 (by decide) (by decide) ?_
            show own_s p e below s₁ m 35 #[iv p0] [] _
            refine XS.iloadN X0.here hx rfl (hb hby d2_35) rfl ?_
            show own_s p e below s₁ m 36 #[iv p0] [(.int p0)] _
            refine XS.iconst X0.here hx rfl (hb hby d2_36) ?_
            exact kX
          by_cases hc22 : p0 = (4 : Int32)
          · skip
            have ihc22 : (p0).toInt = (4 : Int) := congrArg Int32.toInt hc22
            have pre23 : ∀ t, own_s p e below s₁ m 40 #[iv p0] [] t → Steps p.tables e below S0 t := by
              intro tX kX
              refine pre21 _ ?_
              show own_s p e below s₁ m 37 #[iv p0] [(.int (4 : Int32)), (.int p0)] _
              refine XS.icmpNo X0.here hx rfl (hb hby d2_37) rfl (teq hc22).2 ?_
              exact kX
            obtain ⟨T24, X24, e24, st24⟩ := getS2 X0 hx hZ hown (host := "") (Or.inl (hw _ (List.mem_of_getElem? (i := 26) rfl))) Via.refl e0 S_3 (g := (mkF m 40 #[iv p0] [])) rfl (hb hby d2_40)
            have pre25 : ∀ t, own_s p e below T24 m 43 #[iv p0] [(.ref (K 3))] t → Steps p.tables e below S0 t := fun tX kX => pre23 _ (st24 _ kX)
            subst hS0
            obtain ⟨fs, hr, hrun, hended, hW, hsame⟩ := X24.leave (v := (some (.ref (K 3)))) (fun h => by rw [Bd.returns] at h; cases h)
            refine ⟨_, _, pre25 _ (retOut X24 hx Bd.returns (own_narR rfl) (Or.inr (Or.inr (Or.inr (Or.inr ⟨rfl, rfl, rfl⟩)))) (hb hby d2_43) hr), hrun, hended, _, _, rfl, ?_, ⟨_, rfl⟩, hW, hsame.mono (by decide) (by decide)⟩
            show Q2 Z p0 K h0 n0 (some (.ref (K 3))) T24.heap _
            exact ⟨congrArg (fun z => some (Value.ref (K z))) (show 3 = own_ix p0.toInt from Eq.symm (by rw [ihc22]; rfl)), N0, e24⟩
          · skip
            have ihc22 : ¬ ((p0).toInt = (4 : Int)) := fun q => hc22 (Int32.toInt_inj.mp q)
            have pre26 : ∀ t, own_s p e below s₁ m 47 #[iv p0] [(.int (-5 : Int32)), (.int p0)] t → Steps p.tables e below S0 t := by
              intro tX kX
              refine pre21 _ ?_
              show own_s p e below s₁ m 37 #[iv p0] [(.int (4 : Int32)), (.int p0)] _
              refine XS.icmpYes X0.here hx rfl (pc0 := 37) (pc' := 44) rfl (hb hby d2_37) rfl (feq hc22).2 (by decide) (by decide) ?_
              show own_s p e below s₁ m 44 #[iv p0] [] _
              refine XS.iloadN X0.here hx rfl (hb hby d2_44) rfl ?_
              show own_s p e below s₁ m 45 #[iv p0] [(.int p0)] _
              refine XS.bipush X0.here hx rfl (hb hby d2_45) ?_
              exact kX
            by_cases hc27 : p0 = (-5 : Int32)
            · skip
              have ihc27 : (p0).toInt = (-5 : Int) := congrArg Int32.toInt hc27
              have pre28 : ∀ t, own_s p e below s₁ m 50 #[iv p0] [] t → Steps p.tables e below S0 t := by
                intro tX kX
                refine pre26 _ ?_
                show own_s p e below s₁ m 47 #[iv p0] [(.int (-5 : Int32)), (.int p0)] _
                refine XS.icmpNo X0.here hx rfl (hb hby d2_47) rfl (teq hc27).2 ?_
                exact kX
              obtain ⟨T29, X29, e29, st29⟩ := getS2 X0 hx hZ hown (host := "") (Or.inl (hw _ (List.mem_of_getElem? (i := 38) rfl))) Via.refl e0 S_4 (g := (mkF m 50 #[iv p0] [])) rfl (hb hby d2_50)
              have pre30 : ∀ t, own_s p e below T29 m 53 #[iv p0] [(.ref (K 4))] t → Steps p.tables e below S0 t := fun tX kX => pre28 _ (st29 _ kX)
              subst hS0
              obtain ⟨fs, hr, hrun, hended, hW, hsame⟩ := X29.leave (v := (some (.ref (K 4)))) (fun h => by rw [Bd.returns] at h; cases h)
              refine ⟨_, _, pre30 _ (retOut X29 hx Bd.returns (own_narR rfl) (Or.inr (Or.inr (Or.inr (Or.inr ⟨rfl, rfl, rfl⟩)))) (hb hby d2_53) hr), hrun, hended, _, _, rfl, ?_, ⟨_, rfl⟩, hW, hsame.mono (by decide) (by decide)⟩
              show Q2 Z p0 K h0 n0 (some (.ref (K 4))) T29.heap _
              exact ⟨congrArg (fun z => some (Value.ref (K z))) (show 4 = own_ix p0.toInt from Eq.symm (by rw [ihc27]; rfl)), N0, e29⟩
            · skip
              have ihc27 : ¬ ((p0).toInt = (-5 : Int)) := fun q => hc27 (Int32.toInt_inj.mp q)
              have pre31 : ∀ t, own_s p e below s₁ m 56 #[iv p0] [(.int (2 : Int32)), (.int p0)] t → Steps p.tables e below S0 t := by
                intro tX kX
                refine pre26 _ ?_
                show own_s p e below s₁ m 47 #[iv p0] [(.int (-5 : Int32)), (.int p0)] _
                refine XS.icmpYes X0.here hx rfl (pc0 := 47) (pc' := 54) rfl (hb hby d2_47) rfl (feq hc27).2 (by decide) (by decide) ?_
                show own_s p e below s₁ m 54 #[iv p0] [] _
                refine XS.iloadN X0.here hx rfl (hb hby d2_54) rfl ?_
                show own_s p e below s₁ m 55 #[iv p0] [(.int p0)] _
                refine XS.iconst X0.here hx rfl (hb hby d2_55) ?_
                exact kX
              by_cases hc32 : p0 = (2 : Int32)
              · skip
                have ihc32 : (p0).toInt = (2 : Int) := congrArg Int32.toInt hc32
                have pre33 : ∀ t, own_s p e below s₁ m 64 #[iv p0] [] t → Steps p.tables e below S0 t := by
                  intro tX kX
                  refine pre31 _ ?_
                  show own_s p e below s₁ m 56 #[iv p0] [(.int (2 : Int32)), (.int p0)] _
                  refine XS.icmpYes X0.here hx rfl (pc0 := 56) (pc' := 64) rfl (hb hby d2_56) rfl (teq hc32).1 (by decide) (by decide) ?_
                  exact kX
                obtain ⟨T34, X34, e34, st34⟩ := getS2 X0 hx hZ hown (host := "") (Or.inl (hw _ (List.mem_of_getElem? (i := 14) rfl))) Via.refl e0 S_5 (g := (mkF m 64 #[iv p0] [])) rfl (hb hby d2_64)
                have pre35 : ∀ t, own_s p e below T34 m 67 #[iv p0] [(.ref (K 5))] t → Steps p.tables e below S0 t := fun tX kX => pre33 _ (st34 _ kX)
                subst hS0
                obtain ⟨fs, hr, hrun, hended, hW, hsame⟩ := X34.leave (v := (some (.ref (K 5)))) (fun h => by rw [Bd.returns] at h; cases h)
                refine ⟨_, _, pre35 _ (retOut X34 hx Bd.returns (own_narR rfl) (Or.inr (Or.inr (Or.inr (Or.inr ⟨rfl, rfl, rfl⟩)))) (hb hby d2_67) hr), hrun, hended, _, _, rfl, ?_, ⟨_, rfl⟩, hW, hsame.mono (by decide) (by decide)⟩
                show Q2 Z p0 K h0 n0 (some (.ref (K 5))) T34.heap _
                exact ⟨congrArg (fun z => some (Value.ref (K z))) (show 5 = own_ix p0.toInt from Eq.symm (by rw [ihc32]; rfl)), N0, e34⟩
              · skip
                have ihc32 : ¬ ((p0).toInt = (2 : Int)) := fun q => hc32 (Int32.toInt_inj.mp q)
                have pre36 : ∀ t, own_s p e below s₁ m 61 #[iv p0] [(.int (3 : Int32)), (.int p0)] t → Steps p.tables e below S0 t := by
                  intro tX kX
                  refine pre31 _ ?_
                  show own_s p e below s₁ m 56 #[iv p0] [(.int (2 : Int32)), (.int p0)] _
                  refine XS.icmpNo X0.here hx rfl (hb hby d2_56) rfl (feq hc32).1 ?_
                  show own_s p e below s₁ m 59 #[iv p0] [] _
                  refine XS.iloadN X0.here hx rfl (hb hby d2_59) rfl ?_
                  show own_s p e below s₁ m 60 #[iv p0] [(.int p0)] _
                  refine XS.iconst X0.here hx rfl (hb hby d2_60) ?_
                  exact kX
                by_cases hc37 : p0 = (3 : Int32)
                · skip
                  have ihc37 : (p0).toInt = (3 : Int) := congrArg Int32.toInt hc37
                  have pre38 : ∀ t, own_s p e below s₁ m 64 #[iv p0] [] t → Steps p.tables e below S0 t := by
                    intro tX kX
                    refine pre36 _ ?_
                    show own_s p e below s₁ m 61 #[iv p0] [(.int (3 : Int32)), (.int p0)] _
                    refine XS.icmpNo X0.here hx rfl (hb hby d2_61) rfl (teq hc37).2 ?_
                    exact kX
                  obtain ⟨T39, X39, e39, st39⟩ := getS2 X0 hx hZ hown (host := "") (Or.inl (hw _ (List.mem_of_getElem? (i := 14) rfl))) Via.refl e0 S_5 (g := (mkF m 64 #[iv p0] [])) rfl (hb hby d2_64)
                  have pre40 : ∀ t, own_s p e below T39 m 67 #[iv p0] [(.ref (K 5))] t → Steps p.tables e below S0 t := fun tX kX => pre38 _ (st39 _ kX)
                  subst hS0
                  obtain ⟨fs, hr, hrun, hended, hW, hsame⟩ := X39.leave (v := (some (.ref (K 5)))) (fun h => by rw [Bd.returns] at h; cases h)
                  refine ⟨_, _, pre40 _ (retOut X39 hx Bd.returns (own_narR rfl) (Or.inr (Or.inr (Or.inr (Or.inr ⟨rfl, rfl, rfl⟩)))) (hb hby d2_67) hr), hrun, hended, _, _, rfl, ?_, ⟨_, rfl⟩, hW, hsame.mono (by decide) (by decide)⟩
                  show Q2 Z p0 K h0 n0 (some (.ref (K 5))) T39.heap _
                  exact ⟨congrArg (fun z => some (Value.ref (K z))) (show 5 = own_ix p0.toInt from Eq.symm (by rw [ihc37]; rfl)), N0, e39⟩
                · skip
                  have ihc37 : ¬ ((p0).toInt = (3 : Int)) := fun q => hc37 (Int32.toInt_inj.mp q)
                  have pre41 : ∀ t, own_s p e below s₁ m 71 #[iv p0] [(.int (7 : Int32)), (.int p0)] t → Steps p.tables e below S0 t := by
                    intro tX kX
                    refine pre36 _ ?_
                    show own_s p e below s₁ m 61 #[iv p0] [(.int (3 : Int32)), (.int p0)] _
                    refine XS.icmpYes X0.here hx rfl (pc0 := 61) (pc' := 68) rfl (hb hby d2_61) rfl (feq hc37).2 (by decide) (by decide) ?_
                    show own_s p e below s₁ m 68 #[iv p0] [] _
                    refine XS.iloadN X0.here hx rfl (hb hby d2_68) rfl ?_
                    show own_s p e below s₁ m 69 #[iv p0] [(.int p0)] _
                    refine XS.bipush X0.here hx rfl (hb hby d2_69) ?_
                    exact kX
                  by_cases hc42 : p0 = (7 : Int32)
                  · skip
                    have ihc42 : (p0).toInt = (7 : Int) := congrArg Int32.toInt hc42
                    have pre43 : ∀ t, own_s p e below s₁ m 74 #[iv p0] [] t → Steps p.tables e below S0 t := by
                      intro tX kX
                      refine pre41 _ ?_
                      show own_s p e below s₁ m 71 #[iv p0] [(.int (7 : Int32)), (.int p0)] _
                      refine XS.icmpNo X0.here hx rfl (hb hby d2_71) rfl (teq hc42).2 ?_
                      exact kX
                    obtain ⟨T44, X44, e44, st44⟩ := getS2 X0 hx hZ hown (host := "") (Or.inl (hw _ (List.mem_of_getElem? (i := 47) rfl))) Via.refl e0 S_6 (g := (mkF m 74 #[iv p0] [])) rfl (hb hby d2_74)
                    have pre45 : ∀ t, own_s p e below T44 m 77 #[iv p0] [(.ref (K 6))] t → Steps p.tables e below S0 t := fun tX kX => pre43 _ (st44 _ kX)
                    subst hS0
                    obtain ⟨fs, hr, hrun, hended, hW, hsame⟩ := X44.leave (v := (some (.ref (K 6)))) (fun h => by rw [Bd.returns] at h; cases h)
                    refine ⟨_, _, pre45 _ (retOut X44 hx Bd.returns (own_narR rfl) (Or.inr (Or.inr (Or.inr (Or.inr ⟨rfl, rfl, rfl⟩)))) (hb hby d2_77) hr), hrun, hended, _, _, rfl, ?_, ⟨_, rfl⟩, hW, hsame.mono (by decide) (by decide)⟩
                    show Q2 Z p0 K h0 n0 (some (.ref (K 6))) T44.heap _
                    exact ⟨congrArg (fun z => some (Value.ref (K z))) (show 6 = own_ix p0.toInt from Eq.symm (by rw [ihc42]; rfl)), N0, e44⟩
                  · skip
                    have ihc42 : ¬ ((p0).toInt = (7 : Int)) := fun q => hc42 (Int32.toInt_inj.mp q)
                    have pre46 : ∀ t, own_s p e below s₁ m 81 #[iv p0] [(.int (6 : Int32)), (.int p0)] t → Steps p.tables e below S0 t := by
                      intro tX kX
                      refine pre41 _ ?_
                      show own_s p e below s₁ m 71 #[iv p0] [(.int (7 : Int32)), (.int p0)] _
                      refine XS.icmpYes X0.here hx rfl (pc0 := 71) (pc' := 78) rfl (hb hby d2_71) rfl (feq hc42).2 (by decide) (by decide) ?_
                      show own_s p e below s₁ m 78 #[iv p0] [] _
                      refine XS.iloadN X0.here hx rfl (hb hby d2_78) rfl ?_
                      show own_s p e below s₁ m 79 #[iv p0] [(.int p0)] _
                      refine XS.bipush X0.here hx rfl (hb hby d2_79) ?_
                      exact kX
                    by_cases hc47 : p0 = (6 : Int32)
                    · skip
                      have ihc47 : (p0).toInt = (6 : Int) := congrArg Int32.toInt hc47
                      have pre48 : ∀ t, own_s p e below s₁ m 90 #[iv p0] [] t → Steps p.tables e below S0 t := by
                        intro tX kX
                        refine pre46 _ ?_
                        show own_s p e below s₁ m 81 #[iv p0] [(.int (6 : Int32)), (.int p0)] _
                        refine XS.icmpYes X0.here hx rfl (pc0 := 81) (pc' := 90) rfl (hb hby d2_81) rfl (teq hc47).1 (by decide) (by decide) ?_
                        exact kX
                      obtain ⟨T49, X49, e49, st49⟩ := getS2 X0 hx hZ hown (host := "") (Or.inl (hw _ (List.mem_of_getElem? (i := 44) rfl))) Via.refl e0 S_7 (g := (mkF m 90 #[iv p0] [])) rfl (hb hby d2_90)
                      have pre50 : ∀ t, own_s p e below T49 m 93 #[iv p0] [(.ref (K 7))] t → Steps p.tables e below S0 t := fun tX kX => pre48 _ (st49 _ kX)
                      subst hS0
                      obtain ⟨fs, hr, hrun, hended, hW, hsame⟩ := X49.leave (v := (some (.ref (K 7)))) (fun h => by rw [Bd.returns] at h; cases h)
                      refine ⟨_, _, pre50 _ (retOut X49 hx Bd.returns (own_narR rfl) (Or.inr (Or.inr (Or.inr (Or.inr ⟨rfl, rfl, rfl⟩)))) (hb hby d2_93) hr), hrun, hended, _, _, rfl, ?_, ⟨_, rfl⟩, hW, hsame.mono (by decide) (by decide)⟩
                      show Q2 Z p0 K h0 n0 (some (.ref (K 7))) T49.heap _
                      exact ⟨congrArg (fun z => some (Value.ref (K z))) (show 7 = own_ix p0.toInt from Eq.symm (by rw [ihc47]; rfl)), N0, e49⟩
                    · skip
                      have ihc47 : ¬ ((p0).toInt = (6 : Int)) := fun q => hc47 (Int32.toInt_inj.mp q)
                      have pre51 : ∀ t, own_s p e below s₁ m 87 #[iv p0] [(.int (8 : Int32)), (.int p0)] t → Steps p.tables e below S0 t := by
                        intro tX kX
                        refine pre46 _ ?_
                        show own_s p e below s₁ m 81 #[iv p0] [(.int (6 : Int32)), (.int p0)] _
                        refine XS.icmpNo X0.here hx rfl (hb hby d2_81) rfl (feq hc47).1 ?_
                        show own_s p e below s₁ m 84 #[iv p0] [] _
                        refine XS.iloadN X0.here hx rfl (hb hby d2_84) rfl ?_
                        show own_s p e below s₁ m 85 #[iv p0] [(.int p0)] _
                        refine XS.bipush X0.here hx rfl (hb hby d2_85) ?_
                        exact kX
                      by_cases hc52 : p0 = (8 : Int32)
                      · skip
                        have ihc52 : (p0).toInt = (8 : Int) := congrArg Int32.toInt hc52
                        have pre53 : ∀ t, own_s p e below s₁ m 90 #[iv p0] [] t → Steps p.tables e below S0 t := by
                          intro tX kX
                          refine pre51 _ ?_
                          show own_s p e below s₁ m 87 #[iv p0] [(.int (8 : Int32)), (.int p0)] _
                          refine XS.icmpNo X0.here hx rfl (hb hby d2_87) rfl (teq hc52).2 ?_
                          exact kX
                        obtain ⟨T54, X54, e54, st54⟩ := getS2 X0 hx hZ hown (host := "") (Or.inl (hw _ (List.mem_of_getElem? (i := 44) rfl))) Via.refl e0 S_7 (g := (mkF m 90 #[iv p0] [])) rfl (hb hby d2_90)
                        have pre55 : ∀ t, own_s p e below T54 m 93 #[iv p0] [(.ref (K 7))] t → Steps p.tables e below S0 t := fun tX kX => pre53 _ (st54 _ kX)
                        subst hS0
                        obtain ⟨fs, hr, hrun, hended, hW, hsame⟩ := X54.leave (v := (some (.ref (K 7)))) (fun h => by rw [Bd.returns] at h; cases h)
                        refine ⟨_, _, pre55 _ (retOut X54 hx Bd.returns (own_narR rfl) (Or.inr (Or.inr (Or.inr (Or.inr ⟨rfl, rfl, rfl⟩)))) (hb hby d2_93) hr), hrun, hended, _, _, rfl, ?_, ⟨_, rfl⟩, hW, hsame.mono (by decide) (by decide)⟩
                        show Q2 Z p0 K h0 n0 (some (.ref (K 7))) T54.heap _
                        exact ⟨congrArg (fun z => some (Value.ref (K z))) (show 7 = own_ix p0.toInt from Eq.symm (by rw [ihc52]; rfl)), N0, e54⟩
                      · skip
                        have ihc52 : ¬ ((p0).toInt = (8 : Int)) := fun q => hc52 (Int32.toInt_inj.mp q)
                        have pre56 : ∀ t, own_s p e below s₁ m 97 #[iv p0] [(.int (91 : Int32)), (.int p0)] t → Steps p.tables e below S0 t := by
                          intro tX kX
                          refine pre51 _ ?_
                          show own_s p e below s₁ m 87 #[iv p0] [(.int (8 : Int32)), (.int p0)] _
                          refine XS.icmpYes X0.here hx rfl (pc0 := 87) (pc' := 94) rfl (hb hby d2_87) rfl (feq hc52).2 (by decide) (by decide) ?_
                          show own_s p e below s₁ m 94 #[iv p0] [] _
                          refine XS.iloadN X0.here hx rfl (hb hby d2_94) rfl ?_
                          show own_s p e below s₁ m 95 #[iv p0] [(.int p0)] _
                          refine XS.bipush X0.here hx rfl (hb hby d2_95) ?_
                          exact kX
                        by_cases hc57 : p0 = (91 : Int32)
                        · skip
                          have ihc57 : (p0).toInt = (91 : Int) := congrArg Int32.toInt hc57
                          have pre58 : ∀ t, own_s p e below s₁ m 100 #[iv p0] [] t → Steps p.tables e below S0 t := by
                            intro tX kX
                            refine pre56 _ ?_
                            show own_s p e below s₁ m 97 #[iv p0] [(.int (91 : Int32)), (.int p0)] _
                            refine XS.icmpNo X0.here hx rfl (hb hby d2_97) rfl (teq hc57).2 ?_
                            exact kX
                          obtain ⟨T59, X59, e59, st59⟩ := getS2 X0 hx hZ hown (host := "") (Or.inl (hw _ (List.mem_of_getElem? (i := 53) rfl))) Via.refl e0 S_8 (g := (mkF m 100 #[iv p0] [])) rfl (hb hby d2_100)
                          have pre60 : ∀ t, own_s p e below T59 m 103 #[iv p0] [(.ref (K 8))] t → Steps p.tables e below S0 t := fun tX kX => pre58 _ (st59 _ kX)
                          subst hS0
                          obtain ⟨fs, hr, hrun, hended, hW, hsame⟩ := X59.leave (v := (some (.ref (K 8)))) (fun h => by rw [Bd.returns] at h; cases h)
                          refine ⟨_, _, pre60 _ (retOut X59 hx Bd.returns (own_narR rfl) (Or.inr (Or.inr (Or.inr (Or.inr ⟨rfl, rfl, rfl⟩)))) (hb hby d2_103) hr), hrun, hended, _, _, rfl, ?_, ⟨_, rfl⟩, hW, hsame.mono (by decide) (by decide)⟩
                          show Q2 Z p0 K h0 n0 (some (.ref (K 8))) T59.heap _
                          exact ⟨congrArg (fun z => some (Value.ref (K z))) (show 8 = own_ix p0.toInt from Eq.symm (by rw [ihc57]; rfl)), N0, e59⟩
                        · skip
                          have ihc57 : ¬ ((p0).toInt = (91 : Int)) := fun q => hc57 (Int32.toInt_inj.mp q)
                          have pre61 : ∀ t, own_s p e below s₁ m 107 #[iv p0] [(.int (92 : Int32)), (.int p0)] t → Steps p.tables e below S0 t := by
                            intro tX kX
                            refine pre56 _ ?_
                            show own_s p e below s₁ m 97 #[iv p0] [(.int (91 : Int32)), (.int p0)] _
                            refine XS.icmpYes X0.here hx rfl (pc0 := 97) (pc' := 104) rfl (hb hby d2_97) rfl (feq hc57).2 (by decide) (by decide) ?_
                            show own_s p e below s₁ m 104 #[iv p0] [] _
                            refine XS.iloadN X0.here hx rfl (hb hby d2_104) rfl ?_
                            show own_s p e below s₁ m 105 #[iv p0] [(.int p0)] _
                            refine XS.bipush X0.here hx rfl (hb hby d2_105) ?_
                            exact kX
                          by_cases hc62 : p0 = (92 : Int32)
                          · skip
                            have ihc62 : (p0).toInt = (92 : Int) := congrArg Int32.toInt hc62
                            have pre63 : ∀ t, own_s p e below s₁ m 110 #[iv p0] [] t → Steps p.tables e below S0 t := by
                              intro tX kX
                              refine pre61 _ ?_
                              show own_s p e below s₁ m 107 #[iv p0] [(.int (92 : Int32)), (.int p0)] _
                              refine XS.icmpNo X0.here hx rfl (hb hby d2_107) rfl (teq hc62).2 ?_
                              exact kX
                            obtain ⟨T64, X64, e64, st64⟩ := getS2 X0 hx hZ hown (host := "") (Or.inl (hw _ (List.mem_of_getElem? (i := 17) rfl))) Via.refl e0 S_9 (g := (mkF m 110 #[iv p0] [])) rfl (hb hby d2_110)
                            have pre65 : ∀ t, own_s p e below T64 m 113 #[iv p0] [(.ref (K 9))] t → Steps p.tables e below S0 t := fun tX kX => pre63 _ (st64 _ kX)
                            subst hS0
                            obtain ⟨fs, hr, hrun, hended, hW, hsame⟩ := X64.leave (v := (some (.ref (K 9)))) (fun h => by rw [Bd.returns] at h; cases h)
                            refine ⟨_, _, pre65 _ (retOut X64 hx Bd.returns (own_narR rfl) (Or.inr (Or.inr (Or.inr (Or.inr ⟨rfl, rfl, rfl⟩)))) (hb hby d2_113) hr), hrun, hended, _, _, rfl, ?_, ⟨_, rfl⟩, hW, hsame.mono (by decide) (by decide)⟩
                            show Q2 Z p0 K h0 n0 (some (.ref (K 9))) T64.heap _
                            exact ⟨congrArg (fun z => some (Value.ref (K z))) (show 9 = own_ix p0.toInt from Eq.symm (by rw [ihc62]; rfl)), N0, e64⟩
                          · skip
                            have ihc62 : ¬ ((p0).toInt = (92 : Int)) := fun q => hc62 (Int32.toInt_inj.mp q)
                            have pre66 : ∀ t, own_s p e below s₁ m 117 #[iv p0] [(.int (93 : Int32)), (.int p0)] t → Steps p.tables e below S0 t := by
                              intro tX kX
                              refine pre61 _ ?_
                              show own_s p e below s₁ m 107 #[iv p0] [(.int (92 : Int32)), (.int p0)] _
                              refine XS.icmpYes X0.here hx rfl (pc0 := 107) (pc' := 114) rfl (hb hby d2_107) rfl (feq hc62).2 (by decide) (by decide) ?_
                              show own_s p e below s₁ m 114 #[iv p0] [] _
                              refine XS.iloadN X0.here hx rfl (hb hby d2_114) rfl ?_
                              show own_s p e below s₁ m 115 #[iv p0] [(.int p0)] _
                              refine XS.bipush X0.here hx rfl (hb hby d2_115) ?_
                              exact kX
                            by_cases hc67 : p0 = (93 : Int32)
                            · skip
                              have ihc67 : (p0).toInt = (93 : Int) := congrArg Int32.toInt hc67
                              have pre68 : ∀ t, own_s p e below s₁ m 120 #[iv p0] [] t → Steps p.tables e below S0 t := by
                                intro tX kX
                                refine pre66 _ ?_
                                show own_s p e below s₁ m 117 #[iv p0] [(.int (93 : Int32)), (.int p0)] _
                                refine XS.icmpNo X0.here hx rfl (hb hby d2_117) rfl (teq hc67).2 ?_
                                exact kX
                              obtain ⟨T69, X69, e69, st69⟩ := getS2 X0 hx hZ hown (host := "") (Or.inl (hw _ (List.mem_of_getElem? (i := 56) rfl))) Via.refl e0 S_10 (g := (mkF m 120 #[iv p0] [])) rfl (hb hby d2_120)
                              have pre70 : ∀ t, own_s p e below T69 m 123 #[iv p0] [(.ref (K 10))] t → Steps p.tables e below S0 t := fun tX kX => pre68 _ (st69 _ kX)
                              subst hS0
                              obtain ⟨fs, hr, hrun, hended, hW, hsame⟩ := X69.leave (v := (some (.ref (K 10)))) (fun h => by rw [Bd.returns] at h; cases h)
                              refine ⟨_, _, pre70 _ (retOut X69 hx Bd.returns (own_narR rfl) (Or.inr (Or.inr (Or.inr (Or.inr ⟨rfl, rfl, rfl⟩)))) (hb hby d2_123) hr), hrun, hended, _, _, rfl, ?_, ⟨_, rfl⟩, hW, hsame.mono (by decide) (by decide)⟩
                              show Q2 Z p0 K h0 n0 (some (.ref (K 10))) T69.heap _
                              exact ⟨congrArg (fun z => some (Value.ref (K z))) (show 10 = own_ix p0.toInt from Eq.symm (by rw [ihc67]; rfl)), N0, e69⟩
                            · skip
                              have ihc67 : ¬ ((p0).toInt = (93 : Int)) := fun q => hc67 (Int32.toInt_inj.mp q)
                              have pre71 : ∀ t, own_s p e below s₁ m 128 #[iv p0] [(.int (2013 : Int32)), (.int p0)] t → Steps p.tables e below S0 t := by
                                intro tX kX
                                refine pre66 _ ?_
                                show own_s p e below s₁ m 117 #[iv p0] [(.int (93 : Int32)), (.int p0)] _
                                refine XS.icmpYes X0.here hx rfl (pc0 := 117) (pc' := 124) rfl (hb hby d2_117) rfl (feq hc67).2 (by decide) (by decide) ?_
                                show own_s p e below s₁ m 124 #[iv p0] [] _
                                refine XS.iloadN X0.here hx rfl (hb hby d2_124) rfl ?_
                                show own_s p e below s₁ m 125 #[iv p0] [(.int p0)] _
                                refine XS.sipush X0.here hx rfl (hb hby d2_125) ?_
                                exact kX
                              by_cases hc72 : p0 = (2013 : Int32)
                              · skip
                                have ihc72 : (p0).toInt = (2013 : Int) := congrArg Int32.toInt hc72
                                have pre73 : ∀ t, own_s p e below s₁ m 131 #[iv p0] [] t → Steps p.tables e below S0 t := by
                                  intro tX kX
                                  refine pre71 _ ?_
                                  show own_s p e below s₁ m 128 #[iv p0] [(.int (2013 : Int32)), (.int p0)] _
                                  refine XS.icmpNo X0.here hx rfl (hb hby d2_128) rfl (teq hc72).2 ?_
                                  exact kX
                                obtain ⟨T74, X74, e74, st74⟩ := getS2 X0 hx hZ hown (host := "") (Or.inl (hw _ (List.mem_of_getElem? (i := 32) rfl))) Via.refl e0 S_11 (g := (mkF m 131 #[iv p0] [])) rfl (hb hby d2_131)
                                have pre75 : ∀ t, own_s p e below T74 m 134 #[iv p0] [(.ref (K 11))] t → Steps p.tables e below S0 t := fun tX kX => pre73 _ (st74 _ kX)
                                subst hS0
                                obtain ⟨fs, hr, hrun, hended, hW, hsame⟩ := X74.leave (v := (some (.ref (K 11)))) (fun h => by rw [Bd.returns] at h; cases h)
                                refine ⟨_, _, pre75 _ (retOut X74 hx Bd.returns (own_narR rfl) (Or.inr (Or.inr (Or.inr (Or.inr ⟨rfl, rfl, rfl⟩)))) (hb hby d2_134) hr), hrun, hended, _, _, rfl, ?_, ⟨_, rfl⟩, hW, hsame.mono (by decide) (by decide)⟩
                                show Q2 Z p0 K h0 n0 (some (.ref (K 11))) T74.heap _
                                exact ⟨congrArg (fun z => some (Value.ref (K z))) (show 11 = own_ix p0.toInt from Eq.symm (by rw [ihc72]; rfl)), N0, e74⟩
                              · skip
                                have ihc72 : ¬ ((p0).toInt = (2013 : Int)) := fun q => hc72 (Int32.toInt_inj.mp q)
                                have pre76 : ∀ t, own_s p e below s₁ m 139 #[iv p0] [(.int (2014 : Int32)), (.int p0)] t → Steps p.tables e below S0 t := by
                                  intro tX kX
                                  refine pre71 _ ?_
                                  show own_s p e below s₁ m 128 #[iv p0] [(.int (2013 : Int32)), (.int p0)] _
                                  refine XS.icmpYes X0.here hx rfl (pc0 := 128) (pc' := 135) rfl (hb hby d2_128) rfl (feq hc72).2 (by decide) (by decide) ?_
                                  show own_s p e below s₁ m 135 #[iv p0] [] _
                                  refine XS.iloadN X0.here hx rfl (hb hby d2_135) rfl ?_
                                  show own_s p e below s₁ m 136 #[iv p0] [(.int p0)] _
                                  refine XS.sipush X0.here hx rfl (hb hby d2_136) ?_
                                  exact kX
                                by_cases hc77 : p0 = (2014 : Int32)
                                · skip
                                  have ihc77 : (p0).toInt = (2014 : Int) := congrArg Int32.toInt hc77
                                  have pre78 : ∀ t, own_s p e below s₁ m 142 #[iv p0] [] t → Steps p.tables e below S0 t := by
                                    intro tX kX
                                    refine pre76 _ ?_
                                    show own_s p e below s₁ m 139 #[iv p0] [(.int (2014 : Int32)), (.int p0)] _
                                    refine XS.icmpNo X0.here hx rfl (hb hby d2_139) rfl (teq hc77).2 ?_
                                    exact kX
                                  obtain ⟨T79, X79, e79, st79⟩ := getS2 X0 hx hZ hown (host := "") (Or.inl (hw _ (List.mem_of_getElem? (i := 62) rfl))) Via.refl e0 S_12 (g := (mkF m 142 #[iv p0] [])) rfl (hb hby d2_142)
                                  have pre80 : ∀ t, own_s p e below T79 m 145 #[iv p0] [(.ref (K 12))] t → Steps p.tables e below S0 t := fun tX kX => pre78 _ (st79 _ kX)
                                  subst hS0
                                  obtain ⟨fs, hr, hrun, hended, hW, hsame⟩ := X79.leave (v := (some (.ref (K 12)))) (fun h => by rw [Bd.returns] at h; cases h)
                                  refine ⟨_, _, pre80 _ (retOut X79 hx Bd.returns (own_narR rfl) (Or.inr (Or.inr (Or.inr (Or.inr ⟨rfl, rfl, rfl⟩)))) (hb hby d2_145) hr), hrun, hended, _, _, rfl, ?_, ⟨_, rfl⟩, hW, hsame.mono (by decide) (by decide)⟩
                                  show Q2 Z p0 K h0 n0 (some (.ref (K 12))) T79.heap _
                                  exact ⟨congrArg (fun z => some (Value.ref (K z))) (show 12 = own_ix p0.toInt from Eq.symm (by rw [ihc77]; rfl)), N0, e79⟩
                                · skip
                                  have ihc77 : ¬ ((p0).toInt = (2014 : Int)) := fun q => hc77 (Int32.toInt_inj.mp q)
                                  have pre81 : ∀ t, own_s p e below s₁ m 149 #[iv p0] [(.int (-2 : Int32)), (.int p0)] t → Steps p.tables e below S0 t := by
                                    intro tX kX
                                    refine pre76 _ ?_
                                    show own_s p e below s₁ m 139 #[iv p0] [(.int (2014 : Int32)), (.int p0)] _
                                    refine XS.icmpYes X0.here hx rfl (pc0 := 139) (pc' := 146) rfl (hb hby d2_139) rfl (feq hc77).2 (by decide) (by decide) ?_
                                    show own_s p e below s₁ m 146 #[iv p0] [] _
                                    refine XS.iloadN X0.here hx rfl (hb hby d2_146) rfl ?_
                                    show own_s p e below s₁ m 147 #[iv p0] [(.int p0)] _
                                    refine XS.bipush X0.here hx rfl (hb hby d2_147) ?_
                                    exact kX
                                  by_cases hc82 : p0 = (-2 : Int32)
                                  · skip
                                    have ihc82 : (p0).toInt = (-2 : Int) := congrArg Int32.toInt hc82
                                    have pre83 : ∀ t, own_s p e below s₁ m 171 #[iv p0] [] t → Steps p.tables e below S0 t := by
                                      intro tX kX
                                      refine pre81 _ ?_
                                      show own_s p e below s₁ m 149 #[iv p0] [(.int (-2 : Int32)), (.int p0)] _
                                      refine XS.icmpYes X0.here hx rfl (pc0 := 149) (pc' := 171) rfl (hb hby d2_149) rfl (teq hc82).1 (by decide) (by decide) ?_
                                      exact kX
                                    obtain ⟨T84, X84, e84, st84⟩ := getS2 X0 hx hZ hown (host := "") (Or.inl (hw _ (List.mem_of_getElem? (i := 35) rfl))) Via.refl e0 S_13 (g := (mkF m 171 #[iv p0] [])) rfl (hb hby d2_171)
                                    have pre85 : ∀ t, own_s p e below T84 m 174 #[iv p0] [(.ref (K 13))] t → Steps p.tables e below S0 t := fun tX kX => pre83 _ (st84 _ kX)
                                    subst hS0
                                    obtain ⟨fs, hr, hrun, hended, hW, hsame⟩ := X84.leave (v := (some (.ref (K 13)))) (fun h => by rw [Bd.returns] at h; cases h)
                                    refine ⟨_, _, pre85 _ (retOut X84 hx Bd.returns (own_narR rfl) (Or.inr (Or.inr (Or.inr (Or.inr ⟨rfl, rfl, rfl⟩)))) (hb hby d2_174) hr), hrun, hended, _, _, rfl, ?_, ⟨_, rfl⟩, hW, hsame.mono (by decide) (by decide)⟩
                                    show Q2 Z p0 K h0 n0 (some (.ref (K 13))) T84.heap _
                                    exact ⟨congrArg (fun z => some (Value.ref (K z))) (show 13 = own_ix p0.toInt from Eq.symm (by rw [ihc82]; rfl)), N0, e84⟩
                                  · skip
                                    have ihc82 : ¬ ((p0).toInt = (-2 : Int)) := fun q => hc82 (Int32.toInt_inj.mp q)
                                    have pre86 : ∀ t, own_s p e below s₁ m 155 #[iv p0] [(.int (-3 : Int32)), (.int p0)] t → Steps p.tables e below S0 t := by
                                      intro tX kX
                                      refine pre81 _ ?_
                                      show own_s p e below s₁ m 149 #[iv p0] [(.int (-2 : Int32)), (.int p0)] _
                                      refine XS.icmpNo X0.here hx rfl (hb hby d2_149) rfl (feq hc82).1 ?_
                                      show own_s p e below s₁ m 152 #[iv p0] [] _
                                      refine XS.iloadN X0.here hx rfl (hb hby d2_152) rfl ?_
                                      show own_s p e below s₁ m 153 #[iv p0] [(.int p0)] _
                                      refine XS.bipush X0.here hx rfl (hb hby d2_153) ?_
                                      exact kX
                                    by_cases hc87 : p0 = (-3 : Int32)
                                    · skip
                                      have ihc87 : (p0).toInt = (-3 : Int) := congrArg Int32.toInt hc87
                                      have pre88 : ∀ t, own_s p e below s₁ m 171 #[iv p0] [] t → Steps p.tables e below S0 t := by
                                        intro tX kX
                                        refine pre86 _ ?_
                                        show own_s p e below s₁ m 155 #[iv p0] [(.int (-3 : Int32)), (.int p0)] _
                                        refine XS.icmpYes X0.here hx rfl (pc0 := 155) (pc' := 171) rfl (hb hby d2_155) rfl (teq hc87).1 (by decide) (by decide) ?_
                                        exact kX
                                      obtain ⟨T89, X89, e89, st89⟩ := getS2 X0 hx hZ hown (host := "") (Or.inl (hw _ (List.mem_of_getElem? (i := 35) rfl))) Via.refl e0 S_13 (g := (mkF m 171 #[iv p0] [])) rfl (hb hby d2_171)
                                      have pre90 : ∀ t, own_s p e below T89 m 174 #[iv p0] [(.ref (K 13))] t → Steps p.tables e below S0 t := fun tX kX => pre88 _ (st89 _ kX)
                                      subst hS0
                                      obtain ⟨fs, hr, hrun, hended, hW, hsame⟩ := X89.leave (v := (some (.ref (K 13)))) (fun h => by rw [Bd.returns] at h; cases h)
                                      refine ⟨_, _, pre90 _ (retOut X89 hx Bd.returns (own_narR rfl) (Or.inr (Or.inr (Or.inr (Or.inr ⟨rfl, rfl, rfl⟩)))) (hb hby d2_174) hr), hrun, hended, _, _, rfl, ?_, ⟨_, rfl⟩, hW, hsame.mono (by decide) (by decide)⟩
                                      show Q2 Z p0 K h0 n0 (some (.ref (K 13))) T89.heap _
                                      exact ⟨congrArg (fun z => some (Value.ref (K z))) (show 13 = own_ix p0.toInt from Eq.symm (by rw [ihc87]; rfl)), N0, e89⟩
                                    · skip
                                      have ihc87 : ¬ ((p0).toInt = (-3 : Int)) := fun q => hc87 (Int32.toInt_inj.mp q)
                                      have pre91 : ∀ t, own_s p e below s₁ m 161 #[iv p0] [(.int (-4 : Int32)), (.int p0)] t → Steps p.tables e below S0 t := by
                                        intro tX kX
                                        refine pre86 _ ?_
                                        show own_s p e below s₁ m 155 #[iv p0] [(.int (-3 : Int32)), (.int p0)] _
                                        refine XS.icmpNo X0.here hx rfl (hb hby d2_155) rfl (feq hc87).1 ?_
                                        show own_s p e below s₁ m 158 #[iv p0] [] _
                                        refine XS.iloadN X0.here hx rfl (hb hby d2_158) rfl ?_
                                        show own_s p e below s₁ m 159 #[iv p0] [(.int p0)] _
                                        refine XS.bipush X0.here hx rfl (hb hby d2_159) ?_
                                        exact kX
                                      by_cases hc92 : p0 = (-4 : Int32)
                                      · skip
                                        have ihc92 : (p0).toInt = (-4 : Int) := congrArg Int32.toInt hc92
                                        have pre93 : ∀ t, own_s p e below s₁ m 171 #[iv p0] [] t → Steps p.tables e below S0 t := by
                                          intro tX kX
                                          refine pre91 _ ?_
                                          show own_s p e below s₁ m 161 #[iv p0] [(.int (-4 : Int32)), (.int p0)] _
                                          refine XS.icmpYes X0.here hx rfl (pc0 := 161) (pc' := 171) rfl (hb hby d2_161) rfl (teq hc92).1 (by decide) (by decide) ?_
                                          exact kX
                                        obtain ⟨T94, X94, e94, st94⟩ := getS2 X0 hx hZ hown (host := "") (Or.inl (hw _ (List.mem_of_getElem? (i := 35) rfl))) Via.refl e0 S_13 (g := (mkF m 171 #[iv p0] [])) rfl (hb hby d2_171)
                                        have pre95 : ∀ t, own_s p e below T94 m 174 #[iv p0] [(.ref (K 13))] t → Steps p.tables e below S0 t := fun tX kX => pre93 _ (st94 _ kX)
                                        subst hS0
                                        obtain ⟨fs, hr, hrun, hended, hW, hsame⟩ := X94.leave (v := (some (.ref (K 13)))) (fun h => by rw [Bd.returns] at h; cases h)
                                        refine ⟨_, _, pre95 _ (retOut X94 hx Bd.returns (own_narR rfl) (Or.inr (Or.inr (Or.inr (Or.inr ⟨rfl, rfl, rfl⟩)))) (hb hby d2_174) hr), hrun, hended, _, _, rfl, ?_, ⟨_, rfl⟩, hW, hsame.mono (by decide) (by decide)⟩
                                        show Q2 Z p0 K h0 n0 (some (.ref (K 13))) T94.heap _
                                        exact ⟨congrArg (fun z => some (Value.ref (K z))) (show 13 = own_ix p0.toInt from Eq.symm (by rw [ihc92]; rfl)), N0, e94⟩
                                      · skip
                                        have ihc92 : ¬ ((p0).toInt = (-4 : Int)) := fun q => hc92 (Int32.toInt_inj.mp q)
                                        have pre96 : ∀ t, own_s p e below s₁ m 168 #[iv p0] [(.int (2004 : Int32)), (.int p0)] t → Steps p.tables e below S0 t := by
                                          intro tX kX
                                          refine pre91 _ ?_
                                          show own_s p e below s₁ m 161 #[iv p0] [(.int (-4 : Int32)), (.int p0)] _
                                          refine XS.icmpNo X0.here hx rfl (hb hby d2_161) rfl (feq hc92).1 ?_
                                          show own_s p e below s₁ m 164 #[iv p0] [] _
                                          refine XS.iloadN X0.here hx rfl (hb hby d2_164) rfl ?_
                                          show own_s p e below s₁ m 165 #[iv p0] [(.int p0)] _
                                          refine XS.sipush X0.here hx rfl (hb hby d2_165) ?_
                                          exact kX
                                        by_cases hc97 : p0 = (2004 : Int32)
                                        · skip
                                          have ihc97 : (p0).toInt = (2004 : Int) := congrArg Int32.toInt hc97
                                          have pre98 : ∀ t, own_s p e below s₁ m 171 #[iv p0] [] t → Steps p.tables e below S0 t := by
                                            intro tX kX
                                            refine pre96 _ ?_
                                            show own_s p e below s₁ m 168 #[iv p0] [(.int (2004 : Int32)), (.int p0)] _
                                            refine XS.icmpNo X0.here hx rfl (hb hby d2_168) rfl (teq hc97).2 ?_
                                            exact kX
                                          obtain ⟨T99, X99, e99, st99⟩ := getS2 X0 hx hZ hown (host := "") (Or.inl (hw _ (List.mem_of_getElem? (i := 35) rfl))) Via.refl e0 S_13 (g := (mkF m 171 #[iv p0] [])) rfl (hb hby d2_171)
                                          have pre100 : ∀ t, own_s p e below T99 m 174 #[iv p0] [(.ref (K 13))] t → Steps p.tables e below S0 t := fun tX kX => pre98 _ (st99 _ kX)
                                          subst hS0
                                          obtain ⟨fs, hr, hrun, hended, hW, hsame⟩ := X99.leave (v := (some (.ref (K 13)))) (fun h => by rw [Bd.returns] at h; cases h)
                                          refine ⟨_, _, pre100 _ (retOut X99 hx Bd.returns (own_narR rfl) (Or.inr (Or.inr (Or.inr (Or.inr ⟨rfl, rfl, rfl⟩)))) (hb hby d2_174) hr), hrun, hended, _, _, rfl, ?_, ⟨_, rfl⟩, hW, hsame.mono (by decide) (by decide)⟩
                                          show Q2 Z p0 K h0 n0 (some (.ref (K 13))) T99.heap _
                                          exact ⟨congrArg (fun z => some (Value.ref (K z))) (show 13 = own_ix p0.toInt from Eq.symm (by rw [ihc97]; rfl)), N0, e99⟩
                                        · skip
                                          have ihc97 : ¬ ((p0).toInt = (2004 : Int)) := fun q => hc97 (Int32.toInt_inj.mp q)
                                          have pre101 : ∀ t, own_s p e below s₁ m 179 #[iv p0] [(.int (2003 : Int32)), (.int p0)] t → Steps p.tables e below S0 t := by
                                            intro tX kX
                                            refine pre96 _ ?_
                                            show own_s p e below s₁ m 168 #[iv p0] [(.int (2004 : Int32)), (.int p0)] _
                                            refine XS.icmpYes X0.here hx rfl (pc0 := 168) (pc' := 175) rfl (hb hby d2_168) rfl (feq hc97).2 (by decide) (by decide) ?_
                                            show own_s p e below s₁ m 175 #[iv p0] [] _
                                            refine XS.iloadN X0.here hx rfl (hb hby d2_175) rfl ?_
                                            show own_s p e below s₁ m 176 #[iv p0] [(.int p0)] _
                                            refine XS.sipush X0.here hx rfl (hb hby d2_176) ?_
                                            exact kX
                                          by_cases hc102 : p0 = (2003 : Int32)
                                          · skip
                                            have ihc102 : (p0).toInt = (2003 : Int) := congrArg Int32.toInt hc102
                                            have pre103 : ∀ t, own_s p e below s₁ m 182 #[iv p0] [] t → Steps p.tables e below S0 t := by
                                              intro tX kX
                                              refine pre101 _ ?_
                                              show own_s p e below s₁ m 179 #[iv p0] [(.int (2003 : Int32)), (.int p0)] _
                                              refine XS.icmpNo X0.here hx rfl (hb hby d2_179) rfl (teq hc102).2 ?_
                                              exact kX
                                            obtain ⟨T104, X104, e104, st104⟩ := getS2 X0 hx hZ hown (host := "") (Or.inl (hw _ (List.mem_of_getElem? (i := 41) rfl))) Via.refl e0 S_14 (g := (mkF m 182 #[iv p0] [])) rfl (hb hby d2_182)
                                            have pre105 : ∀ t, own_s p e below T104 m 185 #[iv p0] [(.ref (K 14))] t → Steps p.tables e below S0 t := fun tX kX => pre103 _ (st104 _ kX)
                                            subst hS0
                                            obtain ⟨fs, hr, hrun, hended, hW, hsame⟩ := X104.leave (v := (some (.ref (K 14)))) (fun h => by rw [Bd.returns] at h; cases h)
                                            refine ⟨_, _, pre105 _ (retOut X104 hx Bd.returns (own_narR rfl) (Or.inr (Or.inr (Or.inr (Or.inr ⟨rfl, rfl, rfl⟩)))) (hb hby d2_185) hr), hrun, hended, _, _, rfl, ?_, ⟨_, rfl⟩, hW, hsame.mono (by decide) (by decide)⟩
                                            show Q2 Z p0 K h0 n0 (some (.ref (K 14))) T104.heap _
                                            exact ⟨congrArg (fun z => some (Value.ref (K z))) (show 14 = own_ix p0.toInt from Eq.symm (by rw [ihc102]; rfl)), N0, e104⟩
                                          · skip
                                            have ihc102 : ¬ ((p0).toInt = (2003 : Int)) := fun q => hc102 (Int32.toInt_inj.mp q)
                                            have pre106 : ∀ t, own_s p e below s₁ m 190 #[iv p0] [(.int (2009 : Int32)), (.int p0)] t → Steps p.tables e below S0 t := by
                                              intro tX kX
                                              refine pre101 _ ?_
                                              show own_s p e below s₁ m 179 #[iv p0] [(.int (2003 : Int32)), (.int p0)] _
                                              refine XS.icmpYes X0.here hx rfl (pc0 := 179) (pc' := 186) rfl (hb hby d2_179) rfl (feq hc102).2 (by decide) (by decide) ?_
                                              show own_s p e below s₁ m 186 #[iv p0] [] _
                                              refine XS.iloadN X0.here hx rfl (hb hby d2_186) rfl ?_
                                              show own_s p e below s₁ m 187 #[iv p0] [(.int p0)] _
                                              refine XS.sipush X0.here hx rfl (hb hby d2_187) ?_
                                              exact kX
                                            by_cases hc107 : p0 = (2009 : Int32)
                                            · skip
                                              have ihc107 : (p0).toInt = (2009 : Int) := congrArg Int32.toInt hc107
                                              have pre108 : ∀ t, own_s p e below s₁ m 193 #[iv p0] [] t → Steps p.tables e below S0 t := by
                                                intro tX kX
                                                refine pre106 _ ?_
                                                show own_s p e below s₁ m 190 #[iv p0] [(.int (2009 : Int32)), (.int p0)] _
                                                refine XS.icmpNo X0.here hx rfl (hb hby d2_190) rfl (teq hc107).2 ?_
                                                exact kX
                                              obtain ⟨T109, X109, e109, st109⟩ := getS2 X0 hx hZ hown (host := "") (Or.inl (hw _ (List.mem_of_getElem? (i := 59) rfl))) Via.refl e0 S_15 (g := (mkF m 193 #[iv p0] [])) rfl (hb hby d2_193)
                                              have pre110 : ∀ t, own_s p e below T109 m 196 #[iv p0] [(.ref (K 15))] t → Steps p.tables e below S0 t := fun tX kX => pre108 _ (st109 _ kX)
                                              subst hS0
                                              obtain ⟨fs, hr, hrun, hended, hW, hsame⟩ := X109.leave (v := (some (.ref (K 15)))) (fun h => by rw [Bd.returns] at h; cases h)
                                              refine ⟨_, _, pre110 _ (retOut X109 hx Bd.returns (own_narR rfl) (Or.inr (Or.inr (Or.inr (Or.inr ⟨rfl, rfl, rfl⟩)))) (hb hby d2_196) hr), hrun, hended, _, _, rfl, ?_, ⟨_, rfl⟩, hW, hsame.mono (by decide) (by decide)⟩
                                              show Q2 Z p0 K h0 n0 (some (.ref (K 15))) T109.heap _
                                              exact ⟨congrArg (fun z => some (Value.ref (K z))) (show 15 = own_ix p0.toInt from Eq.symm (by rw [ihc107]; rfl)), N0, e109⟩
                                            · skip
                                              have ihc107 : ¬ ((p0).toInt = (2009 : Int)) := fun q => hc107 (Int32.toInt_inj.mp q)
                                              have pre111 : ∀ t, own_s p e below s₁ m 199 #[iv p0] [(.int (1 : Int32)), (.int p0)] t → Steps p.tables e below S0 t := by
                                                intro tX kX
                                                refine pre106 _ ?_
                                                show own_s p e below s₁ m 190 #[iv p0] [(.int (2009 : Int32)), (.int p0)] _
                                                refine XS.icmpYes X0.here hx rfl (pc0 := 190) (pc' := 197) rfl (hb hby d2_190) rfl (feq hc107).2 (by decide) (by decide) ?_
                                                show own_s p e below s₁ m 197 #[iv p0] [] _
                                                refine XS.iloadN X0.here hx rfl (hb hby d2_197) rfl ?_
                                                show own_s p e below s₁ m 198 #[iv p0] [(.int p0)] _
                                                refine XS.iconst X0.here hx rfl (hb hby d2_198) ?_
                                                exact kX
                                              by_cases hc112 : p0 = (1 : Int32)
                                              · skip
                                                have ihc112 : (p0).toInt = (1 : Int) := congrArg Int32.toInt hc112
                                                have pre113 : ∀ t, own_s p e below s₁ m 245 #[iv p0] [] t → Steps p.tables e below S0 t := by
                                                  intro tX kX
                                                  refine pre111 _ ?_
                                                  show own_s p e below s₁ m 199 #[iv p0] [(.int (1 : Int32)), (.int p0)] _
                                                  refine XS.icmpYes X0.here hx rfl (pc0 := 199) (pc' := 245) rfl (hb hby d2_199) rfl (teq hc112).1 (by decide) (by decide) ?_
                                                  exact kX
                                                obtain ⟨T114, X114, e114, st114⟩ := getS2 X0 hx hZ hown (host := "") (Or.inl (hw _ (List.mem_of_getElem? (i := 29) rfl))) Via.refl e0 S_16 (g := (mkF m 245 #[iv p0] [])) rfl (hb hby d2_245)
                                                have pre115 : ∀ t, own_s p e below T114 m 248 #[iv p0] [(.ref (K 16))] t → Steps p.tables e below S0 t := fun tX kX => pre113 _ (st114 _ kX)
                                                subst hS0
                                                obtain ⟨fs, hr, hrun, hended, hW, hsame⟩ := X114.leave (v := (some (.ref (K 16)))) (fun h => by rw [Bd.returns] at h; cases h)
                                                refine ⟨_, _, pre115 _ (retOut X114 hx Bd.returns (own_narR rfl) (Or.inr (Or.inr (Or.inr (Or.inr ⟨rfl, rfl, rfl⟩)))) (hb hby d2_248) hr), hrun, hended, _, _, rfl, ?_, ⟨_, rfl⟩, hW, hsame.mono (by decide) (by decide)⟩
                                                show Q2 Z p0 K h0 n0 (some (.ref (K 16))) T114.heap _
                                                exact ⟨congrArg (fun z => some (Value.ref (K z))) (show 16 = own_ix p0.toInt from Eq.symm (by rw [ihc112]; rfl)), N0, e114⟩
                                              · skip
                                                have ihc112 : ¬ ((p0).toInt = (1 : Int)) := fun q => hc112 (Int32.toInt_inj.mp q)
                                                have pre116 : ∀ t, own_s p e below s₁ m 205 #[iv p0] [(.int (12 : Int32)), (.int p0)] t → Steps p.tables e below S0 t := by
                                                  intro tX kX
                                                  refine pre111 _ ?_
                                                  show own_s p e below s₁ m 199 #[iv p0] [(.int (1 : Int32)), (.int p0)] _
                                                  refine XS.icmpNo X0.here hx rfl (hb hby d2_199) rfl (feq hc112).1 ?_
                                                  show own_s p e below s₁ m 202 #[iv p0] [] _
                                                  refine XS.iloadN X0.here hx rfl (hb hby d2_202) rfl ?_
                                                  show own_s p e below s₁ m 203 #[iv p0] [(.int p0)] _
                                                  refine XS.bipush X0.here hx rfl (hb hby d2_203) ?_
                                                  exact kX
                                                by_cases hc117 : p0 = (12 : Int32)
                                                · skip
                                                  have ihc117 : (p0).toInt = (12 : Int) := congrArg Int32.toInt hc117
                                                  have pre118 : ∀ t, own_s p e below s₁ m 245 #[iv p0] [] t → Steps p.tables e below S0 t := by
                                                    intro tX kX
                                                    refine pre116 _ ?_
                                                    show own_s p e below s₁ m 205 #[iv p0] [(.int (12 : Int32)), (.int p0)] _
                                                    refine XS.icmpYes X0.here hx rfl (pc0 := 205) (pc' := 245) rfl (hb hby d2_205) rfl (teq hc117).1 (by decide) (by decide) ?_
                                                    exact kX
                                                  obtain ⟨T119, X119, e119, st119⟩ := getS2 X0 hx hZ hown (host := "") (Or.inl (hw _ (List.mem_of_getElem? (i := 29) rfl))) Via.refl e0 S_16 (g := (mkF m 245 #[iv p0] [])) rfl (hb hby d2_245)
                                                  have pre120 : ∀ t, own_s p e below T119 m 248 #[iv p0] [(.ref (K 16))] t → Steps p.tables e below S0 t := fun tX kX => pre118 _ (st119 _ kX)
                                                  subst hS0
                                                  obtain ⟨fs, hr, hrun, hended, hW, hsame⟩ := X119.leave (v := (some (.ref (K 16)))) (fun h => by rw [Bd.returns] at h; cases h)
                                                  refine ⟨_, _, pre120 _ (retOut X119 hx Bd.returns (own_narR rfl) (Or.inr (Or.inr (Or.inr (Or.inr ⟨rfl, rfl, rfl⟩)))) (hb hby d2_248) hr), hrun, hended, _, _, rfl, ?_, ⟨_, rfl⟩, hW, hsame.mono (by decide) (by decide)⟩
                                                  show Q2 Z p0 K h0 n0 (some (.ref (K 16))) T119.heap _
                                                  exact ⟨congrArg (fun z => some (Value.ref (K z))) (show 16 = own_ix p0.toInt from Eq.symm (by rw [ihc117]; rfl)), N0, e119⟩
                                                · skip
                                                  have ihc117 : ¬ ((p0).toInt = (12 : Int)) := fun q => hc117 (Int32.toInt_inj.mp q)
                                                  have pre121 : ∀ t, own_s p e below s₁ m 210 #[iv p0] [(.int (-1 : Int32)), (.int p0)] t → Steps p.tables e below S0 t := by
                                                    intro tX kX
                                                    refine pre116 _ ?_
                                                    show own_s p e below s₁ m 205 #[iv p0] [(.int (12 : Int32)), (.int p0)] _
                                                    refine XS.icmpNo X0.here hx rfl (hb hby d2_205) rfl (feq hc117).1 ?_
                                                    show own_s p e below s₁ m 208 #[iv p0] [] _
                                                    refine XS.iloadN X0.here hx rfl (hb hby d2_208) rfl ?_
                                                    show own_s p e below s₁ m 209 #[iv p0] [(.int p0)] _
                                                    refine XS.iconst X0.here hx rfl (hb hby d2_209) ?_
                                                    exact kX
                                                  by_cases hc122 : p0 = (-1 : Int32)
                                                  · skip
                                                    have ihc122 : (p0).toInt = (-1 : Int) := congrArg Int32.toInt hc122
                                                    have pre123 : ∀ t, own_s p e below s₁ m 245 #[iv p0] [] t → Steps p.tables e below S0 t := by
                                                      intro tX kX
                                                      refine pre121 _ ?_
                                                      show own_s p e below s₁ m 210 #[iv p0] [(.int (-1 : Int32)), (.int p0)] _
                                                      refine XS.icmpYes X0.here hx rfl (pc0 := 210) (pc' := 245) rfl (hb hby d2_210) rfl (teq hc122).1 (by decide) (by decide) ?_
                                                      exact kX
                                                    obtain ⟨T124, X124, e124, st124⟩ := getS2 X0 hx hZ hown (host := "") (Or.inl (hw _ (List.mem_of_getElem? (i := 29) rfl))) Via.refl e0 S_16 (g := (mkF m 245 #[iv p0] [])) rfl (hb hby d2_245)
                                                    have pre125 : ∀ t, own_s p e below T124 m 248 #[iv p0] [(.ref (K 16))] t → Steps p.tables e below S0 t := fun tX kX => pre123 _ (st124 _ kX)
                                                    subst hS0
                                                    obtain ⟨fs, hr, hrun, hended, hW, hsame⟩ := X124.leave (v := (some (.ref (K 16)))) (fun h => by rw [Bd.returns] at h; cases h)
                                                    refine ⟨_, _, pre125 _ (retOut X124 hx Bd.returns (own_narR rfl) (Or.inr (Or.inr (Or.inr (Or.inr ⟨rfl, rfl, rfl⟩)))) (hb hby d2_248) hr), hrun, hended, _, _, rfl, ?_, ⟨_, rfl⟩, hW, hsame.mono (by decide) (by decide)⟩
                                                    show Q2 Z p0 K h0 n0 (some (.ref (K 16))) T124.heap _
                                                    exact ⟨congrArg (fun z => some (Value.ref (K z))) (show 16 = own_ix p0.toInt from Eq.symm (by rw [ihc122]; rfl)), N0, e124⟩
                                                  · skip
                                                    have ihc122 : ¬ ((p0).toInt = (-1 : Int)) := fun q => hc122 (Int32.toInt_inj.mp q)
                                                    have pre126 : ∀ t, own_s p e below s₁ m 216 #[iv p0] [(.int (-15 : Int32)), (.int p0)] t → Steps p.tables e below S0 t := by
                                                      intro tX kX
                                                      refine pre121 _ ?_
                                                      show own_s p e below s₁ m 210 #[iv p0] [(.int (-1 : Int32)), (.int p0)] _
                                                      refine XS.icmpNo X0.here hx rfl (hb hby d2_210) rfl (feq hc122).1 ?_
                                                      show own_s p e below s₁ m 213 #[iv p0] [] _
                                                      refine XS.iloadN X0.here hx rfl (hb hby d2_213) rfl ?_
                                                      show own_s p e below s₁ m 214 #[iv p0] [(.int p0)] _
                                                      refine XS.bipush X0.here hx rfl (hb hby d2_214) ?_
                                                      exact kX
                                                    by_cases hc127 : p0 = (-15 : Int32)
                                                    · skip
                                                      have ihc127 : (p0).toInt = (-15 : Int) := congrArg Int32.toInt hc127
                                                      have pre128 : ∀ t, own_s p e below s₁ m 245 #[iv p0] [] t → Steps p.tables e below S0 t := by
                                                        intro tX kX
                                                        refine pre126 _ ?_
                                                        show own_s p e below s₁ m 216 #[iv p0] [(.int (-15 : Int32)), (.int p0)] _
                                                        refine XS.icmpYes X0.here hx rfl (pc0 := 216) (pc' := 245) rfl (hb hby d2_216) rfl (teq hc127).1 (by decide) (by decide) ?_
                                                        exact kX
                                                      obtain ⟨T129, X129, e129, st129⟩ := getS2 X0 hx hZ hown (host := "") (Or.inl (hw _ (List.mem_of_getElem? (i := 29) rfl))) Via.refl e0 S_16 (g := (mkF m 245 #[iv p0] [])) rfl (hb hby d2_245)
                                                      have pre130 : ∀ t, own_s p e below T129 m 248 #[iv p0] [(.ref (K 16))] t → Steps p.tables e below S0 t := fun tX kX => pre128 _ (st129 _ kX)
                                                      subst hS0
                                                      obtain ⟨fs, hr, hrun, hended, hW, hsame⟩ := X129.leave (v := (some (.ref (K 16)))) (fun h => by rw [Bd.returns] at h; cases h)
                                                      refine ⟨_, _, pre130 _ (retOut X129 hx Bd.returns (own_narR rfl) (Or.inr (Or.inr (Or.inr (Or.inr ⟨rfl, rfl, rfl⟩)))) (hb hby d2_248) hr), hrun, hended, _, _, rfl, ?_, ⟨_, rfl⟩, hW, hsame.mono (by decide) (by decide)⟩
                                                      show Q2 Z p0 K h0 n0 (some (.ref (K 16))) T129.heap _
                                                      exact ⟨congrArg (fun z => some (Value.ref (K z))) (show 16 = own_ix p0.toInt from Eq.symm (by rw [ihc127]; rfl)), N0, e129⟩
                                                    · skip
                                                      have ihc127 : ¬ ((p0).toInt = (-15 : Int)) := fun q => hc127 (Int32.toInt_inj.mp q)
                                                      have pre131 : ∀ t, own_s p e below s₁ m 222 #[iv p0] [(.int (-9 : Int32)), (.int p0)] t → Steps p.tables e below S0 t := by
                                                        intro tX kX
                                                        refine pre126 _ ?_
                                                        show own_s p e below s₁ m 216 #[iv p0] [(.int (-15 : Int32)), (.int p0)] _
                                                        refine XS.icmpNo X0.here hx rfl (hb hby d2_216) rfl (feq hc127).1 ?_
                                                        show own_s p e below s₁ m 219 #[iv p0] [] _
                                                        refine XS.iloadN X0.here hx rfl (hb hby d2_219) rfl ?_
                                                        show own_s p e below s₁ m 220 #[iv p0] [(.int p0)] _
                                                        refine XS.bipush X0.here hx rfl (hb hby d2_220) ?_
                                                        exact kX
                                                      by_cases hc132 : p0 = (-9 : Int32)
                                                      · skip
                                                        have ihc132 : (p0).toInt = (-9 : Int) := congrArg Int32.toInt hc132
                                                        have pre133 : ∀ t, own_s p e below s₁ m 245 #[iv p0] [] t → Steps p.tables e below S0 t := by
                                                          intro tX kX
                                                          refine pre131 _ ?_
                                                          show own_s p e below s₁ m 222 #[iv p0] [(.int (-9 : Int32)), (.int p0)] _
                                                          refine XS.icmpYes X0.here hx rfl (pc0 := 222) (pc' := 245) rfl (hb hby d2_222) rfl (teq hc132).1 (by decide) (by decide) ?_
                                                          exact kX
                                                        obtain ⟨T134, X134, e134, st134⟩ := getS2 X0 hx hZ hown (host := "") (Or.inl (hw _ (List.mem_of_getElem? (i := 29) rfl))) Via.refl e0 S_16 (g := (mkF m 245 #[iv p0] [])) rfl (hb hby d2_245)
                                                        have pre135 : ∀ t, own_s p e below T134 m 248 #[iv p0] [(.ref (K 16))] t → Steps p.tables e below S0 t := fun tX kX => pre133 _ (st134 _ kX)
                                                        subst hS0
                                                        obtain ⟨fs, hr, hrun, hended, hW, hsame⟩ := X134.leave (v := (some (.ref (K 16)))) (fun h => by rw [Bd.returns] at h; cases h)
                                                        refine ⟨_, _, pre135 _ (retOut X134 hx Bd.returns (own_narR rfl) (Or.inr (Or.inr (Or.inr (Or.inr ⟨rfl, rfl, rfl⟩)))) (hb hby d2_248) hr), hrun, hended, _, _, rfl, ?_, ⟨_, rfl⟩, hW, hsame.mono (by decide) (by decide)⟩
                                                        show Q2 Z p0 K h0 n0 (some (.ref (K 16))) T134.heap _
                                                        exact ⟨congrArg (fun z => some (Value.ref (K z))) (show 16 = own_ix p0.toInt from Eq.symm (by rw [ihc132]; rfl)), N0, e134⟩
                                                      · skip
                                                        have ihc132 : ¬ ((p0).toInt = (-9 : Int)) := fun q => hc132 (Int32.toInt_inj.mp q)
                                                        have pre136 : ∀ t, own_s p e below s₁ m 228 #[iv p0] [(.int (-16 : Int32)), (.int p0)] t → Steps p.tables e below S0 t := by
                                                          intro tX kX
                                                          refine pre131 _ ?_
                                                          show own_s p e below s₁ m 222 #[iv p0] [(.int (-9 : Int32)), (.int p0)] _
                                                          refine XS.icmpNo X0.here hx rfl (hb hby d2_222) rfl (feq hc132).1 ?_
                                                          show own_s p e below s₁ m 225 #[iv p0] [] _
                                                          refine XS.iloadN X0.here hx rfl (hb hby d2_225) rfl ?_
                                                          show own_s p e below s₁ m 226 #[iv p0] [(.int p0)] _
                                                          refine XS.bipush X0.here hx rfl (hb hby d2_226) ?_
                                                          exact kX
                                                        by_cases hc137 : p0 = (-16 : Int32)
                                                        · skip
                                                          have ihc137 : (p0).toInt = (-16 : Int) := congrArg Int32.toInt hc137
                                                          have pre138 : ∀ t, own_s p e below s₁ m 245 #[iv p0] [] t → Steps p.tables e below S0 t := by
                                                            intro tX kX
                                                            refine pre136 _ ?_
                                                            show own_s p e below s₁ m 228 #[iv p0] [(.int (-16 : Int32)), (.int p0)] _
                                                            refine XS.icmpYes X0.here hx rfl (pc0 := 228) (pc' := 245) rfl (hb hby d2_228) rfl (teq hc137).1 (by decide) (by decide) ?_
                                                            exact kX
                                                          obtain ⟨T139, X139, e139, st139⟩ := getS2 X0 hx hZ hown (host := "") (Or.inl (hw _ (List.mem_of_getElem? (i := 29) rfl))) Via.refl e0 S_16 (g := (mkF m 245 #[iv p0] [])) rfl (hb hby d2_245)
                                                          have pre140 : ∀ t, own_s p e below T139 m 248 #[iv p0] [(.ref (K 16))] t → Steps p.tables e below S0 t := fun tX kX => pre138 _ (st139 _ kX)
                                                          subst hS0
                                                          obtain ⟨fs, hr, hrun, hended, hW, hsame⟩ := X139.leave (v := (some (.ref (K 16)))) (fun h => by rw [Bd.returns] at h; cases h)
                                                          refine ⟨_, _, pre140 _ (retOut X139 hx Bd.returns (own_narR rfl) (Or.inr (Or.inr (Or.inr (Or.inr ⟨rfl, rfl, rfl⟩)))) (hb hby d2_248) hr), hrun, hended, _, _, rfl, ?_, ⟨_, rfl⟩, hW, hsame.mono (by decide) (by decide)⟩
                                                          show Q2 Z p0 K h0 n0 (some (.ref (K 16))) T139.heap _
                                                          exact ⟨congrArg (fun z => some (Value.ref (K z))) (show 16 = own_ix p0.toInt from Eq.symm (by rw [ihc137]; rfl)), N0, e139⟩
                                                        · skip
                                                          have ihc137 : ¬ ((p0).toInt = (-16 : Int)) := fun q => hc137 (Int32.toInt_inj.mp q)
                                                          have pre141 : ∀ t, own_s p e below s₁ m 235 #[iv p0] [(.int (2005 : Int32)), (.int p0)] t → Steps p.tables e below S0 t := by
                                                            intro tX kX
                                                            refine pre136 _ ?_
                                                            show own_s p e below s₁ m 228 #[iv p0] [(.int (-16 : Int32)), (.int p0)] _
                                                            refine XS.icmpNo X0.here hx rfl (hb hby d2_228) rfl (feq hc137).1 ?_
                                                            show own_s p e below s₁ m 231 #[iv p0] [] _
                                                            refine XS.iloadN X0.here hx rfl (hb hby d2_231) rfl ?_
                                                            show own_s p e below s₁ m 232 #[iv p0] [(.int p0)] _
                                                            refine XS.sipush X0.here hx rfl (hb hby d2_232) ?_
                                                            exact kX
                                                          by_cases hc142 : p0 = (2005 : Int32)
                                                          · skip
                                                            have ihc142 : (p0).toInt = (2005 : Int) := congrArg Int32.toInt hc142
                                                            have pre143 : ∀ t, own_s p e below s₁ m 245 #[iv p0] [] t → Steps p.tables e below S0 t := by
                                                              intro tX kX
                                                              refine pre141 _ ?_
                                                              show own_s p e below s₁ m 235 #[iv p0] [(.int (2005 : Int32)), (.int p0)] _
                                                              refine XS.icmpYes X0.here hx rfl (pc0 := 235) (pc' := 245) rfl (hb hby d2_235) rfl (teq hc142).1 (by decide) (by decide) ?_
                                                              exact kX
                                                            obtain ⟨T144, X144, e144, st144⟩ := getS2 X0 hx hZ hown (host := "") (Or.inl (hw _ (List.mem_of_getElem? (i := 29) rfl))) Via.refl e0 S_16 (g := (mkF m 245 #[iv p0] [])) rfl (hb hby d2_245)
                                                            have pre145 : ∀ t, own_s p e below T144 m 248 #[iv p0] [(.ref (K 16))] t → Steps p.tables e below S0 t := fun tX kX => pre143 _ (st144 _ kX)
                                                            subst hS0
                                                            obtain ⟨fs, hr, hrun, hended, hW, hsame⟩ := X144.leave (v := (some (.ref (K 16)))) (fun h => by rw [Bd.returns] at h; cases h)
                                                            refine ⟨_, _, pre145 _ (retOut X144 hx Bd.returns (own_narR rfl) (Or.inr (Or.inr (Or.inr (Or.inr ⟨rfl, rfl, rfl⟩)))) (hb hby d2_248) hr), hrun, hended, _, _, rfl, ?_, ⟨_, rfl⟩, hW, hsame.mono (by decide) (by decide)⟩
                                                            show Q2 Z p0 K h0 n0 (some (.ref (K 16))) T144.heap _
                                                            exact ⟨congrArg (fun z => some (Value.ref (K z))) (show 16 = own_ix p0.toInt from Eq.symm (by rw [ihc142]; rfl)), N0, e144⟩
                                                          · skip
                                                            have ihc142 : ¬ ((p0).toInt = (2005 : Int)) := fun q => hc142 (Int32.toInt_inj.mp q)
                                                            have pre146 : ∀ t, own_s p e below s₁ m 242 #[iv p0] [(.int (2011 : Int32)), (.int p0)] t → Steps p.tables e below S0 t := by
                                                              intro tX kX
                                                              refine pre141 _ ?_
                                                              show own_s p e below s₁ m 235 #[iv p0] [(.int (2005 : Int32)), (.int p0)] _
                                                              refine XS.icmpNo X0.here hx rfl (hb hby d2_235) rfl (feq hc142).1 ?_
                                                              show own_s p e below s₁ m 238 #[iv p0] [] _
                                                              refine XS.iloadN X0.here hx rfl (hb hby d2_238) rfl ?_
                                                              show own_s p e below s₁ m 239 #[iv p0] [(.int p0)] _
                                                              refine XS.sipush X0.here hx rfl (hb hby d2_239) ?_
                                                              exact kX
                                                            by_cases hc147 : p0 = (2011 : Int32)
                                                            · skip
                                                              have ihc147 : (p0).toInt = (2011 : Int) := congrArg Int32.toInt hc147
                                                              have pre148 : ∀ t, own_s p e below s₁ m 245 #[iv p0] [] t → Steps p.tables e below S0 t := by
                                                                intro tX kX
                                                                refine pre146 _ ?_
                                                                show own_s p e below s₁ m 242 #[iv p0] [(.int (2011 : Int32)), (.int p0)] _
                                                                refine XS.icmpNo X0.here hx rfl (hb hby d2_242) rfl (teq hc147).2 ?_
                                                                exact kX
                                                              obtain ⟨T149, X149, e149, st149⟩ := getS2 X0 hx hZ hown (host := "") (Or.inl (hw _ (List.mem_of_getElem? (i := 29) rfl))) Via.refl e0 S_16 (g := (mkF m 245 #[iv p0] [])) rfl (hb hby d2_245)
                                                              have pre150 : ∀ t, own_s p e below T149 m 248 #[iv p0] [(.ref (K 16))] t → Steps p.tables e below S0 t := fun tX kX => pre148 _ (st149 _ kX)
                                                              subst hS0
                                                              obtain ⟨fs, hr, hrun, hended, hW, hsame⟩ := X149.leave (v := (some (.ref (K 16)))) (fun h => by rw [Bd.returns] at h; cases h)
                                                              refine ⟨_, _, pre150 _ (retOut X149 hx Bd.returns (own_narR rfl) (Or.inr (Or.inr (Or.inr (Or.inr ⟨rfl, rfl, rfl⟩)))) (hb hby d2_248) hr), hrun, hended, _, _, rfl, ?_, ⟨_, rfl⟩, hW, hsame.mono (by decide) (by decide)⟩
                                                              show Q2 Z p0 K h0 n0 (some (.ref (K 16))) T149.heap _
                                                              exact ⟨congrArg (fun z => some (Value.ref (K z))) (show 16 = own_ix p0.toInt from Eq.symm (by rw [ihc147]; rfl)), N0, e149⟩
                                                            · skip
                                                              have ihc147 : ¬ ((p0).toInt = (2011 : Int)) := fun q => hc147 (Int32.toInt_inj.mp q)
                                                              have pre151 : ∀ t, own_s p e below s₁ m 249 #[iv p0] [] t → Steps p.tables e below S0 t := by
                                                                intro tX kX
                                                                refine pre146 _ ?_
                                                                show own_s p e below s₁ m 242 #[iv p0] [(.int (2011 : Int32)), (.int p0)] _
                                                                refine XS.icmpYes X0.here hx rfl (pc0 := 242) (pc' := 249) rfl (hb hby d2_242) rfl (feq hc147).2 (by decide) (by decide) ?_
                                                                exact kX
                                                              obtain ⟨T152, X152, e152, st152⟩ := getS2 X0 hx hZ hown (host := "") (Or.inl (hw _ (List.mem_of_getElem? (i := 20) rfl))) Via.refl e0 S_17 (g := (mkF m 249 #[iv p0] [])) rfl (hb hby d2_249)
                                                              have pre153 : ∀ t, own_s p e below T152 m 252 #[iv p0] [(.ref (K 17))] t → Steps p.tables e below S0 t := fun tX kX => pre151 _ (st152 _ kX)
                                                              subst hS0
                                                              obtain ⟨fs, hr, hrun, hended, hW, hsame⟩ := X152.leave (v := (some (.ref (K 17)))) (fun h => by rw [Bd.returns] at h; cases h)
                                                              refine ⟨_, _, pre153 _ (retOut X152 hx Bd.returns (own_narR rfl) (Or.inr (Or.inr (Or.inr (Or.inr ⟨rfl, rfl, rfl⟩)))) (hb hby d2_252) hr), hrun, hended, _, _, rfl, ?_, ⟨_, rfl⟩, hW, hsame.mono (by decide) (by decide)⟩
                                                              show Q2 Z p0 K h0 n0 (some (.ref (K 17))) T152.heap _
                                                              exact ⟨congrArg (fun z => some (Value.ref (K z))) (show 17 = own_ix p0.toInt from Eq.symm (by unfold own_ix; rw [if_neg (by omega)]; rw [if_neg (by omega)]; rw [if_neg (by omega)]; rw [if_neg (by omega)]; rw [if_neg (by omega)]; rw [if_neg (by omega)]; rw [if_neg (by omega)]; rw [if_neg (by omega)]; rw [if_neg (by omega)]; rw [if_neg (by omega)]; rw [if_neg (by omega)]; rw [if_neg (by omega)]; rw [if_neg (by omega)]; rw [if_neg (by omega)]; rw [if_neg (by omega)]; rw [if_neg (by omega)]; rw [if_neg (by omega)])), N0, e152⟩
theorem pn_0 : plainName "com/example/osier/osier/jdbc/ColumnKindOfPinLaw" = true := by first | (simp [plainName, overriddenIn]; done) | decide +kernel
theorem pd0_0 : parseMethodDescriptor "(I)Lcom/example/osier/osier/jdbc/ColumnKind;" = some ⟨[.int], some (.object "com/example/osier/osier/jdbc/ColumnKind")⟩ := by decide +kernel
theorem ef_0 (m : MethodId) (i0 : Int32) (i1 : Int32) : entryFrame m #[(.int i0), (.int i1)] maxLocals = mkF m 0 #[iv i0, iv i1, .unset, .unset] [] := by first | (simp [entryFrame, mkF, argsToLocals, Value.category, maxLocals]; done) | rfl
def Q0 (Z : State) (i0 : Int32) (i1 : Int32) (K : Nat → Addr) (h0 : Heap) (n0 : Nat) (v : Option Value) (h : Heap) (L : List Loc) : Prop := v = some (.int 1) ∧ Fr n0 L
set_option maxRecDepth 65536 in
set_option maxHeartbeats 40000000 in
theorem rm0 (l : Launch) (Z : State) (a0 : Array Value) (hw : ∀ d ∈ tables_1, d.before a0 Z = true) (ws : List Jvm.Cond) (i0 : Int32) (i1 : Int32) (K : Nat → Addr) (h0 : Heap) (n0 : Nat) (Z0 : n0 ≤ h0.size) (B0 : own_St Z h0 K) :
    MetFree l x (head1 (Jvm.Cond.code x code maxLocals ret :: ws) room_1) (fun aX UX => aX = #[(.int i0), (.int i1)] ∧ Z.Warmed39 UX.vm ∧ UX.heap = h0) (fun _ _ _ _ _ => True) (fun _ UX oX UY => ∃ vX LX, oX = .returned vX ∧ Q0 Z i0 i1 K h0 n0 vX UY.heap LX ∧ FrameEnd UX oX UY LX 1 47) := by
  refine MetFree.of_bodySF (plainFor_of_name pn_0) hisR ?_
  intro p e s m args below meth c s₁ Bd hml0 hP hK
  obtain ⟨rfl, hZ, hh⟩ := hP
  have hx := Bd.exec
  have hby := Bd.bytes
  have hml : c.maxLocals = 4 := hml0
  have hown : s.vm.findClass "com/example/osier/osier/jdbc/ColumnKindOfPinLaw" = some m.cls := findClass_of_methodNamed Bd.named
  have hnm := (name_of_methodNamed Bd.named Bd.method).1
  have X0 : Stand p l e room_1 s m #[(.int i0), (.int i1)] below meth c s₁ [] 0 0 := Stand.of_body Bd
  have e0 : s₁.heap = h0 := by rw [← hh, Bd.state]; rfl
  have N0 := Fr.nil n0
  have pre0 : ∀ t, Steps p.tables e below (s₁.setTop (mkF m 0 #[iv i0, iv i1, .unset, .unset] [])) t → Steps p.tables e below (s₁.setTop (entryFrame m #[(.int i0), (.int i1)] maxLocals)) t := fun t k => castTop (ef_0 m i0 i1) k
  obtain ⟨S0, hS0⟩ : ∃ z, z = (s₁.setTop (entryFrame m #[(.int i0), (.int i1)] maxLocals)) := ⟨_, rfl⟩
  rw [← hS0] at pre0
  have pre1 : ∀ t, own_s p e below s₁ m 2 #[iv i0, iv i1, .unset, .unset] [(.int (47 : Int32))] t → Steps p.tables e below S0 t := by
    intro tX kX
    refine pre0 _ ?_
    show own_s p e below s₁ m 0 #[iv i0, iv i1, .unset, .unset] [] _
    refine XS.bipush X0.here hx rfl (hb hby at_0) ?_
    exact kX
  obtain ⟨T2, h2, k2, X2, e2, E2, A2, st2⟩ := newP X0 hx hZ (hw _ (List.mem_of_getElem? (i := 0) rfl)) e0 (g := (mkF m 2 #[iv i0, iv i1, .unset, .unset] [(.int (47 : Int32))])) rfl (hb hby at_2) rfl (by decide) (cap := 47) (by decide) (by decide) (by decide) (by decide)
  obtain ⟨b2, g2⟩ : ∃ z, z = h0.size := ⟨_, rfl⟩
  rw [← g2] at A2 st2
  have g_b2 : n0 ≤ b2 := Nat.le_trans Z0 (Nat.le_of_eq g2.symm)
  have pre3 : ∀ t, own_s p e below T2 m 4 #[iv i0, iv i1, .unset, .unset] [(.ref b2)] t → Steps p.tables e below S0 t := fun tX kX => pre1 _ (st2 _ kX)
  have f4_B : own_St Z h2 K := B0.ext E2
  have Z5 : n0 ≤ h2.size := Nat.le_trans Z0 E2.1
  have f6_A : own_Af Z h2 b2 .int 47 (fun _ => (.int (0 : Int32))) := own_Af.new A2 (by decide) rfl
  obtain ⟨ff7, fF7, I7⟩ : ∃ f, own_Af Z h2 b2 .int 47 f ∧ own_isI f := ⟨_, f6_A, (own_isI.c _)⟩
  have pre8 : ∀ t, own_s p e below T2 m 8 #[iv i0, iv i1, .unset, .unset] [(.int (-7 : Int32)), (.int (0 : Int32)), (.ref b2), (.ref b2)] t → Steps p.tables e below S0 t := by
    intro tX kX
    refine pre3 _ ?_
    show own_s p e below T2 m 4 #[iv i0, iv i1, .unset, .unset] [(.ref b2)] _
    refine XS.dup X2.here hx rfl (hb hby at_4) rfl rfl ?_
    show own_s p e below T2 m 5 #[iv i0, iv i1, .unset, .unset] [(.ref b2), (.ref b2)] _
    refine XS.iconst X2.here hx rfl (hb hby at_5) ?_
    show own_s p e below T2 m 6 #[iv i0, iv i1, .unset, .unset] [(.int (0 : Int32)), (.ref b2), (.ref b2)] _
    refine XS.bipush X2.here hx rfl (hb hby at_6) ?_
    exact kX
  obtain ⟨cl9, Ar9, S9, M9, H9⟩ := id fF7
  obtain ⟨T10, h10, X10, e10, W10, st10⟩ := stI X2 hx hZ e2 Ar9 (j := (0 : Int32)) (own_inb S9 M9 (by decide)) (g := (mkF m 8 #[iv i0, iv i1, .unset, .unset] [(.int (-7 : Int32)), (.int (0 : Int32)), (.ref b2), (.ref b2)])) rfl rfl (hb hby at_8)
  have pre11 : ∀ t, own_s p e below T10 m 9 #[iv i0, iv i1, .unset, .unset] [(.ref b2)] t → Steps p.tables e below S0 t := fun tX kX => pre8 _ (st10 _ kX)
  obtain ⟨LL12, X12, N12⟩ : ∃ LL, Stand p l e room_1 s m #[(.int i0), (.int i1)] below meth c T10 LL 1 47 ∧ Fr n0 LL := ⟨_, X10, Fr.snoc X10 N0 g_b2⟩
  have f13_B : own_St Z h10 K := f4_B.wr W10
  have Z14 : n0 ≤ h10.size := Nat.le_trans Z5 (Keep.of_wr W10).1
  have f15_A : own_Af Z h10 b2 .int 47 (own_up ff7 (0 : Int32).toNatClampNeg (.int (-7 : Int32))) := own_Af.set Ar9 S9 M9 H9 W10
  obtain ⟨ff16, fF16, I16⟩ : ∃ f, own_Af Z h10 b2 .int 47 f ∧ own_isI f := ⟨_, f15_A, (own_isI.up I7 _ _)⟩
  have pre17 : ∀ t, own_s p e below T10 m 13 #[iv i0, iv i1, .unset, .unset] [(.int (16 : Int32)), (.int (1 : Int32)), (.ref b2), (.ref b2)] t → Steps p.tables e below S0 t := by
    intro tX kX
    refine pre11 _ ?_
    show own_s p e below T10 m 9 #[iv i0, iv i1, .unset, .unset] [(.ref b2)] _
    refine XS.dup X12.here hx rfl (hb hby at_9) rfl rfl ?_
    show own_s p e below T10 m 10 #[iv i0, iv i1, .unset, .unset] [(.ref b2), (.ref b2)] _
    refine XS.iconst X12.here hx rfl (hb hby at_10) ?_
    show own_s p e below T10 m 11 #[iv i0, iv i1, .unset, .unset] [(.int (1 : Int32)), (.ref b2), (.ref b2)] _
    refine XS.bipush X12.here hx rfl (hb hby at_11) ?_
    exact kX
  obtain ⟨cl18, Ar18, S18, M18, H18⟩ := id fF16
  obtain ⟨T19, h19, X19, e19, W19, st19⟩ := stI X12 hx hZ e10 Ar18 (j := (1 : Int32)) (own_inb S18 M18 (by decide)) (g := (mkF m 13 #[iv i0, iv i1, .unset, .unset] [(.int (16 : Int32)), (.int (1 : Int32)), (.ref b2), (.ref b2)])) rfl rfl (hb hby at_13)
  have pre20 : ∀ t, own_s p e below T19 m 14 #[iv i0, iv i1, .unset, .unset] [(.ref b2)] t → Steps p.tables e below S0 t := fun tX kX => pre17 _ (st19 _ kX)
  obtain ⟨LL21, X21, N21⟩ : ∃ LL, Stand p l e room_1 s m #[(.int i0), (.int i1)] below meth c T19 LL 1 47 ∧ Fr n0 LL := ⟨_, X19, Fr.snoc X19 N12 g_b2⟩
  have f22_B : own_St Z h19 K := f13_B.wr W19
  have Z23 : n0 ≤ h19.size := Nat.le_trans Z14 (Keep.of_wr W19).1
  have f24_A : own_Af Z h19 b2 .int 47 (own_up ff16 (1 : Int32).toNatClampNeg (.int (16 : Int32))) := own_Af.set Ar18 S18 M18 H18 W19
  obtain ⟨ff25, fF25, I25⟩ : ∃ f, own_Af Z h19 b2 .int 47 f ∧ own_isI f := ⟨_, f24_A, (own_isI.up I16 _ _)⟩
  have pre26 : ∀ t, own_s p e below T19 m 18 #[iv i0, iv i1, .unset, .unset] [(.int (-6 : Int32)), (.int (2 : Int32)), (.ref b2), (.ref b2)] t → Steps p.tables e below S0 t := by
    intro tX kX
    refine pre20 _ ?_
    show own_s p e below T19 m 14 #[iv i0, iv i1, .unset, .unset] [(.ref b2)] _
    refine XS.dup X21.here hx rfl (hb hby at_14) rfl rfl ?_
    show own_s p e below T19 m 15 #[iv i0, iv i1, .unset, .unset] [(.ref b2), (.ref b2)] _
    refine XS.iconst X21.here hx rfl (hb hby at_15) ?_
    show own_s p e below T19 m 16 #[iv i0, iv i1, .unset, .unset] [(.int (2 : Int32)), (.ref b2), (.ref b2)] _
    refine XS.bipush X21.here hx rfl (hb hby at_16) ?_
    exact kX
  obtain ⟨cl27, Ar27, S27, M27, H27⟩ := id fF25
  obtain ⟨T28, h28, X28, e28, W28, st28⟩ := stI X21 hx hZ e19 Ar27 (j := (2 : Int32)) (own_inb S27 M27 (by decide)) (g := (mkF m 18 #[iv i0, iv i1, .unset, .unset] [(.int (-6 : Int32)), (.int (2 : Int32)), (.ref b2), (.ref b2)])) rfl rfl (hb hby at_18)
  have pre29 : ∀ t, own_s p e below T28 m 19 #[iv i0, iv i1, .unset, .unset] [(.ref b2)] t → Steps p.tables e below S0 t := fun tX kX => pre26 _ (st28 _ kX)
  obtain ⟨LL30, X30, N30⟩ : ∃ LL, Stand p l e room_1 s m #[(.int i0), (.int i1)] below meth c T28 LL 1 47 ∧ Fr n0 LL := ⟨_, X28, Fr.snoc X28 N21 g_b2⟩
  have f31_B : own_St Z h28 K := f22_B.wr W28
  have Z32 : n0 ≤ h28.size := Nat.le_trans Z23 (Keep.of_wr W28).1
  have f33_A : own_Af Z h28 b2 .int 47 (own_up ff25 (2 : Int32).toNatClampNeg (.int (-6 : Int32))) := own_Af.set Ar27 S27 M27 H27 W28
  obtain ⟨ff34, fF34, I34⟩ : ∃ f, own_Af Z h28 b2 .int 47 f ∧ own_isI f := ⟨_, f33_A, (own_isI.up I25 _ _)⟩
  have pre35 : ∀ t, own_s p e below T28 m 22 #[iv i0, iv i1, .unset, .unset] [(.int (5 : Int32)), (.int (3 : Int32)), (.ref b2), (.ref b2)] t → Steps p.tables e below S0 t := by
    intro tX kX
    refine pre29 _ ?_
    show own_s p e below T28 m 19 #[iv i0, iv i1, .unset, .unset] [(.ref b2)] _
    refine XS.dup X30.here hx rfl (hb hby at_19) rfl rfl ?_
    show own_s p e below T28 m 20 #[iv i0, iv i1, .unset, .unset] [(.ref b2), (.ref b2)] _
    refine XS.iconst X30.here hx rfl (hb hby at_20) ?_
    show own_s p e below T28 m 21 #[iv i0, iv i1, .unset, .unset] [(.int (3 : Int32)), (.ref b2), (.ref b2)] _
    refine XS.iconst X30.here hx rfl (hb hby at_21) ?_
    exact kX
  obtain ⟨cl36, Ar36, S36, M36, H36⟩ := id fF34
  obtain ⟨T37, h37, X37, e37, W37, st37⟩ := stI X30 hx hZ e28 Ar36 (j := (3 : Int32)) (own_inb S36 M36 (by decide)) (g := (mkF m 22 #[iv i0, iv i1, .unset, .unset] [(.int (5 : Int32)), (.int (3 : Int32)), (.ref b2), (.ref b2)])) rfl rfl (hb hby at_22)
  have pre38 : ∀ t, own_s p e below T37 m 23 #[iv i0, iv i1, .unset, .unset] [(.ref b2)] t → Steps p.tables e below S0 t := fun tX kX => pre35 _ (st37 _ kX)
  obtain ⟨LL39, X39, N39⟩ : ∃ LL, Stand p l e room_1 s m #[(.int i0), (.int i1)] below meth c T37 LL 1 47 ∧ Fr n0 LL := ⟨_, X37, Fr.snoc X37 N30 g_b2⟩
  have f40_B : own_St Z h37 K := f31_B.wr W37
  have Z41 : n0 ≤ h37.size := Nat.le_trans Z32 (Keep.of_wr W37).1
  have f42_A : own_Af Z h37 b2 .int 47 (own_up ff34 (3 : Int32).toNatClampNeg (.int (5 : Int32))) := own_Af.set Ar36 S36 M36 H36 W37
  obtain ⟨ff43, fF43, I43⟩ : ∃ f, own_Af Z h37 b2 .int 47 f ∧ own_isI f := ⟨_, f42_A, (own_isI.up I34 _ _)⟩
  have pre44 : ∀ t, own_s p e below T37 m 26 #[iv i0, iv i1, .unset, .unset] [(.int (4 : Int32)), (.int (4 : Int32)), (.ref b2), (.ref b2)] t → Steps p.tables e below S0 t := by
    intro tX kX
    refine pre38 _ ?_
    show own_s p e below T37 m 23 #[iv i0, iv i1, .unset, .unset] [(.ref b2)] _
    refine XS.dup X39.here hx rfl (hb hby at_23) rfl rfl ?_
    show own_s p e below T37 m 24 #[iv i0, iv i1, .unset, .unset] [(.ref b2), (.ref b2)] _
    refine XS.iconst X39.here hx rfl (hb hby at_24) ?_
    show own_s p e below T37 m 25 #[iv i0, iv i1, .unset, .unset] [(.int (4 : Int32)), (.ref b2), (.ref b2)] _
    refine XS.iconst X39.here hx rfl (hb hby at_25) ?_
    exact kX
  obtain ⟨cl45, Ar45, S45, M45, H45⟩ := id fF43
  obtain ⟨T46, h46, X46, e46, W46, st46⟩ := stI X39 hx hZ e37 Ar45 (j := (4 : Int32)) (own_inb S45 M45 (by decide)) (g := (mkF m 26 #[iv i0, iv i1, .unset, .unset] [(.int (4 : Int32)), (.int (4 : Int32)), (.ref b2), (.ref b2)])) rfl rfl (hb hby at_26)
  have pre47 : ∀ t, own_s p e below T46 m 27 #[iv i0, iv i1, .unset, .unset] [(.ref b2)] t → Steps p.tables e below S0 t := fun tX kX => pre44 _ (st46 _ kX)
  obtain ⟨LL48, X48, N48⟩ : ∃ LL, Stand p l e room_1 s m #[(.int i0), (.int i1)] below meth c T46 LL 1 47 ∧ Fr n0 LL := ⟨_, X46, Fr.snoc X46 N39 g_b2⟩
  have f49_B : own_St Z h46 K := f40_B.wr W46
  have Z50 : n0 ≤ h46.size := Nat.le_trans Z41 (Keep.of_wr W46).1
  have f51_A : own_Af Z h46 b2 .int 47 (own_up ff43 (4 : Int32).toNatClampNeg (.int (4 : Int32))) := own_Af.set Ar45 S45 M45 H45 W46
  obtain ⟨ff52, fF52, I52⟩ : ∃ f, own_Af Z h46 b2 .int 47 f ∧ own_isI f := ⟨_, f51_A, (own_isI.up I43 _ _)⟩
  have pre53 : ∀ t, own_s p e below T46 m 31 #[iv i0, iv i1, .unset, .unset] [(.int (-5 : Int32)), (.int (5 : Int32)), (.ref b2), (.ref b2)] t → Steps p.tables e below S0 t := by
    intro tX kX
    refine pre47 _ ?_
    show own_s p e below T46 m 27 #[iv i0, iv i1, .unset, .unset] [(.ref b2)] _
    refine XS.dup X48.here hx rfl (hb hby at_27) rfl rfl ?_
    show own_s p e below T46 m 28 #[iv i0, iv i1, .unset, .unset] [(.ref b2), (.ref b2)] _
    refine XS.iconst X48.here hx rfl (hb hby at_28) ?_
    show own_s p e below T46 m 29 #[iv i0, iv i1, .unset, .unset] [(.int (5 : Int32)), (.ref b2), (.ref b2)] _
    refine XS.bipush X48.here hx rfl (hb hby at_29) ?_
    exact kX
  obtain ⟨cl54, Ar54, S54, M54, H54⟩ := id fF52
  obtain ⟨T55, h55, X55, e55, W55, st55⟩ := stI X48 hx hZ e46 Ar54 (j := (5 : Int32)) (own_inb S54 M54 (by decide)) (g := (mkF m 31 #[iv i0, iv i1, .unset, .unset] [(.int (-5 : Int32)), (.int (5 : Int32)), (.ref b2), (.ref b2)])) rfl rfl (hb hby at_31)
  have pre56 : ∀ t, own_s p e below T55 m 32 #[iv i0, iv i1, .unset, .unset] [(.ref b2)] t → Steps p.tables e below S0 t := fun tX kX => pre53 _ (st55 _ kX)
  obtain ⟨LL57, X57, N57⟩ : ∃ LL, Stand p l e room_1 s m #[(.int i0), (.int i1)] below meth c T55 LL 1 47 ∧ Fr n0 LL := ⟨_, X55, Fr.snoc X55 N48 g_b2⟩
  have f58_B : own_St Z h55 K := f49_B.wr W55
  have Z59 : n0 ≤ h55.size := Nat.le_trans Z50 (Keep.of_wr W55).1
  have f60_A : own_Af Z h55 b2 .int 47 (own_up ff52 (5 : Int32).toNatClampNeg (.int (-5 : Int32))) := own_Af.set Ar54 S54 M54 H54 W55
  obtain ⟨ff61, fF61, I61⟩ : ∃ f, own_Af Z h55 b2 .int 47 f ∧ own_isI f := ⟨_, f60_A, (own_isI.up I52 _ _)⟩
  have pre62 : ∀ t, own_s p e below T55 m 36 #[iv i0, iv i1, .unset, .unset] [(.int (2 : Int32)), (.int (6 : Int32)), (.ref b2), (.ref b2)] t → Steps p.tables e below S0 t := by
    intro tX kX
    refine pre56 _ ?_
    show own_s p e below T55 m 32 #[iv i0, iv i1, .unset, .unset] [(.ref b2)] _
    refine XS.dup X57.here hx rfl (hb hby at_32) rfl rfl ?_
    show own_s p e below T55 m 33 #[iv i0, iv i1, .unset, .unset] [(.ref b2), (.ref b2)] _
    refine XS.bipush X57.here hx rfl (hb hby at_33) ?_
    show own_s p e below T55 m 35 #[iv i0, iv i1, .unset, .unset] [(.int (6 : Int32)), (.ref b2), (.ref b2)] _
    refine XS.iconst X57.here hx rfl (hb hby at_35) ?_
    exact kX
  obtain ⟨cl63, Ar63, S63, M63, H63⟩ := id fF61
  obtain ⟨T64, h64, X64, e64, W64, st64⟩ := stI X57 hx hZ e55 Ar63 (j := (6 : Int32)) (own_inb S63 M63 (by decide)) (g := (mkF m 36 #[iv i0, iv i1, .unset, .unset] [(.int (2 : Int32)), (.int (6 : Int32)), (.ref b2), (.ref b2)])) rfl rfl (hb hby at_36)
  have pre65 : ∀ t, own_s p e below T64 m 37 #[iv i0, iv i1, .unset, .unset] [(.ref b2)] t → Steps p.tables e below S0 t := fun tX kX => pre62 _ (st64 _ kX)
  obtain ⟨LL66, X66, N66⟩ : ∃ LL, Stand p l e room_1 s m #[(.int i0), (.int i1)] below meth c T64 LL 1 47 ∧ Fr n0 LL := ⟨_, X64, Fr.snoc X64 N57 g_b2⟩
  have f67_B : own_St Z h64 K := f58_B.wr W64
  have Z68 : n0 ≤ h64.size := Nat.le_trans Z59 (Keep.of_wr W64).1
  have f69_A : own_Af Z h64 b2 .int 47 (own_up ff61 (6 : Int32).toNatClampNeg (.int (2 : Int32))) := own_Af.set Ar63 S63 M63 H63 W64
  obtain ⟨ff70, fF70, I70⟩ : ∃ f, own_Af Z h64 b2 .int 47 f ∧ own_isI f := ⟨_, f69_A, (own_isI.up I61 _ _)⟩
  have pre71 : ∀ t, own_s p e below T64 m 41 #[iv i0, iv i1, .unset, .unset] [(.int (3 : Int32)), (.int (7 : Int32)), (.ref b2), (.ref b2)] t → Steps p.tables e below S0 t := by
    intro tX kX
    refine pre65 _ ?_
    show own_s p e below T64 m 37 #[iv i0, iv i1, .unset, .unset] [(.ref b2)] _
    refine XS.dup X66.here hx rfl (hb hby at_37) rfl rfl ?_
    show own_s p e below T64 m 38 #[iv i0, iv i1, .unset, .unset] [(.ref b2), (.ref b2)] _
    refine XS.bipush X66.here hx rfl (hb hby at_38) ?_
    show own_s p e below T64 m 40 #[iv i0, iv i1, .unset, .unset] [(.int (7 : Int32)), (.ref b2), (.ref b2)] _
    refine XS.iconst X66.here hx rfl (hb hby at_40) ?_
    exact kX
  obtain ⟨cl72, Ar72, S72, M72, H72⟩ := id fF70
  obtain ⟨T73, h73, X73, e73, W73, st73⟩ := stI X66 hx hZ e64 Ar72 (j := (7 : Int32)) (own_inb S72 M72 (by decide)) (g := (mkF m 41 #[iv i0, iv i1, .unset, .unset] [(.int (3 : Int32)), (.int (7 : Int32)), (.ref b2), (.ref b2)])) rfl rfl (hb hby at_41)
  have pre74 : ∀ t, own_s p e below T73 m 42 #[iv i0, iv i1, .unset, .unset] [(.ref b2)] t → Steps p.tables e below S0 t := fun tX kX => pre71 _ (st73 _ kX)
  obtain ⟨LL75, X75, N75⟩ : ∃ LL, Stand p l e room_1 s m #[(.int i0), (.int i1)] below meth c T73 LL 1 47 ∧ Fr n0 LL := ⟨_, X73, Fr.snoc X73 N66 g_b2⟩
  have f76_B : own_St Z h73 K := f67_B.wr W73
  have Z77 : n0 ≤ h73.size := Nat.le_trans Z68 (Keep.of_wr W73).1
  have f78_A : own_Af Z h73 b2 .int 47 (own_up ff70 (7 : Int32).toNatClampNeg (.int (3 : Int32))) := own_Af.set Ar72 S72 M72 H72 W73
  obtain ⟨ff79, fF79, I79⟩ : ∃ f, own_Af Z h73 b2 .int 47 f ∧ own_isI f := ⟨_, f78_A, (own_isI.up I70 _ _)⟩
  have pre80 : ∀ t, own_s p e below T73 m 47 #[iv i0, iv i1, .unset, .unset] [(.int (7 : Int32)), (.int (8 : Int32)), (.ref b2), (.ref b2)] t → Steps p.tables e below S0 t := by
    intro tX kX
    refine pre74 _ ?_
    show own_s p e below T73 m 42 #[iv i0, iv i1, .unset, .unset] [(.ref b2)] _
    refine XS.dup X75.here hx rfl (hb hby at_42) rfl rfl ?_
    show own_s p e below T73 m 43 #[iv i0, iv i1, .unset, .unset] [(.ref b2), (.ref b2)] _
    refine XS.bipush X75.here hx rfl (hb hby at_43) ?_
    show own_s p e below T73 m 45 #[iv i0, iv i1, .unset, .unset] [(.int (8 : Int32)), (.ref b2), (.ref b2)] _
    refine XS.bipush X75.here hx rfl (hb hby at_45) ?_
    exact kX
  obtain ⟨cl81, Ar81, S81, M81, H81⟩ := id fF79
  obtain ⟨T82, h82, X82, e82, W82, st82⟩ := stI X75 hx hZ e73 Ar81 (j := (8 : Int32)) (own_inb S81 M81 (by decide)) (g := (mkF m 47 #[iv i0, iv i1, .unset, .unset] [(.int (7 : Int32)), (.int (8 : Int32)), (.ref b2), (.ref b2)])) rfl rfl (hb hby at_47)
  have pre83 : ∀ t, own_s p e below T82 m 48 #[iv i0, iv i1, .unset, .unset] [(.ref b2)] t → Steps p.tables e below S0 t := fun tX kX => pre80 _ (st82 _ kX)
  obtain ⟨LL84, X84, N84⟩ : ∃ LL, Stand p l e room_1 s m #[(.int i0), (.int i1)] below meth c T82 LL 1 47 ∧ Fr n0 LL := ⟨_, X82, Fr.snoc X82 N75 g_b2⟩
  have f85_B : own_St Z h82 K := f76_B.wr W82
  have Z86 : n0 ≤ h82.size := Nat.le_trans Z77 (Keep.of_wr W82).1
  have f87_A : own_Af Z h82 b2 .int 47 (own_up ff79 (8 : Int32).toNatClampNeg (.int (7 : Int32))) := own_Af.set Ar81 S81 M81 H81 W82
  obtain ⟨ff88, fF88, I88⟩ : ∃ f, own_Af Z h82 b2 .int 47 f ∧ own_isI f := ⟨_, f87_A, (own_isI.up I79 _ _)⟩
  have pre89 : ∀ t, own_s p e below T82 m 53 #[iv i0, iv i1, .unset, .unset] [(.int (6 : Int32)), (.int (9 : Int32)), (.ref b2), (.ref b2)] t → Steps p.tables e below S0 t := by
    intro tX kX
    refine pre83 _ ?_
    show own_s p e below T82 m 48 #[iv i0, iv i1, .unset, .unset] [(.ref b2)] _
    refine XS.dup X84.here hx rfl (hb hby at_48) rfl rfl ?_
    show own_s p e below T82 m 49 #[iv i0, iv i1, .unset, .unset] [(.ref b2), (.ref b2)] _
    refine XS.bipush X84.here hx rfl (hb hby at_49) ?_
    show own_s p e below T82 m 51 #[iv i0, iv i1, .unset, .unset] [(.int (9 : Int32)), (.ref b2), (.ref b2)] _
    refine XS.bipush X84.here hx rfl (hb hby at_51) ?_
    exact kX
  obtain ⟨cl90, Ar90, S90, M90, H90⟩ := id fF88
  obtain ⟨T91, h91, X91, e91, W91, st91⟩ := stI X84 hx hZ e82 Ar90 (j := (9 : Int32)) (own_inb S90 M90 (by decide)) (g := (mkF m 53 #[iv i0, iv i1, .unset, .unset] [(.int (6 : Int32)), (.int (9 : Int32)), (.ref b2), (.ref b2)])) rfl rfl (hb hby at_53)
  have pre92 : ∀ t, own_s p e below T91 m 54 #[iv i0, iv i1, .unset, .unset] [(.ref b2)] t → Steps p.tables e below S0 t := fun tX kX => pre89 _ (st91 _ kX)
  obtain ⟨LL93, X93, N93⟩ : ∃ LL, Stand p l e room_1 s m #[(.int i0), (.int i1)] below meth c T91 LL 1 47 ∧ Fr n0 LL := ⟨_, X91, Fr.snoc X91 N84 g_b2⟩
  have f94_B : own_St Z h91 K := f85_B.wr W91
  have Z95 : n0 ≤ h91.size := Nat.le_trans Z86 (Keep.of_wr W91).1
  have f96_A : own_Af Z h91 b2 .int 47 (own_up ff88 (9 : Int32).toNatClampNeg (.int (6 : Int32))) := own_Af.set Ar90 S90 M90 H90 W91
  obtain ⟨ff97, fF97, I97⟩ : ∃ f, own_Af Z h91 b2 .int 47 f ∧ own_isI f := ⟨_, f96_A, (own_isI.up I88 _ _)⟩
  have pre98 : ∀ t, own_s p e below T91 m 59 #[iv i0, iv i1, .unset, .unset] [(.int (8 : Int32)), (.int (10 : Int32)), (.ref b2), (.ref b2)] t → Steps p.tables e below S0 t := by
    intro tX kX
    refine pre92 _ ?_
    show own_s p e below T91 m 54 #[iv i0, iv i1, .unset, .unset] [(.ref b2)] _
    refine XS.dup X93.here hx rfl (hb hby at_54) rfl rfl ?_
    show own_s p e below T91 m 55 #[iv i0, iv i1, .unset, .unset] [(.ref b2), (.ref b2)] _
    refine XS.bipush X93.here hx rfl (hb hby at_55) ?_
    show own_s p e below T91 m 57 #[iv i0, iv i1, .unset, .unset] [(.int (10 : Int32)), (.ref b2), (.ref b2)] _
    refine XS.bipush X93.here hx rfl (hb hby at_57) ?_
    exact kX
  obtain ⟨cl99, Ar99, S99, M99, H99⟩ := id fF97
  obtain ⟨T100, h100, X100, e100, W100, st100⟩ := stI X93 hx hZ e91 Ar99 (j := (10 : Int32)) (own_inb S99 M99 (by decide)) (g := (mkF m 59 #[iv i0, iv i1, .unset, .unset] [(.int (8 : Int32)), (.int (10 : Int32)), (.ref b2), (.ref b2)])) rfl rfl (hb hby at_59)
  have pre101 : ∀ t, own_s p e below T100 m 60 #[iv i0, iv i1, .unset, .unset] [(.ref b2)] t → Steps p.tables e below S0 t := fun tX kX => pre98 _ (st100 _ kX)
  obtain ⟨LL102, X102, N102⟩ : ∃ LL, Stand p l e room_1 s m #[(.int i0), (.int i1)] below meth c T100 LL 1 47 ∧ Fr n0 LL := ⟨_, X100, Fr.snoc X100 N93 g_b2⟩
  have f103_B : own_St Z h100 K := f94_B.wr W100
  have Z104 : n0 ≤ h100.size := Nat.le_trans Z95 (Keep.of_wr W100).1
  have f105_A : own_Af Z h100 b2 .int 47 (own_up ff97 (10 : Int32).toNatClampNeg (.int (8 : Int32))) := own_Af.set Ar99 S99 M99 H99 W100
  obtain ⟨ff106, fF106, I106⟩ : ∃ f, own_Af Z h100 b2 .int 47 f ∧ own_isI f := ⟨_, f105_A, (own_isI.up I97 _ _)⟩
  have pre107 : ∀ t, own_s p e below T100 m 65 #[iv i0, iv i1, .unset, .unset] [(.int (91 : Int32)), (.int (11 : Int32)), (.ref b2), (.ref b2)] t → Steps p.tables e below S0 t := by
    intro tX kX
    refine pre101 _ ?_
    show own_s p e below T100 m 60 #[iv i0, iv i1, .unset, .unset] [(.ref b2)] _
    refine XS.dup X102.here hx rfl (hb hby at_60) rfl rfl ?_
    show own_s p e below T100 m 61 #[iv i0, iv i1, .unset, .unset] [(.ref b2), (.ref b2)] _
    refine XS.bipush X102.here hx rfl (hb hby at_61) ?_
    show own_s p e below T100 m 63 #[iv i0, iv i1, .unset, .unset] [(.int (11 : Int32)), (.ref b2), (.ref b2)] _
    refine XS.bipush X102.here hx rfl (hb hby at_63) ?_
    exact kX
  obtain ⟨cl108, Ar108, S108, M108, H108⟩ := id fF106
  obtain ⟨T109, h109, X109, e109, W109, st109⟩ := stI X102 hx hZ e100 Ar108 (j := (11 : Int32)) (own_inb S108 M108 (by decide)) (g := (mkF m 65 #[iv i0, iv i1, .unset, .unset] [(.int (91 : Int32)), (.int (11 : Int32)), (.ref b2), (.ref b2)])) rfl rfl (hb hby at_65)
  have pre110 : ∀ t, own_s p e below T109 m 66 #[iv i0, iv i1, .unset, .unset] [(.ref b2)] t → Steps p.tables e below S0 t := fun tX kX => pre107 _ (st109 _ kX)
  obtain ⟨LL111, X111, N111⟩ : ∃ LL, Stand p l e room_1 s m #[(.int i0), (.int i1)] below meth c T109 LL 1 47 ∧ Fr n0 LL := ⟨_, X109, Fr.snoc X109 N102 g_b2⟩
  have f112_B : own_St Z h109 K := f103_B.wr W109
  have Z113 : n0 ≤ h109.size := Nat.le_trans Z104 (Keep.of_wr W109).1
  have f114_A : own_Af Z h109 b2 .int 47 (own_up ff106 (11 : Int32).toNatClampNeg (.int (91 : Int32))) := own_Af.set Ar108 S108 M108 H108 W109
  obtain ⟨ff115, fF115, I115⟩ : ∃ f, own_Af Z h109 b2 .int 47 f ∧ own_isI f := ⟨_, f114_A, (own_isI.up I106 _ _)⟩
  have pre116 : ∀ t, own_s p e below T109 m 71 #[iv i0, iv i1, .unset, .unset] [(.int (92 : Int32)), (.int (12 : Int32)), (.ref b2), (.ref b2)] t → Steps p.tables e below S0 t := by
    intro tX kX
    refine pre110 _ ?_
    show own_s p e below T109 m 66 #[iv i0, iv i1, .unset, .unset] [(.ref b2)] _
    refine XS.dup X111.here hx rfl (hb hby at_66) rfl rfl ?_
    show own_s p e below T109 m 67 #[iv i0, iv i1, .unset, .unset] [(.ref b2), (.ref b2)] _
    refine XS.bipush X111.here hx rfl (hb hby at_67) ?_
    show own_s p e below T109 m 69 #[iv i0, iv i1, .unset, .unset] [(.int (12 : Int32)), (.ref b2), (.ref b2)] _
    refine XS.bipush X111.here hx rfl (hb hby at_69) ?_
    exact kX
  obtain ⟨cl117, Ar117, S117, M117, H117⟩ := id fF115
  obtain ⟨T118, h118, X118, e118, W118, st118⟩ := stI X111 hx hZ e109 Ar117 (j := (12 : Int32)) (own_inb S117 M117 (by decide)) (g := (mkF m 71 #[iv i0, iv i1, .unset, .unset] [(.int (92 : Int32)), (.int (12 : Int32)), (.ref b2), (.ref b2)])) rfl rfl (hb hby at_71)
  have pre119 : ∀ t, own_s p e below T118 m 72 #[iv i0, iv i1, .unset, .unset] [(.ref b2)] t → Steps p.tables e below S0 t := fun tX kX => pre116 _ (st118 _ kX)
  obtain ⟨LL120, X120, N120⟩ : ∃ LL, Stand p l e room_1 s m #[(.int i0), (.int i1)] below meth c T118 LL 1 47 ∧ Fr n0 LL := ⟨_, X118, Fr.snoc X118 N111 g_b2⟩
  have f121_B : own_St Z h118 K := f112_B.wr W118
  have Z122 : n0 ≤ h118.size := Nat.le_trans Z113 (Keep.of_wr W118).1
  have f123_A : own_Af Z h118 b2 .int 47 (own_up ff115 (12 : Int32).toNatClampNeg (.int (92 : Int32))) := own_Af.set Ar117 S117 M117 H117 W118
  obtain ⟨ff124, fF124, I124⟩ : ∃ f, own_Af Z h118 b2 .int 47 f ∧ own_isI f := ⟨_, f123_A, (own_isI.up I115 _ _)⟩
  have pre125 : ∀ t, own_s p e below T118 m 77 #[iv i0, iv i1, .unset, .unset] [(.int (93 : Int32)), (.int (13 : Int32)), (.ref b2), (.ref b2)] t → Steps p.tables e below S0 t := by
    intro tX kX
    refine pre119 _ ?_
    show own_s p e below T118 m 72 #[iv i0, iv i1, .unset, .unset] [(.ref b2)] _
    refine XS.dup X120.here hx rfl (hb hby at_72) rfl rfl ?_
    show own_s p e below T118 m 73 #[iv i0, iv i1, .unset, .unset] [(.ref b2), (.ref b2)] _
    refine XS.bipush X120.here hx rfl (hb hby at_73) ?_
    show own_s p e below T118 m 75 #[iv i0, iv i1, .unset, .unset] [(.int (13 : Int32)), (.ref b2), (.ref b2)] _
    refine XS.bipush X120.here hx rfl (hb hby at_75) ?_
    exact kX
  obtain ⟨cl126, Ar126, S126, M126, H126⟩ := id fF124
  obtain ⟨T127, h127, X127, e127, W127, st127⟩ := stI X120 hx hZ e118 Ar126 (j := (13 : Int32)) (own_inb S126 M126 (by decide)) (g := (mkF m 77 #[iv i0, iv i1, .unset, .unset] [(.int (93 : Int32)), (.int (13 : Int32)), (.ref b2), (.ref b2)])) rfl rfl (hb hby at_77)
  have pre128 : ∀ t, own_s p e below T127 m 78 #[iv i0, iv i1, .unset, .unset] [(.ref b2)] t → Steps p.tables e below S0 t := fun tX kX => pre125 _ (st127 _ kX)
  obtain ⟨LL129, X129, N129⟩ : ∃ LL, Stand p l e room_1 s m #[(.int i0), (.int i1)] below meth c T127 LL 1 47 ∧ Fr n0 LL := ⟨_, X127, Fr.snoc X127 N120 g_b2⟩
  have f130_B : own_St Z h127 K := f121_B.wr W127
  have Z131 : n0 ≤ h127.size := Nat.le_trans Z122 (Keep.of_wr W127).1
  have f132_A : own_Af Z h127 b2 .int 47 (own_up ff124 (13 : Int32).toNatClampNeg (.int (93 : Int32))) := own_Af.set Ar126 S126 M126 H126 W127
  obtain ⟨ff133, fF133, I133⟩ : ∃ f, own_Af Z h127 b2 .int 47 f ∧ own_isI f := ⟨_, f132_A, (own_isI.up I124 _ _)⟩
  have pre134 : ∀ t, own_s p e below T127 m 84 #[iv i0, iv i1, .unset, .unset] [(.int (2013 : Int32)), (.int (14 : Int32)), (.ref b2), (.ref b2)] t → Steps p.tables e below S0 t := by
    intro tX kX
    refine pre128 _ ?_
    show own_s p e below T127 m 78 #[iv i0, iv i1, .unset, .unset] [(.ref b2)] _
    refine XS.dup X129.here hx rfl (hb hby at_78) rfl rfl ?_
    show own_s p e below T127 m 79 #[iv i0, iv i1, .unset, .unset] [(.ref b2), (.ref b2)] _
    refine XS.bipush X129.here hx rfl (hb hby at_79) ?_
    show own_s p e below T127 m 81 #[iv i0, iv i1, .unset, .unset] [(.int (14 : Int32)), (.ref b2), (.ref b2)] _
    refine XS.sipush X129.here hx rfl (hb hby at_81) ?_
    exact kX
  obtain ⟨cl135, Ar135, S135, M135, H135⟩ := id fF133
  obtain ⟨T136, h136, X136, e136, W136, st136⟩ := stI X129 hx hZ e127 Ar135 (j := (14 : Int32)) (own_inb S135 M135 (by decide)) (g := (mkF m 84 #[iv i0, iv i1, .unset, .unset] [(.int (2013 : Int32)), (.int (14 : Int32)), (.ref b2), (.ref b2)])) rfl rfl (hb hby at_84)
  have pre137 : ∀ t, own_s p e below T136 m 85 #[iv i0, iv i1, .unset, .unset] [(.ref b2)] t → Steps p.tables e below S0 t := fun tX kX => pre134 _ (st136 _ kX)
  obtain ⟨LL138, X138, N138⟩ : ∃ LL, Stand p l e room_1 s m #[(.int i0), (.int i1)] below meth c T136 LL 1 47 ∧ Fr n0 LL := ⟨_, X136, Fr.snoc X136 N129 g_b2⟩
  have f139_B : own_St Z h136 K := f130_B.wr W136
  have Z140 : n0 ≤ h136.size := Nat.le_trans Z131 (Keep.of_wr W136).1
  have f141_A : own_Af Z h136 b2 .int 47 (own_up ff133 (14 : Int32).toNatClampNeg (.int (2013 : Int32))) := own_Af.set Ar135 S135 M135 H135 W136
  obtain ⟨ff142, fF142, I142⟩ : ∃ f, own_Af Z h136 b2 .int 47 f ∧ own_isI f := ⟨_, f141_A, (own_isI.up I133 _ _)⟩
  have pre143 : ∀ t, own_s p e below T136 m 91 #[iv i0, iv i1, .unset, .unset] [(.int (2014 : Int32)), (.int (15 : Int32)), (.ref b2), (.ref b2)] t → Steps p.tables e below S0 t := by
    intro tX kX
    refine pre137 _ ?_
    show own_s p e below T136 m 85 #[iv i0, iv i1, .unset, .unset] [(.ref b2)] _
    refine XS.dup X138.here hx rfl (hb hby at_85) rfl rfl ?_
    show own_s p e below T136 m 86 #[iv i0, iv i1, .unset, .unset] [(.ref b2), (.ref b2)] _
    refine XS.bipush X138.here hx rfl (hb hby at_86) ?_
    show own_s p e below T136 m 88 #[iv i0, iv i1, .unset, .unset] [(.int (15 : Int32)), (.ref b2), (.ref b2)] _
    refine XS.sipush X138.here hx rfl (hb hby at_88) ?_
    exact kX
  obtain ⟨cl144, Ar144, S144, M144, H144⟩ := id fF142
  obtain ⟨T145, h145, X145, e145, W145, st145⟩ := stI X138 hx hZ e136 Ar144 (j := (15 : Int32)) (own_inb S144 M144 (by decide)) (g := (mkF m 91 #[iv i0, iv i1, .unset, .unset] [(.int (2014 : Int32)), (.int (15 : Int32)), (.ref b2), (.ref b2)])) rfl rfl (hb hby at_91)
  have pre146 : ∀ t, own_s p e below T145 m 92 #[iv i0, iv i1, .unset, .unset] [(.ref b2)] t → Steps p.tables e below S0 t := fun tX kX => pre143 _ (st145 _ kX)
  obtain ⟨LL147, X147, N147⟩ : ∃ LL, Stand p l e room_1 s m #[(.int i0), (.int i1)] below meth c T145 LL 1 47 ∧ Fr n0 LL := ⟨_, X145, Fr.snoc X145 N138 g_b2⟩
  have f148_B : own_St Z h145 K := f139_B.wr W145
  have Z149 : n0 ≤ h145.size := Nat.le_trans Z140 (Keep.of_wr W145).1
  have f150_A : own_Af Z h145 b2 .int 47 (own_up ff142 (15 : Int32).toNatClampNeg (.int (2014 : Int32))) := own_Af.set Ar144 S144 M144 H144 W145
  obtain ⟨ff151, fF151, I151⟩ : ∃ f, own_Af Z h145 b2 .int 47 f ∧ own_isI f := ⟨_, f150_A, (own_isI.up I142 _ _)⟩
  have pre152 : ∀ t, own_s p e below T145 m 97 #[iv i0, iv i1, .unset, .unset] [(.int (-2 : Int32)), (.int (16 : Int32)), (.ref b2), (.ref b2)] t → Steps p.tables e below S0 t := by
    intro tX kX
    refine pre146 _ ?_
    show own_s p e below T145 m 92 #[iv i0, iv i1, .unset, .unset] [(.ref b2)] _
    refine XS.dup X147.here hx rfl (hb hby at_92) rfl rfl ?_
    show own_s p e below T145 m 93 #[iv i0, iv i1, .unset, .unset] [(.ref b2), (.ref b2)] _
    refine XS.bipush X147.here hx rfl (hb hby at_93) ?_
    show own_s p e below T145 m 95 #[iv i0, iv i1, .unset, .unset] [(.int (16 : Int32)), (.ref b2), (.ref b2)] _
    refine XS.bipush X147.here hx rfl (hb hby at_95) ?_
    exact kX
  obtain ⟨cl153, Ar153, S153, M153, H153⟩ := id fF151
  obtain ⟨T154, h154, X154, e154, W154, st154⟩ := stI X147 hx hZ e145 Ar153 (j := (16 : Int32)) (own_inb S153 M153 (by decide)) (g := (mkF m 97 #[iv i0, iv i1, .unset, .unset] [(.int (-2 : Int32)), (.int (16 : Int32)), (.ref b2), (.ref b2)])) rfl rfl (hb hby at_97)
  have pre155 : ∀ t, own_s p e below T154 m 98 #[iv i0, iv i1, .unset, .unset] [(.ref b2)] t → Steps p.tables e below S0 t := fun tX kX => pre152 _ (st154 _ kX)
  obtain ⟨LL156, X156, N156⟩ : ∃ LL, Stand p l e room_1 s m #[(.int i0), (.int i1)] below meth c T154 LL 1 47 ∧ Fr n0 LL := ⟨_, X154, Fr.snoc X154 N147 g_b2⟩
  have f157_B : own_St Z h154 K := f148_B.wr W154
  have Z158 : n0 ≤ h154.size := Nat.le_trans Z149 (Keep.of_wr W154).1
  have f159_A : own_Af Z h154 b2 .int 47 (own_up ff151 (16 : Int32).toNatClampNeg (.int (-2 : Int32))) := own_Af.set Ar153 S153 M153 H153 W154
  obtain ⟨ff160, fF160, I160⟩ : ∃ f, own_Af Z h154 b2 .int 47 f ∧ own_isI f := ⟨_, f159_A, (own_isI.up I151 _ _)⟩
  have pre161 : ∀ t, own_s p e below T154 m 103 #[iv i0, iv i1, .unset, .unset] [(.int (-3 : Int32)), (.int (17 : Int32)), (.ref b2), (.ref b2)] t → Steps p.tables e below S0 t := by
    intro tX kX
    refine pre155 _ ?_
    show own_s p e below T154 m 98 #[iv i0, iv i1, .unset, .unset] [(.ref b2)] _
    refine XS.dup X156.here hx rfl (hb hby at_98) rfl rfl ?_
    show own_s p e below T154 m 99 #[iv i0, iv i1, .unset, .unset] [(.ref b2), (.ref b2)] _
    refine XS.bipush X156.here hx rfl (hb hby at_99) ?_
    show own_s p e below T154 m 101 #[iv i0, iv i1, .unset, .unset] [(.int (17 : Int32)), (.ref b2), (.ref b2)] _
    refine XS.bipush X156.here hx rfl (hb hby at_101) ?_
    exact kX
  obtain ⟨cl162, Ar162, S162, M162, H162⟩ := id fF160
  obtain ⟨T163, h163, X163, e163, W163, st163⟩ := stI X156 hx hZ e154 Ar162 (j := (17 : Int32)) (own_inb S162 M162 (by decide)) (g := (mkF m 103 #[iv i0, iv i1, .unset, .unset] [(.int (-3 : Int32)), (.int (17 : Int32)), (.ref b2), (.ref b2)])) rfl rfl (hb hby at_103)
  have pre164 : ∀ t, own_s p e below T163 m 104 #[iv i0, iv i1, .unset, .unset] [(.ref b2)] t → Steps p.tables e below S0 t := fun tX kX => pre161 _ (st163 _ kX)
  obtain ⟨LL165, X165, N165⟩ : ∃ LL, Stand p l e room_1 s m #[(.int i0), (.int i1)] below meth c T163 LL 1 47 ∧ Fr n0 LL := ⟨_, X163, Fr.snoc X163 N156 g_b2⟩
  have f166_B : own_St Z h163 K := f157_B.wr W163
  have Z167 : n0 ≤ h163.size := Nat.le_trans Z158 (Keep.of_wr W163).1
  have f168_A : own_Af Z h163 b2 .int 47 (own_up ff160 (17 : Int32).toNatClampNeg (.int (-3 : Int32))) := own_Af.set Ar162 S162 M162 H162 W163
  obtain ⟨ff169, fF169, I169⟩ : ∃ f, own_Af Z h163 b2 .int 47 f ∧ own_isI f := ⟨_, f168_A, (own_isI.up I160 _ _)⟩
  have pre170 : ∀ t, own_s p e below T163 m 109 #[iv i0, iv i1, .unset, .unset] [(.int (-4 : Int32)), (.int (18 : Int32)), (.ref b2), (.ref b2)] t → Steps p.tables e below S0 t := by
    intro tX kX
    refine pre164 _ ?_
    show own_s p e below T163 m 104 #[iv i0, iv i1, .unset, .unset] [(.ref b2)] _
    refine XS.dup X165.here hx rfl (hb hby at_104) rfl rfl ?_
    show own_s p e below T163 m 105 #[iv i0, iv i1, .unset, .unset] [(.ref b2), (.ref b2)] _
    refine XS.bipush X165.here hx rfl (hb hby at_105) ?_
    show own_s p e below T163 m 107 #[iv i0, iv i1, .unset, .unset] [(.int (18 : Int32)), (.ref b2), (.ref b2)] _
    refine XS.bipush X165.here hx rfl (hb hby at_107) ?_
    exact kX
  obtain ⟨cl171, Ar171, S171, M171, H171⟩ := id fF169
  obtain ⟨T172, h172, X172, e172, W172, st172⟩ := stI X165 hx hZ e163 Ar171 (j := (18 : Int32)) (own_inb S171 M171 (by decide)) (g := (mkF m 109 #[iv i0, iv i1, .unset, .unset] [(.int (-4 : Int32)), (.int (18 : Int32)), (.ref b2), (.ref b2)])) rfl rfl (hb hby at_109)
  have pre173 : ∀ t, own_s p e below T172 m 110 #[iv i0, iv i1, .unset, .unset] [(.ref b2)] t → Steps p.tables e below S0 t := fun tX kX => pre170 _ (st172 _ kX)
  obtain ⟨LL174, X174, N174⟩ : ∃ LL, Stand p l e room_1 s m #[(.int i0), (.int i1)] below meth c T172 LL 1 47 ∧ Fr n0 LL := ⟨_, X172, Fr.snoc X172 N165 g_b2⟩
  have f175_B : own_St Z h172 K := f166_B.wr W172
  have Z176 : n0 ≤ h172.size := Nat.le_trans Z167 (Keep.of_wr W172).1
  have f177_A : own_Af Z h172 b2 .int 47 (own_up ff169 (18 : Int32).toNatClampNeg (.int (-4 : Int32))) := own_Af.set Ar171 S171 M171 H171 W172
  obtain ⟨ff178, fF178, I178⟩ : ∃ f, own_Af Z h172 b2 .int 47 f ∧ own_isI f := ⟨_, f177_A, (own_isI.up I169 _ _)⟩
  have pre179 : ∀ t, own_s p e below T172 m 116 #[iv i0, iv i1, .unset, .unset] [(.int (2004 : Int32)), (.int (19 : Int32)), (.ref b2), (.ref b2)] t → Steps p.tables e below S0 t := by
    intro tX kX
    refine pre173 _ ?_
    show own_s p e below T172 m 110 #[iv i0, iv i1, .unset, .unset] [(.ref b2)] _
    refine XS.dup X174.here hx rfl (hb hby at_110) rfl rfl ?_
    show own_s p e below T172 m 111 #[iv i0, iv i1, .unset, .unset] [(.ref b2), (.ref b2)] _
    refine XS.bipush X174.here hx rfl (hb hby at_111) ?_
    show own_s p e below T172 m 113 #[iv i0, iv i1, .unset, .unset] [(.int (19 : Int32)), (.ref b2), (.ref b2)] _
    refine XS.sipush X174.here hx rfl (hb hby at_113) ?_
    exact kX
  obtain ⟨cl180, Ar180, S180, M180, H180⟩ := id fF178
  obtain ⟨T181, h181, X181, e181, W181, st181⟩ := stI X174 hx hZ e172 Ar180 (j := (19 : Int32)) (own_inb S180 M180 (by decide)) (g := (mkF m 116 #[iv i0, iv i1, .unset, .unset] [(.int (2004 : Int32)), (.int (19 : Int32)), (.ref b2), (.ref b2)])) rfl rfl (hb hby at_116)
  have pre182 : ∀ t, own_s p e below T181 m 117 #[iv i0, iv i1, .unset, .unset] [(.ref b2)] t → Steps p.tables e below S0 t := fun tX kX => pre179 _ (st181 _ kX)
  obtain ⟨LL183, X183, N183⟩ : ∃ LL, Stand p l e room_1 s m #[(.int i0), (.int i1)] below meth c T181 LL 1 47 ∧ Fr n0 LL := ⟨_, X181, Fr.snoc X181 N174 g_b2⟩
  have f184_B : own_St Z h181 K := f175_B.wr W181
  have Z185 : n0 ≤ h181.size := Nat.le_trans Z176 (Keep.of_wr W181).1
  have f186_A : own_Af Z h181 b2 .int 47 (own_up ff178 (19 : Int32).toNatClampNeg (.int (2004 : Int32))) := own_Af.set Ar180 S180 M180 H180 W181
  obtain ⟨ff187, fF187, I187⟩ : ∃ f, own_Af Z h181 b2 .int 47 f ∧ own_isI f := ⟨_, f186_A, (own_isI.up I178 _ _)⟩
  have pre188 : ∀ t, own_s p e below T181 m 123 #[iv i0, iv i1, .unset, .unset] [(.int (2003 : Int32)), (.int (20 : Int32)), (.ref b2), (.ref b2)] t → Steps p.tables e below S0 t := by
    intro tX kX
    refine pre182 _ ?_
    show own_s p e below T181 m 117 #[iv i0, iv i1, .unset, .unset] [(.ref b2)] _
    refine XS.dup X183.here hx rfl (hb hby at_117) rfl rfl ?_
    show own_s p e below T181 m 118 #[iv i0, iv i1, .unset, .unset] [(.ref b2), (.ref b2)] _
    refine XS.bipush X183.here hx rfl (hb hby at_118) ?_
    show own_s p e below T181 m 120 #[iv i0, iv i1, .unset, .unset] [(.int (20 : Int32)), (.ref b2), (.ref b2)] _
    refine XS.sipush X183.here hx rfl (hb hby at_120) ?_
    exact kX
  obtain ⟨cl189, Ar189, S189, M189, H189⟩ := id fF187
  obtain ⟨T190, h190, X190, e190, W190, st190⟩ := stI X183 hx hZ e181 Ar189 (j := (20 : Int32)) (own_inb S189 M189 (by decide)) (g := (mkF m 123 #[iv i0, iv i1, .unset, .unset] [(.int (2003 : Int32)), (.int (20 : Int32)), (.ref b2), (.ref b2)])) rfl rfl (hb hby at_123)
  have pre191 : ∀ t, own_s p e below T190 m 124 #[iv i0, iv i1, .unset, .unset] [(.ref b2)] t → Steps p.tables e below S0 t := fun tX kX => pre188 _ (st190 _ kX)
  obtain ⟨LL192, X192, N192⟩ : ∃ LL, Stand p l e room_1 s m #[(.int i0), (.int i1)] below meth c T190 LL 1 47 ∧ Fr n0 LL := ⟨_, X190, Fr.snoc X190 N183 g_b2⟩
  have f193_B : own_St Z h190 K := f184_B.wr W190
  have Z194 : n0 ≤ h190.size := Nat.le_trans Z185 (Keep.of_wr W190).1
  have f195_A : own_Af Z h190 b2 .int 47 (own_up ff187 (20 : Int32).toNatClampNeg (.int (2003 : Int32))) := own_Af.set Ar189 S189 M189 H189 W190
  obtain ⟨ff196, fF196, I196⟩ : ∃ f, own_Af Z h190 b2 .int 47 f ∧ own_isI f := ⟨_, f195_A, (own_isI.up I187 _ _)⟩
  have pre197 : ∀ t, own_s p e below T190 m 130 #[iv i0, iv i1, .unset, .unset] [(.int (2009 : Int32)), (.int (21 : Int32)), (.ref b2), (.ref b2)] t → Steps p.tables e below S0 t := by
    intro tX kX
    refine pre191 _ ?_
    show own_s p e below T190 m 124 #[iv i0, iv i1, .unset, .unset] [(.ref b2)] _
    refine XS.dup X192.here hx rfl (hb hby at_124) rfl rfl ?_
    show own_s p e below T190 m 125 #[iv i0, iv i1, .unset, .unset] [(.ref b2), (.ref b2)] _
    refine XS.bipush X192.here hx rfl (hb hby at_125) ?_
    show own_s p e below T190 m 127 #[iv i0, iv i1, .unset, .unset] [(.int (21 : Int32)), (.ref b2), (.ref b2)] _
    refine XS.sipush X192.here hx rfl (hb hby at_127) ?_
    exact kX
  obtain ⟨cl198, Ar198, S198, M198, H198⟩ := id fF196
  obtain ⟨T199, h199, X199, e199, W199, st199⟩ := stI X192 hx hZ e190 Ar198 (j := (21 : Int32)) (own_inb S198 M198 (by decide)) (g := (mkF m 130 #[iv i0, iv i1, .unset, .unset] [(.int (2009 : Int32)), (.int (21 : Int32)), (.ref b2), (.ref b2)])) rfl rfl (hb hby at_130)
  have pre200 : ∀ t, own_s p e below T199 m 131 #[iv i0, iv i1, .unset, .unset] [(.ref b2)] t → Steps p.tables e below S0 t := fun tX kX => pre197 _ (st199 _ kX)
  obtain ⟨LL201, X201, N201⟩ : ∃ LL, Stand p l e room_1 s m #[(.int i0), (.int i1)] below meth c T199 LL 1 47 ∧ Fr n0 LL := ⟨_, X199, Fr.snoc X199 N192 g_b2⟩
  have f202_B : own_St Z h199 K := f193_B.wr W199
  have Z203 : n0 ≤ h199.size := Nat.le_trans Z194 (Keep.of_wr W199).1
  have f204_A : own_Af Z h199 b2 .int 47 (own_up ff196 (21 : Int32).toNatClampNeg (.int (2009 : Int32))) := own_Af.set Ar198 S198 M198 H198 W199
  obtain ⟨ff205, fF205, I205⟩ : ∃ f, own_Af Z h199 b2 .int 47 f ∧ own_isI f := ⟨_, f204_A, (own_isI.up I196 _ _)⟩
  have pre206 : ∀ t, own_s p e below T199 m 135 #[iv i0, iv i1, .unset, .unset] [(.int (1 : Int32)), (.int (22 : Int32)), (.ref b2), (.ref b2)] t → Steps p.tables e below S0 t := by
    intro tX kX
    refine pre200 _ ?_
    show own_s p e below T199 m 131 #[iv i0, iv i1, .unset, .unset] [(.ref b2)] _
    refine XS.dup X201.here hx rfl (hb hby at_131) rfl rfl ?_
    show own_s p e below T199 m 132 #[iv i0, iv i1, .unset, .unset] [(.ref b2), (.ref b2)] _
    refine XS.bipush X201.here hx rfl (hb hby at_132) ?_
    show own_s p e below T199 m 134 #[iv i0, iv i1, .unset, .unset] [(.int (22 : Int32)), (.ref b2), (.ref b2)] _
    refine XS.iconst X201.here hx rfl (hb hby at_134) ?_
    exact kX
  obtain ⟨cl207, Ar207, S207, M207, H207⟩ := id fF205
  obtain ⟨T208, h208, X208, e208, W208, st208⟩ := stI X201 hx hZ e199 Ar207 (j := (22 : Int32)) (own_inb S207 M207 (by decide)) (g := (mkF m 135 #[iv i0, iv i1, .unset, .unset] [(.int (1 : Int32)), (.int (22 : Int32)), (.ref b2), (.ref b2)])) rfl rfl (hb hby at_135)
  have pre209 : ∀ t, own_s p e below T208 m 136 #[iv i0, iv i1, .unset, .unset] [(.ref b2)] t → Steps p.tables e below S0 t := fun tX kX => pre206 _ (st208 _ kX)
  obtain ⟨LL210, X210, N210⟩ : ∃ LL, Stand p l e room_1 s m #[(.int i0), (.int i1)] below meth c T208 LL 1 47 ∧ Fr n0 LL := ⟨_, X208, Fr.snoc X208 N201 g_b2⟩
  have f211_B : own_St Z h208 K := f202_B.wr W208
  have Z212 : n0 ≤ h208.size := Nat.le_trans Z203 (Keep.of_wr W208).1
  have f213_A : own_Af Z h208 b2 .int 47 (own_up ff205 (22 : Int32).toNatClampNeg (.int (1 : Int32))) := own_Af.set Ar207 S207 M207 H207 W208
  obtain ⟨ff214, fF214, I214⟩ : ∃ f, own_Af Z h208 b2 .int 47 f ∧ own_isI f := ⟨_, f213_A, (own_isI.up I205 _ _)⟩
  have pre215 : ∀ t, own_s p e below T208 m 141 #[iv i0, iv i1, .unset, .unset] [(.int (12 : Int32)), (.int (23 : Int32)), (.ref b2), (.ref b2)] t → Steps p.tables e below S0 t := by
    intro tX kX
    refine pre209 _ ?_
    show own_s p e below T208 m 136 #[iv i0, iv i1, .unset, .unset] [(.ref b2)] _
    refine XS.dup X210.here hx rfl (hb hby at_136) rfl rfl ?_
    show own_s p e below T208 m 137 #[iv i0, iv i1, .unset, .unset] [(.ref b2), (.ref b2)] _
    refine XS.bipush X210.here hx rfl (hb hby at_137) ?_
    show own_s p e below T208 m 139 #[iv i0, iv i1, .unset, .unset] [(.int (23 : Int32)), (.ref b2), (.ref b2)] _
    refine XS.bipush X210.here hx rfl (hb hby at_139) ?_
    exact kX
  obtain ⟨cl216, Ar216, S216, M216, H216⟩ := id fF214
  obtain ⟨T217, h217, X217, e217, W217, st217⟩ := stI X210 hx hZ e208 Ar216 (j := (23 : Int32)) (own_inb S216 M216 (by decide)) (g := (mkF m 141 #[iv i0, iv i1, .unset, .unset] [(.int (12 : Int32)), (.int (23 : Int32)), (.ref b2), (.ref b2)])) rfl rfl (hb hby at_141)
  have pre218 : ∀ t, own_s p e below T217 m 142 #[iv i0, iv i1, .unset, .unset] [(.ref b2)] t → Steps p.tables e below S0 t := fun tX kX => pre215 _ (st217 _ kX)
  obtain ⟨LL219, X219, N219⟩ : ∃ LL, Stand p l e room_1 s m #[(.int i0), (.int i1)] below meth c T217 LL 1 47 ∧ Fr n0 LL := ⟨_, X217, Fr.snoc X217 N210 g_b2⟩
  have f220_B : own_St Z h217 K := f211_B.wr W217
  have Z221 : n0 ≤ h217.size := Nat.le_trans Z212 (Keep.of_wr W217).1
  have f222_A : own_Af Z h217 b2 .int 47 (own_up ff214 (23 : Int32).toNatClampNeg (.int (12 : Int32))) := own_Af.set Ar216 S216 M216 H216 W217
  obtain ⟨ff223, fF223, I223⟩ : ∃ f, own_Af Z h217 b2 .int 47 f ∧ own_isI f := ⟨_, f222_A, (own_isI.up I214 _ _)⟩
  have pre224 : ∀ t, own_s p e below T217 m 146 #[iv i0, iv i1, .unset, .unset] [(.int (-1 : Int32)), (.int (24 : Int32)), (.ref b2), (.ref b2)] t → Steps p.tables e below S0 t := by
    intro tX kX
    refine pre218 _ ?_
    show own_s p e below T217 m 142 #[iv i0, iv i1, .unset, .unset] [(.ref b2)] _
    refine XS.dup X219.here hx rfl (hb hby at_142) rfl rfl ?_
    show own_s p e below T217 m 143 #[iv i0, iv i1, .unset, .unset] [(.ref b2), (.ref b2)] _
    refine XS.bipush X219.here hx rfl (hb hby at_143) ?_
    show own_s p e below T217 m 145 #[iv i0, iv i1, .unset, .unset] [(.int (24 : Int32)), (.ref b2), (.ref b2)] _
    refine XS.iconst X219.here hx rfl (hb hby at_145) ?_
    exact kX
  obtain ⟨cl225, Ar225, S225, M225, H225⟩ := id fF223
  obtain ⟨T226, h226, X226, e226, W226, st226⟩ := stI X219 hx hZ e217 Ar225 (j := (24 : Int32)) (own_inb S225 M225 (by decide)) (g := (mkF m 146 #[iv i0, iv i1, .unset, .unset] [(.int (-1 : Int32)), (.int (24 : Int32)), (.ref b2), (.ref b2)])) rfl rfl (hb hby at_146)
  have pre227 : ∀ t, own_s p e below T226 m 147 #[iv i0, iv i1, .unset, .unset] [(.ref b2)] t → Steps p.tables e below S0 t := fun tX kX => pre224 _ (st226 _ kX)
  obtain ⟨LL228, X228, N228⟩ : ∃ LL, Stand p l e room_1 s m #[(.int i0), (.int i1)] below meth c T226 LL 1 47 ∧ Fr n0 LL := ⟨_, X226, Fr.snoc X226 N219 g_b2⟩
  have f229_B : own_St Z h226 K := f220_B.wr W226
  have Z230 : n0 ≤ h226.size := Nat.le_trans Z221 (Keep.of_wr W226).1
  have f231_A : own_Af Z h226 b2 .int 47 (own_up ff223 (24 : Int32).toNatClampNeg (.int (-1 : Int32))) := own_Af.set Ar225 S225 M225 H225 W226
  obtain ⟨ff232, fF232, I232⟩ : ∃ f, own_Af Z h226 b2 .int 47 f ∧ own_isI f := ⟨_, f231_A, (own_isI.up I223 _ _)⟩
  have pre233 : ∀ t, own_s p e below T226 m 152 #[iv i0, iv i1, .unset, .unset] [(.int (-15 : Int32)), (.int (25 : Int32)), (.ref b2), (.ref b2)] t → Steps p.tables e below S0 t := by
    intro tX kX
    refine pre227 _ ?_
    show own_s p e below T226 m 147 #[iv i0, iv i1, .unset, .unset] [(.ref b2)] _
    refine XS.dup X228.here hx rfl (hb hby at_147) rfl rfl ?_
    show own_s p e below T226 m 148 #[iv i0, iv i1, .unset, .unset] [(.ref b2), (.ref b2)] _
    refine XS.bipush X228.here hx rfl (hb hby at_148) ?_
    show own_s p e below T226 m 150 #[iv i0, iv i1, .unset, .unset] [(.int (25 : Int32)), (.ref b2), (.ref b2)] _
    refine XS.bipush X228.here hx rfl (hb hby at_150) ?_
    exact kX
  obtain ⟨cl234, Ar234, S234, M234, H234⟩ := id fF232
  obtain ⟨T235, h235, X235, e235, W235, st235⟩ := stI X228 hx hZ e226 Ar234 (j := (25 : Int32)) (own_inb S234 M234 (by decide)) (g := (mkF m 152 #[iv i0, iv i1, .unset, .unset] [(.int (-15 : Int32)), (.int (25 : Int32)), (.ref b2), (.ref b2)])) rfl rfl (hb hby at_152)
  have pre236 : ∀ t, own_s p e below T235 m 153 #[iv i0, iv i1, .unset, .unset] [(.ref b2)] t → Steps p.tables e below S0 t := fun tX kX => pre233 _ (st235 _ kX)
  obtain ⟨LL237, X237, N237⟩ : ∃ LL, Stand p l e room_1 s m #[(.int i0), (.int i1)] below meth c T235 LL 1 47 ∧ Fr n0 LL := ⟨_, X235, Fr.snoc X235 N228 g_b2⟩
  have f238_B : own_St Z h235 K := f229_B.wr W235
  have Z239 : n0 ≤ h235.size := Nat.le_trans Z230 (Keep.of_wr W235).1
  have f240_A : own_Af Z h235 b2 .int 47 (own_up ff232 (25 : Int32).toNatClampNeg (.int (-15 : Int32))) := own_Af.set Ar234 S234 M234 H234 W235
  obtain ⟨ff241, fF241, I241⟩ : ∃ f, own_Af Z h235 b2 .int 47 f ∧ own_isI f := ⟨_, f240_A, (own_isI.up I232 _ _)⟩
  have pre242 : ∀ t, own_s p e below T235 m 158 #[iv i0, iv i1, .unset, .unset] [(.int (-9 : Int32)), (.int (26 : Int32)), (.ref b2), (.ref b2)] t → Steps p.tables e below S0 t := by
    intro tX kX
    refine pre236 _ ?_
    show own_s p e below T235 m 153 #[iv i0, iv i1, .unset, .unset] [(.ref b2)] _
    refine XS.dup X237.here hx rfl (hb hby at_153) rfl rfl ?_
    show own_s p e below T235 m 154 #[iv i0, iv i1, .unset, .unset] [(.ref b2), (.ref b2)] _
    refine XS.bipush X237.here hx rfl (hb hby at_154) ?_
    show own_s p e below T235 m 156 #[iv i0, iv i1, .unset, .unset] [(.int (26 : Int32)), (.ref b2), (.ref b2)] _
    refine XS.bipush X237.here hx rfl (hb hby at_156) ?_
    exact kX
  obtain ⟨cl243, Ar243, S243, M243, H243⟩ := id fF241
  obtain ⟨T244, h244, X244, e244, W244, st244⟩ := stI X237 hx hZ e235 Ar243 (j := (26 : Int32)) (own_inb S243 M243 (by decide)) (g := (mkF m 158 #[iv i0, iv i1, .unset, .unset] [(.int (-9 : Int32)), (.int (26 : Int32)), (.ref b2), (.ref b2)])) rfl rfl (hb hby at_158)
  have pre245 : ∀ t, own_s p e below T244 m 159 #[iv i0, iv i1, .unset, .unset] [(.ref b2)] t → Steps p.tables e below S0 t := fun tX kX => pre242 _ (st244 _ kX)
  obtain ⟨LL246, X246, N246⟩ : ∃ LL, Stand p l e room_1 s m #[(.int i0), (.int i1)] below meth c T244 LL 1 47 ∧ Fr n0 LL := ⟨_, X244, Fr.snoc X244 N237 g_b2⟩
  have f247_B : own_St Z h244 K := f238_B.wr W244
  have Z248 : n0 ≤ h244.size := Nat.le_trans Z239 (Keep.of_wr W244).1
  have f249_A : own_Af Z h244 b2 .int 47 (own_up ff241 (26 : Int32).toNatClampNeg (.int (-9 : Int32))) := own_Af.set Ar243 S243 M243 H243 W244
  obtain ⟨ff250, fF250, I250⟩ : ∃ f, own_Af Z h244 b2 .int 47 f ∧ own_isI f := ⟨_, f249_A, (own_isI.up I241 _ _)⟩
  have pre251 : ∀ t, own_s p e below T244 m 164 #[iv i0, iv i1, .unset, .unset] [(.int (-16 : Int32)), (.int (27 : Int32)), (.ref b2), (.ref b2)] t → Steps p.tables e below S0 t := by
    intro tX kX
    refine pre245 _ ?_
    show own_s p e below T244 m 159 #[iv i0, iv i1, .unset, .unset] [(.ref b2)] _
    refine XS.dup X246.here hx rfl (hb hby at_159) rfl rfl ?_
    show own_s p e below T244 m 160 #[iv i0, iv i1, .unset, .unset] [(.ref b2), (.ref b2)] _
    refine XS.bipush X246.here hx rfl (hb hby at_160) ?_
    show own_s p e below T244 m 162 #[iv i0, iv i1, .unset, .unset] [(.int (27 : Int32)), (.ref b2), (.ref b2)] _
    refine XS.bipush X246.here hx rfl (hb hby at_162) ?_
    exact kX
  obtain ⟨cl252, Ar252, S252, M252, H252⟩ := id fF250
  obtain ⟨T253, h253, X253, e253, W253, st253⟩ := stI X246 hx hZ e244 Ar252 (j := (27 : Int32)) (own_inb S252 M252 (by decide)) (g := (mkF m 164 #[iv i0, iv i1, .unset, .unset] [(.int (-16 : Int32)), (.int (27 : Int32)), (.ref b2), (.ref b2)])) rfl rfl (hb hby at_164)
  have pre254 : ∀ t, own_s p e below T253 m 165 #[iv i0, iv i1, .unset, .unset] [(.ref b2)] t → Steps p.tables e below S0 t := fun tX kX => pre251 _ (st253 _ kX)
  obtain ⟨LL255, X255, N255⟩ : ∃ LL, Stand p l e room_1 s m #[(.int i0), (.int i1)] below meth c T253 LL 1 47 ∧ Fr n0 LL := ⟨_, X253, Fr.snoc X253 N246 g_b2⟩
  have f256_B : own_St Z h253 K := f247_B.wr W253
  have Z257 : n0 ≤ h253.size := Nat.le_trans Z248 (Keep.of_wr W253).1
  have f258_A : own_Af Z h253 b2 .int 47 (own_up ff250 (27 : Int32).toNatClampNeg (.int (-16 : Int32))) := own_Af.set Ar252 S252 M252 H252 W253
  obtain ⟨ff259, fF259, I259⟩ : ∃ f, own_Af Z h253 b2 .int 47 f ∧ own_isI f := ⟨_, f258_A, (own_isI.up I250 _ _)⟩
  have pre260 : ∀ t, own_s p e below T253 m 171 #[iv i0, iv i1, .unset, .unset] [(.int (2005 : Int32)), (.int (28 : Int32)), (.ref b2), (.ref b2)] t → Steps p.tables e below S0 t := by
    intro tX kX
    refine pre254 _ ?_
    show own_s p e below T253 m 165 #[iv i0, iv i1, .unset, .unset] [(.ref b2)] _
    refine XS.dup X255.here hx rfl (hb hby at_165) rfl rfl ?_
    show own_s p e below T253 m 166 #[iv i0, iv i1, .unset, .unset] [(.ref b2), (.ref b2)] _
    refine XS.bipush X255.here hx rfl (hb hby at_166) ?_
    show own_s p e below T253 m 168 #[iv i0, iv i1, .unset, .unset] [(.int (28 : Int32)), (.ref b2), (.ref b2)] _
    refine XS.sipush X255.here hx rfl (hb hby at_168) ?_
    exact kX
  obtain ⟨cl261, Ar261, S261, M261, H261⟩ := id fF259
  obtain ⟨T262, h262, X262, e262, W262, st262⟩ := stI X255 hx hZ e253 Ar261 (j := (28 : Int32)) (own_inb S261 M261 (by decide)) (g := (mkF m 171 #[iv i0, iv i1, .unset, .unset] [(.int (2005 : Int32)), (.int (28 : Int32)), (.ref b2), (.ref b2)])) rfl rfl (hb hby at_171)
  have pre263 : ∀ t, own_s p e below T262 m 172 #[iv i0, iv i1, .unset, .unset] [(.ref b2)] t → Steps p.tables e below S0 t := fun tX kX => pre260 _ (st262 _ kX)
  obtain ⟨LL264, X264, N264⟩ : ∃ LL, Stand p l e room_1 s m #[(.int i0), (.int i1)] below meth c T262 LL 1 47 ∧ Fr n0 LL := ⟨_, X262, Fr.snoc X262 N255 g_b2⟩
  have f265_B : own_St Z h262 K := f256_B.wr W262
  have Z266 : n0 ≤ h262.size := Nat.le_trans Z257 (Keep.of_wr W262).1
  have f267_A : own_Af Z h262 b2 .int 47 (own_up ff259 (28 : Int32).toNatClampNeg (.int (2005 : Int32))) := own_Af.set Ar261 S261 M261 H261 W262
  obtain ⟨ff268, fF268, I268⟩ : ∃ f, own_Af Z h262 b2 .int 47 f ∧ own_isI f := ⟨_, f267_A, (own_isI.up I259 _ _)⟩
  have pre269 : ∀ t, own_s p e below T262 m 178 #[iv i0, iv i1, .unset, .unset] [(.int (2011 : Int32)), (.int (29 : Int32)), (.ref b2), (.ref b2)] t → Steps p.tables e below S0 t := by
    intro tX kX
    refine pre263 _ ?_
    show own_s p e below T262 m 172 #[iv i0, iv i1, .unset, .unset] [(.ref b2)] _
    refine XS.dup X264.here hx rfl (hb hby at_172) rfl rfl ?_
    show own_s p e below T262 m 173 #[iv i0, iv i1, .unset, .unset] [(.ref b2), (.ref b2)] _
    refine XS.bipush X264.here hx rfl (hb hby at_173) ?_
    show own_s p e below T262 m 175 #[iv i0, iv i1, .unset, .unset] [(.int (29 : Int32)), (.ref b2), (.ref b2)] _
    refine XS.sipush X264.here hx rfl (hb hby at_175) ?_
    exact kX
  obtain ⟨cl270, Ar270, S270, M270, H270⟩ := id fF268
  obtain ⟨T271, h271, X271, e271, W271, st271⟩ := stI X264 hx hZ e262 Ar270 (j := (29 : Int32)) (own_inb S270 M270 (by decide)) (g := (mkF m 178 #[iv i0, iv i1, .unset, .unset] [(.int (2011 : Int32)), (.int (29 : Int32)), (.ref b2), (.ref b2)])) rfl rfl (hb hby at_178)
  have pre272 : ∀ t, own_s p e below T271 m 179 #[iv i0, iv i1, .unset, .unset] [(.ref b2)] t → Steps p.tables e below S0 t := fun tX kX => pre269 _ (st271 _ kX)
  obtain ⟨LL273, X273, N273⟩ : ∃ LL, Stand p l e room_1 s m #[(.int i0), (.int i1)] below meth c T271 LL 1 47 ∧ Fr n0 LL := ⟨_, X271, Fr.snoc X271 N264 g_b2⟩
  have f274_B : own_St Z h271 K := f265_B.wr W271
  have Z275 : n0 ≤ h271.size := Nat.le_trans Z266 (Keep.of_wr W271).1
  have f276_A : own_Af Z h271 b2 .int 47 (own_up ff268 (29 : Int32).toNatClampNeg (.int (2011 : Int32))) := own_Af.set Ar270 S270 M270 H270 W271
  obtain ⟨ff277, fF277, I277⟩ : ∃ f, own_Af Z h271 b2 .int 47 f ∧ own_isI f := ⟨_, f276_A, (own_isI.up I268 _ _)⟩
  have pre278 : ∀ t, own_s p e below T271 m 183 #[iv i0, iv i1, .unset, .unset] [(.int (0 : Int32)), (.int (30 : Int32)), (.ref b2), (.ref b2)] t → Steps p.tables e below S0 t := by
    intro tX kX
    refine pre272 _ ?_
    show own_s p e below T271 m 179 #[iv i0, iv i1, .unset, .unset] [(.ref b2)] _
    refine XS.dup X273.here hx rfl (hb hby at_179) rfl rfl ?_
    show own_s p e below T271 m 180 #[iv i0, iv i1, .unset, .unset] [(.ref b2), (.ref b2)] _
    refine XS.bipush X273.here hx rfl (hb hby at_180) ?_
    show own_s p e below T271 m 182 #[iv i0, iv i1, .unset, .unset] [(.int (30 : Int32)), (.ref b2), (.ref b2)] _
    refine XS.iconst X273.here hx rfl (hb hby at_182) ?_
    exact kX
  obtain ⟨cl279, Ar279, S279, M279, H279⟩ := id fF277
  obtain ⟨T280, h280, X280, e280, W280, st280⟩ := stI X273 hx hZ e271 Ar279 (j := (30 : Int32)) (own_inb S279 M279 (by decide)) (g := (mkF m 183 #[iv i0, iv i1, .unset, .unset] [(.int (0 : Int32)), (.int (30 : Int32)), (.ref b2), (.ref b2)])) rfl rfl (hb hby at_183)
  have pre281 : ∀ t, own_s p e below T280 m 184 #[iv i0, iv i1, .unset, .unset] [(.ref b2)] t → Steps p.tables e below S0 t := fun tX kX => pre278 _ (st280 _ kX)
  obtain ⟨LL282, X282, N282⟩ : ∃ LL, Stand p l e room_1 s m #[(.int i0), (.int i1)] below meth c T280 LL 1 47 ∧ Fr n0 LL := ⟨_, X280, Fr.snoc X280 N273 g_b2⟩
  have f283_B : own_St Z h280 K := f274_B.wr W280
  have Z284 : n0 ≤ h280.size := Nat.le_trans Z275 (Keep.of_wr W280).1
  have f285_A : own_Af Z h280 b2 .int 47 (own_up ff277 (30 : Int32).toNatClampNeg (.int (0 : Int32))) := own_Af.set Ar279 S279 M279 H279 W280
  obtain ⟨ff286, fF286, I286⟩ : ∃ f, own_Af Z h280 b2 .int 47 f ∧ own_isI f := ⟨_, f285_A, (own_isI.up I277 _ _)⟩
  have pre287 : ∀ t, own_s p e below T280 m 190 #[iv i0, iv i1, .unset, .unset] [(.int (1111 : Int32)), (.int (31 : Int32)), (.ref b2), (.ref b2)] t → Steps p.tables e below S0 t := by
    intro tX kX
    refine pre281 _ ?_
    show own_s p e below T280 m 184 #[iv i0, iv i1, .unset, .unset] [(.ref b2)] _
    refine XS.dup X282.here hx rfl (hb hby at_184) rfl rfl ?_
    show own_s p e below T280 m 185 #[iv i0, iv i1, .unset, .unset] [(.ref b2), (.ref b2)] _
    refine XS.bipush X282.here hx rfl (hb hby at_185) ?_
    show own_s p e below T280 m 187 #[iv i0, iv i1, .unset, .unset] [(.int (31 : Int32)), (.ref b2), (.ref b2)] _
    refine XS.sipush X282.here hx rfl (hb hby at_187) ?_
    exact kX
  obtain ⟨cl288, Ar288, S288, M288, H288⟩ := id fF286
  obtain ⟨T289, h289, X289, e289, W289, st289⟩ := stI X282 hx hZ e280 Ar288 (j := (31 : Int32)) (own_inb S288 M288 (by decide)) (g := (mkF m 190 #[iv i0, iv i1, .unset, .unset] [(.int (1111 : Int32)), (.int (31 : Int32)), (.ref b2), (.ref b2)])) rfl rfl (hb hby at_190)
  have pre290 : ∀ t, own_s p e below T289 m 191 #[iv i0, iv i1, .unset, .unset] [(.ref b2)] t → Steps p.tables e below S0 t := fun tX kX => pre287 _ (st289 _ kX)
  obtain ⟨LL291, X291, N291⟩ : ∃ LL, Stand p l e room_1 s m #[(.int i0), (.int i1)] below meth c T289 LL 1 47 ∧ Fr n0 LL := ⟨_, X289, Fr.snoc X289 N282 g_b2⟩
  have f292_B : own_St Z h289 K := f283_B.wr W289
  have Z293 : n0 ≤ h289.size := Nat.le_trans Z284 (Keep.of_wr W289).1
  have f294_A : own_Af Z h289 b2 .int 47 (own_up ff286 (31 : Int32).toNatClampNeg (.int (1111 : Int32))) := own_Af.set Ar288 S288 M288 H288 W289
  obtain ⟨ff295, fF295, I295⟩ : ∃ f, own_Af Z h289 b2 .int 47 f ∧ own_isI f := ⟨_, f294_A, (own_isI.up I286 _ _)⟩
  have pre296 : ∀ t, own_s p e below T289 m 197 #[iv i0, iv i1, .unset, .unset] [(.int (2000 : Int32)), (.int (32 : Int32)), (.ref b2), (.ref b2)] t → Steps p.tables e below S0 t := by
    intro tX kX
    refine pre290 _ ?_
    show own_s p e below T289 m 191 #[iv i0, iv i1, .unset, .unset] [(.ref b2)] _
    refine XS.dup X291.here hx rfl (hb hby at_191) rfl rfl ?_
    show own_s p e below T289 m 192 #[iv i0, iv i1, .unset, .unset] [(.ref b2), (.ref b2)] _
    refine XS.bipush X291.here hx rfl (hb hby at_192) ?_
    show own_s p e below T289 m 194 #[iv i0, iv i1, .unset, .unset] [(.int (32 : Int32)), (.ref b2), (.ref b2)] _
    refine XS.sipush X291.here hx rfl (hb hby at_194) ?_
    exact kX
  obtain ⟨cl297, Ar297, S297, M297, H297⟩ := id fF295
  obtain ⟨T298, h298, X298, e298, W298, st298⟩ := stI X291 hx hZ e289 Ar297 (j := (32 : Int32)) (own_inb S297 M297 (by decide)) (g := (mkF m 197 #[iv i0, iv i1, .unset, .unset] [(.int (2000 : Int32)), (.int (32 : Int32)), (.ref b2), (.ref b2)])) rfl rfl (hb hby at_197)
  have pre299 : ∀ t, own_s p e below T298 m 198 #[iv i0, iv i1, .unset, .unset] [(.ref b2)] t → Steps p.tables e below S0 t := fun tX kX => pre296 _ (st298 _ kX)
  obtain ⟨LL300, X300, N300⟩ : ∃ LL, Stand p l e room_1 s m #[(.int i0), (.int i1)] below meth c T298 LL 1 47 ∧ Fr n0 LL := ⟨_, X298, Fr.snoc X298 N291 g_b2⟩
  have f301_B : own_St Z h298 K := f292_B.wr W298
  have Z302 : n0 ≤ h298.size := Nat.le_trans Z293 (Keep.of_wr W298).1
  have f303_A : own_Af Z h298 b2 .int 47 (own_up ff295 (32 : Int32).toNatClampNeg (.int (2000 : Int32))) := own_Af.set Ar297 S297 M297 H297 W298
  obtain ⟨ff304, fF304, I304⟩ : ∃ f, own_Af Z h298 b2 .int 47 f ∧ own_isI f := ⟨_, f303_A, (own_isI.up I295 _ _)⟩
  have pre305 : ∀ t, own_s p e below T298 m 204 #[iv i0, iv i1, .unset, .unset] [(.int (2001 : Int32)), (.int (33 : Int32)), (.ref b2), (.ref b2)] t → Steps p.tables e below S0 t := by
    intro tX kX
    refine pre299 _ ?_
    show own_s p e below T298 m 198 #[iv i0, iv i1, .unset, .unset] [(.ref b2)] _
    refine XS.dup X300.here hx rfl (hb hby at_198) rfl rfl ?_
    show own_s p e below T298 m 199 #[iv i0, iv i1, .unset, .unset] [(.ref b2), (.ref b2)] _
    refine XS.bipush X300.here hx rfl (hb hby at_199) ?_
    show own_s p e below T298 m 201 #[iv i0, iv i1, .unset, .unset] [(.int (33 : Int32)), (.ref b2), (.ref b2)] _
    refine XS.sipush X300.here hx rfl (hb hby at_201) ?_
    exact kX
  obtain ⟨cl306, Ar306, S306, M306, H306⟩ := id fF304
  obtain ⟨T307, h307, X307, e307, W307, st307⟩ := stI X300 hx hZ e298 Ar306 (j := (33 : Int32)) (own_inb S306 M306 (by decide)) (g := (mkF m 204 #[iv i0, iv i1, .unset, .unset] [(.int (2001 : Int32)), (.int (33 : Int32)), (.ref b2), (.ref b2)])) rfl rfl (hb hby at_204)
  have pre308 : ∀ t, own_s p e below T307 m 205 #[iv i0, iv i1, .unset, .unset] [(.ref b2)] t → Steps p.tables e below S0 t := fun tX kX => pre305 _ (st307 _ kX)
  obtain ⟨LL309, X309, N309⟩ : ∃ LL, Stand p l e room_1 s m #[(.int i0), (.int i1)] below meth c T307 LL 1 47 ∧ Fr n0 LL := ⟨_, X307, Fr.snoc X307 N300 g_b2⟩
  have f310_B : own_St Z h307 K := f301_B.wr W307
  have Z311 : n0 ≤ h307.size := Nat.le_trans Z302 (Keep.of_wr W307).1
  have f312_A : own_Af Z h307 b2 .int 47 (own_up ff304 (33 : Int32).toNatClampNeg (.int (2001 : Int32))) := own_Af.set Ar306 S306 M306 H306 W307
  obtain ⟨ff313, fF313, I313⟩ : ∃ f, own_Af Z h307 b2 .int 47 f ∧ own_isI f := ⟨_, f312_A, (own_isI.up I304 _ _)⟩
  have pre314 : ∀ t, own_s p e below T307 m 211 #[iv i0, iv i1, .unset, .unset] [(.int (2002 : Int32)), (.int (34 : Int32)), (.ref b2), (.ref b2)] t → Steps p.tables e below S0 t := by
    intro tX kX
    refine pre308 _ ?_
    show own_s p e below T307 m 205 #[iv i0, iv i1, .unset, .unset] [(.ref b2)] _
    refine XS.dup X309.here hx rfl (hb hby at_205) rfl rfl ?_
    show own_s p e below T307 m 206 #[iv i0, iv i1, .unset, .unset] [(.ref b2), (.ref b2)] _
    refine XS.bipush X309.here hx rfl (hb hby at_206) ?_
    show own_s p e below T307 m 208 #[iv i0, iv i1, .unset, .unset] [(.int (34 : Int32)), (.ref b2), (.ref b2)] _
    refine XS.sipush X309.here hx rfl (hb hby at_208) ?_
    exact kX
  obtain ⟨cl315, Ar315, S315, M315, H315⟩ := id fF313
  obtain ⟨T316, h316, X316, e316, W316, st316⟩ := stI X309 hx hZ e307 Ar315 (j := (34 : Int32)) (own_inb S315 M315 (by decide)) (g := (mkF m 211 #[iv i0, iv i1, .unset, .unset] [(.int (2002 : Int32)), (.int (34 : Int32)), (.ref b2), (.ref b2)])) rfl rfl (hb hby at_211)
  have pre317 : ∀ t, own_s p e below T316 m 212 #[iv i0, iv i1, .unset, .unset] [(.ref b2)] t → Steps p.tables e below S0 t := fun tX kX => pre314 _ (st316 _ kX)
  obtain ⟨LL318, X318, N318⟩ : ∃ LL, Stand p l e room_1 s m #[(.int i0), (.int i1)] below meth c T316 LL 1 47 ∧ Fr n0 LL := ⟨_, X316, Fr.snoc X316 N309 g_b2⟩
  have f319_B : own_St Z h316 K := f310_B.wr W316
  have Z320 : n0 ≤ h316.size := Nat.le_trans Z311 (Keep.of_wr W316).1
  have f321_A : own_Af Z h316 b2 .int 47 (own_up ff313 (34 : Int32).toNatClampNeg (.int (2002 : Int32))) := own_Af.set Ar315 S315 M315 H315 W316
  obtain ⟨ff322, fF322, I322⟩ : ∃ f, own_Af Z h316 b2 .int 47 f ∧ own_isI f := ⟨_, f321_A, (own_isI.up I313 _ _)⟩
  have pre323 : ∀ t, own_s p e below T316 m 218 #[iv i0, iv i1, .unset, .unset] [(.int (2006 : Int32)), (.int (35 : Int32)), (.ref b2), (.ref b2)] t → Steps p.tables e below S0 t := by
    intro tX kX
    refine pre317 _ ?_
    show own_s p e below T316 m 212 #[iv i0, iv i1, .unset, .unset] [(.ref b2)] _
    refine XS.dup X318.here hx rfl (hb hby at_212) rfl rfl ?_
    show own_s p e below T316 m 213 #[iv i0, iv i1, .unset, .unset] [(.ref b2), (.ref b2)] _
    refine XS.bipush X318.here hx rfl (hb hby at_213) ?_
    show own_s p e below T316 m 215 #[iv i0, iv i1, .unset, .unset] [(.int (35 : Int32)), (.ref b2), (.ref b2)] _
    refine XS.sipush X318.here hx rfl (hb hby at_215) ?_
    exact kX
  obtain ⟨cl324, Ar324, S324, M324, H324⟩ := id fF322
  obtain ⟨T325, h325, X325, e325, W325, st325⟩ := stI X318 hx hZ e316 Ar324 (j := (35 : Int32)) (own_inb S324 M324 (by decide)) (g := (mkF m 218 #[iv i0, iv i1, .unset, .unset] [(.int (2006 : Int32)), (.int (35 : Int32)), (.ref b2), (.ref b2)])) rfl rfl (hb hby at_218)
  have pre326 : ∀ t, own_s p e below T325 m 219 #[iv i0, iv i1, .unset, .unset] [(.ref b2)] t → Steps p.tables e below S0 t := fun tX kX => pre323 _ (st325 _ kX)
  obtain ⟨LL327, X327, N327⟩ : ∃ LL, Stand p l e room_1 s m #[(.int i0), (.int i1)] below meth c T325 LL 1 47 ∧ Fr n0 LL := ⟨_, X325, Fr.snoc X325 N318 g_b2⟩
  have f328_B : own_St Z h325 K := f319_B.wr W325
  have Z329 : n0 ≤ h325.size := Nat.le_trans Z320 (Keep.of_wr W325).1
  have f330_A : own_Af Z h325 b2 .int 47 (own_up ff322 (35 : Int32).toNatClampNeg (.int (2006 : Int32))) := own_Af.set Ar324 S324 M324 H324 W325
  obtain ⟨ff331, fF331, I331⟩ : ∃ f, own_Af Z h325 b2 .int 47 f ∧ own_isI f := ⟨_, f330_A, (own_isI.up I322 _ _)⟩
  have pre332 : ∀ t, own_s p e below T325 m 224 #[iv i0, iv i1, .unset, .unset] [(.int (70 : Int32)), (.int (36 : Int32)), (.ref b2), (.ref b2)] t → Steps p.tables e below S0 t := by
    intro tX kX
    refine pre326 _ ?_
    show own_s p e below T325 m 219 #[iv i0, iv i1, .unset, .unset] [(.ref b2)] _
    refine XS.dup X327.here hx rfl (hb hby at_219) rfl rfl ?_
    show own_s p e below T325 m 220 #[iv i0, iv i1, .unset, .unset] [(.ref b2), (.ref b2)] _
    refine XS.bipush X327.here hx rfl (hb hby at_220) ?_
    show own_s p e below T325 m 222 #[iv i0, iv i1, .unset, .unset] [(.int (36 : Int32)), (.ref b2), (.ref b2)] _
    refine XS.bipush X327.here hx rfl (hb hby at_222) ?_
    exact kX
  obtain ⟨cl333, Ar333, S333, M333, H333⟩ := id fF331
  obtain ⟨T334, h334, X334, e334, W334, st334⟩ := stI X327 hx hZ e325 Ar333 (j := (36 : Int32)) (own_inb S333 M333 (by decide)) (g := (mkF m 224 #[iv i0, iv i1, .unset, .unset] [(.int (70 : Int32)), (.int (36 : Int32)), (.ref b2), (.ref b2)])) rfl rfl (hb hby at_224)
  have pre335 : ∀ t, own_s p e below T334 m 225 #[iv i0, iv i1, .unset, .unset] [(.ref b2)] t → Steps p.tables e below S0 t := fun tX kX => pre332 _ (st334 _ kX)
  obtain ⟨LL336, X336, N336⟩ : ∃ LL, Stand p l e room_1 s m #[(.int i0), (.int i1)] below meth c T334 LL 1 47 ∧ Fr n0 LL := ⟨_, X334, Fr.snoc X334 N327 g_b2⟩
  have f337_B : own_St Z h334 K := f328_B.wr W334
  have Z338 : n0 ≤ h334.size := Nat.le_trans Z329 (Keep.of_wr W334).1
  have f339_A : own_Af Z h334 b2 .int 47 (own_up ff331 (36 : Int32).toNatClampNeg (.int (70 : Int32))) := own_Af.set Ar333 S333 M333 H333 W334
  obtain ⟨ff340, fF340, I340⟩ : ∃ f, own_Af Z h334 b2 .int 47 f ∧ own_isI f := ⟨_, f339_A, (own_isI.up I331 _ _)⟩
  have pre341 : ∀ t, own_s p e below T334 m 230 #[iv i0, iv i1, .unset, .unset] [(.int (-8 : Int32)), (.int (37 : Int32)), (.ref b2), (.ref b2)] t → Steps p.tables e below S0 t := by
    intro tX kX
    refine pre335 _ ?_
    show own_s p e below T334 m 225 #[iv i0, iv i1, .unset, .unset] [(.ref b2)] _
    refine XS.dup X336.here hx rfl (hb hby at_225) rfl rfl ?_
    show own_s p e below T334 m 226 #[iv i0, iv i1, .unset, .unset] [(.ref b2), (.ref b2)] _
    refine XS.bipush X336.here hx rfl (hb hby at_226) ?_
    show own_s p e below T334 m 228 #[iv i0, iv i1, .unset, .unset] [(.int (37 : Int32)), (.ref b2), (.ref b2)] _
    refine XS.bipush X336.here hx rfl (hb hby at_228) ?_
    exact kX
  obtain ⟨cl342, Ar342, S342, M342, H342⟩ := id fF340
  obtain ⟨T343, h343, X343, e343, W343, st343⟩ := stI X336 hx hZ e334 Ar342 (j := (37 : Int32)) (own_inb S342 M342 (by decide)) (g := (mkF m 230 #[iv i0, iv i1, .unset, .unset] [(.int (-8 : Int32)), (.int (37 : Int32)), (.ref b2), (.ref b2)])) rfl rfl (hb hby at_230)
  have pre344 : ∀ t, own_s p e below T343 m 231 #[iv i0, iv i1, .unset, .unset] [(.ref b2)] t → Steps p.tables e below S0 t := fun tX kX => pre341 _ (st343 _ kX)
  obtain ⟨LL345, X345, N345⟩ : ∃ LL, Stand p l e room_1 s m #[(.int i0), (.int i1)] below meth c T343 LL 1 47 ∧ Fr n0 LL := ⟨_, X343, Fr.snoc X343 N336 g_b2⟩
  have f346_B : own_St Z h343 K := f337_B.wr W343
  have Z347 : n0 ≤ h343.size := Nat.le_trans Z338 (Keep.of_wr W343).1
  have f348_A : own_Af Z h343 b2 .int 47 (own_up ff340 (37 : Int32).toNatClampNeg (.int (-8 : Int32))) := own_Af.set Ar342 S342 M342 H342 W343
  obtain ⟨ff349, fF349, I349⟩ : ∃ f, own_Af Z h343 b2 .int 47 f ∧ own_isI f := ⟨_, f348_A, (own_isI.up I340 _ _)⟩
  have pre350 : ∀ t, own_s p e below T343 m 237 #[iv i0, iv i1, .unset, .unset] [(.int (2012 : Int32)), (.int (38 : Int32)), (.ref b2), (.ref b2)] t → Steps p.tables e below S0 t := by
    intro tX kX
    refine pre344 _ ?_
    show own_s p e below T343 m 231 #[iv i0, iv i1, .unset, .unset] [(.ref b2)] _
    refine XS.dup X345.here hx rfl (hb hby at_231) rfl rfl ?_
    show own_s p e below T343 m 232 #[iv i0, iv i1, .unset, .unset] [(.ref b2), (.ref b2)] _
    refine XS.bipush X345.here hx rfl (hb hby at_232) ?_
    show own_s p e below T343 m 234 #[iv i0, iv i1, .unset, .unset] [(.int (38 : Int32)), (.ref b2), (.ref b2)] _
    refine XS.sipush X345.here hx rfl (hb hby at_234) ?_
    exact kX
  obtain ⟨cl351, Ar351, S351, M351, H351⟩ := id fF349
  obtain ⟨T352, h352, X352, e352, W352, st352⟩ := stI X345 hx hZ e343 Ar351 (j := (38 : Int32)) (own_inb S351 M351 (by decide)) (g := (mkF m 237 #[iv i0, iv i1, .unset, .unset] [(.int (2012 : Int32)), (.int (38 : Int32)), (.ref b2), (.ref b2)])) rfl rfl (hb hby at_237)
  have pre353 : ∀ t, own_s p e below T352 m 238 #[iv i0, iv i1, .unset, .unset] [(.ref b2)] t → Steps p.tables e below S0 t := fun tX kX => pre350 _ (st352 _ kX)
  obtain ⟨LL354, X354, N354⟩ : ∃ LL, Stand p l e room_1 s m #[(.int i0), (.int i1)] below meth c T352 LL 1 47 ∧ Fr n0 LL := ⟨_, X352, Fr.snoc X352 N345 g_b2⟩
  have f355_B : own_St Z h352 K := f346_B.wr W352
  have Z356 : n0 ≤ h352.size := Nat.le_trans Z347 (Keep.of_wr W352).1
  have f357_A : own_Af Z h352 b2 .int 47 (own_up ff349 (38 : Int32).toNatClampNeg (.int (2012 : Int32))) := own_Af.set Ar351 S351 M351 H351 W352
  obtain ⟨ff358, fF358, I358⟩ : ∃ f, own_Af Z h352 b2 .int 47 f ∧ own_isI f := ⟨_, f357_A, (own_isI.up I349 _ _)⟩
  have pre359 : ∀ t, own_s p e below T352 m 243 #[iv i0, iv i1, .unset, .unset] [(.int (9 : Int32)), (.int (39 : Int32)), (.ref b2), (.ref b2)] t → Steps p.tables e below S0 t := by
    intro tX kX
    refine pre353 _ ?_
    show own_s p e below T352 m 238 #[iv i0, iv i1, .unset, .unset] [(.ref b2)] _
    refine XS.dup X354.here hx rfl (hb hby at_238) rfl rfl ?_
    show own_s p e below T352 m 239 #[iv i0, iv i1, .unset, .unset] [(.ref b2), (.ref b2)] _
    refine XS.bipush X354.here hx rfl (hb hby at_239) ?_
    show own_s p e below T352 m 241 #[iv i0, iv i1, .unset, .unset] [(.int (39 : Int32)), (.ref b2), (.ref b2)] _
    refine XS.bipush X354.here hx rfl (hb hby at_241) ?_
    exact kX
  obtain ⟨cl360, Ar360, S360, M360, H360⟩ := id fF358
  obtain ⟨T361, h361, X361, e361, W361, st361⟩ := stI X354 hx hZ e352 Ar360 (j := (39 : Int32)) (own_inb S360 M360 (by decide)) (g := (mkF m 243 #[iv i0, iv i1, .unset, .unset] [(.int (9 : Int32)), (.int (39 : Int32)), (.ref b2), (.ref b2)])) rfl rfl (hb hby at_243)
  have pre362 : ∀ t, own_s p e below T361 m 244 #[iv i0, iv i1, .unset, .unset] [(.ref b2)] t → Steps p.tables e below S0 t := fun tX kX => pre359 _ (st361 _ kX)
  obtain ⟨LL363, X363, N363⟩ : ∃ LL, Stand p l e room_1 s m #[(.int i0), (.int i1)] below meth c T361 LL 1 47 ∧ Fr n0 LL := ⟨_, X361, Fr.snoc X361 N354 g_b2⟩
  have f364_B : own_St Z h361 K := f355_B.wr W361
  have Z365 : n0 ≤ h361.size := Nat.le_trans Z356 (Keep.of_wr W361).1
  have f366_A : own_Af Z h361 b2 .int 47 (own_up ff358 (39 : Int32).toNatClampNeg (.int (9 : Int32))) := own_Af.set Ar360 S360 M360 H360 W361
  obtain ⟨ff367, fF367, I367⟩ : ∃ f, own_Af Z h361 b2 .int 47 f ∧ own_isI f := ⟨_, f366_A, (own_isI.up I358 _ _)⟩
  have pre368 : ∀ t, own_s p e below T361 m 249 #[iv i0, iv i1, .unset, .unset] [(.int (10 : Int32)), (.int (40 : Int32)), (.ref b2), (.ref b2)] t → Steps p.tables e below S0 t := by
    intro tX kX
    refine pre362 _ ?_
    show own_s p e below T361 m 244 #[iv i0, iv i1, .unset, .unset] [(.ref b2)] _
    refine XS.dup X363.here hx rfl (hb hby at_244) rfl rfl ?_
    show own_s p e below T361 m 245 #[iv i0, iv i1, .unset, .unset] [(.ref b2), (.ref b2)] _
    refine XS.bipush X363.here hx rfl (hb hby at_245) ?_
    show own_s p e below T361 m 247 #[iv i0, iv i1, .unset, .unset] [(.int (40 : Int32)), (.ref b2), (.ref b2)] _
    refine XS.bipush X363.here hx rfl (hb hby at_247) ?_
    exact kX
  obtain ⟨cl369, Ar369, S369, M369, H369⟩ := id fF367
  obtain ⟨T370, h370, X370, e370, W370, st370⟩ := stI X363 hx hZ e361 Ar369 (j := (40 : Int32)) (own_inb S369 M369 (by decide)) (g := (mkF m 249 #[iv i0, iv i1, .unset, .unset] [(.int (10 : Int32)), (.int (40 : Int32)), (.ref b2), (.ref b2)])) rfl rfl (hb hby at_249)
  have pre371 : ∀ t, own_s p e below T370 m 250 #[iv i0, iv i1, .unset, .unset] [(.ref b2)] t → Steps p.tables e below S0 t := fun tX kX => pre368 _ (st370 _ kX)
  obtain ⟨LL372, X372, N372⟩ : ∃ LL, Stand p l e room_1 s m #[(.int i0), (.int i1)] below meth c T370 LL 1 47 ∧ Fr n0 LL := ⟨_, X370, Fr.snoc X370 N363 g_b2⟩
  have f373_B : own_St Z h370 K := f364_B.wr W370
  have Z374 : n0 ≤ h370.size := Nat.le_trans Z365 (Keep.of_wr W370).1
  have f375_A : own_Af Z h370 b2 .int 47 (own_up ff367 (40 : Int32).toNatClampNeg (.int (10 : Int32))) := own_Af.set Ar369 S369 M369 H369 W370
  obtain ⟨ff376, fF376, I376⟩ : ∃ f, own_Af Z h370 b2 .int 47 f ∧ own_isI f := ⟨_, f375_A, (own_isI.up I367 _ _)⟩
  have pre377 : ∀ t, own_s p e below T370 m 255 #[iv i0, iv i1, .unset, .unset] [(.int (11 : Int32)), (.int (41 : Int32)), (.ref b2), (.ref b2)] t → Steps p.tables e below S0 t := by
    intro tX kX
    refine pre371 _ ?_
    show own_s p e below T370 m 250 #[iv i0, iv i1, .unset, .unset] [(.ref b2)] _
    refine XS.dup X372.here hx rfl (hb hby at_250) rfl rfl ?_
    show own_s p e below T370 m 251 #[iv i0, iv i1, .unset, .unset] [(.ref b2), (.ref b2)] _
    refine XS.bipush X372.here hx rfl (hb hby at_251) ?_
    show own_s p e below T370 m 253 #[iv i0, iv i1, .unset, .unset] [(.int (41 : Int32)), (.ref b2), (.ref b2)] _
    refine XS.bipush X372.here hx rfl (hb hby at_253) ?_
    exact kX
  obtain ⟨cl378, Ar378, S378, M378, H378⟩ := id fF376
  obtain ⟨T379, h379, X379, e379, W379, st379⟩ := stI X372 hx hZ e370 Ar378 (j := (41 : Int32)) (own_inb S378 M378 (by decide)) (g := (mkF m 255 #[iv i0, iv i1, .unset, .unset] [(.int (11 : Int32)), (.int (41 : Int32)), (.ref b2), (.ref b2)])) rfl rfl (hb hby at_255)
  have pre380 : ∀ t, own_s p e below T379 m 256 #[iv i0, iv i1, .unset, .unset] [(.ref b2)] t → Steps p.tables e below S0 t := fun tX kX => pre377 _ (st379 _ kX)
  obtain ⟨LL381, X381, N381⟩ : ∃ LL, Stand p l e room_1 s m #[(.int i0), (.int i1)] below meth c T379 LL 1 47 ∧ Fr n0 LL := ⟨_, X379, Fr.snoc X379 N372 g_b2⟩
  have f382_B : own_St Z h379 K := f373_B.wr W379
  have Z383 : n0 ≤ h379.size := Nat.le_trans Z374 (Keep.of_wr W379).1
  have f384_A : own_Af Z h379 b2 .int 47 (own_up ff376 (41 : Int32).toNatClampNeg (.int (11 : Int32))) := own_Af.set Ar378 S378 M378 H378 W379
  obtain ⟨ff385, fF385, I385⟩ : ∃ f, own_Af Z h379 b2 .int 47 f ∧ own_isI f := ⟨_, f384_A, (own_isI.up I376 _ _)⟩
  have pre386 : ∀ t, own_s p e below T379 m 261 #[iv i0, iv i1, .unset, .unset] [(.int (94 : Int32)), (.int (42 : Int32)), (.ref b2), (.ref b2)] t → Steps p.tables e below S0 t := by
    intro tX kX
    refine pre380 _ ?_
    show own_s p e below T379 m 256 #[iv i0, iv i1, .unset, .unset] [(.ref b2)] _
    refine XS.dup X381.here hx rfl (hb hby at_256) rfl rfl ?_
    show own_s p e below T379 m 257 #[iv i0, iv i1, .unset, .unset] [(.ref b2), (.ref b2)] _
    refine XS.bipush X381.here hx rfl (hb hby at_257) ?_
    show own_s p e below T379 m 259 #[iv i0, iv i1, .unset, .unset] [(.int (42 : Int32)), (.ref b2), (.ref b2)] _
    refine XS.bipush X381.here hx rfl (hb hby at_259) ?_
    exact kX
  obtain ⟨cl387, Ar387, S387, M387, H387⟩ := id fF385
  obtain ⟨T388, h388, X388, e388, W388, st388⟩ := stI X381 hx hZ e379 Ar387 (j := (42 : Int32)) (own_inb S387 M387 (by decide)) (g := (mkF m 261 #[iv i0, iv i1, .unset, .unset] [(.int (94 : Int32)), (.int (42 : Int32)), (.ref b2), (.ref b2)])) rfl rfl (hb hby at_261)
  have pre389 : ∀ t, own_s p e below T388 m 262 #[iv i0, iv i1, .unset, .unset] [(.ref b2)] t → Steps p.tables e below S0 t := fun tX kX => pre386 _ (st388 _ kX)
  obtain ⟨LL390, X390, N390⟩ : ∃ LL, Stand p l e room_1 s m #[(.int i0), (.int i1)] below meth c T388 LL 1 47 ∧ Fr n0 LL := ⟨_, X388, Fr.snoc X388 N381 g_b2⟩
  have f391_B : own_St Z h388 K := f382_B.wr W388
  have Z392 : n0 ≤ h388.size := Nat.le_trans Z383 (Keep.of_wr W388).1
  have f393_A : own_Af Z h388 b2 .int 47 (own_up ff385 (42 : Int32).toNatClampNeg (.int (94 : Int32))) := own_Af.set Ar387 S387 M387 H387 W388
  obtain ⟨ff394, fF394, I394⟩ : ∃ f, own_Af Z h388 b2 .int 47 f ∧ own_isI f := ⟨_, f393_A, (own_isI.up I385 _ _)⟩
  have pre395 : ∀ t, own_s p e below T388 m 268 #[iv i0, iv i1, .unset, .unset] [(.int (2010 : Int32)), (.int (43 : Int32)), (.ref b2), (.ref b2)] t → Steps p.tables e below S0 t := by
    intro tX kX
    refine pre389 _ ?_
    show own_s p e below T388 m 262 #[iv i0, iv i1, .unset, .unset] [(.ref b2)] _
    refine XS.dup X390.here hx rfl (hb hby at_262) rfl rfl ?_
    show own_s p e below T388 m 263 #[iv i0, iv i1, .unset, .unset] [(.ref b2), (.ref b2)] _
    refine XS.bipush X390.here hx rfl (hb hby at_263) ?_
    show own_s p e below T388 m 265 #[iv i0, iv i1, .unset, .unset] [(.int (43 : Int32)), (.ref b2), (.ref b2)] _
    refine XS.sipush X390.here hx rfl (hb hby at_265) ?_
    exact kX
  obtain ⟨cl396, Ar396, S396, M396, H396⟩ := id fF394
  obtain ⟨T397, h397, X397, e397, W397, st397⟩ := stI X390 hx hZ e388 Ar396 (j := (43 : Int32)) (own_inb S396 M396 (by decide)) (g := (mkF m 268 #[iv i0, iv i1, .unset, .unset] [(.int (2010 : Int32)), (.int (43 : Int32)), (.ref b2), (.ref b2)])) rfl rfl (hb hby at_268)
  have pre398 : ∀ t, own_s p e below T397 m 269 #[iv i0, iv i1, .unset, .unset] [(.ref b2)] t → Steps p.tables e below S0 t := fun tX kX => pre395 _ (st397 _ kX)
  obtain ⟨LL399, X399, N399⟩ : ∃ LL, Stand p l e room_1 s m #[(.int i0), (.int i1)] below meth c T397 LL 1 47 ∧ Fr n0 LL := ⟨_, X397, Fr.snoc X397 N390 g_b2⟩
  have f400_B : own_St Z h397 K := f391_B.wr W397
  have Z401 : n0 ≤ h397.size := Nat.le_trans Z392 (Keep.of_wr W397).1
  have f402_A : own_Af Z h397 b2 .int 47 (own_up ff394 (43 : Int32).toNatClampNeg (.int (2010 : Int32))) := own_Af.set Ar396 S396 M396 H396 W397
  obtain ⟨ff403, fF403, I403⟩ : ∃ f, own_Af Z h397 b2 .int 47 f ∧ own_isI f := ⟨_, f402_A, (own_isI.up I394 _ _)⟩
  have pre404 : ∀ t, own_s p e below T397 m 275 #[iv i0, iv i1, .unset, .unset] [(.int (2015 : Int32)), (.int (44 : Int32)), (.ref b2), (.ref b2)] t → Steps p.tables e below S0 t := by
    intro tX kX
    refine pre398 _ ?_
    show own_s p e below T397 m 269 #[iv i0, iv i1, .unset, .unset] [(.ref b2)] _
    refine XS.dup X399.here hx rfl (hb hby at_269) rfl rfl ?_
    show own_s p e below T397 m 270 #[iv i0, iv i1, .unset, .unset] [(.ref b2), (.ref b2)] _
    refine XS.bipush X399.here hx rfl (hb hby at_270) ?_
    show own_s p e below T397 m 272 #[iv i0, iv i1, .unset, .unset] [(.int (44 : Int32)), (.ref b2), (.ref b2)] _
    refine XS.sipush X399.here hx rfl (hb hby at_272) ?_
    exact kX
  obtain ⟨cl405, Ar405, S405, M405, H405⟩ := id fF403
  obtain ⟨T406, h406, X406, e406, W406, st406⟩ := stI X399 hx hZ e397 Ar405 (j := (44 : Int32)) (own_inb S405 M405 (by decide)) (g := (mkF m 275 #[iv i0, iv i1, .unset, .unset] [(.int (2015 : Int32)), (.int (44 : Int32)), (.ref b2), (.ref b2)])) rfl rfl (hb hby at_275)
  have pre407 : ∀ t, own_s p e below T406 m 276 #[iv i0, iv i1, .unset, .unset] [(.ref b2)] t → Steps p.tables e below S0 t := fun tX kX => pre404 _ (st406 _ kX)
  obtain ⟨LL408, X408, N408⟩ : ∃ LL, Stand p l e room_1 s m #[(.int i0), (.int i1)] below meth c T406 LL 1 47 ∧ Fr n0 LL := ⟨_, X406, Fr.snoc X406 N399 g_b2⟩
  have f409_B : own_St Z h406 K := f400_B.wr W406
  have Z410 : n0 ≤ h406.size := Nat.le_trans Z401 (Keep.of_wr W406).1
  have f411_A : own_Af Z h406 b2 .int 47 (own_up ff403 (44 : Int32).toNatClampNeg (.int (2015 : Int32))) := own_Af.set Ar405 S405 M405 H405 W406
  obtain ⟨ff412, fF412, I412⟩ : ∃ f, own_Af Z h406 b2 .int 47 f ∧ own_isI f := ⟨_, f411_A, (own_isI.up I403 _ _)⟩
  have pre413 : ∀ t, own_s p e below T406 m 281 #[iv i0, iv i1, .unset, .unset] [(.int (17 : Int32)), (.int (45 : Int32)), (.ref b2), (.ref b2)] t → Steps p.tables e below S0 t := by
    intro tX kX
    refine pre407 _ ?_
    show own_s p e below T406 m 276 #[iv i0, iv i1, .unset, .unset] [(.ref b2)] _
    refine XS.dup X408.here hx rfl (hb hby at_276) rfl rfl ?_
    show own_s p e below T406 m 277 #[iv i0, iv i1, .unset, .unset] [(.ref b2), (.ref b2)] _
    refine XS.bipush X408.here hx rfl (hb hby at_277) ?_
    show own_s p e below T406 m 279 #[iv i0, iv i1, .unset, .unset] [(.int (45 : Int32)), (.ref b2), (.ref b2)] _
    refine XS.bipush X408.here hx rfl (hb hby at_279) ?_
    exact kX
  obtain ⟨cl414, Ar414, S414, M414, H414⟩ := id fF412
  obtain ⟨T415, h415, X415, e415, W415, st415⟩ := stI X408 hx hZ e406 Ar414 (j := (45 : Int32)) (own_inb S414 M414 (by decide)) (g := (mkF m 281 #[iv i0, iv i1, .unset, .unset] [(.int (17 : Int32)), (.int (45 : Int32)), (.ref b2), (.ref b2)])) rfl rfl (hb hby at_281)
  have pre416 : ∀ t, own_s p e below T415 m 282 #[iv i0, iv i1, .unset, .unset] [(.ref b2)] t → Steps p.tables e below S0 t := fun tX kX => pre413 _ (st415 _ kX)
  obtain ⟨LL417, X417, N417⟩ : ∃ LL, Stand p l e room_1 s m #[(.int i0), (.int i1)] below meth c T415 LL 1 47 ∧ Fr n0 LL := ⟨_, X415, Fr.snoc X415 N408 g_b2⟩
  have f418_B : own_St Z h415 K := f409_B.wr W415
  have Z419 : n0 ≤ h415.size := Nat.le_trans Z410 (Keep.of_wr W415).1
  have f420_A : own_Af Z h415 b2 .int 47 (own_up ff412 (45 : Int32).toNatClampNeg (.int (17 : Int32))) := own_Af.set Ar414 S414 M414 H414 W415
  obtain ⟨ff421, fF421, I421⟩ : ∃ f, own_Af Z h415 b2 .int 47 f ∧ own_isI f := ⟨_, f420_A, (own_isI.up I412 _ _)⟩
  have pre422 : ∀ t, own_s p e below T415 m 287 #[iv i0, iv i1, .unset, .unset] [(.int (-17 : Int32)), (.int (46 : Int32)), (.ref b2), (.ref b2)] t → Steps p.tables e below S0 t := by
    intro tX kX
    refine pre416 _ ?_
    show own_s p e below T415 m 282 #[iv i0, iv i1, .unset, .unset] [(.ref b2)] _
    refine XS.dup X417.here hx rfl (hb hby at_282) rfl rfl ?_
    show own_s p e below T415 m 283 #[iv i0, iv i1, .unset, .unset] [(.ref b2), (.ref b2)] _
    refine XS.bipush X417.here hx rfl (hb hby at_283) ?_
    show own_s p e below T415 m 285 #[iv i0, iv i1, .unset, .unset] [(.int (46 : Int32)), (.ref b2), (.ref b2)] _
    refine XS.bipush X417.here hx rfl (hb hby at_285) ?_
    exact kX
  obtain ⟨cl423, Ar423, S423, M423, H423⟩ := id fF421
  obtain ⟨T424, h424, X424, e424, W424, st424⟩ := stI X417 hx hZ e415 Ar423 (j := (46 : Int32)) (own_inb S423 M423 (by decide)) (g := (mkF m 287 #[iv i0, iv i1, .unset, .unset] [(.int (-17 : Int32)), (.int (46 : Int32)), (.ref b2), (.ref b2)])) rfl rfl (hb hby at_287)
  have pre425 : ∀ t, own_s p e below T424 m 288 #[iv i0, iv i1, .unset, .unset] [(.ref b2)] t → Steps p.tables e below S0 t := fun tX kX => pre422 _ (st424 _ kX)
  obtain ⟨LL426, X426, N426⟩ : ∃ LL, Stand p l e room_1 s m #[(.int i0), (.int i1)] below meth c T424 LL 1 47 ∧ Fr n0 LL := ⟨_, X424, Fr.snoc X424 N417 g_b2⟩
  have f427_B : own_St Z h424 K := f418_B.wr W424
  have Z428 : n0 ≤ h424.size := Nat.le_trans Z419 (Keep.of_wr W424).1
  have f429_A : own_Af Z h424 b2 .int 47 (own_up ff421 (46 : Int32).toNatClampNeg (.int (-17 : Int32))) := own_Af.set Ar423 S423 M423 H423 W424
  obtain ⟨ff430, fF430, I430⟩ : ∃ f, own_Af Z h424 b2 .int 47 f ∧ own_isI f := ⟨_, f429_A, (own_isI.up I421 _ _)⟩
  have pre431 : ∀ t, own_s p e below T424 m 292 #[iv i0, iv i1, rv b2, .unset] [(.int (i0 &&& (1 : Int32)))] t → Steps p.tables e below S0 t := by
    intro tX kX
    refine pre425 _ ?_
    show own_s p e below T424 m 288 #[iv i0, iv i1, .unset, .unset] [(.ref b2)] _
    refine XS.astoreN X426.here hx rfl (hb hby at_288) rfl rfl (l' := #[iv i0, iv i1, rv b2, .unset]) rfl ?_
    show own_s p e below T424 m 289 #[iv i0, iv i1, rv b2, .unset] [] _
    refine XS.iloadN X426.here hx rfl (hb hby at_289) rfl ?_
    show own_s p e below T424 m 290 #[iv i0, iv i1, rv b2, .unset] [(.int i0)] _
    refine XS.iconst X426.here hx rfl (hb hby at_290) ?_
    show own_s p e below T424 m 291 #[iv i0, iv i1, rv b2, .unset] [(.int (1 : Int32)), (.int i0)] _
    refine XS.iand X426.here hx rfl (hb hby at_291) rfl ?_
    exact kX
  by_cases hc432 : (i0 &&& (1 : Int32)) = (0 : Int32)
  · skip
    have pre434 : ∀ t, own_s p e below T424 m 305 #[iv i0, iv i1, rv b2, .unset] [(.ref b2), (.int ((i0.toUInt32 >>> ((1 : Int32) &&& 31).toUInt32).toInt32)), (.ref b2)] t → Steps p.tables e below S0 t := by
      intro tX kX
      refine pre431 _ ?_
      show own_s p e below T424 m 292 #[iv i0, iv i1, rv b2, .unset] [(.int (i0 &&& (1 : Int32)))] _
      refine XS.ifYes X426.here hx rfl (pc0 := 292) (pc' := 300) rfl (hb hby at_292) rfl ((if0 _ _).trans (teq hc432).1) (by decide) (by decide) ?_
      show own_s p e below T424 m 300 #[iv i0, iv i1, rv b2, .unset] [] _
      refine XS.aloadN X426.here hx rfl (hb hby at_300) rfl rfl ?_
      show own_s p e below T424 m 301 #[iv i0, iv i1, rv b2, .unset] [(.ref b2)] _
      refine XS.iloadN X426.here hx rfl (hb hby at_301) rfl ?_
      show own_s p e below T424 m 302 #[iv i0, iv i1, rv b2, .unset] [(.int i0), (.ref b2)] _
      refine XS.iconst X426.here hx rfl (hb hby at_302) ?_
      show own_s p e below T424 m 303 #[iv i0, iv i1, rv b2, .unset] [(.int (1 : Int32)), (.int i0), (.ref b2)] _
      refine XS.iushr X426.here hx rfl (hb hby at_303) rfl ?_
      show own_s p e below T424 m 304 #[iv i0, iv i1, rv b2, .unset] [(.int ((i0.toUInt32 >>> ((1 : Int32) &&& 31).toUInt32).toInt32)), (.ref b2)] _
      refine XS.aloadN X426.here hx rfl (hb hby at_304) rfl rfl ?_
      exact kX
    obtain ⟨cl433, Ar433, S433, M433, H433⟩ := id fF430
    have pre436 : ∀ t, own_s p e below T424 m 307 #[iv i0, iv i1, rv b2, .unset] [(.int (((i0.toUInt32 >>> ((1 : Int32) &&& 31).toUInt32).toInt32) % (47 : Int32))), (.ref b2)] t → Steps p.tables e below S0 t := by
      intro tX kX
      refine pre434 _ ?_
      show own_s p e below T424 m 305 #[iv i0, iv i1, rv b2, .unset] [(.ref b2), (.int ((i0.toUInt32 >>> ((1 : Int32) &&& 31).toUInt32).toInt32)), (.ref b2)] _
      refine X426.arraylength hx (by rw [e424]; exact Ar433.1) (State.isArrayOf_alike hZ.alike Ar433.2.1) (g := (mkF m 305 #[iv i0, iv i1, rv b2, .unset] [(.ref b2), (.int ((i0.toUInt32 >>> ((1 : Int32) &&& 31).toUInt32).toInt32)), (.ref b2)])) rfl rfl (hb hby at_305) _ ?_
      rw [show cl433.slots.size.toInt32 = (47 : Int32) from by rw [S433]; exact rfl]
      show own_s p e below T424 m 306 #[iv i0, iv i1, rv b2, .unset] [(.int (47 : Int32)), (.int ((i0.toUInt32 >>> ((1 : Int32) &&& 31).toUInt32).toInt32)), (.ref b2)] _
      refine iremM X426 hx rfl (hb hby at_306) rfl (by decide) ?_
      exact kX
    have sh1 := c_iushr i0 1 1 (by decide) (by decide)
    have rm1' := (c_irem ((i0.toUInt32 >>> ((1 : Int32) &&& 31).toUInt32).toInt32) 47 47 (by decide)).1 (by omega)
    obtain ⟨z437, hz437⟩ := I430 ((((i0.toUInt32 >>> ((1 : Int32) &&& 31).toUInt32).toInt32) % (47 : Int32)).toNatClampNeg)
    obtain ⟨cl435, Ar435, S435, M435, H435⟩ := id fF430
    have pre438 : ∀ t, own_s p e below T424 m 310 #[iv i0, iv i1, rv b2, iv z437] [(.int z437)] t → Steps p.tables e below S0 t := by
      intro tX kX
      refine pre436 _ ?_
      show own_s p e below T424 m 307 #[iv i0, iv i1, rv b2, .unset] [(.int (((i0.toUInt32 >>> ((1 : Int32) &&& 31).toUInt32).toInt32) % (47 : Int32))), (.ref b2)] _
      refine X426.iaload hx (j := (((i0.toUInt32 >>> ((1 : Int32) &&& 31).toUInt32).toInt32) % (47 : Int32))) (v := (.int z437)) (by rw [e424]; exact Ar435.1) (State.isArrayOf_alike hZ.alike Ar435.2.1) Ar435.2.2 (own_inb S435 M435 (own_idx (by omega) (by omega))) (own_get H435 S435 (own_idx (by omega) (by omega)) hz437) (g := (mkF m 307 #[iv i0, iv i1, rv b2, .unset] [(.int (((i0.toUInt32 >>> ((1 : Int32) &&& 31).toUInt32).toInt32) % (47 : Int32))), (.ref b2)])) rfl rfl (hb hby at_307) _ ?_
      show own_s p e below T424 m 308 #[iv i0, iv i1, rv b2, .unset] [(.int z437)] _
      refine XS.istoreN X426.here hx rfl (hb hby at_308) rfl (l' := #[iv i0, iv i1, rv b2, iv z437]) rfl ?_
      show own_s p e below T424 m 309 #[iv i0, iv i1, rv b2, iv z437] [] _
      refine XS.iloadN X426.here hx rfl (hb hby at_309) rfl ?_
      exact kX
    obtain ⟨_, _, ⟨T439, L439, k439, n439⟩, -, X439, ⟨Lc439, hQ439, l439, y439, z439⟩, st439⟩ := Jvm.LawKit.callS X426 hx (y := (⟨"com/example/osier/osier/jdbc/ColumnKind", "of", "(I)Lcom/example/osier/osier/jdbc/ColumnKind;"⟩ : MethodName)) hown (mvT hZ (hw _ (List.mem_of_getElem? (i := 1) rfl))) (mvT hZ (hw _ (List.mem_of_getElem? (i := 2) rfl))) (mvT hZ (hw _ (List.mem_of_getElem? (i := 3) rfl))) (mvT hZ (hw _ (List.mem_of_getElem? (i := 4) rfl))) (by decide) (backOf (W := 0) (rm1 l Z a0 hw [] z437 K h424 n0 Z428 f427_B) hZ (hw _ (List.mem_of_getElem? (i := 4) rfl)) (hw _ (List.mem_of_getElem? (i := 3) rfl)) (by decide) (by decide)) (g := (mkF m 310 #[iv i0, iv i1, rv b2, iv z437] [(.int z437)])) rfl (by rw [hml]; rfl) (argsL := [(.int z437)]) (rest := []) (lenOf pd0_0 rfl) rfl (by show 2 * 0 + _ ≤ _; exact Nat.le_of_eq rfl) (hb hby at_310) (fun _ _ => ⟨rfl, e424, (by decide : 1 + 0 ≤ _), (by decide : 47 + 0 ≤ _)⟩)
    dsimp only [Pt.U, Pt.locs, Pt.cells, Pt.slots] at X439 l439 y439 z439 st439 hQ439
    subst l439 y439 z439
    obtain ⟨rfl, Nq439, e439⟩ := hQ439
    have N439 := Fr.app N426 Nq439
    obtain ⟨LL440, X440, N440⟩ : ∃ LL, Stand p l e room_1 s m #[(.int i0), (.int i1)] below meth c T439 LL 1 47 ∧ Fr n0 LL := ⟨_, X439, N439⟩
    have pre441 : ∀ t, own_s p e below T439 m 313 #[iv i0, iv i1, rv b2, iv z437] [(.ref (K (own_ix (z437).toInt)))] t → Steps p.tables e below S0 t := fun tX kX => pre438 _ (st439 _ kX)
    have pre442 : ∀ t, own_s p e below T439 m 314 #[iv i0, iv i1, rv b2, iv z437] [(.int z437), (.ref (K (own_ix (z437).toInt)))] t → Steps p.tables e below S0 t := by
      intro tX kX
      refine pre441 _ ?_
      show own_s p e below T439 m 313 #[iv i0, iv i1, rv b2, iv z437] [(.ref (K (own_ix (z437).toInt)))] _
      refine XS.iloadN X440.here hx rfl (hb hby at_313) rfl ?_
      exact kX
    obtain ⟨_, _, ⟨T443, L443, k443, n443⟩, -, X443, ⟨Lc443, hQ443, l443, y443, z443⟩, st443⟩ := Jvm.LawKit.callS X440 hx (y := (⟨"com/example/osier/osier/jdbc/ColumnKindOfPinLaw", "expected", "(I)Lcom/example/osier/osier/jdbc/ColumnKind;"⟩ : MethodName)) hown (mvT hZ (hw _ (List.mem_of_getElem? (i := 7) rfl))) (mvT hZ (hw _ (List.mem_of_getElem? (i := 8) rfl))) (mvT hZ (hw _ (List.mem_of_getElem? (i := 9) rfl))) (mvT hZ (hw _ (List.mem_of_getElem? (i := 10) rfl))) (by decide) (backOf (W := 1) (rm2 l Z a0 hw [] z437 K h424 n0 Z428 f427_B) hZ (hw _ (List.mem_of_getElem? (i := 10) rfl)) (hw _ (List.mem_of_getElem? (i := 9) rfl)) (by decide) (by decide)) (g := (mkF m 314 #[iv i0, iv i1, rv b2, iv z437] [(.int z437), (.ref (K (own_ix (z437).toInt)))])) rfl (by rw [hml]; rfl) (argsL := [(.int z437)]) (rest := [(.ref (K (own_ix (z437).toInt)))]) (lenOf pd0_0 rfl) rfl (by show 2 * 0 + _ ≤ _; exact Nat.le_of_eq rfl) (hb hby at_314) (fun _ _ => ⟨rfl, e439, (by decide : 1 + 0 ≤ _), (by decide : 47 + 0 ≤ _)⟩)
    dsimp only [Pt.U, Pt.locs, Pt.cells, Pt.slots] at X443 l443 y443 z443 st443 hQ443
    subst l443 y443 z443
    obtain ⟨rfl, Nq443, e443⟩ := hQ443
    have N443 := Fr.app N440 Nq443
    obtain ⟨LL444, X444, N444⟩ : ∃ LL, Stand p l e room_1 s m #[(.int i0), (.int i1)] below meth c T443 LL 1 47 ∧ Fr n0 LL := ⟨_, X443, N443⟩
    have pre445 : ∀ t, own_s p e below T443 m 317 #[iv i0, iv i1, rv b2, iv z437] [(.ref (K (own_ix (z437).toInt))), (.ref (K (own_ix (z437).toInt)))] t → Steps p.tables e below S0 t := fun tX kX => pre442 _ (st443 _ kX)
    have pre446 : ∀ t, own_s p e below T443 m 325 #[iv i0, iv i1, rv b2, iv z437] [(.int (1 : Int32))] t → Steps p.tables e below S0 t := by
      intro tX kX
      refine pre445 _ ?_
      show own_s p e below T443 m 317 #[iv i0, iv i1, rv b2, iv z437] [(.ref (K (own_ix (z437).toInt))), (.ref (K (own_ix (z437).toInt)))] _
      refine Jvm.RoadKit.acmp (g := (mkF m 317 #[iv i0, iv i1, rv b2, iv z437] [(.ref (K (own_ix (z437).toInt))), (.ref (K (own_ix (z437).toInt)))])) X444 hx rfl rfl rfl (pc0 := 317) (pc' := 320) (same := true) rfl (hb hby at_317) rfl (decide_eq_true (congrArg Value.ref rfl)) (by decide) (by decide) ?_
      show own_s p e below T443 m 320 #[iv i0, iv i1, rv b2, iv z437] [] _
      refine XS.iconst X444.here hx rfl (hb hby at_320) ?_
      show own_s p e below T443 m 321 #[iv i0, iv i1, rv b2, iv z437] [(.int (1 : Int32))] _
      refine XS.goto X444.here hx rfl (pc0 := 321) (pc' := 325) rfl (hb hby at_321) (by decide) (by decide) ?_
      exact kX
    subst hS0
    obtain ⟨fs, hr, hrun, hended, hW, hsame⟩ := X444.leave (v := (some (.int (1 : Int32)))) (fun h => by rw [Bd.returns] at h; cases h)
    refine ⟨_, _, pre446 _ (retN X444 hx (t := .boolean) Bd.returns (by simp) (hb hby at_325) hr), hrun, hended, _, _, rfl, ?_, ⟨_, rfl⟩, hW, hsame.mono (by decide) (by decide)⟩
    show Q0 Z i0 i1 K h0 n0 (some (.int (1 : Int32))) T443.heap _
    exact ⟨rfl, N444⟩
  · skip
    have pre447 : ∀ t, own_s p e below T424 m 310 #[iv i0, iv i1, rv b2, iv i1] [(.int i1)] t → Steps p.tables e below S0 t := by
      intro tX kX
      refine pre431 _ ?_
      show own_s p e below T424 m 292 #[iv i0, iv i1, rv b2, .unset] [(.int (i0 &&& (1 : Int32)))] _
      refine XS.ifNo X426.here hx rfl (hb hby at_292) rfl ((if0 _ _).trans (feq hc432).1) ?_
      show own_s p e below T424 m 295 #[iv i0, iv i1, rv b2, .unset] [] _
      refine XS.iloadN X426.here hx rfl (hb hby at_295) rfl ?_
      show own_s p e below T424 m 296 #[iv i0, iv i1, rv b2, .unset] [(.int i1)] _
      refine XS.istoreN X426.here hx rfl (hb hby at_296) rfl (l' := #[iv i0, iv i1, rv b2, iv i1]) rfl ?_
      show own_s p e below T424 m 297 #[iv i0, iv i1, rv b2, iv i1] [] _
      refine XS.goto X426.here hx rfl (pc0 := 297) (pc' := 309) rfl (hb hby at_297) (by decide) (by decide) ?_
      show own_s p e below T424 m 309 #[iv i0, iv i1, rv b2, iv i1] [] _
      refine XS.iloadN X426.here hx rfl (hb hby at_309) rfl ?_
      exact kX
    obtain ⟨_, _, ⟨T448, L448, k448, n448⟩, -, X448, ⟨Lc448, hQ448, l448, y448, z448⟩, st448⟩ := Jvm.LawKit.callS X426 hx (y := (⟨"com/example/osier/osier/jdbc/ColumnKind", "of", "(I)Lcom/example/osier/osier/jdbc/ColumnKind;"⟩ : MethodName)) hown (mvT hZ (hw _ (List.mem_of_getElem? (i := 1) rfl))) (mvT hZ (hw _ (List.mem_of_getElem? (i := 2) rfl))) (mvT hZ (hw _ (List.mem_of_getElem? (i := 3) rfl))) (mvT hZ (hw _ (List.mem_of_getElem? (i := 4) rfl))) (by decide) (backOf (W := 0) (rm1 l Z a0 hw [] i1 K h424 n0 Z428 f427_B) hZ (hw _ (List.mem_of_getElem? (i := 4) rfl)) (hw _ (List.mem_of_getElem? (i := 3) rfl)) (by decide) (by decide)) (g := (mkF m 310 #[iv i0, iv i1, rv b2, iv i1] [(.int i1)])) rfl (by rw [hml]; rfl) (argsL := [(.int i1)]) (rest := []) (lenOf pd0_0 rfl) rfl (by show 2 * 0 + _ ≤ _; exact Nat.le_of_eq rfl) (hb hby at_310) (fun _ _ => ⟨rfl, e424, (by decide : 1 + 0 ≤ _), (by decide : 47 + 0 ≤ _)⟩)
    dsimp only [Pt.U, Pt.locs, Pt.cells, Pt.slots] at X448 l448 y448 z448 st448 hQ448
    subst l448 y448 z448
    obtain ⟨rfl, Nq448, e448⟩ := hQ448
    have N448 := Fr.app N426 Nq448
    obtain ⟨LL449, X449, N449⟩ : ∃ LL, Stand p l e room_1 s m #[(.int i0), (.int i1)] below meth c T448 LL 1 47 ∧ Fr n0 LL := ⟨_, X448, N448⟩
    have pre450 : ∀ t, own_s p e below T448 m 313 #[iv i0, iv i1, rv b2, iv i1] [(.ref (K (own_ix (i1).toInt)))] t → Steps p.tables e below S0 t := fun tX kX => pre447 _ (st448 _ kX)
    have pre451 : ∀ t, own_s p e below T448 m 314 #[iv i0, iv i1, rv b2, iv i1] [(.int i1), (.ref (K (own_ix (i1).toInt)))] t → Steps p.tables e below S0 t := by
      intro tX kX
      refine pre450 _ ?_
      show own_s p e below T448 m 313 #[iv i0, iv i1, rv b2, iv i1] [(.ref (K (own_ix (i1).toInt)))] _
      refine XS.iloadN X449.here hx rfl (hb hby at_313) rfl ?_
      exact kX
    obtain ⟨_, _, ⟨T452, L452, k452, n452⟩, -, X452, ⟨Lc452, hQ452, l452, y452, z452⟩, st452⟩ := Jvm.LawKit.callS X449 hx (y := (⟨"com/example/osier/osier/jdbc/ColumnKindOfPinLaw", "expected", "(I)Lcom/example/osier/osier/jdbc/ColumnKind;"⟩ : MethodName)) hown (mvT hZ (hw _ (List.mem_of_getElem? (i := 7) rfl))) (mvT hZ (hw _ (List.mem_of_getElem? (i := 8) rfl))) (mvT hZ (hw _ (List.mem_of_getElem? (i := 9) rfl))) (mvT hZ (hw _ (List.mem_of_getElem? (i := 10) rfl))) (by decide) (backOf (W := 1) (rm2 l Z a0 hw [] i1 K h424 n0 Z428 f427_B) hZ (hw _ (List.mem_of_getElem? (i := 10) rfl)) (hw _ (List.mem_of_getElem? (i := 9) rfl)) (by decide) (by decide)) (g := (mkF m 314 #[iv i0, iv i1, rv b2, iv i1] [(.int i1), (.ref (K (own_ix (i1).toInt)))])) rfl (by rw [hml]; rfl) (argsL := [(.int i1)]) (rest := [(.ref (K (own_ix (i1).toInt)))]) (lenOf pd0_0 rfl) rfl (by show 2 * 0 + _ ≤ _; exact Nat.le_of_eq rfl) (hb hby at_314) (fun _ _ => ⟨rfl, e448, (by decide : 1 + 0 ≤ _), (by decide : 47 + 0 ≤ _)⟩)
    dsimp only [Pt.U, Pt.locs, Pt.cells, Pt.slots] at X452 l452 y452 z452 st452 hQ452
    subst l452 y452 z452
    obtain ⟨rfl, Nq452, e452⟩ := hQ452
    have N452 := Fr.app N449 Nq452
    obtain ⟨LL453, X453, N453⟩ : ∃ LL, Stand p l e room_1 s m #[(.int i0), (.int i1)] below meth c T452 LL 1 47 ∧ Fr n0 LL := ⟨_, X452, N452⟩
    have pre454 : ∀ t, own_s p e below T452 m 317 #[iv i0, iv i1, rv b2, iv i1] [(.ref (K (own_ix (i1).toInt))), (.ref (K (own_ix (i1).toInt)))] t → Steps p.tables e below S0 t := fun tX kX => pre451 _ (st452 _ kX)
    have pre455 : ∀ t, own_s p e below T452 m 325 #[iv i0, iv i1, rv b2, iv i1] [(.int (1 : Int32))] t → Steps p.tables e below S0 t := by
      intro tX kX
      refine pre454 _ ?_
      show own_s p e below T452 m 317 #[iv i0, iv i1, rv b2, iv i1] [(.ref (K (own_ix (i1).toInt))), (.ref (K (own_ix (i1).toInt)))] _
      refine Jvm.RoadKit.acmp (g := (mkF m 317 #[iv i0, iv i1, rv b2, iv i1] [(.ref (K (own_ix (i1).toInt))), (.ref (K (own_ix (i1).toInt)))])) X453 hx rfl rfl rfl (pc0 := 317) (pc' := 320) (same := true) rfl (hb hby at_317) rfl (decide_eq_true (congrArg Value.ref rfl)) (by decide) (by decide) ?_
      show own_s p e below T452 m 320 #[iv i0, iv i1, rv b2, iv i1] [] _
      refine XS.iconst X453.here hx rfl (hb hby at_320) ?_
      show own_s p e below T452 m 321 #[iv i0, iv i1, rv b2, iv i1] [(.int (1 : Int32))] _
      refine XS.goto X453.here hx rfl (pc0 := 321) (pc' := 325) rfl (hb hby at_321) (by decide) (by decide) ?_
      exact kX
    subst hS0
    obtain ⟨fs, hr, hrun, hended, hW, hsame⟩ := X453.leave (v := (some (.int (1 : Int32)))) (fun h => by rw [Bd.returns] at h; cases h)
    refine ⟨_, _, pre455 _ (retN X453 hx (t := .boolean) Bd.returns (by simp) (hb hby at_325) hr), hrun, hended, _, _, rfl, ?_, ⟨_, rfl⟩, hW, hsame.mono (by decide) (by decide)⟩
    show Q0 Z i0 i1 K h0 n0 (some (.int (1 : Int32))) T452.heap _
    exact ⟨rfl, N453⟩
set_option maxRecDepth 65536 in
set_option maxHeartbeats 40000000 in
theorem comes_1 {Post : Tables → Env → Array Value → State → Outcome → State → Prop} (hpost : ∀ tb e args s v u, (limb_1_1.after args s (.returned v) u = true ∧ limb_1_2.after args s (.returned v) u = true ∧ True) → FrameEnd s (.returned v) u (Jvm.fieldLocs frame_1_writes args s ++ Jvm.arrayLocs frame_1_arrays args s ++ Jvm.staticLocs frame_1_statics s) 16 192 → Post tb e args s (.returned v) u) :
    ArmFor flags0 classFile x code maxLocals ret World_1 tables_1 room_1 Calls_1 rest_1 Pre_1 Post := by
  intro l hfl _ _ p e ha hc hk s m args below hf hA hF happ hP
  obtain ⟨hcalls, hrest, hpre⟩ := hP
  obtain ⟨-, -, -, hnamed, -, -, -, hat⟩ := (Spec.applies_iff hf).mp happ
  obtain ⟨hg, hn⟩ := and_e (Cond.before_iff.mp (show (Jvm.Cond.and given_1 narrow_1).before args s = true from hpre))
  obtain ⟨hcnt, q0⟩ := and_e hg
  obtain ⟨ha0, q1⟩ := and_e q0
  have ha1 := q1
  obtain ⟨w0, w1, rfl⟩ : ∃ w0 w1 : Value, args = #[w0, w1] := by
    have hs : args.size = 2 := by simpa [Cond.value, given_1] using hcnt
    obtain ⟨L⟩ := args
    match L, hs with
    | [w0, w1], _ => exact ⟨w0, w1, rfl⟩
  have hw := fun d (hd : d ∈ tables_1) => atoms_spec (ws := Jvm.Cond.code x code maxLocals ret :: tables_1) hat d (List.mem_cons_of_mem _ hd)
  have hfit : Fit s := fun {y c} hc i hi => by
    obtain ⟨ha, rfl⟩ := Array.getElem?_eq_some_iff.mp hc
    have q := List.all_eq_true.mp ((Array.all_eq_true_iff_forall_mem.mp hF) _ (Array.getElem_mem ha)) i (List.mem_range.mpr hi)
    simpa [Array.getElem?_eq_getElem hi] using q
  obtain ⟨i0, ei0⟩ := is_v ha0
  obtain rfl : w0 = (.int i0) := Option.some.inj ei0
  obtain ⟨i1, ei1⟩ := is_v ha1
  obtain rfl : w1 = (.int i1) := Option.some.inj ei1
  obtain ⟨nL1, nR1⟩ := and_e hn
  obtain ⟨k_BOOLEAN, ev_BOOLEAN⟩ := exa_v nL1
  have S_BOOLEAN := Sta.start ev_BOOLEAN (Or.inr ⟨(hw _ (List.mem_of_getElem? (i := 3) rfl)), (hw _ (List.mem_of_getElem? (i := 6) rfl))⟩)
  obtain ⟨nL2, nR2⟩ := and_e nR1
  obtain ⟨k_DECIMAL, ev_DECIMAL⟩ := exa_v nL2
  have S_DECIMAL := Sta.start ev_DECIMAL (Or.inr ⟨(hw _ (List.mem_of_getElem? (i := 3) rfl)), (hw _ (List.mem_of_getElem? (i := 13) rfl))⟩)
  obtain ⟨nL3, nR3⟩ := and_e nR2
  obtain ⟨k_TIME, ev_TIME⟩ := exa_v nL3
  have S_TIME := Sta.start ev_TIME (Or.inr ⟨(hw _ (List.mem_of_getElem? (i := 3) rfl)), (hw _ (List.mem_of_getElem? (i := 16) rfl))⟩)
  obtain ⟨nL4, nR4⟩ := and_e nR3
  obtain ⟨k_OTHER, ev_OTHER⟩ := exa_v nL4
  have S_OTHER := Sta.start ev_OTHER (Or.inr ⟨(hw _ (List.mem_of_getElem? (i := 3) rfl)), (hw _ (List.mem_of_getElem? (i := 19) rfl))⟩)
  obtain ⟨nL5, nR5⟩ := and_e nR4
  obtain ⟨k_SMALLINT, ev_SMALLINT⟩ := exa_v nL5
  have S_SMALLINT := Sta.start ev_SMALLINT (Or.inr ⟨(hw _ (List.mem_of_getElem? (i := 3) rfl)), (hw _ (List.mem_of_getElem? (i := 22) rfl))⟩)
  obtain ⟨nL6, nR6⟩ := and_e nR5
  obtain ⟨k_INTEGER, ev_INTEGER⟩ := exa_v nL6
  have S_INTEGER := Sta.start ev_INTEGER (Or.inr ⟨(hw _ (List.mem_of_getElem? (i := 3) rfl)), (hw _ (List.mem_of_getElem? (i := 25) rfl))⟩)
  obtain ⟨nL7, nR7⟩ := and_e nR6
  obtain ⟨k_CHARACTER, ev_CHARACTER⟩ := exa_v nL7
  have S_CHARACTER := Sta.start ev_CHARACTER (Or.inr ⟨(hw _ (List.mem_of_getElem? (i := 3) rfl)), (hw _ (List.mem_of_getElem? (i := 28) rfl))⟩)
  obtain ⟨nL8, nR8⟩ := and_e nR7
  obtain ⟨k_TIME_WITH_TIME_ZONE, ev_TIME_WITH_TIME_ZONE⟩ := exa_v nL8
  have S_TIME_WITH_TIME_ZONE := Sta.start ev_TIME_WITH_TIME_ZONE (Or.inr ⟨(hw _ (List.mem_of_getElem? (i := 3) rfl)), (hw _ (List.mem_of_getElem? (i := 31) rfl))⟩)
  obtain ⟨nL9, nR9⟩ := and_e nR8
  obtain ⟨k_BINARY, ev_BINARY⟩ := exa_v nL9
  have S_BINARY := Sta.start ev_BINARY (Or.inr ⟨(hw _ (List.mem_of_getElem? (i := 3) rfl)), (hw _ (List.mem_of_getElem? (i := 34) rfl))⟩)
  obtain ⟨nL10, nR10⟩ := and_e nR9
  obtain ⟨k_BIGINT, ev_BIGINT⟩ := exa_v nL10
  have S_BIGINT := Sta.start ev_BIGINT (Or.inr ⟨(hw _ (List.mem_of_getElem? (i := 3) rfl)), (hw _ (List.mem_of_getElem? (i := 37) rfl))⟩)
  obtain ⟨nL11, nR11⟩ := and_e nR10
  obtain ⟨k_ARRAY, ev_ARRAY⟩ := exa_v nL11
  have S_ARRAY := Sta.start ev_ARRAY (Or.inr ⟨(hw _ (List.mem_of_getElem? (i := 3) rfl)), (hw _ (List.mem_of_getElem? (i := 40) rfl))⟩)
  obtain ⟨nL12, nR12⟩ := and_e nR11
  obtain ⟨k_DOUBLE, ev_DOUBLE⟩ := exa_v nL12
  have S_DOUBLE := Sta.start ev_DOUBLE (Or.inr ⟨(hw _ (List.mem_of_getElem? (i := 3) rfl)), (hw _ (List.mem_of_getElem? (i := 43) rfl))⟩)
  obtain ⟨nL13, nR13⟩ := and_e nR12
  obtain ⟨k_REAL, ev_REAL⟩ := exa_v nL13
  have S_REAL := Sta.start ev_REAL (Or.inr ⟨(hw _ (List.mem_of_getElem? (i := 3) rfl)), (hw _ (List.mem_of_getElem? (i := 46) rfl))⟩)
  obtain ⟨nL14, nR14⟩ := and_e nR13
  obtain ⟨k_TINYINT, ev_TINYINT⟩ := exa_v nL14
  have S_TINYINT := Sta.start ev_TINYINT (Or.inr ⟨(hw _ (List.mem_of_getElem? (i := 3) rfl)), (hw _ (List.mem_of_getElem? (i := 49) rfl))⟩)
  obtain ⟨nL15, nR15⟩ := and_e nR14
  obtain ⟨k_DATE, ev_DATE⟩ := exa_v nL15
  have S_DATE := Sta.start ev_DATE (Or.inr ⟨(hw _ (List.mem_of_getElem? (i := 3) rfl)), (hw _ (List.mem_of_getElem? (i := 52) rfl))⟩)
  obtain ⟨nL16, nR16⟩ := and_e nR15
  obtain ⟨k_TIMESTAMP, ev_TIMESTAMP⟩ := exa_v nL16
  have S_TIMESTAMP := Sta.start ev_TIMESTAMP (Or.inr ⟨(hw _ (List.mem_of_getElem? (i := 3) rfl)), (hw _ (List.mem_of_getElem? (i := 55) rfl))⟩)
  obtain ⟨nL17, nR17⟩ := and_e nR16
  obtain ⟨k_XML, ev_XML⟩ := exa_v nL17
  have S_XML := Sta.start ev_XML (Or.inr ⟨(hw _ (List.mem_of_getElem? (i := 3) rfl)), (hw _ (List.mem_of_getElem? (i := 58) rfl))⟩)
  obtain ⟨k_TIMESTAMP_WITH_TIME_ZONE, ev_TIMESTAMP_WITH_TIME_ZONE⟩ := exa_v nR17
  have S_TIMESTAMP_WITH_TIME_ZONE := Sta.start ev_TIMESTAMP_WITH_TIME_ZONE (Or.inr ⟨(hw _ (List.mem_of_getElem? (i := 3) rfl)), (hw _ (List.mem_of_getElem? (i := 61) rfl))⟩)
  have B : own_St s s.heap (fun i => match i with | 0 => k_BOOLEAN | 1 => k_TINYINT | 2 => k_SMALLINT | 3 => k_INTEGER | 4 => k_BIGINT | 5 => k_DECIMAL | 6 => k_REAL | 7 => k_DOUBLE | 8 => k_DATE | 9 => k_TIME | 10 => k_TIMESTAMP | 11 => k_TIME_WITH_TIME_ZONE | 12 => k_TIMESTAMP_WITH_TIME_ZONE | 13 => k_BINARY | 14 => k_ARRAY | 15 => k_XML | 16 => k_CHARACTER | _ => k_OTHER) := ⟨S_BOOLEAN, S_TINYINT, S_SMALLINT, S_INTEGER, S_BIGINT, S_DECIMAL, S_REAL, S_DOUBLE, S_DATE, S_TIME, S_TIMESTAMP, S_TIME_WITH_TIME_ZONE, S_TIMESTAMP_WITH_TIME_ZONE, S_BINARY, S_ARRAY, S_XML, S_CHARACTER, S_OTHER⟩
  obtain ⟨n, o, h1, h2, h3, _, L, rfl, ⟨rfl, N⟩, hq⟩ := rm0 l s _ hw tables_1 i0 i1 _ s.heap s.heap.size (Nat.le_refl _) B p e ha hc hk s m _ below hf ((Spec.applies_iff_loose hf).mp happ).1 ⟨rfl, State.Warmed39.refl s, rfl⟩ trivial
  refine ⟨n, _, h1, h2, h3, hpost _ _ _ _ _ _ ⟨Cond.after_iff.mpr rfl, Cond.after_iff.mpr (eq_i res_at (Term.int_eval (1)) rfl), trivial⟩ ⟨hq.1, hq.2.1, (hq.2.2.sift fun y hy => Or.inr (N y hy)).mono (by decide) (by decide)⟩⟩
theorem main_1_1 : Claimed_1_1 := comes_1 fun _ _ _ _ _ _ h hF => ⟨h.1, hF⟩
theorem main_1_2 : Claimed_1_2 := comes_1 fun _ _ _ _ _ _ h hF => ⟨h.2.1, hF⟩
end Jvm.Pilot.@@N@@
namespace Jvm.Pilot.@@N@@
open Jvm Jvm.ClassFile Sem Op Lib Jvm.Free Jvm.Stand Jvm.Pilot.@@N@@.Jvm.D
/-! MADE BY PROGRAM (witnessworld.py) out of the Statement's table words and the real class files: 12 classes; the members and pool entries that the words name. The judged class is class 1, her method 1. -/
namespace start1
open Jvm.ClassFile
def u (s : String) : CpInfo := .utf8 (stringToUtf16 s)
/-- a pool by its gaps: so many unusable entries, then the entry; so many at the end -/
def gap : Nat → List CpInfo → List CpInfo
  | 0, r => r
  | n + 1, r => .unusable :: gap n r
def poolList (es : List (Nat × CpInfo)) (last : Nat) : List CpInfo := es.foldr (fun e r => gap e.1 (e.2 :: r)) (gap last [])
def pool (es : List (Nat × CpInfo)) (last : Nat) : Array CpInfo := ⟨poolList es last⟩
def fileOf (pool : Array CpInfo) (this : Nat) (attrs : Array Attribute := #[]) (ms : Array MethodInfo := #[]) (fl : Nat := 33) (sup : Nat := 0) (ifs : Array Nat := #[]) (fds : Array FieldInfo := #[]) : ClassFile where
  minorVersion := 0
  majorVersion := 65
  constantPool := pool
  accessFlags := fl
  thisClass := this
  superClass := sup
  interfaces := ifs
  fields := fds
  methods := ms
  attributes := attrs
def plain (name : String) (sup : Option ClassId) : Class where
  name := name
  kind := .ordinary
  loader := none
  accessFlags := 33
  super := sup
  interfaces := #[]
  cf := none
  fields := #[]
  methods := #[]
  instanceTypes := #[]
  staticTypes := #[]
  resolved := #[]
  callSites := []
  init := .initialized
  statics := none
  mirror := none

def pool0 : Array CpInfo := pool [(5, u "<init>"), (0, u "()V"), (1, .class_ 10), (1, u "java/lang/Object")] 113

def k0m0 : Method := { name := "<init>", desc := "()V", sig := { parameters := [], returnType := none }, accessFlags := 1, code := none }
/-- java/lang/Object -/
def k0 : Class := { plain "java/lang/Object" none with
  accessFlags := 33
  interfaces := #[]
  cf := some (fileOf pool0 8 #[] #[{ accessFlags := 1, nameIndex := 5, descriptorIndex := 6, attributes := #[] }] 33 0 #[] #[])
  fields := #[]
  methods := #[k0m0]
  instanceTypes := #[]
  staticTypes := #[]
  resolved := Array.replicate 124 none
  statics := none }

def pool1 : Array CpInfo := pool [(2, .class_ 4), (1, u "java/lang/Object"), (0, u "<init>"), (0, u "()V"), (0, .methodref 8 9), (0, .class_ 10), (0, .nameAndType 11 12), (0, u "com/example/osier/osier/jdbc/ColumnKind"), (0, u "of"), (0, u "(I)Lcom/example/osier/osier/jdbc/ColumnKind;"), (0, .methodref 14 15), (0, .class_ 16), (0, .nameAndType 17 12), (0, u "com/example/osier/osier/jdbc/ColumnKindOfPinLaw"), (0, u "expected"), (0, .fieldref 8 19), (0, .nameAndType 20 21), (0, u "BOOLEAN"), (0, u "Lcom/example/osier/osier/jdbc/ColumnKind;"), (0, .fieldref 8 23), (0, .nameAndType 24 21), (0, u "TINYINT"), (0, .fieldref 8 26), (0, .nameAndType 27 21), (0, u "SMALLINT"), (0, .fieldref 8 29), (0, .nameAndType 30 21), (0, u "INTEGER"), (0, .fieldref 8 32), (0, .nameAndType 33 21), (0, u "BIGINT"), (0, .fieldref 8 35), (0, .nameAndType 36 21), (0, u "DECIMAL"), (0, .fieldref 8 38), (0, .nameAndType 39 21), (0, u "REAL"), (0, .fieldref 8 41), (0, .nameAndType 42 21), (0, u "DOUBLE"), (0, .fieldref 8 44), (0, .nameAndType 45 21), (0, u "DATE"), (0, .fieldref 8 47), (0, .nameAndType 48 21), (0, u "TIME"), (0, .fieldref 8 50), (0, .nameAndType 51 21), (0, u "TIMESTAMP"), (0, .fieldref 8 53), (0, .nameAndType 54 21), (0, u "TIME_WITH_TIME_ZONE"), (0, .fieldref 8 56), (0, .nameAndType 57 21), (0, u "TIMESTAMP_WITH_TIME_ZONE"), (0, .fieldref 8 59), (0, .nameAndType 60 21), (0, u "BINARY"), (0, .fieldref 8 62), (0, .nameAndType 63 21), (0, u "ARRAY"), (0, .fieldref 8 65), (0, .nameAndType 66 21), (0, u "XML"), (0, .fieldref 8 68), (0, .nameAndType 69 21), (0, u "CHARACTER"), (0, .fieldref 8 71), (0, .nameAndType 72 21), (0, u "OTHER"), (2, u "law"), (0, u "(II)Z")] 5

def k1m0 : Method := { name := "<init>", desc := "()V", sig := { parameters := [], returnType := none }, accessFlags := 2, code := none }
def k1c1 : Code := { maxStack := 4, maxLocals := 4, code := code, exceptionTable := #[], attributes := #[] }
def k1m1 : Method := { name := "law", desc := "(II)Z", sig := { parameters := [.int, .int], returnType := some .boolean }, accessFlags := 9, code := some k1c1 }
def k1c2 : Code := { maxStack := 2, maxLocals := 1, code := method_3_code, exceptionTable := #[], attributes := #[] }
def k1m2 : Method := { name := "expected", desc := "(I)Lcom/example/osier/osier/jdbc/ColumnKind;", sig := { parameters := [.int], returnType := some (.object "com/example/osier/osier/jdbc/ColumnKind") }, accessFlags := 10, code := some k1c2 }
/-- com/example/osier/osier/jdbc/ColumnKindOfPinLaw -/
def k1 : Class := { plain "com/example/osier/osier/jdbc/ColumnKindOfPinLaw" (some 0) with
  accessFlags := 49
  interfaces := #[]
  cf := some (fileOf pool1 14 #[] #[{ accessFlags := 2, nameIndex := 5, descriptorIndex := 6, attributes := #[] }, { accessFlags := 9, nameIndex := 75, descriptorIndex := 76, attributes := #[] }, { accessFlags := 10, nameIndex := 17, descriptorIndex := 12, attributes := #[] }] 49 2 #[] #[])
  fields := #[]
  methods := #[k1m0, k1m1, k1m2]
  instanceTypes := #[]
  staticTypes := #[]
  resolved := Array.replicate 82 none
  statics := none }

def pool2 : Array CpInfo := pool [(1, .class_ 2), (0, u "java/lang/constant/Constable"), (0, .class_ 4), (0, u "java/lang/Object")] 6

/-- java/lang/constant/Constable -/
def k2 : Class := { plain "java/lang/constant/Constable" (some 0) with
  accessFlags := 1537
  interfaces := #[]
  cf := some (fileOf pool2 1 #[] #[] 1537 3 #[] #[])
  fields := #[]
  methods := #[]
  instanceTypes := #[]
  staticTypes := #[]
  resolved := Array.replicate 11 none
  statics := none }

def pool3 : Array CpInfo := pool [(1, .class_ 2), (0, u "java/lang/Comparable"), (0, .class_ 4), (0, u "java/lang/Object")] 7

/-- java/lang/Comparable -/
def k3 : Class := { plain "java/lang/Comparable" (some 0) with
  accessFlags := 1537
  interfaces := #[]
  cf := some (fileOf pool3 1 #[] #[] 1537 3 #[] #[])
  fields := #[]
  methods := #[]
  instanceTypes := #[]
  staticTypes := #[]
  resolved := Array.replicate 12 none
  statics := none }

def pool4 : Array CpInfo := pool [(1, .class_ 2), (0, u "java/io/Serializable"), (0, .class_ 4), (0, u "java/lang/Object")] 2

/-- java/io/Serializable -/
def k4 : Class := { plain "java/io/Serializable" (some 0) with
  accessFlags := 1537
  interfaces := #[]
  cf := some (fileOf pool4 1 #[] #[] 1537 3 #[] #[])
  fields := #[]
  methods := #[]
  instanceTypes := #[]
  staticTypes := #[]
  resolved := Array.replicate 7 none
  statics := none }

def pool5 : Array CpInfo := pool [(2, .class_ 4), (1, u "java/lang/Enum"), (0, u "name"), (0, u "Ljava/lang/String;"), (2, u "ordinal"), (0, u "I"), (1, .class_ 14), (1, u "java/lang/Object"), (4, u "hash"), (86, .class_ 108), (1, u "java/lang/Enum$EnumDesc"), (2, .class_ 112), (0, u "java/lang/constant/Constable"), (0, .class_ 114), (0, u "java/lang/Comparable"), (0, .class_ 116), (0, u "java/io/Serializable")] 87

/-- java/lang/Enum -/
def k5 : Class := { plain "java/lang/Enum" (some 0) with
  accessFlags := 1057
  interfaces := #[2, 3, 4]
  cf := some (fileOf pool5 2 #[.nestMembers #[106]] #[] 1057 12 #[111, 113, 115] #[{ accessFlags := 18, nameIndex := 5, descriptorIndex := 6, attributes := #[] }, { accessFlags := 18, nameIndex := 9, descriptorIndex := 10, attributes := #[] }, { accessFlags := 2, nameIndex := 19, descriptorIndex := 10, attributes := #[] }])
  fields := #[{ name := "name", type := (.object "java/lang/String"), accessFlags := 18, slot := 0, constantValue := 0 }, { name := "ordinal", type := .int, accessFlags := 18, slot := 1, constantValue := 0 }, { name := "hash", type := .int, accessFlags := 2, slot := 2, constantValue := 0 }]
  methods := #[]
  instanceTypes := #[(.object "java/lang/String"), .int, .int]
  staticTypes := #[]
  resolved := Array.replicate 204 none
  statics := none }

def pool6 : Array CpInfo := pool [(1, .class_ 2), (0, u "com/example/osier/osier/jdbc/ColumnKind"), (0, .fieldref 1 4), (0, .nameAndType 5 6), (0, u "BOOLEAN"), (0, u "Lcom/example/osier/osier/jdbc/ColumnKind;"), (0, .fieldref 1 8), (0, .nameAndType 9 6), (0, u "TINYINT"), (0, .fieldref 1 11), (0, .nameAndType 12 6), (0, u "SMALLINT"), (0, .fieldref 1 14), (0, .nameAndType 15 6), (0, u "INTEGER"), (0, .fieldref 1 17), (0, .nameAndType 18 6), (0, u "BIGINT"), (0, .fieldref 1 20), (0, .nameAndType 21 6), (0, u "DECIMAL"), (0, .fieldref 1 23), (0, .nameAndType 24 6), (0, u "REAL"), (0, .fieldref 1 26), (0, .nameAndType 27 6), (0, u "DOUBLE"), (0, .fieldref 1 29), (0, .nameAndType 30 6), (0, u "DATE"), (0, .fieldref 1 32), (0, .nameAndType 33 6), (0, u "TIME"), (0, .fieldref 1 35), (0, .nameAndType 36 6), (0, u "TIMESTAMP"), (0, .fieldref 1 38), (0, .nameAndType 39 6), (0, u "TIME_WITH_TIME_ZONE"), (0, .fieldref 1 41), (0, .nameAndType 42 6), (0, u "TIMESTAMP_WITH_TIME_ZONE"), (0, .fieldref 1 44), (0, .nameAndType 45 6), (0, u "BINARY"), (0, .fieldref 1 47), (0, .nameAndType 48 6), (0, u "ARRAY"), (0, .fieldref 1 50), (0, .nameAndType 51 6), (0, u "XML"), (0, .fieldref 1 53), (0, .nameAndType 54 6), (0, u "CHARACTER"), (0, .fieldref 1 56), (0, .nameAndType 57 6), (0, u "OTHER"), (2, u "$VALUES"), (0, u "[Lcom/example/osier/osier/jdbc/ColumnKind;"), (6, .class_ 70), (1, u "java/lang/Enum"), (36, u "of"), (0, u "(I)Lcom/example/osier/osier/jdbc/ColumnKind;")] 5

def k6c0 : Code := { maxStack := 1, maxLocals := 1, code := prog_1_method_4_code, exceptionTable := #[], attributes := #[] }
def k6m0 : Method := { name := "of", desc := "(I)Lcom/example/osier/osier/jdbc/ColumnKind;", sig := { parameters := [.int], returnType := some (.object "com/example/osier/osier/jdbc/ColumnKind") }, accessFlags := 8, code := some k6c0 }
/-- com/example/osier/osier/jdbc/ColumnKind -/
def k6 : Class := { plain "com/example/osier/osier/jdbc/ColumnKind" (some 5) with
  accessFlags := 16432
  interfaces := #[]
  cf := some (fileOf pool6 1 #[] #[{ accessFlags := 8, nameIndex := 107, descriptorIndex := 108, attributes := #[] }] 16432 68 #[] #[{ accessFlags := 16409, nameIndex := 5, descriptorIndex := 6, attributes := #[] }, { accessFlags := 16409, nameIndex := 9, descriptorIndex := 6, attributes := #[] }, { accessFlags := 16409, nameIndex := 12, descriptorIndex := 6, attributes := #[] }, { accessFlags := 16409, nameIndex := 15, descriptorIndex := 6, attributes := #[] }, { accessFlags := 16409, nameIndex := 18, descriptorIndex := 6, attributes := #[] }, { accessFlags := 16409, nameIndex := 21, descriptorIndex := 6, attributes := #[] }, { accessFlags := 16409, nameIndex := 24, descriptorIndex := 6, attributes := #[] }, { accessFlags := 16409, nameIndex := 27, descriptorIndex := 6, attributes := #[] }, { accessFlags := 16409, nameIndex := 30, descriptorIndex := 6, attributes := #[] }, { accessFlags := 16409, nameIndex := 33, descriptorIndex := 6, attributes := #[] }, { accessFlags := 16409, nameIndex := 36, descriptorIndex := 6, attributes := #[] }, { accessFlags := 16409, nameIndex := 39, descriptorIndex := 6, attributes := #[] }, { accessFlags := 16409, nameIndex := 42, descriptorIndex := 6, attributes := #[] }, { accessFlags := 16409, nameIndex := 45, descriptorIndex := 6, attributes := #[] }, { accessFlags := 16409, nameIndex := 48, descriptorIndex := 6, attributes := #[] }, { accessFlags := 16409, nameIndex := 51, descriptorIndex := 6, attributes := #[] }, { accessFlags := 16409, nameIndex := 54, descriptorIndex := 6, attributes := #[] }, { accessFlags := 16409, nameIndex := 57, descriptorIndex := 6, attributes := #[] }, { accessFlags := 4122, nameIndex := 60, descriptorIndex := 61, attributes := #[] }])
  fields := #[{ name := "BOOLEAN", type := (.object "com/example/osier/osier/jdbc/ColumnKind"), accessFlags := 16409, slot := 0, constantValue := 0 }, { name := "TINYINT", type := (.object "com/example/osier/osier/jdbc/ColumnKind"), accessFlags := 16409, slot := 1, constantValue := 0 }, { name := "SMALLINT", type := (.object "com/example/osier/osier/jdbc/ColumnKind"), accessFlags := 16409, slot := 2, constantValue := 0 }, { name := "INTEGER", type := (.object "com/example/osier/osier/jdbc/ColumnKind"), accessFlags := 16409, slot := 3, constantValue := 0 }, { name := "BIGINT", type := (.object "com/example/osier/osier/jdbc/ColumnKind"), accessFlags := 16409, slot := 4, constantValue := 0 }, { name := "DECIMAL", type := (.object "com/example/osier/osier/jdbc/ColumnKind"), accessFlags := 16409, slot := 5, constantValue := 0 }, { name := "REAL", type := (.object "com/example/osier/osier/jdbc/ColumnKind"), accessFlags := 16409, slot := 6, constantValue := 0 }, { name := "DOUBLE", type := (.object "com/example/osier/osier/jdbc/ColumnKind"), accessFlags := 16409, slot := 7, constantValue := 0 }, { name := "DATE", type := (.object "com/example/osier/osier/jdbc/ColumnKind"), accessFlags := 16409, slot := 8, constantValue := 0 }, { name := "TIME", type := (.object "com/example/osier/osier/jdbc/ColumnKind"), accessFlags := 16409, slot := 9, constantValue := 0 }, { name := "TIMESTAMP", type := (.object "com/example/osier/osier/jdbc/ColumnKind"), accessFlags := 16409, slot := 10, constantValue := 0 }, { name := "TIME_WITH_TIME_ZONE", type := (.object "com/example/osier/osier/jdbc/ColumnKind"), accessFlags := 16409, slot := 11, constantValue := 0 }, { name := "TIMESTAMP_WITH_TIME_ZONE", type := (.object "com/example/osier/osier/jdbc/ColumnKind"), accessFlags := 16409, slot := 12, constantValue := 0 }, { name := "BINARY", type := (.object "com/example/osier/osier/jdbc/ColumnKind"), accessFlags := 16409, slot := 13, constantValue := 0 }, { name := "ARRAY", type := (.object "com/example/osier/osier/jdbc/ColumnKind"), accessFlags := 16409, slot := 14, constantValue := 0 }, { name := "XML", type := (.object "com/example/osier/osier/jdbc/ColumnKind"), accessFlags := 16409, slot := 15, constantValue := 0 }, { name := "CHARACTER", type := (.object "com/example/osier/osier/jdbc/ColumnKind"), accessFlags := 16409, slot := 16, constantValue := 0 }, { name := "OTHER", type := (.object "com/example/osier/osier/jdbc/ColumnKind"), accessFlags := 16409, slot := 17, constantValue := 0 }, { name := "$VALUES", type := (.array (.object "com/example/osier/osier/jdbc/ColumnKind")), accessFlags := 4122, slot := 18, constantValue := 0 }]
  methods := #[k6m0]
  instanceTypes := #[(.object "java/lang/String"), .int, .int]
  staticTypes := #[(.object "com/example/osier/osier/jdbc/ColumnKind"), (.object "com/example/osier/osier/jdbc/ColumnKind"), (.object "com/example/osier/osier/jdbc/ColumnKind"), (.object "com/example/osier/osier/jdbc/ColumnKind"), (.object "com/example/osier/osier/jdbc/ColumnKind"), (.object "com/example/osier/osier/jdbc/ColumnKind"), (.object "com/example/osier/osier/jdbc/ColumnKind"), (.object "com/example/osier/osier/jdbc/ColumnKind"), (.object "com/example/osier/osier/jdbc/ColumnKind"), (.object "com/example/osier/osier/jdbc/ColumnKind"), (.object "com/example/osier/osier/jdbc/ColumnKind"), (.object "com/example/osier/osier/jdbc/ColumnKind"), (.object "com/example/osier/osier/jdbc/ColumnKind"), (.object "com/example/osier/osier/jdbc/ColumnKind"), (.object "com/example/osier/osier/jdbc/ColumnKind"), (.object "com/example/osier/osier/jdbc/ColumnKind"), (.object "com/example/osier/osier/jdbc/ColumnKind"), (.object "com/example/osier/osier/jdbc/ColumnKind"), (.array (.object "com/example/osier/osier/jdbc/ColumnKind"))]
  resolved := Array.replicate 114 none
  statics := some 0 }

def pool7 : Array CpInfo := pool [(1, u "java/lang/Cloneable"), (0, .class_ 1), (0, u "java/lang/Object"), (0, .class_ 3)] 3

/-- java/lang/Cloneable -/
def k7 : Class := { plain "java/lang/Cloneable" (some 0) with
  accessFlags := 1537
  interfaces := #[]
  cf := some (fileOf pool7 2 #[] #[] 1537 4 #[] #[])
  fields := #[]
  methods := #[]
  instanceTypes := #[]
  staticTypes := #[]
  resolved := Array.replicate 8 none
  statics := none }

/-- the primitive byte -/
def k8 : Class := { plain "byte" none with kind := .primitive 'B', accessFlags := 0x411 }
/-- [B -/
def k9 : Class := { plain "[B" (some 0) with kind := .array 8 .byte, interfaces := #[7, 4], accessFlags := 1041 }

/-- the primitive int -/
def k10 : Class := { plain "int" none with kind := .primitive 'I', accessFlags := 0x411 }
/-- [I -/
def k11 : Class := { plain "[I" (some 0) with kind := .array 10 .int, interfaces := #[7, 4], accessFlags := 1041 }

def heap : Heap := #[{ cls := 6, slots := #[.ref 1, .ref 14, .ref 5, .ref 6, .ref 10, .ref 2, .ref 13, .ref 12, .ref 15, .ref 3, .ref 16, .ref 8, .ref 18, .ref 9, .ref 11, .ref 17, .ref 7, .ref 4, .null], vm := .statics 6 },
  { cls := 6, slots := #[.null, .int 0, .int 0], vm := .none },
  { cls := 6, slots := #[.null, .int 0, .int 0], vm := .none },
  { cls := 6, slots := #[.null, .int 0, .int 0], vm := .none },
  { cls := 6, slots := #[.null, .int 0, .int 0], vm := .none },
  { cls := 6, slots := #[.null, .int 0, .int 0], vm := .none },
  { cls := 6, slots := #[.null, .int 0, .int 0], vm := .none },
  { cls := 6, slots := #[.null, .int 0, .int 0], vm := .none },
  { cls := 6, slots := #[.null, .int 0, .int 0], vm := .none },
  { cls := 6, slots := #[.null, .int 0, .int 0], vm := .none },
  { cls := 6, slots := #[.null, .int 0, .int 0], vm := .none },
  { cls := 6, slots := #[.null, .int 0, .int 0], vm := .none },
  { cls := 6, slots := #[.null, .int 0, .int 0], vm := .none },
  { cls := 6, slots := #[.null, .int 0, .int 0], vm := .none },
  { cls := 6, slots := #[.null, .int 0, .int 0], vm := .none },
  { cls := 6, slots := #[.null, .int 0, .int 0], vm := .none },
  { cls := 6, slots := #[.null, .int 0, .int 0], vm := .none },
  { cls := 6, slots := #[.null, .int 0, .int 0], vm := .none },
  { cls := 6, slots := #[.null, .int 0, .int 0], vm := .none }]
def classes : Array Class := #[k0, k1, k2, k3, k4, k5, k6, k7, k8, k9, k10, k11]
def interned : List (Array UInt16 × Addr) := []
def slotsUsed : Nat := 73
def theMethod : MethodId := ⟨1, 1⟩
def args0 : Array Value := #[.int 5, .int 6]
def aboutOver (below : List Frame) : State where
  vm := { classes := classes, interned := interned.toArray }
  heap := heap
  slotsUsed := slotsUsed
  threads := #[{ frames := .invoking theMethod args0 :: below }]
def below0 : List Frame := [.native { method := ⟨0, 0⟩, args := #[] }]
def about1 : State := aboutOver below0
def p0 : Program := .bare "" "" ""
def e0 : Env := launch0.env 0 0 0
theorem w_frames : about1.frames = Frame.invoking theMethod args0 :: below0 := rfl
set_option maxRecDepth 65536 in
theorem w_args : argsFit about1.vm theMethod args0 = true := by decide +kernel
set_option maxRecDepth 65536 in
theorem w_heap : heapFits about1 = true := by decide +kernel
set_option maxRecDepth 65536 in
theorem w_runnable : about1.curStatus? = some .runnable := by decide +kernel
set_option maxRecDepth 65536 in
theorem w_alone : about1.alone = true := by decide +kernel
set_option maxRecDepth 65536 in
theorem w_named : about1.methodNamed? x = some theMethod := by decide +kernel
set_option maxRecDepth 65536 in
theorem w_hears : about1.hears theMethod below0 = true := by decide +kernel
set_option maxRecDepth 65536 in
theorem w_ripe : about1.ripe theMethod args0 below0 = true := by decide +kernel
theorem w_running : about1.status = .running := rfl
set_option maxRecDepth 65536 in
theorem w_room : about1.hasRoom e0.platform room_1 = true :=
  launch0.hasRoom_least _ room_1 (by decide +kernel) (by decide +kernel) (by decide +kernel) (by decide +kernel) (by decide +kernel) (by decide +kernel)
theorem allAtoms_all (ts : List Jvm.Cond) (a : Array Jvm.Value) (st : Jvm.State) : (allAtoms ts).before a st = ts.all (fun c => c.before a st) := by
  induction ts with
  | nil => rfl
  | cons c t ih =>
    show (Jvm.Cond.and c (allAtoms t)).before a st = _
    rw [Jvm.Cond.before_and, ih, List.all_cons]
def words1 : List Jvm.Cond := Jvm.Cond.code x code maxLocals ret :: tables_1
/-- a 'code' word, met by the world's own term for the bytes: nothing is compared byte by byte -/
theorem code_word {y : MethodName} {bytes : ByteArray} {mx : Nat} {rt : Option FieldType} {a : Array Value} {s : State} {m : MethodId} {meth : Method} {c : Code} (h1 : s.methodNamed? y = some m) (h2 : s.vm.method? m = some meth) (h3 : meth.code = some c) (h4 : c.code = bytes)
    (h5 : (c.maxLocals == mx && c.exceptionTable.isEmpty && decide (c.maxStack ≤ mostOperands) && decide (meth.sig.returnType = rt) && !meth.locks && decide (parseMethodDescriptor y.desc = some meth.sig)) = true) : (Jvm.Cond.code y bytes mx rt).before a s = true := by
  simp only [Bool.and_eq_true, beq_iff_eq, Bool.not_eq_true', decide_eq_true_eq] at h5
  obtain ⟨⟨⟨⟨⟨g1, g2⟩, g3⟩, g4⟩, g5⟩, g6⟩ := h5
  simp [Cond.before, Cond.holds, Cond.value, h1, h2, h3, h4, g1, g2, g3, g4, g5, g6]
def isCode : Jvm.Cond → Bool
  | .code _ _ _ _ => true
  | _ => false
theorem all_split {L : List Jvm.Cond} {P : Jvm.Cond → Bool} (h1 : L.all (fun c => isCode c || P c) = true) (h2 : ∀ c ∈ L.filter isCode, P c = true) : L.all P = true := by
  refine List.all_eq_true.mpr fun c hc => ?_
  have h := List.all_eq_true.mp h1 c hc
  rcases Bool.eq_false_or_eq_true (isCode c) with hi | hi
  · exact h2 c (List.mem_filter.mpr ⟨hc, hi⟩)
  · simpa [hi] using h
set_option maxRecDepth 65536 in
theorem w_c0 : (Jvm.Cond.code x code maxLocals ret).before args0 about1 = true := code_word (m := ⟨1, 1⟩) (meth := k1m1) (c := k1c1) (by decide +kernel) rfl rfl rfl (by decide +kernel)
set_option maxRecDepth 65536 in
theorem w_c1 : (Jvm.Cond.code ({ cls := "com/example/osier/osier/jdbc/ColumnKind", name := "of", desc := "(I)Lcom/example/osier/osier/jdbc/ColumnKind;" } : Jvm.MethodName) prog_1_method_4_code (1 : Nat) (Option.some (Jvm.ClassFile.FieldType.object "com/example/osier/osier/jdbc/ColumnKind"))).before args0 about1 = true := code_word (m := ⟨6, 0⟩) (meth := k6m0) (c := k6c0) (by decide +kernel) rfl rfl rfl (by decide +kernel)
set_option maxRecDepth 65536 in
theorem w_c2 : (Jvm.Cond.code ({ cls := "com/example/osier/osier/jdbc/ColumnKindOfPinLaw", name := "expected", desc := "(I)Lcom/example/osier/osier/jdbc/ColumnKind;" } : Jvm.MethodName) method_3_code (1 : Nat) (Option.some (Jvm.ClassFile.FieldType.object "com/example/osier/osier/jdbc/ColumnKind"))).before args0 about1 = true := code_word (m := ⟨1, 2⟩) (meth := k1m2) (c := k1c2) (by decide +kernel) rfl rfl rfl (by decide +kernel)
def codes1 : List Jvm.Cond := [Jvm.Cond.code x code maxLocals ret, Jvm.Cond.code ({ cls := "com/example/osier/osier/jdbc/ColumnKind", name := "of", desc := "(I)Lcom/example/osier/osier/jdbc/ColumnKind;" } : Jvm.MethodName) prog_1_method_4_code (1 : Nat) (Option.some (Jvm.ClassFile.FieldType.object "com/example/osier/osier/jdbc/ColumnKind")), Jvm.Cond.code ({ cls := "com/example/osier/osier/jdbc/ColumnKindOfPinLaw", name := "expected", desc := "(I)Lcom/example/osier/osier/jdbc/ColumnKind;" } : Jvm.MethodName) method_3_code (1 : Nat) (Option.some (Jvm.ClassFile.FieldType.object "com/example/osier/osier/jdbc/ColumnKind"))]
set_option maxRecDepth 65536 in
theorem codes_eq : words1.filter isCode = codes1 := rfl
theorem w_codes : ∀ c ∈ words1.filter isCode, c.before args0 about1 = true := by
  rw [codes_eq]
  intro c hc
  simp only [codes1, List.mem_cons, List.not_mem_nil, or_false] at hc
  rcases hc with rfl | rfl | rfl
  · exact w_c0
  · exact w_c1
  · exact w_c2
set_option maxRecDepth 65536 in
theorem w_t1 : (words1.take 24).all (fun c => isCode c || c.before args0 about1) = true := by decide +kernel
set_option maxRecDepth 65536 in
theorem w_t2 : ((words1.drop 24).take 24).all (fun c => isCode c || c.before args0 about1) = true := by decide +kernel
set_option maxRecDepth 65536 in
theorem w_t3 : ((words1.drop 24).drop 24).all (fun c => isCode c || c.before args0 about1) = true := by decide +kernel
theorem w_tables : (allAtoms (Jvm.Cond.code x code maxLocals ret :: tables_1)).before args0 about1 = true := by
  rw [allAtoms_all]
  show words1.all (fun c => c.before args0 about1) = true
  refine all_split ?_ w_codes
  rw [← List.take_append_drop 24 words1, List.all_append, w_t1, ← List.take_append_drop 24 (words1.drop 24), List.all_append, w_t2, w_t3]
  rfl
set_option maxRecDepth 65536 in
theorem w_case : (Jvm.Cond.and given_1 narrow_1).before args0 about1 = true := by decide +kernel
theorem w_applies : (headSpec (Jvm.Cond.code x code maxLocals ret :: tables_1) room_1).applies x e0.platform about1 = true :=
  (Spec.applies_iff w_frames).mpr ⟨w_running, w_runnable, w_alone, w_named, w_hears, w_ripe, w_room, w_tables⟩
theorem atStart : AtStart classFile x code maxLocals ret World_1 tables_1 room_1 Calls_1 rest_1 Pre_1 launch0 p0 e0 about1 theMethod args0 below0 :=
  ⟨lists_1, trivial, launch0.admits_env _ _ _, launch0.least_env, fairChoices_fair.cas, fairChoices_fair.clock, w_frames, w_args, w_heap, w_applies, trivial, trivial, w_case⟩
end start1
theorem witness_1 : WitnessClaimed_1 := ⟨start1.p0, start1.e0, start1.about1, start1.theMethod, start1.args0, start1.below0, start1.atStart⟩
end Jvm.Pilot.@@N@@
