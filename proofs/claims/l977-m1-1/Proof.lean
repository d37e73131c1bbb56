import JvmDerived
import JvmDerived.Pilot.@@N@@Statement
import JvmDerived.Pilot.@@N@@Code
set_option linter.unusedVariables false
set_option linter.unusedSimpArgs false
namespace Jvm.RoadKit
open Sem ClassFile Op Lib Jvm.Stand Jvm.Free Jvm.LawKit
section New
variable {p : Program} {l : Launch} {e : Env} {R : Room} {s : State} {m : MethodId} {args : Array Value} {below : List Frame} {meth : Method} {c : Code} {T : State} {locs : List Loc} {cells slots : Nat}
theorem retI (X : Stand p l e R s m args below meth c T locs cells slots) (hx : p.tables.exec = Jvm.exec) {pc : Nat} {Ls : Array Slot} {z : Int32} {rest : List Value} (hret : meth.sig.returnType = some .int) (hd : decode c.code pc = .ok (.ireturn, 1)) {fs : List Frame}
    (hl : ∀ (f : JFrame) (acts : List Action), f.method = m → f.locked = none → f.entered = [] → (doReturn e (T.setTop f) acts (some (.int z))).1 = T.setFrames fs) : Steps p.tables e below (T.setTop (mkF m pc Ls (.int z :: rest))) (T.setFrames fs) := by
  have hm' : T.vm.method? m = some meth := X.method'
  have hn : narrow .int (.int z) = .int z := rfl
  show Steps p.tables e below (T.setTop { method := m, pc := pc, locals := Ls, stack := _ :: rest, locked := none }) _
  jvm_step X.here [X.here.top, hx, hd, hm', hret, hn]
  first | (intro acts; rw [hl _ acts rfl rfl rfl]) | rw [hl _ _ rfl rfl rfl]
  exact Steps.refl _
end New
end Jvm.RoadKit
namespace Jvm.Pilot.@@N@@
open Jvm Jvm.ClassFile Sem Op Lib Jvm.Free Jvm.Stand Jvm.LawKit Jvm.RoadKit Bundle Jvm.Pilot.@@N@@.Jvm.D
abbrev own_s (p : Program) (e : Env) (below : List Frame) (T : State) (m : MethodId) (pc : Nat) (L : Array Slot) (S : List Value) (t : State) : Prop := Steps p.tables e below (T.setTop (mkF m pc L S)) t
def own_T0 (x v pa le ta lo hi re : Int) : Prop := ta = 1 ∧ ((x < 128 ∧ v = x ∧ le = 1 ∧ re = 0) ∨ (128 ≤ x ∧ (x < 194 ∨ 244 < x) ∧ v = -3 ∧ le = 1 ∧ re = 0) ∨ (194 ≤ x ∧ x < 224 ∧ v = -1 ∧ le = 2 ∧ re = 1 ∧ pa = x - 192 ∧ lo = 128 ∧ hi = 191) ∨ (224 ≤ x ∧ x < 240 ∧ v = -1 ∧ le = 3 ∧ re = 1 ∧ pa = x - 224 ∧ (x = 224 ∧ lo = 160 ∨ x ≠ 224 ∧ lo = 128) ∧ (x = 237 ∧ hi = 159 ∨ x ≠ 237 ∧ hi = 191)) ∨ (240 ≤ x ∧ x ≤ 244 ∧ v = -1 ∧ le = 4 ∧ re = 1 ∧ pa = x - 240 ∧ (x = 240 ∧ lo = 144 ∨ x ≠ 240 ∧ lo = 128) ∧ (x = 244 ∧ hi = 143 ∨ x ≠ 244 ∧ hi = 191)))
def own_T1 (x v pa pa' le ta ta' lo hi lo' hi' re' : Int) : Prop := ta' = ta + 1 ∧ ((lo ≤ x ∧ x ≤ hi ∧ pa' = pa * 64 + x % 64 ∧ lo' = 128 ∧ hi' = 191 ∧ ((ta + 1 < le ∧ re' = 1 ∧ v = -1) ∨ (le ≤ ta + 1 ∧ re' = 0 ∧ v = pa'))) ∨ ((x < lo ∨ hi < x) ∧ re' = 0 ∧ v = -3))
theorem own_cat (pa x : Int32) (h0 : 0 ≤ pa.toInt) (h1 : pa.toInt < 2097152) : ((pa <<< ((6 : Int32) &&& 31)) ||| (x &&& (63 : Int32))).toInt = pa.toInt * 64 + x.toInt % 64 := by
  have d1 := c_ishl pa 6 6 (by decide)
  have d2 := rng32 (pa <<< ((6 : Int32) &&& 31))
  have d3 := c_mask x 63 6 (by decide) (by decide)
  have d4 := c_or (pa <<< ((6 : Int32) &&& 31)) (x &&& (63 : Int32)) 6 (by decide) 64 (by decide) (by omega) (by omega) (by omega)
  have d5 := rng32 ((pa <<< ((6 : Int32) &&& 31)) ||| (x &&& (63 : Int32)))
  omega
theorem own_eqI {x y : Int32} (h : x.toInt = y.toInt) : x = y := Int32.toInt_inj.mp h
theorem own_cpl (x m : Int32) (h : m.toBitVec.toNat = 63) : ((128 : Int32) ||| (x &&& m)).toInt = 128 + x.toInt % 64 := by
  have d3 := c_mask x m 6 (by decide) (by rw [h])
  have d4 := c_or (128 : Int32) (x &&& m) 6 (by decide) 64 (by decide) (by decide) (by omega) (by omega)
  have d5 := rng32 ((128 : Int32) ||| (x &&& m))
  have d6 : (128 : Int32).toInt = 128 := rfl
  omega
theorem d1_0 : decode prog_181_method_1_code 0 = .ok (.aload_n 0, 1) := by decide +kernel
theorem d1_1 : decode prog_181_method_1_code 1 = .ok (.invokespecial 1, 3) := by decide +kernel
theorem d1_4 : decode prog_181_method_1_code 4 = .ok (.return_, 1) := by decide +kernel
theorem pn_1 : plainName "com/example/weaverbird/weaverbird/model/xml/Utf8Decoder" = true := by first | (simp [plainName, overriddenIn]; done) | decide +kernel
theorem ef_1 (m : MethodId) (a : Addr) : entryFrame m #[(.ref a)] 1 = mkF m 0 #[rv a] [] := by first | (simp [entryFrame, mkF, argsToLocals, Value.category]; done) | rfl
def Q1 (Z : State) (a : Addr) (h0 : Heap) (n0 : Nat) (v : Option Value) (h : Heap) (L : List Loc) : Prop := v = none ∧ Fr n0 L ∧ h = h0
set_option maxRecDepth 65536 in
set_option maxHeartbeats 40000000 in
theorem rm1 (l : Launch) (Z : State) (a0 : Array Value) (hw : ∀ d ∈ tables_1, d.before a0 Z = true) (ws : List Jvm.Cond) (a : Addr) (h0 : Heap) (n0 : Nat) (Z0 : n0 ≤ h0.size)  :
    MetFree l (⟨"com/example/weaverbird/weaverbird/model/xml/Utf8Decoder", "<init>", "()V"⟩ : MethodName) (head1 (Jvm.Cond.code (⟨"com/example/weaverbird/weaverbird/model/xml/Utf8Decoder", "<init>", "()V"⟩ : MethodName) prog_181_method_1_code 1 none :: ws) ({ frames := 1, cells := 0, slots := 0, locals := 15 } : Room)) (fun aX UX => aX = #[(.ref a)] ∧ Z.Warmed39 UX.vm ∧ UX.heap = h0) (fun _ _ _ _ _ => True) (fun _ UX oX UY => ∃ vX LX, oX = .returned vX ∧ Q1 Z a h0 n0 vX UY.heap LX ∧ FrameEnd UX oX UY LX ({ frames := 1, cells := 0, slots := 0, locals := 15 } : Room).cells ({ frames := 1, cells := 0, slots := 0, locals := 15 } : Room).slots) := by
  refine MetFree.of_bodySF (plainFor_of_name pn_1) hisR ?_
  intro p e s m args below meth c s₁ Bd hml0 hPX hKX
  obtain ⟨rfl, hZ, hh⟩ := hPX
  have hx := Bd.exec
  have hby := Bd.bytes
  have hml : c.maxLocals = 1 := hml0
  have hown : s.vm.findClass "com/example/weaverbird/weaverbird/model/xml/Utf8Decoder" = some m.cls := findClass_of_methodNamed Bd.named
  have hnm := (name_of_methodNamed Bd.named Bd.method).1
  have X0 : Stand p l e ({ frames := 1, cells := 0, slots := 0, locals := 15 } : Room) s m #[(.ref a)] below meth c s₁ [] 0 0 := Stand.of_body Bd
  have e0 : s₁.heap = h0 := by rw [← hh, Bd.state]; rfl
  have N0 := Fr.nil n0
  have pre0 : ∀ t, Steps p.tables e below (s₁.setTop (mkF m 0 #[rv a] [])) t → Steps p.tables e below (s₁.setTop (entryFrame m #[(.ref a)] 1)) t := fun t k => castTop (ef_1 m a) k
  obtain ⟨S0, hS0⟩ : ∃ z, z = (s₁.setTop (entryFrame m #[(.ref a)] 1)) := ⟨_, rfl⟩
  rw [← hS0] at pre0
  have pre1 : ∀ t, own_s p e below s₁ m 1 #[rv a] [(.ref a)] t → Steps p.tables e below S0 t := by
    intro tX kX
    refine pre0 _ ?_
    show own_s p e below s₁ m 0 #[rv a] [] _
    refine XS.aloadN X0.here hx rfl (hb hby d1_0) rfl rfl ?_
    exact kX
  obtain ⟨T2, X2, e2, st2⟩ := initO X0 hx hZ hown (hw _ (List.mem_of_getElem? (i := 10) rfl)) (hw _ (List.mem_of_getElem? (i := 11) rfl)) (hw _ (List.mem_of_getElem? (i := 12) rfl)) e0 (g := (mkF m 1 #[rv a] [(.ref a)])) rfl (by rw [hml]; rfl) rfl (hb hby d1_1) (by decide) (W := 0) (by show 2 * 0 + _ ≤ _; exact Nat.le_of_eq rfl) (by decide)
  have pre3 : ∀ t, own_s p e below T2 m 4 #[rv a] [] t → Steps p.tables e below S0 t := fun tX kX => pre1 _ (st2 _ kX)
  subst hS0
  obtain ⟨fs, hr, hrun, hended, hW, hsame⟩ := X2.leave (v := none) (fun _ => rfl)
  refine ⟨_, _, pre3 _ (X2.returnOut hx Bd.returns (hb hby d1_4) hr), hrun, hended, _, _, rfl, ?_, ⟨_, rfl⟩, hW, hsame.mono (by decide) (by decide)⟩
  show Q1 Z a h0 n0 none T2.heap _
  exact ⟨rfl, N0, e2⟩
theorem d2_0 : decode prog_181_method_4_code 0 = .ok (.aload_n 0, 1) := by decide +kernel
theorem d2_1 : decode prog_181_method_4_code 1 = .ok (.getfield 16, 3) := by decide +kernel
theorem d2_4 : decode prog_181_method_4_code 4 = .ok (.ifCond .eq 98, 3) := by decide +kernel
theorem d2_102 : decode prog_181_method_4_code 102 = .ok (.aload_n 0, 1) := by decide +kernel
theorem d2_103 : decode prog_181_method_4_code 103 = .ok (.getfield 16, 3) := by decide +kernel
theorem d2_106 : decode prog_181_method_4_code 106 = .ok (.ifCond .eq 24, 3) := by decide +kernel
theorem d2_130 : decode prog_181_method_4_code 130 = .ok (.aload_n 0, 1) := by decide +kernel
theorem d2_131 : decode prog_181_method_4_code 131 = .ok (.iload_n 1, 1) := by decide +kernel
theorem d2_132 : decode prog_181_method_4_code 132 = .ok (.sipush 194, 3) := by decide +kernel
theorem d2_135 : decode prog_181_method_4_code 135 = .ok (.if_icmp .lt 10, 3) := by decide +kernel
theorem d2_138 : decode prog_181_method_4_code 138 = .ok (.iload_n 1, 1) := by decide +kernel
theorem d2_139 : decode prog_181_method_4_code 139 = .ok (.sipush 244, 3) := by decide +kernel
theorem d2_142 : decode prog_181_method_4_code 142 = .ok (.if_icmp .le 7, 3) := by decide +kernel
theorem d2_145 : decode prog_181_method_4_code 145 = .ok (.iconst 1, 1) := by decide +kernel
theorem d2_146 : decode prog_181_method_4_code 146 = .ok (.goto 26, 3) := by decide +kernel
theorem d2_149 : decode prog_181_method_4_code 149 = .ok (.iload_n 1, 1) := by decide +kernel
theorem d2_150 : decode prog_181_method_4_code 150 = .ok (.sipush 224, 3) := by decide +kernel
theorem d2_153 : decode prog_181_method_4_code 153 = .ok (.if_icmp .ge 7, 3) := by decide +kernel
theorem d2_156 : decode prog_181_method_4_code 156 = .ok (.iconst 2, 1) := by decide +kernel
theorem d2_157 : decode prog_181_method_4_code 157 = .ok (.goto 15, 3) := by decide +kernel
theorem d2_160 : decode prog_181_method_4_code 160 = .ok (.iload_n 1, 1) := by decide +kernel
theorem d2_161 : decode prog_181_method_4_code 161 = .ok (.sipush 240, 3) := by decide +kernel
theorem d2_164 : decode prog_181_method_4_code 164 = .ok (.if_icmp .ge 7, 3) := by decide +kernel
theorem d2_167 : decode prog_181_method_4_code 167 = .ok (.iconst 3, 1) := by decide +kernel
theorem d2_168 : decode prog_181_method_4_code 168 = .ok (.goto 4, 3) := by decide +kernel
theorem d2_171 : decode prog_181_method_4_code 171 = .ok (.iconst 4, 1) := by decide +kernel
theorem d2_172 : decode prog_181_method_4_code 172 = .ok (.putfield 7, 3) := by decide +kernel
theorem d2_175 : decode prog_181_method_4_code 175 = .ok (.aload_n 0, 1) := by decide +kernel
theorem d2_176 : decode prog_181_method_4_code 176 = .ok (.iconst 1, 1) := by decide +kernel
theorem d2_177 : decode prog_181_method_4_code 177 = .ok (.putfield 13, 3) := by decide +kernel
theorem d2_180 : decode prog_181_method_4_code 180 = .ok (.aload_n 0, 1) := by decide +kernel
theorem d2_181 : decode prog_181_method_4_code 181 = .ok (.aload_n 0, 1) := by decide +kernel
theorem d2_182 : decode prog_181_method_4_code 182 = .ok (.getfield 7, 3) := by decide +kernel
theorem d2_185 : decode prog_181_method_4_code 185 = .ok (.iconst 1, 1) := by decide +kernel
theorem d2_186 : decode prog_181_method_4_code 186 = .ok (.if_icmp .le 7, 3) := by decide +kernel
theorem d2_189 : decode prog_181_method_4_code 189 = .ok (.iconst 1, 1) := by decide +kernel
theorem d2_190 : decode prog_181_method_4_code 190 = .ok (.goto 4, 3) := by decide +kernel
theorem d2_193 : decode prog_181_method_4_code 193 = .ok (.iconst 0, 1) := by decide +kernel
theorem d2_194 : decode prog_181_method_4_code 194 = .ok (.putfield 16, 3) := by decide +kernel
theorem d2_197 : decode prog_181_method_4_code 197 = .ok (.aload_n 0, 1) := by decide +kernel
theorem d2_198 : decode prog_181_method_4_code 198 = .ok (.iload_n 1, 1) := by decide +kernel
theorem d2_199 : decode prog_181_method_4_code 199 = .ok (.bipush 63, 2) := by decide +kernel
theorem d2_201 : decode prog_181_method_4_code 201 = .ok (.aload_n 0, 1) := by decide +kernel
theorem d2_202 : decode prog_181_method_4_code 202 = .ok (.getfield 7, 3) := by decide +kernel
theorem d2_205 : decode prog_181_method_4_code 205 = .ok (.iconst 1, 1) := by decide +kernel
theorem d2_206 : decode prog_181_method_4_code 206 = .ok (.isub, 1) := by decide +kernel
theorem d2_207 : decode prog_181_method_4_code 207 = .ok (.ishr, 1) := by decide +kernel
theorem d2_208 : decode prog_181_method_4_code 208 = .ok (.iand, 1) := by decide +kernel
theorem d2_209 : decode prog_181_method_4_code 209 = .ok (.putfield 26, 3) := by decide +kernel
theorem d2_212 : decode prog_181_method_4_code 212 = .ok (.aload_n 0, 1) := by decide +kernel
theorem d2_213 : decode prog_181_method_4_code 213 = .ok (.iload_n 1, 1) := by decide +kernel
theorem d2_214 : decode prog_181_method_4_code 214 = .ok (.sipush 224, 3) := by decide +kernel
theorem d2_217 : decode prog_181_method_4_code 217 = .ok (.if_icmp .ne 9, 3) := by decide +kernel
theorem d2_220 : decode prog_181_method_4_code 220 = .ok (.sipush 160, 3) := by decide +kernel
theorem d2_223 : decode prog_181_method_4_code 223 = .ok (.goto 19, 3) := by decide +kernel
theorem d2_226 : decode prog_181_method_4_code 226 = .ok (.iload_n 1, 1) := by decide +kernel
theorem d2_227 : decode prog_181_method_4_code 227 = .ok (.sipush 240, 3) := by decide +kernel
theorem d2_230 : decode prog_181_method_4_code 230 = .ok (.if_icmp .ne 9, 3) := by decide +kernel
theorem d2_233 : decode prog_181_method_4_code 233 = .ok (.sipush 144, 3) := by decide +kernel
theorem d2_236 : decode prog_181_method_4_code 236 = .ok (.goto 6, 3) := by decide +kernel
theorem d2_239 : decode prog_181_method_4_code 239 = .ok (.sipush 128, 3) := by decide +kernel
theorem d2_242 : decode prog_181_method_4_code 242 = .ok (.putfield 20, 3) := by decide +kernel
theorem d2_245 : decode prog_181_method_4_code 245 = .ok (.aload_n 0, 1) := by decide +kernel
theorem d2_246 : decode prog_181_method_4_code 246 = .ok (.iload_n 1, 1) := by decide +kernel
theorem d2_247 : decode prog_181_method_4_code 247 = .ok (.sipush 237, 3) := by decide +kernel
theorem d2_250 : decode prog_181_method_4_code 250 = .ok (.if_icmp .ne 9, 3) := by decide +kernel
theorem d2_253 : decode prog_181_method_4_code 253 = .ok (.sipush 159, 3) := by decide +kernel
theorem d2_256 : decode prog_181_method_4_code 256 = .ok (.goto 19, 3) := by decide +kernel
theorem d2_259 : decode prog_181_method_4_code 259 = .ok (.iload_n 1, 1) := by decide +kernel
theorem d2_260 : decode prog_181_method_4_code 260 = .ok (.sipush 244, 3) := by decide +kernel
theorem d2_263 : decode prog_181_method_4_code 263 = .ok (.if_icmp .ne 9, 3) := by decide +kernel
theorem d2_266 : decode prog_181_method_4_code 266 = .ok (.sipush 143, 3) := by decide +kernel
theorem d2_269 : decode prog_181_method_4_code 269 = .ok (.goto 6, 3) := by decide +kernel
theorem d2_272 : decode prog_181_method_4_code 272 = .ok (.sipush 191, 3) := by decide +kernel
theorem d2_275 : decode prog_181_method_4_code 275 = .ok (.putfield 23, 3) := by decide +kernel
theorem d2_278 : decode prog_181_method_4_code 278 = .ok (.iload_n 1, 1) := by decide +kernel
theorem d2_279 : decode prog_181_method_4_code 279 = .ok (.sipush 128, 3) := by decide +kernel
theorem d2_282 : decode prog_181_method_4_code 282 = .ok (.if_icmp .ge 7, 3) := by decide +kernel
theorem d2_285 : decode prog_181_method_4_code 285 = .ok (.iload_n 1, 1) := by decide +kernel
theorem d2_286 : decode prog_181_method_4_code 286 = .ok (.goto 16, 3) := by decide +kernel
theorem d2_289 : decode prog_181_method_4_code 289 = .ok (.aload_n 0, 1) := by decide +kernel
theorem d2_290 : decode prog_181_method_4_code 290 = .ok (.getfield 16, 3) := by decide +kernel
theorem d2_293 : decode prog_181_method_4_code 293 = .ok (.ifCond .eq 7, 3) := by decide +kernel
theorem d2_296 : decode prog_181_method_4_code 296 = .ok (.iconst (-1), 1) := by decide +kernel
theorem d2_297 : decode prog_181_method_4_code 297 = .ok (.goto 5, 3) := by decide +kernel
theorem d2_300 : decode prog_181_method_4_code 300 = .ok (.bipush (-3), 2) := by decide +kernel
theorem d2_302 : decode prog_181_method_4_code 302 = .ok (.istore_n 2, 1) := by decide +kernel
theorem d2_303 : decode prog_181_method_4_code 303 = .ok (.iload_n 2, 1) := by decide +kernel
theorem d2_304 : decode prog_181_method_4_code 304 = .ok (.ireturn, 1) := by decide +kernel
theorem pn_2 : plainName "com/example/weaverbird/weaverbird/model/xml/Utf8Decoder" = true := by first | (simp [plainName, overriddenIn]; done) | decide +kernel
theorem ef_2 (m : MethodId) (a : Addr) (p1 : Int32) : entryFrame m #[(.ref a), (.int p1)] 3 = mkF m 0 #[rv a, iv p1, .unset] [] := by first | (simp [entryFrame, mkF, argsToLocals, Value.category]; done) | rfl
def Q2 (Z : State) (a : Addr) (p1 : Int32) (pa : Int32) (le : Int32) (ta : Int32) (lo : Int32) (hi : Int32) (re : Int32) (h0 : Heap) (n0 : Nat) (v : Option Value) (h : Heap) (L : List Loc) : Prop := ∃ v' pa' le' ta' lo' hi' re' : Int32, v = some (.int v') ∧ Fr n0 L ∧ Keep h0 h [a] ∧ Exa Z h a "com/example/weaverbird/weaverbird/model/xml/Utf8Decoder" ∧ Fld Z h a "com/example/weaverbird/weaverbird/model/xml/Utf8Decoder" "partial" "I" (.int pa') ∧ Fld Z h a "com/example/weaverbird/weaverbird/model/xml/Utf8Decoder" "length" "I" (.int le') ∧ Fld Z h a "com/example/weaverbird/weaverbird/model/xml/Utf8Decoder" "taken" "I" (.int ta') ∧ Fld Z h a "com/example/weaverbird/weaverbird/model/xml/Utf8Decoder" "low" "I" (.int lo') ∧ Fld Z h a "com/example/weaverbird/weaverbird/model/xml/Utf8Decoder" "high" "I" (.int hi') ∧ Fld Z h a "com/example/weaverbird/weaverbird/model/xml/Utf8Decoder" "reading" "Z" (.int re') ∧ own_T0 p1.toInt v'.toInt pa'.toInt le'.toInt ta'.toInt lo'.toInt hi'.toInt re'.toInt
set_option maxRecDepth 65536 in
set_option maxHeartbeats 40000000 in
theorem rm2 (l : Launch) (Z : State) (a0 : Array Value) (hw : ∀ d ∈ tables_1, d.before a0 Z = true) (ws : List Jvm.Cond) (a : Addr) (p1 : Int32) (pa : Int32) (le : Int32) (ta : Int32) (lo : Int32) (hi : Int32) (re : Int32) (h0 : Heap) (n0 : Nat) (Z0 : n0 ≤ h0.size) (E_a : Exa Z h0 a "com/example/weaverbird/weaverbird/model/xml/Utf8Decoder") (F_pa : Fld Z h0 a "com/example/weaverbird/weaverbird/model/xml/Utf8Decoder" "partial" "I" (.int pa)) (F_le : Fld Z h0 a "com/example/weaverbird/weaverbird/model/xml/Utf8Decoder" "length" "I" (.int le)) (F_ta : Fld Z h0 a "com/example/weaverbird/weaverbird/model/xml/Utf8Decoder" "taken" "I" (.int ta)) (F_lo : Fld Z h0 a "com/example/weaverbird/weaverbird/model/xml/Utf8Decoder" "low" "I" (.int lo)) (F_hi : Fld Z h0 a "com/example/weaverbird/weaverbird/model/xml/Utf8Decoder" "high" "I" (.int hi)) (F_re : Fld Z h0 a "com/example/weaverbird/weaverbird/model/xml/Utf8Decoder" "reading" "Z" (.int re)) (g_a : n0 ≤ a) (hre : re = 0) (hx0 : 0 ≤ p1.toInt) (hx1 : p1.toInt ≤ 255) :
    MetFree l (⟨"com/example/weaverbird/weaverbird/model/xml/Utf8Decoder", "take", "(I)I"⟩ : MethodName) (head1 (Jvm.Cond.code (⟨"com/example/weaverbird/weaverbird/model/xml/Utf8Decoder", "take", "(I)I"⟩ : MethodName) prog_181_method_4_code 3 (some .int) :: ws) ({ frames := 0, cells := 0, slots := 0, locals := 0 } : Room)) (fun aX UX => aX = #[(.ref a), (.int p1)] ∧ Z.Warmed39 UX.vm ∧ UX.heap = h0) (fun _ _ _ _ _ => True) (fun _ UX oX UY => ∃ vX LX, oX = .returned vX ∧ Q2 Z a p1 pa le ta lo hi re h0 n0 vX UY.heap LX ∧ FrameEnd UX oX UY LX ({ frames := 0, cells := 0, slots := 0, locals := 0 } : Room).cells ({ frames := 0, cells := 0, slots := 0, locals := 0 } : Room).slots) := by
  refine MetFree.of_bodySF (plainFor_of_name pn_2) hisR ?_
  intro p e s m args below meth c s₁ Bd hml0 hPX hKX
  obtain ⟨rfl, hZ, hh⟩ := hPX
  have hx := Bd.exec
  have hby := Bd.bytes
  have hml : c.maxLocals = 3 := hml0
  have hown : s.vm.findClass "com/example/weaverbird/weaverbird/model/xml/Utf8Decoder" = some m.cls := findClass_of_methodNamed Bd.named
  have hnm := (name_of_methodNamed Bd.named Bd.method).1
  have X0 : Stand p l e ({ frames := 0, cells := 0, slots := 0, locals := 0 } : Room) s m #[(.ref a), (.int p1)] below meth c s₁ [] 0 0 := Stand.of_body Bd
  have e0 : s₁.heap = h0 := by rw [← hh, Bd.state]; rfl
  have N0 := Fr.nil n0
  have pre0 : ∀ t, Steps p.tables e below (s₁.setTop (mkF m 0 #[rv a, iv p1, .unset] [])) t → Steps p.tables e below (s₁.setTop (entryFrame m #[(.ref a), (.int p1)] 3)) t := fun t k => castTop (ef_2 m a p1) k
  obtain ⟨S0, hS0⟩ : ∃ z, z = (s₁.setTop (entryFrame m #[(.ref a), (.int p1)] 3)) := ⟨_, rfl⟩
  rw [← hS0] at pre0
  have K0 : Keep h0 h0 [a] := Keep.refl h0 _
  have pre1 : ∀ t, own_s p e below s₁ m 1 #[rv a, iv p1, .unset] [(.ref a)] t → Steps p.tables e below S0 t := by
    intro tX kX
    refine pre0 _ ?_
    show own_s p e below s₁ m 0 #[rv a, iv p1, .unset] [] _
    refine XS.aloadN X0.here hx rfl (hb hby d2_0) rfl rfl ?_
    exact kX
  obtain ⟨T2, X2, e2, st2⟩ := getF X0 hx hZ hown (host := "") (Or.inl (hw _ (List.mem_of_getElem? (i := 18) rfl))) Via.refl e0 F_re (g := (mkF m 1 #[rv a, iv p1, .unset] [(.ref a)])) rfl rfl (hb hby d2_1)
  have pre3 : ∀ t, own_s p e below T2 m 4 #[rv a, iv p1, .unset] [(.int re)] t → Steps p.tables e below S0 t := fun tX kX => pre1 _ (st2 _ kX)
  have pre4 : ∀ t, own_s p e below T2 m 103 #[rv a, iv p1, .unset] [(.ref a)] t → Steps p.tables e below S0 t := by
    intro tX kX
    refine pre3 _ ?_
    show own_s p e below T2 m 4 #[rv a, iv p1, .unset] [(.int re)] _
    refine XS.ifYes X2.here hx rfl (pc0 := 4) (pc' := 102) rfl (hb hby d2_4) rfl ((if0 _ _).trans (teq hre).1) (by decide) (by decide) ?_
    show own_s p e below T2 m 102 #[rv a, iv p1, .unset] [] _
    refine XS.aloadN X2.here hx rfl (hb hby d2_102) rfl rfl ?_
    exact kX
  obtain ⟨T5, X5, e5, st5⟩ := getF X2 hx hZ hown (host := "") (Or.inl (hw _ (List.mem_of_getElem? (i := 18) rfl))) Via.refl e2 F_re (g := (mkF m 103 #[rv a, iv p1, .unset] [(.ref a)])) rfl rfl (hb hby d2_103)
  have pre6 : ∀ t, own_s p e below T5 m 106 #[rv a, iv p1, .unset] [(.int re)] t → Steps p.tables e below S0 t := fun tX kX => pre4 _ (st5 _ kX)
  have pre7 : ∀ t, own_s p e below T5 m 135 #[rv a, iv p1, .unset] [(.int (194 : Int32)), (.int p1), (.ref a)] t → Steps p.tables e below S0 t := by
    intro tX kX
    refine pre6 _ ?_
    show own_s p e below T5 m 106 #[rv a, iv p1, .unset] [(.int re)] _
    refine XS.ifYes X5.here hx rfl (pc0 := 106) (pc' := 130) rfl (hb hby d2_106) rfl ((if0 _ _).trans (teq hre).1) (by decide) (by decide) ?_
    show own_s p e below T5 m 130 #[rv a, iv p1, .unset] [] _
    refine XS.aloadN X5.here hx rfl (hb hby d2_130) rfl rfl ?_
    show own_s p e below T5 m 131 #[rv a, iv p1, .unset] [(.ref a)] _
    refine XS.iloadN X5.here hx rfl (hb hby d2_131) rfl ?_
    show own_s p e below T5 m 132 #[rv a, iv p1, .unset] [(.int p1), (.ref a)] _
    refine XS.sipush X5.here hx rfl (hb hby d2_132) ?_
    exact kX
  by_cases hc8 : p1 < (194 : Int32)
  · skip
    have ihc8 : (p1).toInt < (194 : Int) := Int32.lt_iff_toInt_lt.mp hc8
    have pre9 : ∀ t, own_s p e below T5 m 172 #[rv a, iv p1, .unset] [(.int (1 : Int32)), (.ref a)] t → Steps p.tables e below S0 t := by
      intro tX kX
      refine pre7 _ ?_
      show own_s p e below T5 m 135 #[rv a, iv p1, .unset] [(.int (194 : Int32)), (.int p1), (.ref a)] _
      refine XS.icmpYes X5.here hx rfl (pc0 := 135) (pc' := 145) rfl (hb hby d2_135) rfl (tlt hc8).1 (by decide) (by decide) ?_
      show own_s p e below T5 m 145 #[rv a, iv p1, .unset] [(.ref a)] _
      refine XS.iconst X5.here hx rfl (hb hby d2_145) ?_
      show own_s p e below T5 m 146 #[rv a, iv p1, .unset] [(.int (1 : Int32)), (.ref a)] _
      refine XS.goto X5.here hx rfl (pc0 := 146) (pc' := 172) rfl (hb hby d2_146) (by decide) (by decide) ?_
      exact kX
    obtain ⟨T10, h10, X10, e10, W10, st10⟩ := putF X5 hx hZ hown (host := "") (Or.inl (hw _ (List.mem_of_getElem? (i := 20) rfl))) Via.refl e5 F_le E_a (Or.inl (hw _ (List.mem_of_getElem? (i := 21) rfl))) (hw _ (List.mem_of_getElem? (i := 5) rfl)) (ty := .int) (by decide) rfl rfl (g := (mkF m 172 #[rv a, iv p1, .unset] [(.int (1 : Int32)), (.ref a)])) rfl rfl (hb hby d2_172)
    have pre11 : ∀ t, own_s p e below T10 m 175 #[rv a, iv p1, .unset] [] t → Steps p.tables e below S0 t := fun tX kX => pre9 _ (st10 _ kX)
    obtain ⟨LL12, X12, N12⟩ : ∃ LL, Stand p l e ({ frames := 0, cells := 0, slots := 0, locals := 0 } : Room) s m #[(.ref a), (.int p1)] below meth c T10 LL 0 0 ∧ Fr n0 LL := ⟨_, X10, Fr.snoc X10 N0 g_a⟩
    have f13_E : Exa Z h10 a "com/example/weaverbird/weaverbird/model/xml/Utf8Decoder" := E_a.wr W10
    have f14_F : Fld Z h10 a "com/example/weaverbird/weaverbird/model/xml/Utf8Decoder" "partial" "I" (.int pa) := F_pa.other W10 (Or.inr (slot_ne (Or.inl (hw _ (List.mem_of_getElem? (i := 25) rfl))) (Or.inl (hw _ (List.mem_of_getElem? (i := 21) rfl))) (by decide) (t := .int) (t' := .int) (by decide) (by decide)))
    have f15_F : Fld Z h10 a "com/example/weaverbird/weaverbird/model/xml/Utf8Decoder" "taken" "I" (.int ta) := F_ta.other W10 (Or.inr (slot_ne (Or.inl (hw _ (List.mem_of_getElem? (i := 23) rfl))) (Or.inl (hw _ (List.mem_of_getElem? (i := 21) rfl))) (by decide) (t := .int) (t' := .int) (by decide) (by decide)))
    have f16_F : Fld Z h10 a "com/example/weaverbird/weaverbird/model/xml/Utf8Decoder" "low" "I" (.int lo) := F_lo.other W10 (Or.inr (slot_ne (Or.inl (hw _ (List.mem_of_getElem? (i := 27) rfl))) (Or.inl (hw _ (List.mem_of_getElem? (i := 21) rfl))) (by decide) (t := .int) (t' := .int) (by decide) (by decide)))
    have f17_F : Fld Z h10 a "com/example/weaverbird/weaverbird/model/xml/Utf8Decoder" "high" "I" (.int hi) := F_hi.other W10 (Or.inr (slot_ne (Or.inl (hw _ (List.mem_of_getElem? (i := 29) rfl))) (Or.inl (hw _ (List.mem_of_getElem? (i := 21) rfl))) (by decide) (t := .int) (t' := .int) (by decide) (by decide)))
    have f18_F : Fld Z h10 a "com/example/weaverbird/weaverbird/model/xml/Utf8Decoder" "reading" "Z" (.int re) := F_re.other W10 (Or.inr (slot_ne (Or.inl (hw _ (List.mem_of_getElem? (i := 19) rfl))) (Or.inl (hw _ (List.mem_of_getElem? (i := 21) rfl))) (by decide) (t := .boolean) (t' := .int) (by decide) (by decide)))
    have Z19 : n0 ≤ h10.size := Nat.le_trans Z0 (Keep.of_wr W10).1
    have K20 : Keep h0 h10 [a] := K0.wr W10 (Or.inl (List.mem_of_getElem? (i := 0) rfl))
    have f21_F : Fld Z h10 a "com/example/weaverbird/weaverbird/model/xml/Utf8Decoder" "length" "I" (.int (1 : Int32)) := F_le.same W10
    have pre22 : ∀ t, own_s p e below T10 m 177 #[rv a, iv p1, .unset] [(.int (1 : Int32)), (.ref a)] t → Steps p.tables e below S0 t := by
      intro tX kX
      refine pre11 _ ?_
      show own_s p e below T10 m 175 #[rv a, iv p1, .unset] [] _
      refine XS.aloadN X12.here hx rfl (hb hby d2_175) rfl rfl ?_
      show own_s p e below T10 m 176 #[rv a, iv p1, .unset] [(.ref a)] _
      refine XS.iconst X12.here hx rfl (hb hby d2_176) ?_
      exact kX
    obtain ⟨T23, h23, X23, e23, W23, st23⟩ := putF X12 hx hZ hown (host := "") (Or.inl (hw _ (List.mem_of_getElem? (i := 22) rfl))) Via.refl e10 f15_F f13_E (Or.inl (hw _ (List.mem_of_getElem? (i := 23) rfl))) (hw _ (List.mem_of_getElem? (i := 5) rfl)) (ty := .int) (by decide) rfl rfl (g := (mkF m 177 #[rv a, iv p1, .unset] [(.int (1 : Int32)), (.ref a)])) rfl rfl (hb hby d2_177)
    have pre24 : ∀ t, own_s p e below T23 m 180 #[rv a, iv p1, .unset] [] t → Steps p.tables e below S0 t := fun tX kX => pre22 _ (st23 _ kX)
    obtain ⟨LL25, X25, N25⟩ : ∃ LL, Stand p l e ({ frames := 0, cells := 0, slots := 0, locals := 0 } : Room) s m #[(.ref a), (.int p1)] below meth c T23 LL 0 0 ∧ Fr n0 LL := ⟨_, X23, Fr.snoc X23 N12 g_a⟩
    have f26_E : Exa Z h23 a "com/example/weaverbird/weaverbird/model/xml/Utf8Decoder" := f13_E.wr W23
    have f27_F : Fld Z h23 a "com/example/weaverbird/weaverbird/model/xml/Utf8Decoder" "partial" "I" (.int pa) := f14_F.other W23 (Or.inr (slot_ne (Or.inl (hw _ (List.mem_of_getElem? (i := 25) rfl))) (Or.inl (hw _ (List.mem_of_getElem? (i := 23) rfl))) (by decide) (t := .int) (t' := .int) (by decide) (by decide)))
    have f28_F : Fld Z h23 a "com/example/weaverbird/weaverbird/model/xml/Utf8Decoder" "low" "I" (.int lo) := f16_F.other W23 (Or.inr (slot_ne (Or.inl (hw _ (List.mem_of_getElem? (i := 27) rfl))) (Or.inl (hw _ (List.mem_of_getElem? (i := 23) rfl))) (by decide) (t := .int) (t' := .int) (by decide) (by decide)))
    have f29_F : Fld Z h23 a "com/example/weaverbird/weaverbird/model/xml/Utf8Decoder" "high" "I" (.int hi) := f17_F.other W23 (Or.inr (slot_ne (Or.inl (hw _ (List.mem_of_getElem? (i := 29) rfl))) (Or.inl (hw _ (List.mem_of_getElem? (i := 23) rfl))) (by decide) (t := .int) (t' := .int) (by decide) (by decide)))
    have f30_F : Fld Z h23 a "com/example/weaverbird/weaverbird/model/xml/Utf8Decoder" "reading" "Z" (.int re) := f18_F.other W23 (Or.inr (slot_ne (Or.inl (hw _ (List.mem_of_getElem? (i := 19) rfl))) (Or.inl (hw _ (List.mem_of_getElem? (i := 23) rfl))) (by decide) (t := .boolean) (t' := .int) (by decide) (by decide)))
    have f31_F : Fld Z h23 a "com/example/weaverbird/weaverbird/model/xml/Utf8Decoder" "length" "I" (.int (1 : Int32)) := f21_F.other W23 (Or.inr (slot_ne (Or.inl (hw _ (List.mem_of_getElem? (i := 21) rfl))) (Or.inl (hw _ (List.mem_of_getElem? (i := 23) rfl))) (by decide) (t := .int) (t' := .int) (by decide) (by decide)))
    have Z32 : n0 ≤ h23.size := Nat.le_trans Z19 (Keep.of_wr W23).1
    have K33 : Keep h0 h23 [a] := K20.wr W23 (Or.inl (List.mem_of_getElem? (i := 0) rfl))
    have f34_F : Fld Z h23 a "com/example/weaverbird/weaverbird/model/xml/Utf8Decoder" "taken" "I" (.int (1 : Int32)) := f15_F.same W23
    have pre35 : ∀ t, own_s p e below T23 m 182 #[rv a, iv p1, .unset] [(.ref a), (.ref a)] t → Steps p.tables e below S0 t := by
      intro tX kX
      refine pre24 _ ?_
      show own_s p e below T23 m 180 #[rv a, iv p1, .unset] [] _
      refine XS.aloadN X25.here hx rfl (hb hby d2_180) rfl rfl ?_
      show own_s p e below T23 m 181 #[rv a, iv p1, .unset] [(.ref a)] _
      refine XS.aloadN X25.here hx rfl (hb hby d2_181) rfl rfl ?_
      exact kX
    obtain ⟨T36, X36, e36, st36⟩ := getF X25 hx hZ hown (host := "") (Or.inl (hw _ (List.mem_of_getElem? (i := 20) rfl))) Via.refl e23 f31_F (g := (mkF m 182 #[rv a, iv p1, .unset] [(.ref a), (.ref a)])) rfl rfl (hb hby d2_182)
    have pre37 : ∀ t, own_s p e below T36 m 185 #[rv a, iv p1, .unset] [(.int (1 : Int32)), (.ref a)] t → Steps p.tables e below S0 t := fun tX kX => pre35 _ (st36 _ kX)
    have pre38 : ∀ t, own_s p e below T36 m 194 #[rv a, iv p1, .unset] [(.int (0 : Int32)), (.ref a)] t → Steps p.tables e below S0 t := by
      intro tX kX
      refine pre37 _ ?_
      show own_s p e below T36 m 185 #[rv a, iv p1, .unset] [(.int (1 : Int32)), (.ref a)] _
      refine XS.iconst X36.here hx rfl (hb hby d2_185) ?_
      show own_s p e below T36 m 186 #[rv a, iv p1, .unset] [(.int (1 : Int32)), (.int (1 : Int32)), (.ref a)] _
      refine XS.icmpYes X36.here hx rfl (pc0 := 186) (pc' := 193) rfl (hb hby d2_186) rfl (flt (by decide : ¬ ((1 : Int32) < (1 : Int32)))).2.2.2 (by decide) (by decide) ?_
      show own_s p e below T36 m 193 #[rv a, iv p1, .unset] [(.ref a)] _
      refine XS.iconst X36.here hx rfl (hb hby d2_193) ?_
      exact kX
    obtain ⟨T39, h39, X39, e39, W39, st39⟩ := putFN X36 hx hZ hown (hw _ (List.mem_of_getElem? (i := 18) rfl)) Via.refl e36 f30_F f26_E (Or.inl (hw _ (List.mem_of_getElem? (i := 19) rfl))) (hw _ (List.mem_of_getElem? (i := 5) rfl)) (ty := .boolean) (v' := (.int (0 : Int32))) (by decide) rfl rfl (g := (mkF m 194 #[rv a, iv p1, .unset] [(.int (0 : Int32)), (.ref a)])) rfl rfl (hb hby d2_194)
    have pre40 : ∀ t, own_s p e below T39 m 197 #[rv a, iv p1, .unset] [] t → Steps p.tables e below S0 t := fun tX kX => pre38 _ (st39 _ kX)
    obtain ⟨LL41, X41, N41⟩ : ∃ LL, Stand p l e ({ frames := 0, cells := 0, slots := 0, locals := 0 } : Room) s m #[(.ref a), (.int p1)] below meth c T39 LL 0 0 ∧ Fr n0 LL := ⟨_, X39, Fr.snoc X39 N25 g_a⟩
    have f42_E : Exa Z h39 a "com/example/weaverbird/weaverbird/model/xml/Utf8Decoder" := f26_E.wr W39
    have f43_F : Fld Z h39 a "com/example/weaverbird/weaverbird/model/xml/Utf8Decoder" "partial" "I" (.int pa) := f27_F.other W39 (Or.inr (slot_ne (Or.inl (hw _ (List.mem_of_getElem? (i := 25) rfl))) (Or.inl (hw _ (List.mem_of_getElem? (i := 19) rfl))) (by decide) (t := .int) (t' := .boolean) (by decide) (by decide)))
    have f44_F : Fld Z h39 a "com/example/weaverbird/weaverbird/model/xml/Utf8Decoder" "low" "I" (.int lo) := f28_F.other W39 (Or.inr (slot_ne (Or.inl (hw _ (List.mem_of_getElem? (i := 27) rfl))) (Or.inl (hw _ (List.mem_of_getElem? (i := 19) rfl))) (by decide) (t := .int) (t' := .boolean) (by decide) (by decide)))
    have f45_F : Fld Z h39 a "com/example/weaverbird/weaverbird/model/xml/Utf8Decoder" "high" "I" (.int hi) := f29_F.other W39 (Or.inr (slot_ne (Or.inl (hw _ (List.mem_of_getElem? (i := 29) rfl))) (Or.inl (hw _ (List.mem_of_getElem? (i := 19) rfl))) (by decide) (t := .int) (t' := .boolean) (by decide) (by decide)))
    have f46_F : Fld Z h39 a "com/example/weaverbird/weaverbird/model/xml/Utf8Decoder" "length" "I" (.int (1 : Int32)) := f31_F.other W39 (Or.inr (slot_ne (Or.inl (hw _ (List.mem_of_getElem? (i := 21) rfl))) (Or.inl (hw _ (List.mem_of_getElem? (i := 19) rfl))) (by decide) (t := .int) (t' := .boolean) (by decide) (by decide)))
    have f47_F : Fld Z h39 a "com/example/weaverbird/weaverbird/model/xml/Utf8Decoder" "taken" "I" (.int (1 : Int32)) := f34_F.other W39 (Or.inr (slot_ne (Or.inl (hw _ (List.mem_of_getElem? (i := 23) rfl))) (Or.inl (hw _ (List.mem_of_getElem? (i := 19) rfl))) (by decide) (t := .int) (t' := .boolean) (by decide) (by decide)))
    have Z48 : n0 ≤ h39.size := Nat.le_trans Z32 (Keep.of_wr W39).1
    have K49 : Keep h0 h39 [a] := K33.wr W39 (Or.inl (List.mem_of_getElem? (i := 0) rfl))
    have f50_F : Fld Z h39 a "com/example/weaverbird/weaverbird/model/xml/Utf8Decoder" "reading" "Z" (.int (0 : Int32)) := f30_F.same W39
    have pre51 : ∀ t, own_s p e below T39 m 202 #[rv a, iv p1, .unset] [(.ref a), (.int (63 : Int32)), (.int p1), (.ref a)] t → Steps p.tables e below S0 t := by
      intro tX kX
      refine pre40 _ ?_
      show own_s p e below T39 m 197 #[rv a, iv p1, .unset] [] _
      refine XS.aloadN X41.here hx rfl (hb hby d2_197) rfl rfl ?_
      show own_s p e below T39 m 198 #[rv a, iv p1, .unset] [(.ref a)] _
      refine XS.iloadN X41.here hx rfl (hb hby d2_198) rfl ?_
      show own_s p e below T39 m 199 #[rv a, iv p1, .unset] [(.int p1), (.ref a)] _
      refine XS.bipush X41.here hx rfl (hb hby d2_199) ?_
      show own_s p e below T39 m 201 #[rv a, iv p1, .unset] [(.int (63 : Int32)), (.int p1), (.ref a)] _
      refine XS.aloadN X41.here hx rfl (hb hby d2_201) rfl rfl ?_
      exact kX
    obtain ⟨T52, X52, e52, st52⟩ := getF X41 hx hZ hown (host := "") (Or.inl (hw _ (List.mem_of_getElem? (i := 20) rfl))) Via.refl e39 f46_F (g := (mkF m 202 #[rv a, iv p1, .unset] [(.ref a), (.int (63 : Int32)), (.int p1), (.ref a)])) rfl rfl (hb hby d2_202)
    have pre53 : ∀ t, own_s p e below T52 m 205 #[rv a, iv p1, .unset] [(.int (1 : Int32)), (.int (63 : Int32)), (.int p1), (.ref a)] t → Steps p.tables e below S0 t := fun tX kX => pre51 _ (st52 _ kX)
    have pre54 : ∀ t, own_s p e below T52 m 209 #[rv a, iv p1, .unset] [(.int (p1 &&& ((63 : Int32) >>> (((1 : Int32) - (1 : Int32)) &&& 31)))), (.ref a)] t → Steps p.tables e below S0 t := by
      intro tX kX
      refine pre53 _ ?_
      show own_s p e below T52 m 205 #[rv a, iv p1, .unset] [(.int (1 : Int32)), (.int (63 : Int32)), (.int p1), (.ref a)] _
      refine XS.iconst X52.here hx rfl (hb hby d2_205) ?_
      show own_s p e below T52 m 206 #[rv a, iv p1, .unset] [(.int (1 : Int32)), (.int (1 : Int32)), (.int (63 : Int32)), (.int p1), (.ref a)] _
      refine XS.isub X52.here hx rfl (hb hby d2_206) rfl ?_
      show own_s p e below T52 m 207 #[rv a, iv p1, .unset] [(.int ((1 : Int32) - (1 : Int32))), (.int (63 : Int32)), (.int p1), (.ref a)] _
      refine XS.ishr X52.here hx rfl (hb hby d2_207) rfl ?_
      show own_s p e below T52 m 208 #[rv a, iv p1, .unset] [(.int ((63 : Int32) >>> (((1 : Int32) - (1 : Int32)) &&& 31))), (.int p1), (.ref a)] _
      refine XS.iand X52.here hx rfl (hb hby d2_208) rfl ?_
      exact kX
    obtain ⟨T55, h55, X55, e55, W55, st55⟩ := putF X52 hx hZ hown (host := "") (Or.inl (hw _ (List.mem_of_getElem? (i := 24) rfl))) Via.refl e52 f43_F f42_E (Or.inl (hw _ (List.mem_of_getElem? (i := 25) rfl))) (hw _ (List.mem_of_getElem? (i := 5) rfl)) (ty := .int) (by decide) rfl rfl (g := (mkF m 209 #[rv a, iv p1, .unset] [(.int (p1 &&& ((63 : Int32) >>> (((1 : Int32) - (1 : Int32)) &&& 31)))), (.ref a)])) rfl rfl (hb hby d2_209)
    have pre56 : ∀ t, own_s p e below T55 m 212 #[rv a, iv p1, .unset] [] t → Steps p.tables e below S0 t := fun tX kX => pre54 _ (st55 _ kX)
    obtain ⟨LL57, X57, N57⟩ : ∃ LL, Stand p l e ({ frames := 0, cells := 0, slots := 0, locals := 0 } : Room) s m #[(.ref a), (.int p1)] below meth c T55 LL 0 0 ∧ Fr n0 LL := ⟨_, X55, Fr.snoc X55 N41 g_a⟩
    have f58_E : Exa Z h55 a "com/example/weaverbird/weaverbird/model/xml/Utf8Decoder" := f42_E.wr W55
    have f59_F : Fld Z h55 a "com/example/weaverbird/weaverbird/model/xml/Utf8Decoder" "low" "I" (.int lo) := f44_F.other W55 (Or.inr (slot_ne (Or.inl (hw _ (List.mem_of_getElem? (i := 27) rfl))) (Or.inl (hw _ (List.mem_of_getElem? (i := 25) rfl))) (by decide) (t := .int) (t' := .int) (by decide) (by decide)))
    have f60_F : Fld Z h55 a "com/example/weaverbird/weaverbird/model/xml/Utf8Decoder" "high" "I" (.int hi) := f45_F.other W55 (Or.inr (slot_ne (Or.inl (hw _ (List.mem_of_getElem? (i := 29) rfl))) (Or.inl (hw _ (List.mem_of_getElem? (i := 25) rfl))) (by decide) (t := .int) (t' := .int) (by decide) (by decide)))
    have f61_F : Fld Z h55 a "com/example/weaverbird/weaverbird/model/xml/Utf8Decoder" "length" "I" (.int (1 : Int32)) := f46_F.other W55 (Or.inr (slot_ne (Or.inl (hw _ (List.mem_of_getElem? (i := 21) rfl))) (Or.inl (hw _ (List.mem_of_getElem? (i := 25) rfl))) (by decide) (t := .int) (t' := .int) (by decide) (by decide)))
    have f62_F : Fld Z h55 a "com/example/weaverbird/weaverbird/model/xml/Utf8Decoder" "taken" "I" (.int (1 : Int32)) := f47_F.other W55 (Or.inr (slot_ne (Or.inl (hw _ (List.mem_of_getElem? (i := 23) rfl))) (Or.inl (hw _ (List.mem_of_getElem? (i := 25) rfl))) (by decide) (t := .int) (t' := .int) (by decide) (by decide)))
    have f63_F : Fld Z h55 a "com/example/weaverbird/weaverbird/model/xml/Utf8Decoder" "reading" "Z" (.int (0 : Int32)) := f50_F.other W55 (Or.inr (slot_ne (Or.inl (hw _ (List.mem_of_getElem? (i := 19) rfl))) (Or.inl (hw _ (List.mem_of_getElem? (i := 25) rfl))) (by decide) (t := .boolean) (t' := .int) (by decide) (by decide)))
    have Z64 : n0 ≤ h55.size := Nat.le_trans Z48 (Keep.of_wr W55).1
    have K65 : Keep h0 h55 [a] := K49.wr W55 (Or.inl (List.mem_of_getElem? (i := 0) rfl))
    have f66_F : Fld Z h55 a "com/example/weaverbird/weaverbird/model/xml/Utf8Decoder" "partial" "I" (.int (p1 &&& ((63 : Int32) >>> (((1 : Int32) - (1 : Int32)) &&& 31)))) := f43_F.same W55
    have pre67 : ∀ t, own_s p e below T55 m 242 #[rv a, iv p1, .unset] [(.int (128 : Int32)), (.ref a)] t → Steps p.tables e below S0 t := by
      intro tX kX
      refine pre56 _ ?_
      show own_s p e below T55 m 212 #[rv a, iv p1, .unset] [] _
      refine XS.aloadN X57.here hx rfl (hb hby d2_212) rfl rfl ?_
      show own_s p e below T55 m 213 #[rv a, iv p1, .unset] [(.ref a)] _
      refine XS.iloadN X57.here hx rfl (hb hby d2_213) rfl ?_
      show own_s p e below T55 m 214 #[rv a, iv p1, .unset] [(.int p1), (.ref a)] _
      refine XS.sipush X57.here hx rfl (hb hby d2_214) ?_
      show own_s p e below T55 m 217 #[rv a, iv p1, .unset] [(.int (224 : Int32)), (.int p1), (.ref a)] _
      refine XS.icmpYes X57.here hx rfl (pc0 := 217) (pc' := 226) rfl (hb hby d2_217) rfl (feq (show ¬ (p1 = (224 : Int32)) from (fun q => absurd (show (p1).toInt = (224 : Int) from congrArg Int32.toInt q) (by omega)))).2 (by decide) (by decide) ?_
      show own_s p e below T55 m 226 #[rv a, iv p1, .unset] [(.ref a)] _
      refine XS.iloadN X57.here hx rfl (hb hby d2_226) rfl ?_
      show own_s p e below T55 m 227 #[rv a, iv p1, .unset] [(.int p1), (.ref a)] _
      refine XS.sipush X57.here hx rfl (hb hby d2_227) ?_
      show own_s p e below T55 m 230 #[rv a, iv p1, .unset] [(.int (240 : Int32)), (.int p1), (.ref a)] _
      refine XS.icmpYes X57.here hx rfl (pc0 := 230) (pc' := 239) rfl (hb hby d2_230) rfl (feq (show ¬ (p1 = (240 : Int32)) from (fun q => absurd (show (p1).toInt = (240 : Int) from congrArg Int32.toInt q) (by omega)))).2 (by decide) (by decide) ?_
      show own_s p e below T55 m 239 #[rv a, iv p1, .unset] [(.ref a)] _
      refine XS.sipush X57.here hx rfl (hb hby d2_239) ?_
      exact kX
    obtain ⟨T68, h68, X68, e68, W68, st68⟩ := putF X57 hx hZ hown (host := "") (Or.inl (hw _ (List.mem_of_getElem? (i := 26) rfl))) Via.refl e55 f59_F f58_E (Or.inl (hw _ (List.mem_of_getElem? (i := 27) rfl))) (hw _ (List.mem_of_getElem? (i := 5) rfl)) (ty := .int) (by decide) rfl rfl (g := (mkF m 242 #[rv a, iv p1, .unset] [(.int (128 : Int32)), (.ref a)])) rfl rfl (hb hby d2_242)
    have pre69 : ∀ t, own_s p e below T68 m 245 #[rv a, iv p1, .unset] [] t → Steps p.tables e below S0 t := fun tX kX => pre67 _ (st68 _ kX)
    obtain ⟨LL70, X70, N70⟩ : ∃ LL, Stand p l e ({ frames := 0, cells := 0, slots := 0, locals := 0 } : Room) s m #[(.ref a), (.int p1)] below meth c T68 LL 0 0 ∧ Fr n0 LL := ⟨_, X68, Fr.snoc X68 N57 g_a⟩
    have f71_E : Exa Z h68 a "com/example/weaverbird/weaverbird/model/xml/Utf8Decoder" := f58_E.wr W68
    have f72_F : Fld Z h68 a "com/example/weaverbird/weaverbird/model/xml/Utf8Decoder" "high" "I" (.int hi) := f60_F.other W68 (Or.inr (slot_ne (Or.inl (hw _ (List.mem_of_getElem? (i := 29) rfl))) (Or.inl (hw _ (List.mem_of_getElem? (i := 27) rfl))) (by decide) (t := .int) (t' := .int) (by decide) (by decide)))
    have f73_F : Fld Z h68 a "com/example/weaverbird/weaverbird/model/xml/Utf8Decoder" "length" "I" (.int (1 : Int32)) := f61_F.other W68 (Or.inr (slot_ne (Or.inl (hw _ (List.mem_of_getElem? (i := 21) rfl))) (Or.inl (hw _ (List.mem_of_getElem? (i := 27) rfl))) (by decide) (t := .int) (t' := .int) (by decide) (by decide)))
    have f74_F : Fld Z h68 a "com/example/weaverbird/weaverbird/model/xml/Utf8Decoder" "taken" "I" (.int (1 : Int32)) := f62_F.other W68 (Or.inr (slot_ne (Or.inl (hw _ (List.mem_of_getElem? (i := 23) rfl))) (Or.inl (hw _ (List.mem_of_getElem? (i := 27) rfl))) (by decide) (t := .int) (t' := .int) (by decide) (by decide)))
    have f75_F : Fld Z h68 a "com/example/weaverbird/weaverbird/model/xml/Utf8Decoder" "reading" "Z" (.int (0 : Int32)) := f63_F.other W68 (Or.inr (slot_ne (Or.inl (hw _ (List.mem_of_getElem? (i := 19) rfl))) (Or.inl (hw _ (List.mem_of_getElem? (i := 27) rfl))) (by decide) (t := .boolean) (t' := .int) (by decide) (by decide)))
    have f76_F : Fld Z h68 a "com/example/weaverbird/weaverbird/model/xml/Utf8Decoder" "partial" "I" (.int (p1 &&& ((63 : Int32) >>> (((1 : Int32) - (1 : Int32)) &&& 31)))) := f66_F.other W68 (Or.inr (slot_ne (Or.inl (hw _ (List.mem_of_getElem? (i := 25) rfl))) (Or.inl (hw _ (List.mem_of_getElem? (i := 27) rfl))) (by decide) (t := .int) (t' := .int) (by decide) (by decide)))
    have Z77 : n0 ≤ h68.size := Nat.le_trans Z64 (Keep.of_wr W68).1
    have K78 : Keep h0 h68 [a] := K65.wr W68 (Or.inl (List.mem_of_getElem? (i := 0) rfl))
    have f79_F : Fld Z h68 a "com/example/weaverbird/weaverbird/model/xml/Utf8Decoder" "low" "I" (.int (128 : Int32)) := f59_F.same W68
    have pre80 : ∀ t, own_s p e below T68 m 275 #[rv a, iv p1, .unset] [(.int (191 : Int32)), (.ref a)] t → Steps p.tables e below S0 t := by
      intro tX kX
      refine pre69 _ ?_
      show own_s p e below T68 m 245 #[rv a, iv p1, .unset] [] _
      refine XS.aloadN X70.here hx rfl (hb hby d2_245) rfl rfl ?_
      show own_s p e below T68 m 246 #[rv a, iv p1, .unset] [(.ref a)] _
      refine XS.iloadN X70.here hx rfl (hb hby d2_246) rfl ?_
      show own_s p e below T68 m 247 #[rv a, iv p1, .unset] [(.int p1), (.ref a)] _
      refine XS.sipush X70.here hx rfl (hb hby d2_247) ?_
      show own_s p e below T68 m 250 #[rv a, iv p1, .unset] [(.int (237 : Int32)), (.int p1), (.ref a)] _
      refine XS.icmpYes X70.here hx rfl (pc0 := 250) (pc' := 259) rfl (hb hby d2_250) rfl (feq (show ¬ (p1 = (237 : Int32)) from (fun q => absurd (show (p1).toInt = (237 : Int) from congrArg Int32.toInt q) (by omega)))).2 (by decide) (by decide) ?_
      show own_s p e below T68 m 259 #[rv a, iv p1, .unset] [(.ref a)] _
      refine XS.iloadN X70.here hx rfl (hb hby d2_259) rfl ?_
      show own_s p e below T68 m 260 #[rv a, iv p1, .unset] [(.int p1), (.ref a)] _
      refine XS.sipush X70.here hx rfl (hb hby d2_260) ?_
      show own_s p e below T68 m 263 #[rv a, iv p1, .unset] [(.int (244 : Int32)), (.int p1), (.ref a)] _
      refine XS.icmpYes X70.here hx rfl (pc0 := 263) (pc' := 272) rfl (hb hby d2_263) rfl (feq (show ¬ (p1 = (244 : Int32)) from (fun q => absurd (show (p1).toInt = (244 : Int) from congrArg Int32.toInt q) (by omega)))).2 (by decide) (by decide) ?_
      show own_s p e below T68 m 272 #[rv a, iv p1, .unset] [(.ref a)] _
      refine XS.sipush X70.here hx rfl (hb hby d2_272) ?_
      exact kX
    obtain ⟨T81, h81, X81, e81, W81, st81⟩ := putF X70 hx hZ hown (host := "") (Or.inl (hw _ (List.mem_of_getElem? (i := 28) rfl))) Via.refl e68 f72_F f71_E (Or.inl (hw _ (List.mem_of_getElem? (i := 29) rfl))) (hw _ (List.mem_of_getElem? (i := 5) rfl)) (ty := .int) (by decide) rfl rfl (g := (mkF m 275 #[rv a, iv p1, .unset] [(.int (191 : Int32)), (.ref a)])) rfl rfl (hb hby d2_275)
    have pre82 : ∀ t, own_s p e below T81 m 278 #[rv a, iv p1, .unset] [] t → Steps p.tables e below S0 t := fun tX kX => pre80 _ (st81 _ kX)
    obtain ⟨LL83, X83, N83⟩ : ∃ LL, Stand p l e ({ frames := 0, cells := 0, slots := 0, locals := 0 } : Room) s m #[(.ref a), (.int p1)] below meth c T81 LL 0 0 ∧ Fr n0 LL := ⟨_, X81, Fr.snoc X81 N70 g_a⟩
    have f84_E : Exa Z h81 a "com/example/weaverbird/weaverbird/model/xml/Utf8Decoder" := f71_E.wr W81
    have f85_F : Fld Z h81 a "com/example/weaverbird/weaverbird/model/xml/Utf8Decoder" "length" "I" (.int (1 : Int32)) := f73_F.other W81 (Or.inr (slot_ne (Or.inl (hw _ (List.mem_of_getElem? (i := 21) rfl))) (Or.inl (hw _ (List.mem_of_getElem? (i := 29) rfl))) (by decide) (t := .int) (t' := .int) (by decide) (by decide)))
    have f86_F : Fld Z h81 a "com/example/weaverbird/weaverbird/model/xml/Utf8Decoder" "taken" "I" (.int (1 : Int32)) := f74_F.other W81 (Or.inr (slot_ne (Or.inl (hw _ (List.mem_of_getElem? (i := 23) rfl))) (Or.inl (hw _ (List.mem_of_getElem? (i := 29) rfl))) (by decide) (t := .int) (t' := .int) (by decide) (by decide)))
    have f87_F : Fld Z h81 a "com/example/weaverbird/weaverbird/model/xml/Utf8Decoder" "reading" "Z" (.int (0 : Int32)) := f75_F.other W81 (Or.inr (slot_ne (Or.inl (hw _ (List.mem_of_getElem? (i := 19) rfl))) (Or.inl (hw _ (List.mem_of_getElem? (i := 29) rfl))) (by decide) (t := .boolean) (t' := .int) (by decide) (by decide)))
    have f88_F : Fld Z h81 a "com/example/weaverbird/weaverbird/model/xml/Utf8Decoder" "partial" "I" (.int (p1 &&& ((63 : Int32) >>> (((1 : Int32) - (1 : Int32)) &&& 31)))) := f76_F.other W81 (Or.inr (slot_ne (Or.inl (hw _ (List.mem_of_getElem? (i := 25) rfl))) (Or.inl (hw _ (List.mem_of_getElem? (i := 29) rfl))) (by decide) (t := .int) (t' := .int) (by decide) (by decide)))
    have f89_F : Fld Z h81 a "com/example/weaverbird/weaverbird/model/xml/Utf8Decoder" "low" "I" (.int (128 : Int32)) := f79_F.other W81 (Or.inr (slot_ne (Or.inl (hw _ (List.mem_of_getElem? (i := 27) rfl))) (Or.inl (hw _ (List.mem_of_getElem? (i := 29) rfl))) (by decide) (t := .int) (t' := .int) (by decide) (by decide)))
    have Z90 : n0 ≤ h81.size := Nat.le_trans Z77 (Keep.of_wr W81).1
    have K91 : Keep h0 h81 [a] := K78.wr W81 (Or.inl (List.mem_of_getElem? (i := 0) rfl))
    have f92_F : Fld Z h81 a "com/example/weaverbird/weaverbird/model/xml/Utf8Decoder" "high" "I" (.int (191 : Int32)) := f72_F.same W81
    have pre93 : ∀ t, own_s p e below T81 m 282 #[rv a, iv p1, .unset] [(.int (128 : Int32)), (.int p1)] t → Steps p.tables e below S0 t := by
      intro tX kX
      refine pre82 _ ?_
      show own_s p e below T81 m 278 #[rv a, iv p1, .unset] [] _
      refine XS.iloadN X83.here hx rfl (hb hby d2_278) rfl ?_
      show own_s p e below T81 m 279 #[rv a, iv p1, .unset] [(.int p1)] _
      refine XS.sipush X83.here hx rfl (hb hby d2_279) ?_
      exact kX
    by_cases hc94 : p1 < (128 : Int32)
    · skip
      have ihc94 : (p1).toInt < (128 : Int) := Int32.lt_iff_toInt_lt.mp hc94
      have pre95 : ∀ t, own_s p e below T81 m 304 #[rv a, iv p1, iv p1] [(.int p1)] t → Steps p.tables e below S0 t := by
        intro tX kX
        refine pre93 _ ?_
        show own_s p e below T81 m 282 #[rv a, iv p1, .unset] [(.int (128 : Int32)), (.int p1)] _
        refine XS.icmpNo X83.here hx rfl (hb hby d2_282) rfl (tlt hc94).2.1 ?_
        show own_s p e below T81 m 285 #[rv a, iv p1, .unset] [] _
        refine XS.iloadN X83.here hx rfl (hb hby d2_285) rfl ?_
        show own_s p e below T81 m 286 #[rv a, iv p1, .unset] [(.int p1)] _
        refine XS.goto X83.here hx rfl (pc0 := 286) (pc' := 302) rfl (hb hby d2_286) (by decide) (by decide) ?_
        show own_s p e below T81 m 302 #[rv a, iv p1, .unset] [(.int p1)] _
        refine XS.istoreN X83.here hx rfl (hb hby d2_302) rfl (l' := #[rv a, iv p1, iv p1]) rfl ?_
        show own_s p e below T81 m 303 #[rv a, iv p1, iv p1] [] _
        refine XS.iloadN X83.here hx rfl (hb hby d2_303) rfl ?_
        exact kX
      subst hS0
      obtain ⟨fs, hr, hrun, hended, hW, hsame⟩ := X83.leave (v := (some (.int p1))) (fun h => by rw [Bd.returns] at h; cases h)
      refine ⟨_, _, pre95 _ (retI X83 hx Bd.returns (hb hby d2_304) hr), hrun, hended, _, _, rfl, ?_, ⟨_, rfl⟩, hW, hsame.mono (by decide) (by decide)⟩
      show Q2 Z a p1 pa le ta lo hi re h0 n0 (some (.int p1)) T81.heap _
      rw [e81]
      refine ⟨p1, (p1 &&& ((63 : Int32) >>> (((1 : Int32) - (1 : Int32)) &&& 31))), (1 : Int32), (1 : Int32), (128 : Int32), (191 : Int32), (0 : Int32), rfl, N83, K91, f84_E, f88_F, f85_F, f86_F, f89_F, f92_F, f87_F, ?_⟩
      have mk := c_mask p1 ((63 : Int32) >>> (((1 : Int32) - (1 : Int32)) &&& 31)) 6 (by decide) (by decide)
      show own_T0 p1.toInt (p1).toInt ((p1 &&& ((63 : Int32) >>> (((1 : Int32) - (1 : Int32)) &&& 31)))).toInt (1 : Int) (1 : Int) (128 : Int) (191 : Int) (0 : Int)
      unfold own_T0
      omega
    · skip
      have ihc94 : ¬ ((p1).toInt < (128 : Int)) := fun q => hc94 (Int32.lt_iff_toInt_lt.mpr q)
      have pre96 : ∀ t, own_s p e below T81 m 290 #[rv a, iv p1, .unset] [(.ref a)] t → Steps p.tables e below S0 t := by
        intro tX kX
        refine pre93 _ ?_
        show own_s p e below T81 m 282 #[rv a, iv p1, .unset] [(.int (128 : Int32)), (.int p1)] _
        refine XS.icmpYes X83.here hx rfl (pc0 := 282) (pc' := 289) rfl (hb hby d2_282) rfl (flt hc94).2.1 (by decide) (by decide) ?_
        show own_s p e below T81 m 289 #[rv a, iv p1, .unset] [] _
        refine XS.aloadN X83.here hx rfl (hb hby d2_289) rfl rfl ?_
        exact kX
      obtain ⟨T97, X97, e97, st97⟩ := getF X83 hx hZ hown (host := "") (Or.inl (hw _ (List.mem_of_getElem? (i := 18) rfl))) Via.refl e81 f87_F (g := (mkF m 290 #[rv a, iv p1, .unset] [(.ref a)])) rfl rfl (hb hby d2_290)
      have pre98 : ∀ t, own_s p e below T97 m 293 #[rv a, iv p1, .unset] [(.int (0 : Int32))] t → Steps p.tables e below S0 t := fun tX kX => pre96 _ (st97 _ kX)
      have pre99 : ∀ t, own_s p e below T97 m 304 #[rv a, iv p1, iv (-3 : Int32)] [(.int (-3 : Int32))] t → Steps p.tables e below S0 t := by
        intro tX kX
        refine pre98 _ ?_
        show own_s p e below T97 m 293 #[rv a, iv p1, .unset] [(.int (0 : Int32))] _
        refine XS.ifYes X97.here hx rfl (pc0 := 293) (pc' := 300) rfl (hb hby d2_293) rfl ((if0 _ _).trans (teq (by decide : (0 : Int32) = (0 : Int32))).1) (by decide) (by decide) ?_
        show own_s p e below T97 m 300 #[rv a, iv p1, .unset] [] _
        refine XS.bipush X97.here hx rfl (hb hby d2_300) ?_
        show own_s p e below T97 m 302 #[rv a, iv p1, .unset] [(.int (-3 : Int32))] _
        refine XS.istoreN X97.here hx rfl (hb hby d2_302) rfl (l' := #[rv a, iv p1, iv (-3 : Int32)]) rfl ?_
        show own_s p e below T97 m 303 #[rv a, iv p1, iv (-3 : Int32)] [] _
        refine XS.iloadN X97.here hx rfl (hb hby d2_303) rfl ?_
        exact kX
      subst hS0
      obtain ⟨fs, hr, hrun, hended, hW, hsame⟩ := X97.leave (v := (some (.int (-3 : Int32)))) (fun h => by rw [Bd.returns] at h; cases h)
      refine ⟨_, _, pre99 _ (retI X97 hx Bd.returns (hb hby d2_304) hr), hrun, hended, _, _, rfl, ?_, ⟨_, rfl⟩, hW, hsame.mono (by decide) (by decide)⟩
      show Q2 Z a p1 pa le ta lo hi re h0 n0 (some (.int (-3 : Int32))) T97.heap _
      rw [e97]
      refine ⟨(-3 : Int32), (p1 &&& ((63 : Int32) >>> (((1 : Int32) - (1 : Int32)) &&& 31))), (1 : Int32), (1 : Int32), (128 : Int32), (191 : Int32), (0 : Int32), rfl, N83, K91, f84_E, f88_F, f85_F, f86_F, f89_F, f92_F, f87_F, ?_⟩
      have mk := c_mask p1 ((63 : Int32) >>> (((1 : Int32) - (1 : Int32)) &&& 31)) 6 (by decide) (by decide)
      show own_T0 p1.toInt (-3 : Int) ((p1 &&& ((63 : Int32) >>> (((1 : Int32) - (1 : Int32)) &&& 31)))).toInt (1 : Int) (1 : Int) (128 : Int) (191 : Int) (0 : Int)
      unfold own_T0
      omega
  · skip
    have ihc8 : ¬ ((p1).toInt < (194 : Int)) := fun q => hc8 (Int32.lt_iff_toInt_lt.mpr q)
    have pre100 : ∀ t, own_s p e below T5 m 142 #[rv a, iv p1, .unset] [(.int (244 : Int32)), (.int p1), (.ref a)] t → Steps p.tables e below S0 t := by
      intro tX kX
      refine pre7 _ ?_
      show own_s p e below T5 m 135 #[rv a, iv p1, .unset] [(.int (194 : Int32)), (.int p1), (.ref a)] _
      refine XS.icmpNo X5.here hx rfl (hb hby d2_135) rfl (flt hc8).1 ?_
      show own_s p e below T5 m 138 #[rv a, iv p1, .unset] [(.ref a)] _
      refine XS.iloadN X5.here hx rfl (hb hby d2_138) rfl ?_
      show own_s p e below T5 m 139 #[rv a, iv p1, .unset] [(.int p1), (.ref a)] _
      refine XS.sipush X5.here hx rfl (hb hby d2_139) ?_
      exact kX
    by_cases hc101 : (244 : Int32) < p1
    · skip
      have ihc101 : (244 : Int) < (p1).toInt := Int32.lt_iff_toInt_lt.mp hc101
      have pre102 : ∀ t, own_s p e below T5 m 172 #[rv a, iv p1, .unset] [(.int (1 : Int32)), (.ref a)] t → Steps p.tables e below S0 t := by
        intro tX kX
        refine pre100 _ ?_
        show own_s p e below T5 m 142 #[rv a, iv p1, .unset] [(.int (244 : Int32)), (.int p1), (.ref a)] _
        refine XS.icmpNo X5.here hx rfl (hb hby d2_142) rfl (tlt hc101).2.2.2 ?_
        show own_s p e below T5 m 145 #[rv a, iv p1, .unset] [(.ref a)] _
        refine XS.iconst X5.here hx rfl (hb hby d2_145) ?_
        show own_s p e below T5 m 146 #[rv a, iv p1, .unset] [(.int (1 : Int32)), (.ref a)] _
        refine XS.goto X5.here hx rfl (pc0 := 146) (pc' := 172) rfl (hb hby d2_146) (by decide) (by decide) ?_
        exact kX
      obtain ⟨T103, h103, X103, e103, W103, st103⟩ := putF X5 hx hZ hown (host := "") (Or.inl (hw _ (List.mem_of_getElem? (i := 20) rfl))) Via.refl e5 F_le E_a (Or.inl (hw _ (List.mem_of_getElem? (i := 21) rfl))) (hw _ (List.mem_of_getElem? (i := 5) rfl)) (ty := .int) (by decide) rfl rfl (g := (mkF m 172 #[rv a, iv p1, .unset] [(.int (1 : Int32)), (.ref a)])) rfl rfl (hb hby d2_172)
      have pre104 : ∀ t, own_s p e below T103 m 175 #[rv a, iv p1, .unset] [] t → Steps p.tables e below S0 t := fun tX kX => pre102 _ (st103 _ kX)
      obtain ⟨LL105, X105, N105⟩ : ∃ LL, Stand p l e ({ frames := 0, cells := 0, slots := 0, locals := 0 } : Room) s m #[(.ref a), (.int p1)] below meth c T103 LL 0 0 ∧ Fr n0 LL := ⟨_, X103, Fr.snoc X103 N0 g_a⟩
      have f106_E : Exa Z h103 a "com/example/weaverbird/weaverbird/model/xml/Utf8Decoder" := E_a.wr W103
      have f107_F : Fld Z h103 a "com/example/weaverbird/weaverbird/model/xml/Utf8Decoder" "partial" "I" (.int pa) := F_pa.other W103 (Or.inr (slot_ne (Or.inl (hw _ (List.mem_of_getElem? (i := 25) rfl))) (Or.inl (hw _ (List.mem_of_getElem? (i := 21) rfl))) (by decide) (t := .int) (t' := .int) (by decide) (by decide)))
      have f108_F : Fld Z h103 a "com/example/weaverbird/weaverbird/model/xml/Utf8Decoder" "taken" "I" (.int ta) := F_ta.other W103 (Or.inr (slot_ne (Or.inl (hw _ (List.mem_of_getElem? (i := 23) rfl))) (Or.inl (hw _ (List.mem_of_getElem? (i := 21) rfl))) (by decide) (t := .int) (t' := .int) (by decide) (by decide)))
      have f109_F : Fld Z h103 a "com/example/weaverbird/weaverbird/model/xml/Utf8Decoder" "low" "I" (.int lo) := F_lo.other W103 (Or.inr (slot_ne (Or.inl (hw _ (List.mem_of_getElem? (i := 27) rfl))) (Or.inl (hw _ (List.mem_of_getElem? (i := 21) rfl))) (by decide) (t := .int) (t' := .int) (by decide) (by decide)))
      have f110_F : Fld Z h103 a "com/example/weaverbird/weaverbird/model/xml/Utf8Decoder" "high" "I" (.int hi) := F_hi.other W103 (Or.inr (slot_ne (Or.inl (hw _ (List.mem_of_getElem? (i := 29) rfl))) (Or.inl (hw _ (List.mem_of_getElem? (i := 21) rfl))) (by decide) (t := .int) (t' := .int) (by decide) (by decide)))
      have f111_F : Fld Z h103 a "com/example/weaverbird/weaverbird/model/xml/Utf8Decoder" "reading" "Z" (.int re) := F_re.other W103 (Or.inr (slot_ne (Or.inl (hw _ (List.mem_of_getElem? (i := 19) rfl))) (Or.inl (hw _ (List.mem_of_getElem? (i := 21) rfl))) (by decide) (t := .boolean) (t' := .int) (by decide) (by decide)))
      have Z112 : n0 ≤ h103.size := Nat.le_trans Z0 (Keep.of_wr W103).1
      have K113 : Keep h0 h103 [a] := K0.wr W103 (Or.inl (List.mem_of_getElem? (i := 0) rfl))
      have f114_F : Fld Z h103 a "com/example/weaverbird/weaverbird/model/xml/Utf8Decoder" "length" "I" (.int (1 : Int32)) := F_le.same W103
      have pre115 : ∀ t, own_s p e below T103 m 177 #[rv a, iv p1, .unset] [(.int (1 : Int32)), (.ref a)] t → Steps p.tables e below S0 t := by
        intro tX kX
        refine pre104 _ ?_
        show own_s p e below T103 m 175 #[rv a, iv p1, .unset] [] _
        refine XS.aloadN X105.here hx rfl (hb hby d2_175) rfl rfl ?_
        show own_s p e below T103 m 176 #[rv a, iv p1, .unset] [(.ref a)] _
        refine XS.iconst X105.here hx rfl (hb hby d2_176) ?_
        exact kX
      obtain ⟨T116, h116, X116, e116, W116, st116⟩ := putF X105 hx hZ hown (host := "") (Or.inl (hw _ (List.mem_of_getElem? (i := 22) rfl))) Via.refl e103 f108_F f106_E (Or.inl (hw _ (List.mem_of_getElem? (i := 23) rfl))) (hw _ (List.mem_of_getElem? (i := 5) rfl)) (ty := .int) (by decide) rfl rfl (g := (mkF m 177 #[rv a, iv p1, .unset] [(.int (1 : Int32)), (.ref a)])) rfl rfl (hb hby d2_177)
      have pre117 : ∀ t, own_s p e below T116 m 180 #[rv a, iv p1, .unset] [] t → Steps p.tables e below S0 t := fun tX kX => pre115 _ (st116 _ kX)
      obtain ⟨LL118, X118, N118⟩ : ∃ LL, Stand p l e ({ frames := 0, cells := 0, slots := 0, locals := 0 } : Room) s m #[(.ref a), (.int p1)] below meth c T116 LL 0 0 ∧ Fr n0 LL := ⟨_, X116, Fr.snoc X116 N105 g_a⟩
      have f119_E : Exa Z h116 a "com/example/weaverbird/weaverbird/model/xml/Utf8Decoder" := f106_E.wr W116
      have f120_F : Fld Z h116 a "com/example/weaverbird/weaverbird/model/xml/Utf8Decoder" "partial" "I" (.int pa) := f107_F.other W116 (Or.inr (slot_ne (Or.inl (hw _ (List.mem_of_getElem? (i := 25) rfl))) (Or.inl (hw _ (List.mem_of_getElem? (i := 23) rfl))) (by decide) (t := .int) (t' := .int) (by decide) (by decide)))
      have f121_F : Fld Z h116 a "com/example/weaverbird/weaverbird/model/xml/Utf8Decoder" "low" "I" (.int lo) := f109_F.other W116 (Or.inr (slot_ne (Or.inl (hw _ (List.mem_of_getElem? (i := 27) rfl))) (Or.inl (hw _ (List.mem_of_getElem? (i := 23) rfl))) (by decide) (t := .int) (t' := .int) (by decide) (by decide)))
      have f122_F : Fld Z h116 a "com/example/weaverbird/weaverbird/model/xml/Utf8Decoder" "high" "I" (.int hi) := f110_F.other W116 (Or.inr (slot_ne (Or.inl (hw _ (List.mem_of_getElem? (i := 29) rfl))) (Or.inl (hw _ (List.mem_of_getElem? (i := 23) rfl))) (by decide) (t := .int) (t' := .int) (by decide) (by decide)))
      have f123_F : Fld Z h116 a "com/example/weaverbird/weaverbird/model/xml/Utf8Decoder" "reading" "Z" (.int re) := f111_F.other W116 (Or.inr (slot_ne (Or.inl (hw _ (List.mem_of_getElem? (i := 19) rfl))) (Or.inl (hw _ (List.mem_of_getElem? (i := 23) rfl))) (by decide) (t := .boolean) (t' := .int) (by decide) (by decide)))
      have f124_F : Fld Z h116 a "com/example/weaverbird/weaverbird/model/xml/Utf8Decoder" "length" "I" (.int (1 : Int32)) := f114_F.other W116 (Or.inr (slot_ne (Or.inl (hw _ (List.mem_of_getElem? (i := 21) rfl))) (Or.inl (hw _ (List.mem_of_getElem? (i := 23) rfl))) (by decide) (t := .int) (t' := .int) (by decide) (by decide)))
      have Z125 : n0 ≤ h116.size := Nat.le_trans Z112 (Keep.of_wr W116).1
      have K126 : Keep h0 h116 [a] := K113.wr W116 (Or.inl (List.mem_of_getElem? (i := 0) rfl))
      have f127_F : Fld Z h116 a "com/example/weaverbird/weaverbird/model/xml/Utf8Decoder" "taken" "I" (.int (1 : Int32)) := f108_F.same W116
      have pre128 : ∀ t, own_s p e below T116 m 182 #[rv a, iv p1, .unset] [(.ref a), (.ref a)] t → Steps p.tables e below S0 t := by
        intro tX kX
        refine pre117 _ ?_
        show own_s p e below T116 m 180 #[rv a, iv p1, .unset] [] _
        refine XS.aloadN X118.here hx rfl (hb hby d2_180) rfl rfl ?_
        show own_s p e below T116 m 181 #[rv a, iv p1, .unset] [(.ref a)] _
        refine XS.aloadN X118.here hx rfl (hb hby d2_181) rfl rfl ?_
        exact kX
      obtain ⟨T129, X129, e129, st129⟩ := getF X118 hx hZ hown (host := "") (Or.inl (hw _ (List.mem_of_getElem? (i := 20) rfl))) Via.refl e116 f124_F (g := (mkF m 182 #[rv a, iv p1, .unset] [(.ref a), (.ref a)])) rfl rfl (hb hby d2_182)
      have pre130 : ∀ t, own_s p e below T129 m 185 #[rv a, iv p1, .unset] [(.int (1 : Int32)), (.ref a)] t → Steps p.tables e below S0 t := fun tX kX => pre128 _ (st129 _ kX)
      have pre131 : ∀ t, own_s p e below T129 m 194 #[rv a, iv p1, .unset] [(.int (0 : Int32)), (.ref a)] t → Steps p.tables e below S0 t := by
        intro tX kX
        refine pre130 _ ?_
        show own_s p e below T129 m 185 #[rv a, iv p1, .unset] [(.int (1 : Int32)), (.ref a)] _
        refine XS.iconst X129.here hx rfl (hb hby d2_185) ?_
        show own_s p e below T129 m 186 #[rv a, iv p1, .unset] [(.int (1 : Int32)), (.int (1 : Int32)), (.ref a)] _
        refine XS.icmpYes X129.here hx rfl (pc0 := 186) (pc' := 193) rfl (hb hby d2_186) rfl (flt (by decide : ¬ ((1 : Int32) < (1 : Int32)))).2.2.2 (by decide) (by decide) ?_
        show own_s p e below T129 m 193 #[rv a, iv p1, .unset] [(.ref a)] _
        refine XS.iconst X129.here hx rfl (hb hby d2_193) ?_
        exact kX
      obtain ⟨T132, h132, X132, e132, W132, st132⟩ := putFN X129 hx hZ hown (hw _ (List.mem_of_getElem? (i := 18) rfl)) Via.refl e129 f123_F f119_E (Or.inl (hw _ (List.mem_of_getElem? (i := 19) rfl))) (hw _ (List.mem_of_getElem? (i := 5) rfl)) (ty := .boolean) (v' := (.int (0 : Int32))) (by decide) rfl rfl (g := (mkF m 194 #[rv a, iv p1, .unset] [(.int (0 : Int32)), (.ref a)])) rfl rfl (hb hby d2_194)
      have pre133 : ∀ t, own_s p e below T132 m 197 #[rv a, iv p1, .unset] [] t → Steps p.tables e below S0 t := fun tX kX => pre131 _ (st132 _ kX)
      obtain ⟨LL134, X134, N134⟩ : ∃ LL, Stand p l e ({ frames := 0, cells := 0, slots := 0, locals := 0 } : Room) s m #[(.ref a), (.int p1)] below meth c T132 LL 0 0 ∧ Fr n0 LL := ⟨_, X132, Fr.snoc X132 N118 g_a⟩
      have f135_E : Exa Z h132 a "com/example/weaverbird/weaverbird/model/xml/Utf8Decoder" := f119_E.wr W132
      have f136_F : Fld Z h132 a "com/example/weaverbird/weaverbird/model/xml/Utf8Decoder" "partial" "I" (.int pa) := f120_F.other W132 (Or.inr (slot_ne (Or.inl (hw _ (List.mem_of_getElem? (i := 25) rfl))) (Or.inl (hw _ (List.mem_of_getElem? (i := 19) rfl))) (by decide) (t := .int) (t' := .boolean) (by decide) (by decide)))
      have f137_F : Fld Z h132 a "com/example/weaverbird/weaverbird/model/xml/Utf8Decoder" "low" "I" (.int lo) := f121_F.other W132 (Or.inr (slot_ne (Or.inl (hw _ (List.mem_of_getElem? (i := 27) rfl))) (Or.inl (hw _ (List.mem_of_getElem? (i := 19) rfl))) (by decide) (t := .int) (t' := .boolean) (by decide) (by decide)))
      have f138_F : Fld Z h132 a "com/example/weaverbird/weaverbird/model/xml/Utf8Decoder" "high" "I" (.int hi) := f122_F.other W132 (Or.inr (slot_ne (Or.inl (hw _ (List.mem_of_getElem? (i := 29) rfl))) (Or.inl (hw _ (List.mem_of_getElem? (i := 19) rfl))) (by decide) (t := .int) (t' := .boolean) (by decide) (by decide)))
      have f139_F : Fld Z h132 a "com/example/weaverbird/weaverbird/model/xml/Utf8Decoder" "length" "I" (.int (1 : Int32)) := f124_F.other W132 (Or.inr (slot_ne (Or.inl (hw _ (List.mem_of_getElem? (i := 21) rfl))) (Or.inl (hw _ (List.mem_of_getElem? (i := 19) rfl))) (by decide) (t := .int) (t' := .boolean) (by decide) (by decide)))
      have f140_F : Fld Z h132 a "com/example/weaverbird/weaverbird/model/xml/Utf8Decoder" "taken" "I" (.int (1 : Int32)) := f127_F.other W132 (Or.inr (slot_ne (Or.inl (hw _ (List.mem_of_getElem? (i := 23) rfl))) (Or.inl (hw _ (List.mem_of_getElem? (i := 19) rfl))) (by decide) (t := .int) (t' := .boolean) (by decide) (by decide)))
      have Z141 : n0 ≤ h132.size := Nat.le_trans Z125 (Keep.of_wr W132).1
      have K142 : Keep h0 h132 [a] := K126.wr W132 (Or.inl (List.mem_of_getElem? (i := 0) rfl))
      have f143_F : Fld Z h132 a "com/example/weaverbird/weaverbird/model/xml/Utf8Decoder" "reading" "Z" (.int (0 : Int32)) := f123_F.same W132
      have pre144 : ∀ t, own_s p e below T132 m 202 #[rv a, iv p1, .unset] [(.ref a), (.int (63 : Int32)), (.int p1), (.ref a)] t → Steps p.tables e below S0 t := by
        intro tX kX
        refine pre133 _ ?_
        show own_s p e below T132 m 197 #[rv a, iv p1, .unset] [] _
        refine XS.aloadN X134.here hx rfl (hb hby d2_197) rfl rfl ?_
        show own_s p e below T132 m 198 #[rv a, iv p1, .unset] [(.ref a)] _
        refine XS.iloadN X134.here hx rfl (hb hby d2_198) rfl ?_
        show own_s p e below T132 m 199 #[rv a, iv p1, .unset] [(.int p1), (.ref a)] _
        refine XS.bipush X134.here hx rfl (hb hby d2_199) ?_
        show own_s p e below T132 m 201 #[rv a, iv p1, .unset] [(.int (63 : Int32)), (.int p1), (.ref a)] _
        refine XS.aloadN X134.here hx rfl (hb hby d2_201) rfl rfl ?_
        exact kX
      obtain ⟨T145, X145, e145, st145⟩ := getF X134 hx hZ hown (host := "") (Or.inl (hw _ (List.mem_of_getElem? (i := 20) rfl))) Via.refl e132 f139_F (g := (mkF m 202 #[rv a, iv p1, .unset] [(.ref a), (.int (63 : Int32)), (.int p1), (.ref a)])) rfl rfl (hb hby d2_202)
      have pre146 : ∀ t, own_s p e below T145 m 205 #[rv a, iv p1, .unset] [(.int (1 : Int32)), (.int (63 : Int32)), (.int p1), (.ref a)] t → Steps p.tables e below S0 t := fun tX kX => pre144 _ (st145 _ kX)
      have pre147 : ∀ t, own_s p e below T145 m 209 #[rv a, iv p1, .unset] [(.int (p1 &&& ((63 : Int32) >>> (((1 : Int32) - (1 : Int32)) &&& 31)))), (.ref a)] t → Steps p.tables e below S0 t := by
        intro tX kX
        refine pre146 _ ?_
        show own_s p e below T145 m 205 #[rv a, iv p1, .unset] [(.int (1 : Int32)), (.int (63 : Int32)), (.int p1), (.ref a)] _
        refine XS.iconst X145.here hx rfl (hb hby d2_205) ?_
        show own_s p e below T145 m 206 #[rv a, iv p1, .unset] [(.int (1 : Int32)), (.int (1 : Int32)), (.int (63 : Int32)), (.int p1), (.ref a)] _
        refine XS.isub X145.here hx rfl (hb hby d2_206) rfl ?_
        show own_s p e below T145 m 207 #[rv a, iv p1, .unset] [(.int ((1 : Int32) - (1 : Int32))), (.int (63 : Int32)), (.int p1), (.ref a)] _
        refine XS.ishr X145.here hx rfl (hb hby d2_207) rfl ?_
        show own_s p e below T145 m 208 #[rv a, iv p1, .unset] [(.int ((63 : Int32) >>> (((1 : Int32) - (1 : Int32)) &&& 31))), (.int p1), (.ref a)] _
        refine XS.iand X145.here hx rfl (hb hby d2_208) rfl ?_
        exact kX
      obtain ⟨T148, h148, X148, e148, W148, st148⟩ := putF X145 hx hZ hown (host := "") (Or.inl (hw _ (List.mem_of_getElem? (i := 24) rfl))) Via.refl e145 f136_F f135_E (Or.inl (hw _ (List.mem_of_getElem? (i := 25) rfl))) (hw _ (List.mem_of_getElem? (i := 5) rfl)) (ty := .int) (by decide) rfl rfl (g := (mkF m 209 #[rv a, iv p1, .unset] [(.int (p1 &&& ((63 : Int32) >>> (((1 : Int32) - (1 : Int32)) &&& 31)))), (.ref a)])) rfl rfl (hb hby d2_209)
      have pre149 : ∀ t, own_s p e below T148 m 212 #[rv a, iv p1, .unset] [] t → Steps p.tables e below S0 t := fun tX kX => pre147 _ (st148 _ kX)
      obtain ⟨LL150, X150, N150⟩ : ∃ LL, Stand p l e ({ frames := 0, cells := 0, slots := 0, locals := 0 } : Room) s m #[(.ref a), (.int p1)] below meth c T148 LL 0 0 ∧ Fr n0 LL := ⟨_, X148, Fr.snoc X148 N134 g_a⟩
      have f151_E : Exa Z h148 a "com/example/weaverbird/weaverbird/model/xml/Utf8Decoder" := f135_E.wr W148
      have f152_F : Fld Z h148 a "com/example/weaverbird/weaverbird/model/xml/Utf8Decoder" "low" "I" (.int lo) := f137_F.other W148 (Or.inr (slot_ne (Or.inl (hw _ (List.mem_of_getElem? (i := 27) rfl))) (Or.inl (hw _ (List.mem_of_getElem? (i := 25) rfl))) (by decide) (t := .int) (t' := .int) (by decide) (by decide)))
      have f153_F : Fld Z h148 a "com/example/weaverbird/weaverbird/model/xml/Utf8Decoder" "high" "I" (.int hi) := f138_F.other W148 (Or.inr (slot_ne (Or.inl (hw _ (List.mem_of_getElem? (i := 29) rfl))) (Or.inl (hw _ (List.mem_of_getElem? (i := 25) rfl))) (by decide) (t := .int) (t' := .int) (by decide) (by decide)))
      have f154_F : Fld Z h148 a "com/example/weaverbird/weaverbird/model/xml/Utf8Decoder" "length" "I" (.int (1 : Int32)) := f139_F.other W148 (Or.inr (slot_ne (Or.inl (hw _ (List.mem_of_getElem? (i := 21) rfl))) (Or.inl (hw _ (List.mem_of_getElem? (i := 25) rfl))) (by decide) (t := .int) (t' := .int) (by decide) (by decide)))
      have f155_F : Fld Z h148 a "com/example/weaverbird/weaverbird/model/xml/Utf8Decoder" "taken" "I" (.int (1 : Int32)) := f140_F.other W148 (Or.inr (slot_ne (Or.inl (hw _ (List.mem_of_getElem? (i := 23) rfl))) (Or.inl (hw _ (List.mem_of_getElem? (i := 25) rfl))) (by decide) (t := .int) (t' := .int) (by decide) (by decide)))
      have f156_F : Fld Z h148 a "com/example/weaverbird/weaverbird/model/xml/Utf8Decoder" "reading" "Z" (.int (0 : Int32)) := f143_F.other W148 (Or.inr (slot_ne (Or.inl (hw _ (List.mem_of_getElem? (i := 19) rfl))) (Or.inl (hw _ (List.mem_of_getElem? (i := 25) rfl))) (by decide) (t := .boolean) (t' := .int) (by decide) (by decide)))
      have Z157 : n0 ≤ h148.size := Nat.le_trans Z141 (Keep.of_wr W148).1
      have K158 : Keep h0 h148 [a] := K142.wr W148 (Or.inl (List.mem_of_getElem? (i := 0) rfl))
      have f159_F : Fld Z h148 a "com/example/weaverbird/weaverbird/model/xml/Utf8Decoder" "partial" "I" (.int (p1 &&& ((63 : Int32) >>> (((1 : Int32) - (1 : Int32)) &&& 31)))) := f136_F.same W148
      have pre160 : ∀ t, own_s p e below T148 m 242 #[rv a, iv p1, .unset] [(.int (128 : Int32)), (.ref a)] t → Steps p.tables e below S0 t := by
        intro tX kX
        refine pre149 _ ?_
        show own_s p e below T148 m 212 #[rv a, iv p1, .unset] [] _
        refine XS.aloadN X150.here hx rfl (hb hby d2_212) rfl rfl ?_
        show own_s p e below T148 m 213 #[rv a, iv p1, .unset] [(.ref a)] _
        refine XS.iloadN X150.here hx rfl (hb hby d2_213) rfl ?_
        show own_s p e below T148 m 214 #[rv a, iv p1, .unset] [(.int p1), (.ref a)] _
        refine XS.sipush X150.here hx rfl (hb hby d2_214) ?_
        show own_s p e below T148 m 217 #[rv a, iv p1, .unset] [(.int (224 : Int32)), (.int p1), (.ref a)] _
        refine XS.icmpYes X150.here hx rfl (pc0 := 217) (pc' := 226) rfl (hb hby d2_217) rfl (feq (show ¬ (p1 = (224 : Int32)) from (fun q => absurd (show (p1).toInt = (224 : Int) from congrArg Int32.toInt q) (by omega)))).2 (by decide) (by decide) ?_
        show own_s p e below T148 m 226 #[rv a, iv p1, .unset] [(.ref a)] _
        refine XS.iloadN X150.here hx rfl (hb hby d2_226) rfl ?_
        show own_s p e below T148 m 227 #[rv a, iv p1, .unset] [(.int p1), (.ref a)] _
        refine XS.sipush X150.here hx rfl (hb hby d2_227) ?_
        show own_s p e below T148 m 230 #[rv a, iv p1, .unset] [(.int (240 : Int32)), (.int p1), (.ref a)] _
        refine XS.icmpYes X150.here hx rfl (pc0 := 230) (pc' := 239) rfl (hb hby d2_230) rfl (feq (show ¬ (p1 = (240 : Int32)) from (fun q => absurd (show (p1).toInt = (240 : Int) from congrArg Int32.toInt q) (by omega)))).2 (by decide) (by decide) ?_
        show own_s p e below T148 m 239 #[rv a, iv p1, .unset] [(.ref a)] _
        refine XS.sipush X150.here hx rfl (hb hby d2_239) ?_
        exact kX
      obtain ⟨T161, h161, X161, e161, W161, st161⟩ := putF X150 hx hZ hown (host := "") (Or.inl (hw _ (List.mem_of_getElem? (i := 26) rfl))) Via.refl e148 f152_F f151_E (Or.inl (hw _ (List.mem_of_getElem? (i := 27) rfl))) (hw _ (List.mem_of_getElem? (i := 5) rfl)) (ty := .int) (by decide) rfl rfl (g := (mkF m 242 #[rv a, iv p1, .unset] [(.int (128 : Int32)), (.ref a)])) rfl rfl (hb hby d2_242)
      have pre162 : ∀ t, own_s p e below T161 m 245 #[rv a, iv p1, .unset] [] t → Steps p.tables e below S0 t := fun tX kX => pre160 _ (st161 _ kX)
      obtain ⟨LL163, X163, N163⟩ : ∃ LL, Stand p l e ({ frames := 0, cells := 0, slots := 0, locals := 0 } : Room) s m #[(.ref a), (.int p1)] below meth c T161 LL 0 0 ∧ Fr n0 LL := ⟨_, X161, Fr.snoc X161 N150 g_a⟩
      have f164_E : Exa Z h161 a "com/example/weaverbird/weaverbird/model/xml/Utf8Decoder" := f151_E.wr W161
      have f165_F : Fld Z h161 a "com/example/weaverbird/weaverbird/model/xml/Utf8Decoder" "high" "I" (.int hi) := f153_F.other W161 (Or.inr (slot_ne (Or.inl (hw _ (List.mem_of_getElem? (i := 29) rfl))) (Or.inl (hw _ (List.mem_of_getElem? (i := 27) rfl))) (by decide) (t := .int) (t' := .int) (by decide) (by decide)))
      have f166_F : Fld Z h161 a "com/example/weaverbird/weaverbird/model/xml/Utf8Decoder" "length" "I" (.int (1 : Int32)) := f154_F.other W161 (Or.inr (slot_ne (Or.inl (hw _ (List.mem_of_getElem? (i := 21) rfl))) (Or.inl (hw _ (List.mem_of_getElem? (i := 27) rfl))) (by decide) (t := .int) (t' := .int) (by decide) (by decide)))
      have f167_F : Fld Z h161 a "com/example/weaverbird/weaverbird/model/xml/Utf8Decoder" "taken" "I" (.int (1 : Int32)) := f155_F.other W161 (Or.inr (slot_ne (Or.inl (hw _ (List.mem_of_getElem? (i := 23) rfl))) (Or.inl (hw _ (List.mem_of_getElem? (i := 27) rfl))) (by decide) (t := .int) (t' := .int) (by decide) (by decide)))
      have f168_F : Fld Z h161 a "com/example/weaverbird/weaverbird/model/xml/Utf8Decoder" "reading" "Z" (.int (0 : Int32)) := f156_F.other W161 (Or.inr (slot_ne (Or.inl (hw _ (List.mem_of_getElem? (i := 19) rfl))) (Or.inl (hw _ (List.mem_of_getElem? (i := 27) rfl))) (by decide) (t := .boolean) (t' := .int) (by decide) (by decide)))
      have f169_F : Fld Z h161 a "com/example/weaverbird/weaverbird/model/xml/Utf8Decoder" "partial" "I" (.int (p1 &&& ((63 : Int32) >>> (((1 : Int32) - (1 : Int32)) &&& 31)))) := f159_F.other W161 (Or.inr (slot_ne (Or.inl (hw _ (List.mem_of_getElem? (i := 25) rfl))) (Or.inl (hw _ (List.mem_of_getElem? (i := 27) rfl))) (by decide) (t := .int) (t' := .int) (by decide) (by decide)))
      have Z170 : n0 ≤ h161.size := Nat.le_trans Z157 (Keep.of_wr W161).1
      have K171 : Keep h0 h161 [a] := K158.wr W161 (Or.inl (List.mem_of_getElem? (i := 0) rfl))
      have f172_F : Fld Z h161 a "com/example/weaverbird/weaverbird/model/xml/Utf8Decoder" "low" "I" (.int (128 : Int32)) := f152_F.same W161
      have pre173 : ∀ t, own_s p e below T161 m 275 #[rv a, iv p1, .unset] [(.int (191 : Int32)), (.ref a)] t → Steps p.tables e below S0 t := by
        intro tX kX
        refine pre162 _ ?_
        show own_s p e below T161 m 245 #[rv a, iv p1, .unset] [] _
        refine XS.aloadN X163.here hx rfl (hb hby d2_245) rfl rfl ?_
        show own_s p e below T161 m 246 #[rv a, iv p1, .unset] [(.ref a)] _
        refine XS.iloadN X163.here hx rfl (hb hby d2_246) rfl ?_
        show own_s p e below T161 m 247 #[rv a, iv p1, .unset] [(.int p1), (.ref a)] _
        refine XS.sipush X163.here hx rfl (hb hby d2_247) ?_
        show own_s p e below T161 m 250 #[rv a, iv p1, .unset] [(.int (237 : Int32)), (.int p1), (.ref a)] _
        refine XS.icmpYes X163.here hx rfl (pc0 := 250) (pc' := 259) rfl (hb hby d2_250) rfl (feq (show ¬ (p1 = (237 : Int32)) from (fun q => absurd (show (p1).toInt = (237 : Int) from congrArg Int32.toInt q) (by omega)))).2 (by decide) (by decide) ?_
        show own_s p e below T161 m 259 #[rv a, iv p1, .unset] [(.ref a)] _
        refine XS.iloadN X163.here hx rfl (hb hby d2_259) rfl ?_
        show own_s p e below T161 m 260 #[rv a, iv p1, .unset] [(.int p1), (.ref a)] _
        refine XS.sipush X163.here hx rfl (hb hby d2_260) ?_
        show own_s p e below T161 m 263 #[rv a, iv p1, .unset] [(.int (244 : Int32)), (.int p1), (.ref a)] _
        refine XS.icmpYes X163.here hx rfl (pc0 := 263) (pc' := 272) rfl (hb hby d2_263) rfl (feq (show ¬ (p1 = (244 : Int32)) from (fun q => absurd (show (p1).toInt = (244 : Int) from congrArg Int32.toInt q) (by omega)))).2 (by decide) (by decide) ?_
        show own_s p e below T161 m 272 #[rv a, iv p1, .unset] [(.ref a)] _
        refine XS.sipush X163.here hx rfl (hb hby d2_272) ?_
        exact kX
      obtain ⟨T174, h174, X174, e174, W174, st174⟩ := putF X163 hx hZ hown (host := "") (Or.inl (hw _ (List.mem_of_getElem? (i := 28) rfl))) Via.refl e161 f165_F f164_E (Or.inl (hw _ (List.mem_of_getElem? (i := 29) rfl))) (hw _ (List.mem_of_getElem? (i := 5) rfl)) (ty := .int) (by decide) rfl rfl (g := (mkF m 275 #[rv a, iv p1, .unset] [(.int (191 : Int32)), (.ref a)])) rfl rfl (hb hby d2_275)
      have pre175 : ∀ t, own_s p e below T174 m 278 #[rv a, iv p1, .unset] [] t → Steps p.tables e below S0 t := fun tX kX => pre173 _ (st174 _ kX)
      obtain ⟨LL176, X176, N176⟩ : ∃ LL, Stand p l e ({ frames := 0, cells := 0, slots := 0, locals := 0 } : Room) s m #[(.ref a), (.int p1)] below meth c T174 LL 0 0 ∧ Fr n0 LL := ⟨_, X174, Fr.snoc X174 N163 g_a⟩
      have f177_E : Exa Z h174 a "com/example/weaverbird/weaverbird/model/xml/Utf8Decoder" := f164_E.wr W174
      have f178_F : Fld Z h174 a "com/example/weaverbird/weaverbird/model/xml/Utf8Decoder" "length" "I" (.int (1 : Int32)) := f166_F.other W174 (Or.inr (slot_ne (Or.inl (hw _ (List.mem_of_getElem? (i := 21) rfl))) (Or.inl (hw _ (List.mem_of_getElem? (i := 29) rfl))) (by decide) (t := .int) (t' := .int) (by decide) (by decide)))
      have f179_F : Fld Z h174 a "com/example/weaverbird/weaverbird/model/xml/Utf8Decoder" "taken" "I" (.int (1 : Int32)) := f167_F.other W174 (Or.inr (slot_ne (Or.inl (hw _ (List.mem_of_getElem? (i := 23) rfl))) (Or.inl (hw _ (List.mem_of_getElem? (i := 29) rfl))) (by decide) (t := .int) (t' := .int) (by decide) (by decide)))
      have f180_F : Fld Z h174 a "com/example/weaverbird/weaverbird/model/xml/Utf8Decoder" "reading" "Z" (.int (0 : Int32)) := f168_F.other W174 (Or.inr (slot_ne (Or.inl (hw _ (List.mem_of_getElem? (i := 19) rfl))) (Or.inl (hw _ (List.mem_of_getElem? (i := 29) rfl))) (by decide) (t := .boolean) (t' := .int) (by decide) (by decide)))
      have f181_F : Fld Z h174 a "com/example/weaverbird/weaverbird/model/xml/Utf8Decoder" "partial" "I" (.int (p1 &&& ((63 : Int32) >>> (((1 : Int32) - (1 : Int32)) &&& 31)))) := f169_F.other W174 (Or.inr (slot_ne (Or.inl (hw _ (List.mem_of_getElem? (i := 25) rfl))) (Or.inl (hw _ (List.mem_of_getElem? (i := 29) rfl))) (by decide) (t := .int) (t' := .int) (by decide) (by decide)))
      have f182_F : Fld Z h174 a "com/example/weaverbird/weaverbird/model/xml/Utf8Decoder" "low" "I" (.int (128 : Int32)) := f172_F.other W174 (Or.inr (slot_ne (Or.inl (hw _ (List.mem_of_getElem? (i := 27) rfl))) (Or.inl (hw _ (List.mem_of_getElem? (i := 29) rfl))) (by decide) (t := .int) (t' := .int) (by decide) (by decide)))
      have Z183 : n0 ≤ h174.size := Nat.le_trans Z170 (Keep.of_wr W174).1
      have K184 : Keep h0 h174 [a] := K171.wr W174 (Or.inl (List.mem_of_getElem? (i := 0) rfl))
      have f185_F : Fld Z h174 a "com/example/weaverbird/weaverbird/model/xml/Utf8Decoder" "high" "I" (.int (191 : Int32)) := f165_F.same W174
      have pre186 : ∀ t, own_s p e below T174 m 290 #[rv a, iv p1, .unset] [(.ref a)] t → Steps p.tables e below S0 t := by
        intro tX kX
        refine pre175 _ ?_
        show own_s p e below T174 m 278 #[rv a, iv p1, .unset] [] _
        refine XS.iloadN X176.here hx rfl (hb hby d2_278) rfl ?_
        show own_s p e below T174 m 279 #[rv a, iv p1, .unset] [(.int p1)] _
        refine XS.sipush X176.here hx rfl (hb hby d2_279) ?_
        show own_s p e below T174 m 282 #[rv a, iv p1, .unset] [(.int (128 : Int32)), (.int p1)] _
        refine XS.icmpYes X176.here hx rfl (pc0 := 282) (pc' := 289) rfl (hb hby d2_282) rfl (flt (show ¬ (p1 < (128 : Int32)) from (fun q => absurd (show (p1).toInt < (128 : Int) from Int32.lt_iff_toInt_lt.mp q) (by omega)))).2.1 (by decide) (by decide) ?_
        show own_s p e below T174 m 289 #[rv a, iv p1, .unset] [] _
        refine XS.aloadN X176.here hx rfl (hb hby d2_289) rfl rfl ?_
        exact kX
      obtain ⟨T187, X187, e187, st187⟩ := getF X176 hx hZ hown (host := "") (Or.inl (hw _ (List.mem_of_getElem? (i := 18) rfl))) Via.refl e174 f180_F (g := (mkF m 290 #[rv a, iv p1, .unset] [(.ref a)])) rfl rfl (hb hby d2_290)
      have pre188 : ∀ t, own_s p e below T187 m 293 #[rv a, iv p1, .unset] [(.int (0 : Int32))] t → Steps p.tables e below S0 t := fun tX kX => pre186 _ (st187 _ kX)
      have pre189 : ∀ t, own_s p e below T187 m 304 #[rv a, iv p1, iv (-3 : Int32)] [(.int (-3 : Int32))] t → Steps p.tables e below S0 t := by
        intro tX kX
        refine pre188 _ ?_
        show own_s p e below T187 m 293 #[rv a, iv p1, .unset] [(.int (0 : Int32))] _
        refine XS.ifYes X187.here hx rfl (pc0 := 293) (pc' := 300) rfl (hb hby d2_293) rfl ((if0 _ _).trans (teq (by decide : (0 : Int32) = (0 : Int32))).1) (by decide) (by decide) ?_
        show own_s p e below T187 m 300 #[rv a, iv p1, .unset] [] _
        refine XS.bipush X187.here hx rfl (hb hby d2_300) ?_
        show own_s p e below T187 m 302 #[rv a, iv p1, .unset] [(.int (-3 : Int32))] _
        refine XS.istoreN X187.here hx rfl (hb hby d2_302) rfl (l' := #[rv a, iv p1, iv (-3 : Int32)]) rfl ?_
        show own_s p e below T187 m 303 #[rv a, iv p1, iv (-3 : Int32)] [] _
        refine XS.iloadN X187.here hx rfl (hb hby d2_303) rfl ?_
        exact kX
      subst hS0
      obtain ⟨fs, hr, hrun, hended, hW, hsame⟩ := X187.leave (v := (some (.int (-3 : Int32)))) (fun h => by rw [Bd.returns] at h; cases h)
      refine ⟨_, _, pre189 _ (retI X187 hx Bd.returns (hb hby d2_304) hr), hrun, hended, _, _, rfl, ?_, ⟨_, rfl⟩, hW, hsame.mono (by decide) (by decide)⟩
      show Q2 Z a p1 pa le ta lo hi re h0 n0 (some (.int (-3 : Int32))) T187.heap _
      rw [e187]
      refine ⟨(-3 : Int32), (p1 &&& ((63 : Int32) >>> (((1 : Int32) - (1 : Int32)) &&& 31))), (1 : Int32), (1 : Int32), (128 : Int32), (191 : Int32), (0 : Int32), rfl, N176, K184, f177_E, f181_F, f178_F, f179_F, f182_F, f185_F, f180_F, ?_⟩
      have mk := c_mask p1 ((63 : Int32) >>> (((1 : Int32) - (1 : Int32)) &&& 31)) 6 (by decide) (by decide)
      show own_T0 p1.toInt (-3 : Int) ((p1 &&& ((63 : Int32) >>> (((1 : Int32) - (1 : Int32)) &&& 31)))).toInt (1 : Int) (1 : Int) (128 : Int) (191 : Int) (0 : Int)
      unfold own_T0
      omega
    · skip
      have ihc101 : ¬ ((244 : Int) < (p1).toInt) := fun q => hc101 (Int32.lt_iff_toInt_lt.mpr q)
      have pre190 : ∀ t, own_s p e below T5 m 153 #[rv a, iv p1, .unset] [(.int (224 : Int32)), (.int p1), (.ref a)] t → Steps p.tables e below S0 t := by
        intro tX kX
        refine pre100 _ ?_
        show own_s p e below T5 m 142 #[rv a, iv p1, .unset] [(.int (244 : Int32)), (.int p1), (.ref a)] _
        refine XS.icmpYes X5.here hx rfl (pc0 := 142) (pc' := 149) rfl (hb hby d2_142) rfl (flt hc101).2.2.2 (by decide) (by decide) ?_
        show own_s p e below T5 m 149 #[rv a, iv p1, .unset] [(.ref a)] _
        refine XS.iloadN X5.here hx rfl (hb hby d2_149) rfl ?_
        show own_s p e below T5 m 150 #[rv a, iv p1, .unset] [(.int p1), (.ref a)] _
        refine XS.sipush X5.here hx rfl (hb hby d2_150) ?_
        exact kX
      by_cases hc191 : p1 < (224 : Int32)
      · skip
        have ihc191 : (p1).toInt < (224 : Int) := Int32.lt_iff_toInt_lt.mp hc191
        have pre192 : ∀ t, own_s p e below T5 m 172 #[rv a, iv p1, .unset] [(.int (2 : Int32)), (.ref a)] t → Steps p.tables e below S0 t := by
          intro tX kX
          refine pre190 _ ?_
          show own_s p e below T5 m 153 #[rv a, iv p1, .unset] [(.int (224 : Int32)), (.int p1), (.ref a)] _
          refine XS.icmpNo X5.here hx rfl (hb hby d2_153) rfl (tlt hc191).2.1 ?_
          show own_s p e below T5 m 156 #[rv a, iv p1, .unset] [(.ref a)] _
          refine XS.iconst X5.here hx rfl (hb hby d2_156) ?_
          show own_s p e below T5 m 157 #[rv a, iv p1, .unset] [(.int (2 : Int32)), (.ref a)] _
          refine XS.goto X5.here hx rfl (pc0 := 157) (pc' := 172) rfl (hb hby d2_157) (by decide) (by decide) ?_
          exact kX
        obtain ⟨T193, h193, X193, e193, W193, st193⟩ := putF X5 hx hZ hown (host := "") (Or.inl (hw _ (List.mem_of_getElem? (i := 20) rfl))) Via.refl e5 F_le E_a (Or.inl (hw _ (List.mem_of_getElem? (i := 21) rfl))) (hw _ (List.mem_of_getElem? (i := 5) rfl)) (ty := .int) (by decide) rfl rfl (g := (mkF m 172 #[rv a, iv p1, .unset] [(.int (2 : Int32)), (.ref a)])) rfl rfl (hb hby d2_172)
        have pre194 : ∀ t, own_s p e below T193 m 175 #[rv a, iv p1, .unset] [] t → Steps p.tables e below S0 t := fun tX kX => pre192 _ (st193 _ kX)
        obtain ⟨LL195, X195, N195⟩ : ∃ LL, Stand p l e ({ frames := 0, cells := 0, slots := 0, locals := 0 } : Room) s m #[(.ref a), (.int p1)] below meth c T193 LL 0 0 ∧ Fr n0 LL := ⟨_, X193, Fr.snoc X193 N0 g_a⟩
        have f196_E : Exa Z h193 a "com/example/weaverbird/weaverbird/model/xml/Utf8Decoder" := E_a.wr W193
        have f197_F : Fld Z h193 a "com/example/weaverbird/weaverbird/model/xml/Utf8Decoder" "partial" "I" (.int pa) := F_pa.other W193 (Or.inr (slot_ne (Or.inl (hw _ (List.mem_of_getElem? (i := 25) rfl))) (Or.inl (hw _ (List.mem_of_getElem? (i := 21) rfl))) (by decide) (t := .int) (t' := .int) (by decide) (by decide)))
        have f198_F : Fld Z h193 a "com/example/weaverbird/weaverbird/model/xml/Utf8Decoder" "taken" "I" (.int ta) := F_ta.other W193 (Or.inr (slot_ne (Or.inl (hw _ (List.mem_of_getElem? (i := 23) rfl))) (Or.inl (hw _ (List.mem_of_getElem? (i := 21) rfl))) (by decide) (t := .int) (t' := .int) (by decide) (by decide)))
        have f199_F : Fld Z h193 a "com/example/weaverbird/weaverbird/model/xml/Utf8Decoder" "low" "I" (.int lo) := F_lo.other W193 (Or.inr (slot_ne (Or.inl (hw _ (List.mem_of_getElem? (i := 27) rfl))) (Or.inl (hw _ (List.mem_of_getElem? (i := 21) rfl))) (by decide) (t := .int) (t' := .int) (by decide) (by decide)))
        have f200_F : Fld Z h193 a "com/example/weaverbird/weaverbird/model/xml/Utf8Decoder" "high" "I" (.int hi) := F_hi.other W193 (Or.inr (slot_ne (Or.inl (hw _ (List.mem_of_getElem? (i := 29) rfl))) (Or.inl (hw _ (List.mem_of_getElem? (i := 21) rfl))) (by decide) (t := .int) (t' := .int) (by decide) (by decide)))
        have f201_F : Fld Z h193 a "com/example/weaverbird/weaverbird/model/xml/Utf8Decoder" "reading" "Z" (.int re) := F_re.other W193 (Or.inr (slot_ne (Or.inl (hw _ (List.mem_of_getElem? (i := 19) rfl))) (Or.inl (hw _ (List.mem_of_getElem? (i := 21) rfl))) (by decide) (t := .boolean) (t' := .int) (by decide) (by decide)))
        have Z202 : n0 ≤ h193.size := Nat.le_trans Z0 (Keep.of_wr W193).1
        have K203 : Keep h0 h193 [a] := K0.wr W193 (Or.inl (List.mem_of_getElem? (i := 0) rfl))
        have f204_F : Fld Z h193 a "com/example/weaverbird/weaverbird/model/xml/Utf8Decoder" "length" "I" (.int (2 : Int32)) := F_le.same W193
        have pre205 : ∀ t, own_s p e below T193 m 177 #[rv a, iv p1, .unset] [(.int (1 : Int32)), (.ref a)] t → Steps p.tables e below S0 t := by
          intro tX kX
          refine pre194 _ ?_
          show own_s p e below T193 m 175 #[rv a, iv p1, .unset] [] _
          refine XS.aloadN X195.here hx rfl (hb hby d2_175) rfl rfl ?_
          show own_s p e below T193 m 176 #[rv a, iv p1, .unset] [(.ref a)] _
          refine XS.iconst X195.here hx rfl (hb hby d2_176) ?_
          exact kX
        obtain ⟨T206, h206, X206, e206, W206, st206⟩ := putF X195 hx hZ hown (host := "") (Or.inl (hw _ (List.mem_of_getElem? (i := 22) rfl))) Via.refl e193 f198_F f196_E (Or.inl (hw _ (List.mem_of_getElem? (i := 23) rfl))) (hw _ (List.mem_of_getElem? (i := 5) rfl)) (ty := .int) (by decide) rfl rfl (g := (mkF m 177 #[rv a, iv p1, .unset] [(.int (1 : Int32)), (.ref a)])) rfl rfl (hb hby d2_177)
        have pre207 : ∀ t, own_s p e below T206 m 180 #[rv a, iv p1, .unset] [] t → Steps p.tables e below S0 t := fun tX kX => pre205 _ (st206 _ kX)
        obtain ⟨LL208, X208, N208⟩ : ∃ LL, Stand p l e ({ frames := 0, cells := 0, slots := 0, locals := 0 } : Room) s m #[(.ref a), (.int p1)] below meth c T206 LL 0 0 ∧ Fr n0 LL := ⟨_, X206, Fr.snoc X206 N195 g_a⟩
        have f209_E : Exa Z h206 a "com/example/weaverbird/weaverbird/model/xml/Utf8Decoder" := f196_E.wr W206
        have f210_F : Fld Z h206 a "com/example/weaverbird/weaverbird/model/xml/Utf8Decoder" "partial" "I" (.int pa) := f197_F.other W206 (Or.inr (slot_ne (Or.inl (hw _ (List.mem_of_getElem? (i := 25) rfl))) (Or.inl (hw _ (List.mem_of_getElem? (i := 23) rfl))) (by decide) (t := .int) (t' := .int) (by decide) (by decide)))
        have f211_F : Fld Z h206 a "com/example/weaverbird/weaverbird/model/xml/Utf8Decoder" "low" "I" (.int lo) := f199_F.other W206 (Or.inr (slot_ne (Or.inl (hw _ (List.mem_of_getElem? (i := 27) rfl))) (Or.inl (hw _ (List.mem_of_getElem? (i := 23) rfl))) (by decide) (t := .int) (t' := .int) (by decide) (by decide)))
        have f212_F : Fld Z h206 a "com/example/weaverbird/weaverbird/model/xml/Utf8Decoder" "high" "I" (.int hi) := f200_F.other W206 (Or.inr (slot_ne (Or.inl (hw _ (List.mem_of_getElem? (i := 29) rfl))) (Or.inl (hw _ (List.mem_of_getElem? (i := 23) rfl))) (by decide) (t := .int) (t' := .int) (by decide) (by decide)))
        have f213_F : Fld Z h206 a "com/example/weaverbird/weaverbird/model/xml/Utf8Decoder" "reading" "Z" (.int re) := f201_F.other W206 (Or.inr (slot_ne (Or.inl (hw _ (List.mem_of_getElem? (i := 19) rfl))) (Or.inl (hw _ (List.mem_of_getElem? (i := 23) rfl))) (by decide) (t := .boolean) (t' := .int) (by decide) (by decide)))
        have f214_F : Fld Z h206 a "com/example/weaverbird/weaverbird/model/xml/Utf8Decoder" "length" "I" (.int (2 : Int32)) := f204_F.other W206 (Or.inr (slot_ne (Or.inl (hw _ (List.mem_of_getElem? (i := 21) rfl))) (Or.inl (hw _ (List.mem_of_getElem? (i := 23) rfl))) (by decide) (t := .int) (t' := .int) (by decide) (by decide)))
        have Z215 : n0 ≤ h206.size := Nat.le_trans Z202 (Keep.of_wr W206).1
        have K216 : Keep h0 h206 [a] := K203.wr W206 (Or.inl (List.mem_of_getElem? (i := 0) rfl))
        have f217_F : Fld Z h206 a "com/example/weaverbird/weaverbird/model/xml/Utf8Decoder" "taken" "I" (.int (1 : Int32)) := f198_F.same W206
        have pre218 : ∀ t, own_s p e below T206 m 182 #[rv a, iv p1, .unset] [(.ref a), (.ref a)] t → Steps p.tables e below S0 t := by
          intro tX kX
          refine pre207 _ ?_
          show own_s p e below T206 m 180 #[rv a, iv p1, .unset] [] _
          refine XS.aloadN X208.here hx rfl (hb hby d2_180) rfl rfl ?_
          show own_s p e below T206 m 181 #[rv a, iv p1, .unset] [(.ref a)] _
          refine XS.aloadN X208.here hx rfl (hb hby d2_181) rfl rfl ?_
          exact kX
        obtain ⟨T219, X219, e219, st219⟩ := getF X208 hx hZ hown (host := "") (Or.inl (hw _ (List.mem_of_getElem? (i := 20) rfl))) Via.refl e206 f214_F (g := (mkF m 182 #[rv a, iv p1, .unset] [(.ref a), (.ref a)])) rfl rfl (hb hby d2_182)
        have pre220 : ∀ t, own_s p e below T219 m 185 #[rv a, iv p1, .unset] [(.int (2 : Int32)), (.ref a)] t → Steps p.tables e below S0 t := fun tX kX => pre218 _ (st219 _ kX)
        have pre221 : ∀ t, own_s p e below T219 m 194 #[rv a, iv p1, .unset] [(.int (1 : Int32)), (.ref a)] t → Steps p.tables e below S0 t := by
          intro tX kX
          refine pre220 _ ?_
          show own_s p e below T219 m 185 #[rv a, iv p1, .unset] [(.int (2 : Int32)), (.ref a)] _
          refine XS.iconst X219.here hx rfl (hb hby d2_185) ?_
          show own_s p e below T219 m 186 #[rv a, iv p1, .unset] [(.int (1 : Int32)), (.int (2 : Int32)), (.ref a)] _
          refine XS.icmpNo X219.here hx rfl (hb hby d2_186) rfl (tlt (by decide : (1 : Int32) < (2 : Int32))).2.2.2 ?_
          show own_s p e below T219 m 189 #[rv a, iv p1, .unset] [(.ref a)] _
          refine XS.iconst X219.here hx rfl (hb hby d2_189) ?_
          show own_s p e below T219 m 190 #[rv a, iv p1, .unset] [(.int (1 : Int32)), (.ref a)] _
          refine XS.goto X219.here hx rfl (pc0 := 190) (pc' := 194) rfl (hb hby d2_190) (by decide) (by decide) ?_
          exact kX
        obtain ⟨T222, h222, X222, e222, W222, st222⟩ := putFN X219 hx hZ hown (hw _ (List.mem_of_getElem? (i := 18) rfl)) Via.refl e219 f213_F f209_E (Or.inl (hw _ (List.mem_of_getElem? (i := 19) rfl))) (hw _ (List.mem_of_getElem? (i := 5) rfl)) (ty := .boolean) (v' := (.int (1 : Int32))) (by decide) rfl rfl (g := (mkF m 194 #[rv a, iv p1, .unset] [(.int (1 : Int32)), (.ref a)])) rfl rfl (hb hby d2_194)
        have pre223 : ∀ t, own_s p e below T222 m 197 #[rv a, iv p1, .unset] [] t → Steps p.tables e below S0 t := fun tX kX => pre221 _ (st222 _ kX)
        obtain ⟨LL224, X224, N224⟩ : ∃ LL, Stand p l e ({ frames := 0, cells := 0, slots := 0, locals := 0 } : Room) s m #[(.ref a), (.int p1)] below meth c T222 LL 0 0 ∧ Fr n0 LL := ⟨_, X222, Fr.snoc X222 N208 g_a⟩
        have f225_E : Exa Z h222 a "com/example/weaverbird/weaverbird/model/xml/Utf8Decoder" := f209_E.wr W222
        have f226_F : Fld Z h222 a "com/example/weaverbird/weaverbird/model/xml/Utf8Decoder" "partial" "I" (.int pa) := f210_F.other W222 (Or.inr (slot_ne (Or.inl (hw _ (List.mem_of_getElem? (i := 25) rfl))) (Or.inl (hw _ (List.mem_of_getElem? (i := 19) rfl))) (by decide) (t := .int) (t' := .boolean) (by decide) (by decide)))
        have f227_F : Fld Z h222 a "com/example/weaverbird/weaverbird/model/xml/Utf8Decoder" "low" "I" (.int lo) := f211_F.other W222 (Or.inr (slot_ne (Or.inl (hw _ (List.mem_of_getElem? (i := 27) rfl))) (Or.inl (hw _ (List.mem_of_getElem? (i := 19) rfl))) (by decide) (t := .int) (t' := .boolean) (by decide) (by decide)))
        have f228_F : Fld Z h222 a "com/example/weaverbird/weaverbird/model/xml/Utf8Decoder" "high" "I" (.int hi) := f212_F.other W222 (Or.inr (slot_ne (Or.inl (hw _ (List.mem_of_getElem? (i := 29) rfl))) (Or.inl (hw _ (List.mem_of_getElem? (i := 19) rfl))) (by decide) (t := .int) (t' := .boolean) (by decide) (by decide)))
        have f229_F : Fld Z h222 a "com/example/weaverbird/weaverbird/model/xml/Utf8Decoder" "length" "I" (.int (2 : Int32)) := f214_F.other W222 (Or.inr (slot_ne (Or.inl (hw _ (List.mem_of_getElem? (i := 21) rfl))) (Or.inl (hw _ (List.mem_of_getElem? (i := 19) rfl))) (by decide) (t := .int) (t' := .boolean) (by decide) (by decide)))
        have f230_F : Fld Z h222 a "com/example/weaverbird/weaverbird/model/xml/Utf8Decoder" "taken" "I" (.int (1 : Int32)) := f217_F.other W222 (Or.inr (slot_ne (Or.inl (hw _ (List.mem_of_getElem? (i := 23) rfl))) (Or.inl (hw _ (List.mem_of_getElem? (i := 19) rfl))) (by decide) (t := .int) (t' := .boolean) (by decide) (by decide)))
        have Z231 : n0 ≤ h222.size := Nat.le_trans Z215 (Keep.of_wr W222).1
        have K232 : Keep h0 h222 [a] := K216.wr W222 (Or.inl (List.mem_of_getElem? (i := 0) rfl))
        have f233_F : Fld Z h222 a "com/example/weaverbird/weaverbird/model/xml/Utf8Decoder" "reading" "Z" (.int (1 : Int32)) := f213_F.same W222
        have pre234 : ∀ t, own_s p e below T222 m 202 #[rv a, iv p1, .unset] [(.ref a), (.int (63 : Int32)), (.int p1), (.ref a)] t → Steps p.tables e below S0 t := by
          intro tX kX
          refine pre223 _ ?_
          show own_s p e below T222 m 197 #[rv a, iv p1, .unset] [] _
          refine XS.aloadN X224.here hx rfl (hb hby d2_197) rfl rfl ?_
          show own_s p e below T222 m 198 #[rv a, iv p1, .unset] [(.ref a)] _
          refine XS.iloadN X224.here hx rfl (hb hby d2_198) rfl ?_
          show own_s p e below T222 m 199 #[rv a, iv p1, .unset] [(.int p1), (.ref a)] _
          refine XS.bipush X224.here hx rfl (hb hby d2_199) ?_
          show own_s p e below T222 m 201 #[rv a, iv p1, .unset] [(.int (63 : Int32)), (.int p1), (.ref a)] _
          refine XS.aloadN X224.here hx rfl (hb hby d2_201) rfl rfl ?_
          exact kX
        obtain ⟨T235, X235, e235, st235⟩ := getF X224 hx hZ hown (host := "") (Or.inl (hw _ (List.mem_of_getElem? (i := 20) rfl))) Via.refl e222 f229_F (g := (mkF m 202 #[rv a, iv p1, .unset] [(.ref a), (.int (63 : Int32)), (.int p1), (.ref a)])) rfl rfl (hb hby d2_202)
        have pre236 : ∀ t, own_s p e below T235 m 205 #[rv a, iv p1, .unset] [(.int (2 : Int32)), (.int (63 : Int32)), (.int p1), (.ref a)] t → Steps p.tables e below S0 t := fun tX kX => pre234 _ (st235 _ kX)
        have pre237 : ∀ t, own_s p e below T235 m 209 #[rv a, iv p1, .unset] [(.int (p1 &&& ((63 : Int32) >>> (((2 : Int32) - (1 : Int32)) &&& 31)))), (.ref a)] t → Steps p.tables e below S0 t := by
          intro tX kX
          refine pre236 _ ?_
          show own_s p e below T235 m 205 #[rv a, iv p1, .unset] [(.int (2 : Int32)), (.int (63 : Int32)), (.int p1), (.ref a)] _
          refine XS.iconst X235.here hx rfl (hb hby d2_205) ?_
          show own_s p e below T235 m 206 #[rv a, iv p1, .unset] [(.int (1 : Int32)), (.int (2 : Int32)), (.int (63 : Int32)), (.int p1), (.ref a)] _
          refine XS.isub X235.here hx rfl (hb hby d2_206) rfl ?_
          show own_s p e below T235 m 207 #[rv a, iv p1, .unset] [(.int ((2 : Int32) - (1 : Int32))), (.int (63 : Int32)), (.int p1), (.ref a)] _
          refine XS.ishr X235.here hx rfl (hb hby d2_207) rfl ?_
          show own_s p e below T235 m 208 #[rv a, iv p1, .unset] [(.int ((63 : Int32) >>> (((2 : Int32) - (1 : Int32)) &&& 31))), (.int p1), (.ref a)] _
          refine XS.iand X235.here hx rfl (hb hby d2_208) rfl ?_
          exact kX
        obtain ⟨T238, h238, X238, e238, W238, st238⟩ := putF X235 hx hZ hown (host := "") (Or.inl (hw _ (List.mem_of_getElem? (i := 24) rfl))) Via.refl e235 f226_F f225_E (Or.inl (hw _ (List.mem_of_getElem? (i := 25) rfl))) (hw _ (List.mem_of_getElem? (i := 5) rfl)) (ty := .int) (by decide) rfl rfl (g := (mkF m 209 #[rv a, iv p1, .unset] [(.int (p1 &&& ((63 : Int32) >>> (((2 : Int32) - (1 : Int32)) &&& 31)))), (.ref a)])) rfl rfl (hb hby d2_209)
        have pre239 : ∀ t, own_s p e below T238 m 212 #[rv a, iv p1, .unset] [] t → Steps p.tables e below S0 t := fun tX kX => pre237 _ (st238 _ kX)
        obtain ⟨LL240, X240, N240⟩ : ∃ LL, Stand p l e ({ frames := 0, cells := 0, slots := 0, locals := 0 } : Room) s m #[(.ref a), (.int p1)] below meth c T238 LL 0 0 ∧ Fr n0 LL := ⟨_, X238, Fr.snoc X238 N224 g_a⟩
        have f241_E : Exa Z h238 a "com/example/weaverbird/weaverbird/model/xml/Utf8Decoder" := f225_E.wr W238
        have f242_F : Fld Z h238 a "com/example/weaverbird/weaverbird/model/xml/Utf8Decoder" "low" "I" (.int lo) := f227_F.other W238 (Or.inr (slot_ne (Or.inl (hw _ (List.mem_of_getElem? (i := 27) rfl))) (Or.inl (hw _ (List.mem_of_getElem? (i := 25) rfl))) (by decide) (t := .int) (t' := .int) (by decide) (by decide)))
        have f243_F : Fld Z h238 a "com/example/weaverbird/weaverbird/model/xml/Utf8Decoder" "high" "I" (.int hi) := f228_F.other W238 (Or.inr (slot_ne (Or.inl (hw _ (List.mem_of_getElem? (i := 29) rfl))) (Or.inl (hw _ (List.mem_of_getElem? (i := 25) rfl))) (by decide) (t := .int) (t' := .int) (by decide) (by decide)))
        have f244_F : Fld Z h238 a "com/example/weaverbird/weaverbird/model/xml/Utf8Decoder" "length" "I" (.int (2 : Int32)) := f229_F.other W238 (Or.inr (slot_ne (Or.inl (hw _ (List.mem_of_getElem? (i := 21) rfl))) (Or.inl (hw _ (List.mem_of_getElem? (i := 25) rfl))) (by decide) (t := .int) (t' := .int) (by decide) (by decide)))
        have f245_F : Fld Z h238 a "com/example/weaverbird/weaverbird/model/xml/Utf8Decoder" "taken" "I" (.int (1 : Int32)) := f230_F.other W238 (Or.inr (slot_ne (Or.inl (hw _ (List.mem_of_getElem? (i := 23) rfl))) (Or.inl (hw _ (List.mem_of_getElem? (i := 25) rfl))) (by decide) (t := .int) (t' := .int) (by decide) (by decide)))
        have f246_F : Fld Z h238 a "com/example/weaverbird/weaverbird/model/xml/Utf8Decoder" "reading" "Z" (.int (1 : Int32)) := f233_F.other W238 (Or.inr (slot_ne (Or.inl (hw _ (List.mem_of_getElem? (i := 19) rfl))) (Or.inl (hw _ (List.mem_of_getElem? (i := 25) rfl))) (by decide) (t := .boolean) (t' := .int) (by decide) (by decide)))
        have Z247 : n0 ≤ h238.size := Nat.le_trans Z231 (Keep.of_wr W238).1
        have K248 : Keep h0 h238 [a] := K232.wr W238 (Or.inl (List.mem_of_getElem? (i := 0) rfl))
        have f249_F : Fld Z h238 a "com/example/weaverbird/weaverbird/model/xml/Utf8Decoder" "partial" "I" (.int (p1 &&& ((63 : Int32) >>> (((2 : Int32) - (1 : Int32)) &&& 31)))) := f226_F.same W238
        have pre250 : ∀ t, own_s p e below T238 m 242 #[rv a, iv p1, .unset] [(.int (128 : Int32)), (.ref a)] t → Steps p.tables e below S0 t := by
          intro tX kX
          refine pre239 _ ?_
          show own_s p e below T238 m 212 #[rv a, iv p1, .unset] [] _
          refine XS.aloadN X240.here hx rfl (hb hby d2_212) rfl rfl ?_
          show own_s p e below T238 m 213 #[rv a, iv p1, .unset] [(.ref a)] _
          refine XS.iloadN X240.here hx rfl (hb hby d2_213) rfl ?_
          show own_s p e below T238 m 214 #[rv a, iv p1, .unset] [(.int p1), (.ref a)] _
          refine XS.sipush X240.here hx rfl (hb hby d2_214) ?_
          show own_s p e below T238 m 217 #[rv a, iv p1, .unset] [(.int (224 : Int32)), (.int p1), (.ref a)] _
          refine XS.icmpYes X240.here hx rfl (pc0 := 217) (pc' := 226) rfl (hb hby d2_217) rfl (feq (show ¬ (p1 = (224 : Int32)) from (fun q => absurd (show (p1).toInt = (224 : Int) from congrArg Int32.toInt q) (by omega)))).2 (by decide) (by decide) ?_
          show own_s p e below T238 m 226 #[rv a, iv p1, .unset] [(.ref a)] _
          refine XS.iloadN X240.here hx rfl (hb hby d2_226) rfl ?_
          show own_s p e below T238 m 227 #[rv a, iv p1, .unset] [(.int p1), (.ref a)] _
          refine XS.sipush X240.here hx rfl (hb hby d2_227) ?_
          show own_s p e below T238 m 230 #[rv a, iv p1, .unset] [(.int (240 : Int32)), (.int p1), (.ref a)] _
          refine XS.icmpYes X240.here hx rfl (pc0 := 230) (pc' := 239) rfl (hb hby d2_230) rfl (feq (show ¬ (p1 = (240 : Int32)) from (fun q => absurd (show (p1).toInt = (240 : Int) from congrArg Int32.toInt q) (by omega)))).2 (by decide) (by decide) ?_
          show own_s p e below T238 m 239 #[rv a, iv p1, .unset] [(.ref a)] _
          refine XS.sipush X240.here hx rfl (hb hby d2_239) ?_
          exact kX
        obtain ⟨T251, h251, X251, e251, W251, st251⟩ := putF X240 hx hZ hown (host := "") (Or.inl (hw _ (List.mem_of_getElem? (i := 26) rfl))) Via.refl e238 f242_F f241_E (Or.inl (hw _ (List.mem_of_getElem? (i := 27) rfl))) (hw _ (List.mem_of_getElem? (i := 5) rfl)) (ty := .int) (by decide) rfl rfl (g := (mkF m 242 #[rv a, iv p1, .unset] [(.int (128 : Int32)), (.ref a)])) rfl rfl (hb hby d2_242)
        have pre252 : ∀ t, own_s p e below T251 m 245 #[rv a, iv p1, .unset] [] t → Steps p.tables e below S0 t := fun tX kX => pre250 _ (st251 _ kX)
        obtain ⟨LL253, X253, N253⟩ : ∃ LL, Stand p l e ({ frames := 0, cells := 0, slots := 0, locals := 0 } : Room) s m #[(.ref a), (.int p1)] below meth c T251 LL 0 0 ∧ Fr n0 LL := ⟨_, X251, Fr.snoc X251 N240 g_a⟩
        have f254_E : Exa Z h251 a "com/example/weaverbird/weaverbird/model/xml/Utf8Decoder" := f241_E.wr W251
        have f255_F : Fld Z h251 a "com/example/weaverbird/weaverbird/model/xml/Utf8Decoder" "high" "I" (.int hi) := f243_F.other W251 (Or.inr (slot_ne (Or.inl (hw _ (List.mem_of_getElem? (i := 29) rfl))) (Or.inl (hw _ (List.mem_of_getElem? (i := 27) rfl))) (by decide) (t := .int) (t' := .int) (by decide) (by decide)))
        have f256_F : Fld Z h251 a "com/example/weaverbird/weaverbird/model/xml/Utf8Decoder" "length" "I" (.int (2 : Int32)) := f244_F.other W251 (Or.inr (slot_ne (Or.inl (hw _ (List.mem_of_getElem? (i := 21) rfl))) (Or.inl (hw _ (List.mem_of_getElem? (i := 27) rfl))) (by decide) (t := .int) (t' := .int) (by decide) (by decide)))
        have f257_F : Fld Z h251 a "com/example/weaverbird/weaverbird/model/xml/Utf8Decoder" "taken" "I" (.int (1 : Int32)) := f245_F.other W251 (Or.inr (slot_ne (Or.inl (hw _ (List.mem_of_getElem? (i := 23) rfl))) (Or.inl (hw _ (List.mem_of_getElem? (i := 27) rfl))) (by decide) (t := .int) (t' := .int) (by decide) (by decide)))
        have f258_F : Fld Z h251 a "com/example/weaverbird/weaverbird/model/xml/Utf8Decoder" "reading" "Z" (.int (1 : Int32)) := f246_F.other W251 (Or.inr (slot_ne (Or.inl (hw _ (List.mem_of_getElem? (i := 19) rfl))) (Or.inl (hw _ (List.mem_of_getElem? (i := 27) rfl))) (by decide) (t := .boolean) (t' := .int) (by decide) (by decide)))
        have f259_F : Fld Z h251 a "com/example/weaverbird/weaverbird/model/xml/Utf8Decoder" "partial" "I" (.int (p1 &&& ((63 : Int32) >>> (((2 : Int32) - (1 : Int32)) &&& 31)))) := f249_F.other W251 (Or.inr (slot_ne (Or.inl (hw _ (List.mem_of_getElem? (i := 25) rfl))) (Or.inl (hw _ (List.mem_of_getElem? (i := 27) rfl))) (by decide) (t := .int) (t' := .int) (by decide) (by decide)))
        have Z260 : n0 ≤ h251.size := Nat.le_trans Z247 (Keep.of_wr W251).1
        have K261 : Keep h0 h251 [a] := K248.wr W251 (Or.inl (List.mem_of_getElem? (i := 0) rfl))
        have f262_F : Fld Z h251 a "com/example/weaverbird/weaverbird/model/xml/Utf8Decoder" "low" "I" (.int (128 : Int32)) := f242_F.same W251
        have pre263 : ∀ t, own_s p e below T251 m 275 #[rv a, iv p1, .unset] [(.int (191 : Int32)), (.ref a)] t → Steps p.tables e below S0 t := by
          intro tX kX
          refine pre252 _ ?_
          show own_s p e below T251 m 245 #[rv a, iv p1, .unset] [] _
          refine XS.aloadN X253.here hx rfl (hb hby d2_245) rfl rfl ?_
          show own_s p e below T251 m 246 #[rv a, iv p1, .unset] [(.ref a)] _
          refine XS.iloadN X253.here hx rfl (hb hby d2_246) rfl ?_
          show own_s p e below T251 m 247 #[rv a, iv p1, .unset] [(.int p1), (.ref a)] _
          refine XS.sipush X253.here hx rfl (hb hby d2_247) ?_
          show own_s p e below T251 m 250 #[rv a, iv p1, .unset] [(.int (237 : Int32)), (.int p1), (.ref a)] _
          refine XS.icmpYes X253.here hx rfl (pc0 := 250) (pc' := 259) rfl (hb hby d2_250) rfl (feq (show ¬ (p1 = (237 : Int32)) from (fun q => absurd (show (p1).toInt = (237 : Int) from congrArg Int32.toInt q) (by omega)))).2 (by decide) (by decide) ?_
          show own_s p e below T251 m 259 #[rv a, iv p1, .unset] [(.ref a)] _
          refine XS.iloadN X253.here hx rfl (hb hby d2_259) rfl ?_
          show own_s p e below T251 m 260 #[rv a, iv p1, .unset] [(.int p1), (.ref a)] _
          refine XS.sipush X253.here hx rfl (hb hby d2_260) ?_
          show own_s p e below T251 m 263 #[rv a, iv p1, .unset] [(.int (244 : Int32)), (.int p1), (.ref a)] _
          refine XS.icmpYes X253.here hx rfl (pc0 := 263) (pc' := 272) rfl (hb hby d2_263) rfl (feq (show ¬ (p1 = (244 : Int32)) from (fun q => absurd (show (p1).toInt = (244 : Int) from congrArg Int32.toInt q) (by omega)))).2 (by decide) (by decide) ?_
          show own_s p e below T251 m 272 #[rv a, iv p1, .unset] [(.ref a)] _
          refine XS.sipush X253.here hx rfl (hb hby d2_272) ?_
          exact kX
        obtain ⟨T264, h264, X264, e264, W264, st264⟩ := putF X253 hx hZ hown (host := "") (Or.inl (hw _ (List.mem_of_getElem? (i := 28) rfl))) Via.refl e251 f255_F f254_E (Or.inl (hw _ (List.mem_of_getElem? (i := 29) rfl))) (hw _ (List.mem_of_getElem? (i := 5) rfl)) (ty := .int) (by decide) rfl rfl (g := (mkF m 275 #[rv a, iv p1, .unset] [(.int (191 : Int32)), (.ref a)])) rfl rfl (hb hby d2_275)
        have pre265 : ∀ t, own_s p e below T264 m 278 #[rv a, iv p1, .unset] [] t → Steps p.tables e below S0 t := fun tX kX => pre263 _ (st264 _ kX)
        obtain ⟨LL266, X266, N266⟩ : ∃ LL, Stand p l e ({ frames := 0, cells := 0, slots := 0, locals := 0 } : Room) s m #[(.ref a), (.int p1)] below meth c T264 LL 0 0 ∧ Fr n0 LL := ⟨_, X264, Fr.snoc X264 N253 g_a⟩
        have f267_E : Exa Z h264 a "com/example/weaverbird/weaverbird/model/xml/Utf8Decoder" := f254_E.wr W264
        have f268_F : Fld Z h264 a "com/example/weaverbird/weaverbird/model/xml/Utf8Decoder" "length" "I" (.int (2 : Int32)) := f256_F.other W264 (Or.inr (slot_ne (Or.inl (hw _ (List.mem_of_getElem? (i := 21) rfl))) (Or.inl (hw _ (List.mem_of_getElem? (i := 29) rfl))) (by decide) (t := .int) (t' := .int) (by decide) (by decide)))
        have f269_F : Fld Z h264 a "com/example/weaverbird/weaverbird/model/xml/Utf8Decoder" "taken" "I" (.int (1 : Int32)) := f257_F.other W264 (Or.inr (slot_ne (Or.inl (hw _ (List.mem_of_getElem? (i := 23) rfl))) (Or.inl (hw _ (List.mem_of_getElem? (i := 29) rfl))) (by decide) (t := .int) (t' := .int) (by decide) (by decide)))
        have f270_F : Fld Z h264 a "com/example/weaverbird/weaverbird/model/xml/Utf8Decoder" "reading" "Z" (.int (1 : Int32)) := f258_F.other W264 (Or.inr (slot_ne (Or.inl (hw _ (List.mem_of_getElem? (i := 19) rfl))) (Or.inl (hw _ (List.mem_of_getElem? (i := 29) rfl))) (by decide) (t := .boolean) (t' := .int) (by decide) (by decide)))
        have f271_F : Fld Z h264 a "com/example/weaverbird/weaverbird/model/xml/Utf8Decoder" "partial" "I" (.int (p1 &&& ((63 : Int32) >>> (((2 : Int32) - (1 : Int32)) &&& 31)))) := f259_F.other W264 (Or.inr (slot_ne (Or.inl (hw _ (List.mem_of_getElem? (i := 25) rfl))) (Or.inl (hw _ (List.mem_of_getElem? (i := 29) rfl))) (by decide) (t := .int) (t' := .int) (by decide) (by decide)))
        have f272_F : Fld Z h264 a "com/example/weaverbird/weaverbird/model/xml/Utf8Decoder" "low" "I" (.int (128 : Int32)) := f262_F.other W264 (Or.inr (slot_ne (Or.inl (hw _ (List.mem_of_getElem? (i := 27) rfl))) (Or.inl (hw _ (List.mem_of_getElem? (i := 29) rfl))) (by decide) (t := .int) (t' := .int) (by decide) (by decide)))
        have Z273 : n0 ≤ h264.size := Nat.le_trans Z260 (Keep.of_wr W264).1
        have K274 : Keep h0 h264 [a] := K261.wr W264 (Or.inl (List.mem_of_getElem? (i := 0) rfl))
        have f275_F : Fld Z h264 a "com/example/weaverbird/weaverbird/model/xml/Utf8Decoder" "high" "I" (.int (191 : Int32)) := f255_F.same W264
        have pre276 : ∀ t, own_s p e below T264 m 290 #[rv a, iv p1, .unset] [(.ref a)] t → Steps p.tables e below S0 t := by
          intro tX kX
          refine pre265 _ ?_
          show own_s p e below T264 m 278 #[rv a, iv p1, .unset] [] _
          refine XS.iloadN X266.here hx rfl (hb hby d2_278) rfl ?_
          show own_s p e below T264 m 279 #[rv a, iv p1, .unset] [(.int p1)] _
          refine XS.sipush X266.here hx rfl (hb hby d2_279) ?_
          show own_s p e below T264 m 282 #[rv a, iv p1, .unset] [(.int (128 : Int32)), (.int p1)] _
          refine XS.icmpYes X266.here hx rfl (pc0 := 282) (pc' := 289) rfl (hb hby d2_282) rfl (flt (show ¬ (p1 < (128 : Int32)) from (fun q => absurd (show (p1).toInt < (128 : Int) from Int32.lt_iff_toInt_lt.mp q) (by omega)))).2.1 (by decide) (by decide) ?_
          show own_s p e below T264 m 289 #[rv a, iv p1, .unset] [] _
          refine XS.aloadN X266.here hx rfl (hb hby d2_289) rfl rfl ?_
          exact kX
        obtain ⟨T277, X277, e277, st277⟩ := getF X266 hx hZ hown (host := "") (Or.inl (hw _ (List.mem_of_getElem? (i := 18) rfl))) Via.refl e264 f270_F (g := (mkF m 290 #[rv a, iv p1, .unset] [(.ref a)])) rfl rfl (hb hby d2_290)
        have pre278 : ∀ t, own_s p e below T277 m 293 #[rv a, iv p1, .unset] [(.int (1 : Int32))] t → Steps p.tables e below S0 t := fun tX kX => pre276 _ (st277 _ kX)
        have pre279 : ∀ t, own_s p e below T277 m 304 #[rv a, iv p1, iv (-1 : Int32)] [(.int (-1 : Int32))] t → Steps p.tables e below S0 t := by
          intro tX kX
          refine pre278 _ ?_
          show own_s p e below T277 m 293 #[rv a, iv p1, .unset] [(.int (1 : Int32))] _
          refine XS.ifNo X277.here hx rfl (hb hby d2_293) rfl ((if0 _ _).trans (feq (by decide : ¬ ((1 : Int32) = (0 : Int32)))).1) ?_
          show own_s p e below T277 m 296 #[rv a, iv p1, .unset] [] _
          refine XS.iconst X277.here hx rfl (hb hby d2_296) ?_
          show own_s p e below T277 m 297 #[rv a, iv p1, .unset] [(.int (-1 : Int32))] _
          refine XS.goto X277.here hx rfl (pc0 := 297) (pc' := 302) rfl (hb hby d2_297) (by decide) (by decide) ?_
          show own_s p e below T277 m 302 #[rv a, iv p1, .unset] [(.int (-1 : Int32))] _
          refine XS.istoreN X277.here hx rfl (hb hby d2_302) rfl (l' := #[rv a, iv p1, iv (-1 : Int32)]) rfl ?_
          show own_s p e below T277 m 303 #[rv a, iv p1, iv (-1 : Int32)] [] _
          refine XS.iloadN X277.here hx rfl (hb hby d2_303) rfl ?_
          exact kX
        subst hS0
        obtain ⟨fs, hr, hrun, hended, hW, hsame⟩ := X277.leave (v := (some (.int (-1 : Int32)))) (fun h => by rw [Bd.returns] at h; cases h)
        refine ⟨_, _, pre279 _ (retI X277 hx Bd.returns (hb hby d2_304) hr), hrun, hended, _, _, rfl, ?_, ⟨_, rfl⟩, hW, hsame.mono (by decide) (by decide)⟩
        show Q2 Z a p1 pa le ta lo hi re h0 n0 (some (.int (-1 : Int32))) T277.heap _
        rw [e277]
        refine ⟨(-1 : Int32), (p1 &&& ((63 : Int32) >>> (((2 : Int32) - (1 : Int32)) &&& 31))), (2 : Int32), (1 : Int32), (128 : Int32), (191 : Int32), (1 : Int32), rfl, N266, K274, f267_E, f271_F, f268_F, f269_F, f272_F, f275_F, f270_F, ?_⟩
        have mk := c_mask p1 ((63 : Int32) >>> (((2 : Int32) - (1 : Int32)) &&& 31)) 5 (by decide) (by decide)
        show own_T0 p1.toInt (-1 : Int) ((p1 &&& ((63 : Int32) >>> (((2 : Int32) - (1 : Int32)) &&& 31)))).toInt (2 : Int) (1 : Int) (128 : Int) (191 : Int) (1 : Int)
        unfold own_T0
        omega
      · skip
        have ihc191 : ¬ ((p1).toInt < (224 : Int)) := fun q => hc191 (Int32.lt_iff_toInt_lt.mpr q)
        have pre280 : ∀ t, own_s p e below T5 m 164 #[rv a, iv p1, .unset] [(.int (240 : Int32)), (.int p1), (.ref a)] t → Steps p.tables e below S0 t := by
          intro tX kX
          refine pre190 _ ?_
          show own_s p e below T5 m 153 #[rv a, iv p1, .unset] [(.int (224 : Int32)), (.int p1), (.ref a)] _
          refine XS.icmpYes X5.here hx rfl (pc0 := 153) (pc' := 160) rfl (hb hby d2_153) rfl (flt hc191).2.1 (by decide) (by decide) ?_
          show own_s p e below T5 m 160 #[rv a, iv p1, .unset] [(.ref a)] _
          refine XS.iloadN X5.here hx rfl (hb hby d2_160) rfl ?_
          show own_s p e below T5 m 161 #[rv a, iv p1, .unset] [(.int p1), (.ref a)] _
          refine XS.sipush X5.here hx rfl (hb hby d2_161) ?_
          exact kX
        by_cases hc281 : p1 < (240 : Int32)
        · skip
          have ihc281 : (p1).toInt < (240 : Int) := Int32.lt_iff_toInt_lt.mp hc281
          have pre282 : ∀ t, own_s p e below T5 m 172 #[rv a, iv p1, .unset] [(.int (3 : Int32)), (.ref a)] t → Steps p.tables e below S0 t := by
            intro tX kX
            refine pre280 _ ?_
            show own_s p e below T5 m 164 #[rv a, iv p1, .unset] [(.int (240 : Int32)), (.int p1), (.ref a)] _
            refine XS.icmpNo X5.here hx rfl (hb hby d2_164) rfl (tlt hc281).2.1 ?_
            show own_s p e below T5 m 167 #[rv a, iv p1, .unset] [(.ref a)] _
            refine XS.iconst X5.here hx rfl (hb hby d2_167) ?_
            show own_s p e below T5 m 168 #[rv a, iv p1, .unset] [(.int (3 : Int32)), (.ref a)] _
            refine XS.goto X5.here hx rfl (pc0 := 168) (pc' := 172) rfl (hb hby d2_168) (by decide) (by decide) ?_
            exact kX
          obtain ⟨T283, h283, X283, e283, W283, st283⟩ := putF X5 hx hZ hown (host := "") (Or.inl (hw _ (List.mem_of_getElem? (i := 20) rfl))) Via.refl e5 F_le E_a (Or.inl (hw _ (List.mem_of_getElem? (i := 21) rfl))) (hw _ (List.mem_of_getElem? (i := 5) rfl)) (ty := .int) (by decide) rfl rfl (g := (mkF m 172 #[rv a, iv p1, .unset] [(.int (3 : Int32)), (.ref a)])) rfl rfl (hb hby d2_172)
          have pre284 : ∀ t, own_s p e below T283 m 175 #[rv a, iv p1, .unset] [] t → Steps p.tables e below S0 t := fun tX kX => pre282 _ (st283 _ kX)
          obtain ⟨LL285, X285, N285⟩ : ∃ LL, Stand p l e ({ frames := 0, cells := 0, slots := 0, locals := 0 } : Room) s m #[(.ref a), (.int p1)] below meth c T283 LL 0 0 ∧ Fr n0 LL := ⟨_, X283, Fr.snoc X283 N0 g_a⟩
          have f286_E : Exa Z h283 a "com/example/weaverbird/weaverbird/model/xml/Utf8Decoder" := E_a.wr W283
          have f287_F : Fld Z h283 a "com/example/weaverbird/weaverbird/model/xml/Utf8Decoder" "partial" "I" (.int pa) := F_pa.other W283 (Or.inr (slot_ne (Or.inl (hw _ (List.mem_of_getElem? (i := 25) rfl))) (Or.inl (hw _ (List.mem_of_getElem? (i := 21) rfl))) (by decide) (t := .int) (t' := .int) (by decide) (by decide)))
          have f288_F : Fld Z h283 a "com/example/weaverbird/weaverbird/model/xml/Utf8Decoder" "taken" "I" (.int ta) := F_ta.other W283 (Or.inr (slot_ne (Or.inl (hw _ (List.mem_of_getElem? (i := 23) rfl))) (Or.inl (hw _ (List.mem_of_getElem? (i := 21) rfl))) (by decide) (t := .int) (t' := .int) (by decide) (by decide)))
          have f289_F : Fld Z h283 a "com/example/weaverbird/weaverbird/model/xml/Utf8Decoder" "low" "I" (.int lo) := F_lo.other W283 (Or.inr (slot_ne (Or.inl (hw _ (List.mem_of_getElem? (i := 27) rfl))) (Or.inl (hw _ (List.mem_of_getElem? (i := 21) rfl))) (by decide) (t := .int) (t' := .int) (by decide) (by decide)))
          have f290_F : Fld Z h283 a "com/example/weaverbird/weaverbird/model/xml/Utf8Decoder" "high" "I" (.int hi) := F_hi.other W283 (Or.inr (slot_ne (Or.inl (hw _ (List.mem_of_getElem? (i := 29) rfl))) (Or.inl (hw _ (List.mem_of_getElem? (i := 21) rfl))) (by decide) (t := .int) (t' := .int) (by decide) (by decide)))
          have f291_F : Fld Z h283 a "com/example/weaverbird/weaverbird/model/xml/Utf8Decoder" "reading" "Z" (.int re) := F_re.other W283 (Or.inr (slot_ne (Or.inl (hw _ (List.mem_of_getElem? (i := 19) rfl))) (Or.inl (hw _ (List.mem_of_getElem? (i := 21) rfl))) (by decide) (t := .boolean) (t' := .int) (by decide) (by decide)))
          have Z292 : n0 ≤ h283.size := Nat.le_trans Z0 (Keep.of_wr W283).1
          have K293 : Keep h0 h283 [a] := K0.wr W283 (Or.inl (List.mem_of_getElem? (i := 0) rfl))
          have f294_F : Fld Z h283 a "com/example/weaverbird/weaverbird/model/xml/Utf8Decoder" "length" "I" (.int (3 : Int32)) := F_le.same W283
          have pre295 : ∀ t, own_s p e below T283 m 177 #[rv a, iv p1, .unset] [(.int (1 : Int32)), (.ref a)] t → Steps p.tables e below S0 t := by
            intro tX kX
            refine pre284 _ ?_
            show own_s p e below T283 m 175 #[rv a, iv p1, .unset] [] _
            refine XS.aloadN X285.here hx rfl (hb hby d2_175) rfl rfl ?_
            show own_s p e below T283 m 176 #[rv a, iv p1, .unset] [(.ref a)] _
            refine XS.iconst X285.here hx rfl (hb hby d2_176) ?_
            exact kX
          obtain ⟨T296, h296, X296, e296, W296, st296⟩ := putF X285 hx hZ hown (host := "") (Or.inl (hw _ (List.mem_of_getElem? (i := 22) rfl))) Via.refl e283 f288_F f286_E (Or.inl (hw _ (List.mem_of_getElem? (i := 23) rfl))) (hw _ (List.mem_of_getElem? (i := 5) rfl)) (ty := .int) (by decide) rfl rfl (g := (mkF m 177 #[rv a, iv p1, .unset] [(.int (1 : Int32)), (.ref a)])) rfl rfl (hb hby d2_177)
          have pre297 : ∀ t, own_s p e below T296 m 180 #[rv a, iv p1, .unset] [] t → Steps p.tables e below S0 t := fun tX kX => pre295 _ (st296 _ kX)
          obtain ⟨LL298, X298, N298⟩ : ∃ LL, Stand p l e ({ frames := 0, cells := 0, slots := 0, locals := 0 } : Room) s m #[(.ref a), (.int p1)] below meth c T296 LL 0 0 ∧ Fr n0 LL := ⟨_, X296, Fr.snoc X296 N285 g_a⟩
          have f299_E : Exa Z h296 a "com/example/weaverbird/weaverbird/model/xml/Utf8Decoder" := f286_E.wr W296
          have f300_F : Fld Z h296 a "com/example/weaverbird/weaverbird/model/xml/Utf8Decoder" "partial" "I" (.int pa) := f287_F.other W296 (Or.inr (slot_ne (Or.inl (hw _ (List.mem_of_getElem? (i := 25) rfl))) (Or.inl (hw _ (List.mem_of_getElem? (i := 23) rfl))) (by decide) (t := .int) (t' := .int) (by decide) (by decide)))
          have f301_F : Fld Z h296 a "com/example/weaverbird/weaverbird/model/xml/Utf8Decoder" "low" "I" (.int lo) := f289_F.other W296 (Or.inr (slot_ne (Or.inl (hw _ (List.mem_of_getElem? (i := 27) rfl))) (Or.inl (hw _ (List.mem_of_getElem? (i := 23) rfl))) (by decide) (t := .int) (t' := .int) (by decide) (by decide)))
          have f302_F : Fld Z h296 a "com/example/weaverbird/weaverbird/model/xml/Utf8Decoder" "high" "I" (.int hi) := f290_F.other W296 (Or.inr (slot_ne (Or.inl (hw _ (List.mem_of_getElem? (i := 29) rfl))) (Or.inl (hw _ (List.mem_of_getElem? (i := 23) rfl))) (by decide) (t := .int) (t' := .int) (by decide) (by decide)))
          have f303_F : Fld Z h296 a "com/example/weaverbird/weaverbird/model/xml/Utf8Decoder" "reading" "Z" (.int re) := f291_F.other W296 (Or.inr (slot_ne (Or.inl (hw _ (List.mem_of_getElem? (i := 19) rfl))) (Or.inl (hw _ (List.mem_of_getElem? (i := 23) rfl))) (by decide) (t := .boolean) (t' := .int) (by decide) (by decide)))
          have f304_F : Fld Z h296 a "com/example/weaverbird/weaverbird/model/xml/Utf8Decoder" "length" "I" (.int (3 : Int32)) := f294_F.other W296 (Or.inr (slot_ne (Or.inl (hw _ (List.mem_of_getElem? (i := 21) rfl))) (Or.inl (hw _ (List.mem_of_getElem? (i := 23) rfl))) (by decide) (t := .int) (t' := .int) (by decide) (by decide)))
          have Z305 : n0 ≤ h296.size := Nat.le_trans Z292 (Keep.of_wr W296).1
          have K306 : Keep h0 h296 [a] := K293.wr W296 (Or.inl (List.mem_of_getElem? (i := 0) rfl))
          have f307_F : Fld Z h296 a "com/example/weaverbird/weaverbird/model/xml/Utf8Decoder" "taken" "I" (.int (1 : Int32)) := f288_F.same W296
          have pre308 : ∀ t, own_s p e below T296 m 182 #[rv a, iv p1, .unset] [(.ref a), (.ref a)] t → Steps p.tables e below S0 t := by
            intro tX kX
            refine pre297 _ ?_
            show own_s p e below T296 m 180 #[rv a, iv p1, .unset] [] _
            refine XS.aloadN X298.here hx rfl (hb hby d2_180) rfl rfl ?_
            show own_s p e below T296 m 181 #[rv a, iv p1, .unset] [(.ref a)] _
            refine XS.aloadN X298.here hx rfl (hb hby d2_181) rfl rfl ?_
            exact kX
          obtain ⟨T309, X309, e309, st309⟩ := getF X298 hx hZ hown (host := "") (Or.inl (hw _ (List.mem_of_getElem? (i := 20) rfl))) Via.refl e296 f304_F (g := (mkF m 182 #[rv a, iv p1, .unset] [(.ref a), (.ref a)])) rfl rfl (hb hby d2_182)
          have pre310 : ∀ t, own_s p e below T309 m 185 #[rv a, iv p1, .unset] [(.int (3 : Int32)), (.ref a)] t → Steps p.tables e below S0 t := fun tX kX => pre308 _ (st309 _ kX)
          have pre311 : ∀ t, own_s p e below T309 m 194 #[rv a, iv p1, .unset] [(.int (1 : Int32)), (.ref a)] t → Steps p.tables e below S0 t := by
            intro tX kX
            refine pre310 _ ?_
            show own_s p e below T309 m 185 #[rv a, iv p1, .unset] [(.int (3 : Int32)), (.ref a)] _
            refine XS.iconst X309.here hx rfl (hb hby d2_185) ?_
            show own_s p e below T309 m 186 #[rv a, iv p1, .unset] [(.int (1 : Int32)), (.int (3 : Int32)), (.ref a)] _
            refine XS.icmpNo X309.here hx rfl (hb hby d2_186) rfl (tlt (by decide : (1 : Int32) < (3 : Int32))).2.2.2 ?_
            show own_s p e below T309 m 189 #[rv a, iv p1, .unset] [(.ref a)] _
            refine XS.iconst X309.here hx rfl (hb hby d2_189) ?_
            show own_s p e below T309 m 190 #[rv a, iv p1, .unset] [(.int (1 : Int32)), (.ref a)] _
            refine XS.goto X309.here hx rfl (pc0 := 190) (pc' := 194) rfl (hb hby d2_190) (by decide) (by decide) ?_
            exact kX
          obtain ⟨T312, h312, X312, e312, W312, st312⟩ := putFN X309 hx hZ hown (hw _ (List.mem_of_getElem? (i := 18) rfl)) Via.refl e309 f303_F f299_E (Or.inl (hw _ (List.mem_of_getElem? (i := 19) rfl))) (hw _ (List.mem_of_getElem? (i := 5) rfl)) (ty := .boolean) (v' := (.int (1 : Int32))) (by decide) rfl rfl (g := (mkF m 194 #[rv a, iv p1, .unset] [(.int (1 : Int32)), (.ref a)])) rfl rfl (hb hby d2_194)
          have pre313 : ∀ t, own_s p e below T312 m 197 #[rv a, iv p1, .unset] [] t → Steps p.tables e below S0 t := fun tX kX => pre311 _ (st312 _ kX)
          obtain ⟨LL314, X314, N314⟩ : ∃ LL, Stand p l e ({ frames := 0, cells := 0, slots := 0, locals := 0 } : Room) s m #[(.ref a), (.int p1)] below meth c T312 LL 0 0 ∧ Fr n0 LL := ⟨_, X312, Fr.snoc X312 N298 g_a⟩
          have f315_E : Exa Z h312 a "com/example/weaverbird/weaverbird/model/xml/Utf8Decoder" := f299_E.wr W312
          have f316_F : Fld Z h312 a "com/example/weaverbird/weaverbird/model/xml/Utf8Decoder" "partial" "I" (.int pa) := f300_F.other W312 (Or.inr (slot_ne (Or.inl (hw _ (List.mem_of_getElem? (i := 25) rfl))) (Or.inl (hw _ (List.mem_of_getElem? (i := 19) rfl))) (by decide) (t := .int) (t' := .boolean) (by decide) (by decide)))
          have f317_F : Fld Z h312 a "com/example/weaverbird/weaverbird/model/xml/Utf8Decoder" "low" "I" (.int lo) := f301_F.other W312 (Or.inr (slot_ne (Or.inl (hw _ (List.mem_of_getElem? (i := 27) rfl))) (Or.inl (hw _ (List.mem_of_getElem? (i := 19) rfl))) (by decide) (t := .int) (t' := .boolean) (by decide) (by decide)))
          have f318_F : Fld Z h312 a "com/example/weaverbird/weaverbird/model/xml/Utf8Decoder" "high" "I" (.int hi) := f302_F.other W312 (Or.inr (slot_ne (Or.inl (hw _ (List.mem_of_getElem? (i := 29) rfl))) (Or.inl (hw _ (List.mem_of_getElem? (i := 19) rfl))) (by decide) (t := .int) (t' := .boolean) (by decide) (by decide)))
          have f319_F : Fld Z h312 a "com/example/weaverbird/weaverbird/model/xml/Utf8Decoder" "length" "I" (.int (3 : Int32)) := f304_F.other W312 (Or.inr (slot_ne (Or.inl (hw _ (List.mem_of_getElem? (i := 21) rfl))) (Or.inl (hw _ (List.mem_of_getElem? (i := 19) rfl))) (by decide) (t := .int) (t' := .boolean) (by decide) (by decide)))
          have f320_F : Fld Z h312 a "com/example/weaverbird/weaverbird/model/xml/Utf8Decoder" "taken" "I" (.int (1 : Int32)) := f307_F.other W312 (Or.inr (slot_ne (Or.inl (hw _ (List.mem_of_getElem? (i := 23) rfl))) (Or.inl (hw _ (List.mem_of_getElem? (i := 19) rfl))) (by decide) (t := .int) (t' := .boolean) (by decide) (by decide)))
          have Z321 : n0 ≤ h312.size := Nat.le_trans Z305 (Keep.of_wr W312).1
          have K322 : Keep h0 h312 [a] := K306.wr W312 (Or.inl (List.mem_of_getElem? (i := 0) rfl))
          have f323_F : Fld Z h312 a "com/example/weaverbird/weaverbird/model/xml/Utf8Decoder" "reading" "Z" (.int (1 : Int32)) := f303_F.same W312
          have pre324 : ∀ t, own_s p e below T312 m 202 #[rv a, iv p1, .unset] [(.ref a), (.int (63 : Int32)), (.int p1), (.ref a)] t → Steps p.tables e below S0 t := by
            intro tX kX
            refine pre313 _ ?_
            show own_s p e below T312 m 197 #[rv a, iv p1, .unset] [] _
            refine XS.aloadN X314.here hx rfl (hb hby d2_197) rfl rfl ?_
            show own_s p e below T312 m 198 #[rv a, iv p1, .unset] [(.ref a)] _
            refine XS.iloadN X314.here hx rfl (hb hby d2_198) rfl ?_
            show own_s p e below T312 m 199 #[rv a, iv p1, .unset] [(.int p1), (.ref a)] _
            refine XS.bipush X314.here hx rfl (hb hby d2_199) ?_
            show own_s p e below T312 m 201 #[rv a, iv p1, .unset] [(.int (63 : Int32)), (.int p1), (.ref a)] _
            refine XS.aloadN X314.here hx rfl (hb hby d2_201) rfl rfl ?_
            exact kX
          obtain ⟨T325, X325, e325, st325⟩ := getF X314 hx hZ hown (host := "") (Or.inl (hw _ (List.mem_of_getElem? (i := 20) rfl))) Via.refl e312 f319_F (g := (mkF m 202 #[rv a, iv p1, .unset] [(.ref a), (.int (63 : Int32)), (.int p1), (.ref a)])) rfl rfl (hb hby d2_202)
          have pre326 : ∀ t, own_s p e below T325 m 205 #[rv a, iv p1, .unset] [(.int (3 : Int32)), (.int (63 : Int32)), (.int p1), (.ref a)] t → Steps p.tables e below S0 t := fun tX kX => pre324 _ (st325 _ kX)
          have pre327 : ∀ t, own_s p e below T325 m 209 #[rv a, iv p1, .unset] [(.int (p1 &&& ((63 : Int32) >>> (((3 : Int32) - (1 : Int32)) &&& 31)))), (.ref a)] t → Steps p.tables e below S0 t := by
            intro tX kX
            refine pre326 _ ?_
            show own_s p e below T325 m 205 #[rv a, iv p1, .unset] [(.int (3 : Int32)), (.int (63 : Int32)), (.int p1), (.ref a)] _
            refine XS.iconst X325.here hx rfl (hb hby d2_205) ?_
            show own_s p e below T325 m 206 #[rv a, iv p1, .unset] [(.int (1 : Int32)), (.int (3 : Int32)), (.int (63 : Int32)), (.int p1), (.ref a)] _
            refine XS.isub X325.here hx rfl (hb hby d2_206) rfl ?_
            show own_s p e below T325 m 207 #[rv a, iv p1, .unset] [(.int ((3 : Int32) - (1 : Int32))), (.int (63 : Int32)), (.int p1), (.ref a)] _
            refine XS.ishr X325.here hx rfl (hb hby d2_207) rfl ?_
            show own_s p e below T325 m 208 #[rv a, iv p1, .unset] [(.int ((63 : Int32) >>> (((3 : Int32) - (1 : Int32)) &&& 31))), (.int p1), (.ref a)] _
            refine XS.iand X325.here hx rfl (hb hby d2_208) rfl ?_
            exact kX
          obtain ⟨T328, h328, X328, e328, W328, st328⟩ := putF X325 hx hZ hown (host := "") (Or.inl (hw _ (List.mem_of_getElem? (i := 24) rfl))) Via.refl e325 f316_F f315_E (Or.inl (hw _ (List.mem_of_getElem? (i := 25) rfl))) (hw _ (List.mem_of_getElem? (i := 5) rfl)) (ty := .int) (by decide) rfl rfl (g := (mkF m 209 #[rv a, iv p1, .unset] [(.int (p1 &&& ((63 : Int32) >>> (((3 : Int32) - (1 : Int32)) &&& 31)))), (.ref a)])) rfl rfl (hb hby d2_209)
          have pre329 : ∀ t, own_s p e below T328 m 212 #[rv a, iv p1, .unset] [] t → Steps p.tables e below S0 t := fun tX kX => pre327 _ (st328 _ kX)
          obtain ⟨LL330, X330, N330⟩ : ∃ LL, Stand p l e ({ frames := 0, cells := 0, slots := 0, locals := 0 } : Room) s m #[(.ref a), (.int p1)] below meth c T328 LL 0 0 ∧ Fr n0 LL := ⟨_, X328, Fr.snoc X328 N314 g_a⟩
          have f331_E : Exa Z h328 a "com/example/weaverbird/weaverbird/model/xml/Utf8Decoder" := f315_E.wr W328
          have f332_F : Fld Z h328 a "com/example/weaverbird/weaverbird/model/xml/Utf8Decoder" "low" "I" (.int lo) := f317_F.other W328 (Or.inr (slot_ne (Or.inl (hw _ (List.mem_of_getElem? (i := 27) rfl))) (Or.inl (hw _ (List.mem_of_getElem? (i := 25) rfl))) (by decide) (t := .int) (t' := .int) (by decide) (by decide)))
          have f333_F : Fld Z h328 a "com/example/weaverbird/weaverbird/model/xml/Utf8Decoder" "high" "I" (.int hi) := f318_F.other W328 (Or.inr (slot_ne (Or.inl (hw _ (List.mem_of_getElem? (i := 29) rfl))) (Or.inl (hw _ (List.mem_of_getElem? (i := 25) rfl))) (by decide) (t := .int) (t' := .int) (by decide) (by decide)))
          have f334_F : Fld Z h328 a "com/example/weaverbird/weaverbird/model/xml/Utf8Decoder" "length" "I" (.int (3 : Int32)) := f319_F.other W328 (Or.inr (slot_ne (Or.inl (hw _ (List.mem_of_getElem? (i := 21) rfl))) (Or.inl (hw _ (List.mem_of_getElem? (i := 25) rfl))) (by decide) (t := .int) (t' := .int) (by decide) (by decide)))
          have f335_F : Fld Z h328 a "com/example/weaverbird/weaverbird/model/xml/Utf8Decoder" "taken" "I" (.int (1 : Int32)) := f320_F.other W328 (Or.inr (slot_ne (Or.inl (hw _ (List.mem_of_getElem? (i := 23) rfl))) (Or.inl (hw _ (List.mem_of_getElem? (i := 25) rfl))) (by decide) (t := .int) (t' := .int) (by decide) (by decide)))
          have f336_F : Fld Z h328 a "com/example/weaverbird/weaverbird/model/xml/Utf8Decoder" "reading" "Z" (.int (1 : Int32)) := f323_F.other W328 (Or.inr (slot_ne (Or.inl (hw _ (List.mem_of_getElem? (i := 19) rfl))) (Or.inl (hw _ (List.mem_of_getElem? (i := 25) rfl))) (by decide) (t := .boolean) (t' := .int) (by decide) (by decide)))
          have Z337 : n0 ≤ h328.size := Nat.le_trans Z321 (Keep.of_wr W328).1
          have K338 : Keep h0 h328 [a] := K322.wr W328 (Or.inl (List.mem_of_getElem? (i := 0) rfl))
          have f339_F : Fld Z h328 a "com/example/weaverbird/weaverbird/model/xml/Utf8Decoder" "partial" "I" (.int (p1 &&& ((63 : Int32) >>> (((3 : Int32) - (1 : Int32)) &&& 31)))) := f316_F.same W328
          have pre340 : ∀ t, own_s p e below T328 m 217 #[rv a, iv p1, .unset] [(.int (224 : Int32)), (.int p1), (.ref a)] t → Steps p.tables e below S0 t := by
            intro tX kX
            refine pre329 _ ?_
            show own_s p e below T328 m 212 #[rv a, iv p1, .unset] [] _
            refine XS.aloadN X330.here hx rfl (hb hby d2_212) rfl rfl ?_
            show own_s p e below T328 m 213 #[rv a, iv p1, .unset] [(.ref a)] _
            refine XS.iloadN X330.here hx rfl (hb hby d2_213) rfl ?_
            show own_s p e below T328 m 214 #[rv a, iv p1, .unset] [(.int p1), (.ref a)] _
            refine XS.sipush X330.here hx rfl (hb hby d2_214) ?_
            exact kX
          by_cases hc341 : p1 = (224 : Int32)
          · skip
            have ihc341 : (p1).toInt = (224 : Int) := congrArg Int32.toInt hc341
            have pre342 : ∀ t, own_s p e below T328 m 242 #[rv a, iv p1, .unset] [(.int (160 : Int32)), (.ref a)] t → Steps p.tables e below S0 t := by
              intro tX kX
              refine pre340 _ ?_
              show own_s p e below T328 m 217 #[rv a, iv p1, .unset] [(.int (224 : Int32)), (.int p1), (.ref a)] _
              refine XS.icmpNo X330.here hx rfl (hb hby d2_217) rfl (teq hc341).2 ?_
              show own_s p e below T328 m 220 #[rv a, iv p1, .unset] [(.ref a)] _
              refine XS.sipush X330.here hx rfl (hb hby d2_220) ?_
              show own_s p e below T328 m 223 #[rv a, iv p1, .unset] [(.int (160 : Int32)), (.ref a)] _
              refine XS.goto X330.here hx rfl (pc0 := 223) (pc' := 242) rfl (hb hby d2_223) (by decide) (by decide) ?_
              exact kX
            obtain ⟨T343, h343, X343, e343, W343, st343⟩ := putF X330 hx hZ hown (host := "") (Or.inl (hw _ (List.mem_of_getElem? (i := 26) rfl))) Via.refl e328 f332_F f331_E (Or.inl (hw _ (List.mem_of_getElem? (i := 27) rfl))) (hw _ (List.mem_of_getElem? (i := 5) rfl)) (ty := .int) (by decide) rfl rfl (g := (mkF m 242 #[rv a, iv p1, .unset] [(.int (160 : Int32)), (.ref a)])) rfl rfl (hb hby d2_242)
            have pre344 : ∀ t, own_s p e below T343 m 245 #[rv a, iv p1, .unset] [] t → Steps p.tables e below S0 t := fun tX kX => pre342 _ (st343 _ kX)
            obtain ⟨LL345, X345, N345⟩ : ∃ LL, Stand p l e ({ frames := 0, cells := 0, slots := 0, locals := 0 } : Room) s m #[(.ref a), (.int p1)] below meth c T343 LL 0 0 ∧ Fr n0 LL := ⟨_, X343, Fr.snoc X343 N330 g_a⟩
            have f346_E : Exa Z h343 a "com/example/weaverbird/weaverbird/model/xml/Utf8Decoder" := f331_E.wr W343
            have f347_F : Fld Z h343 a "com/example/weaverbird/weaverbird/model/xml/Utf8Decoder" "high" "I" (.int hi) := f333_F.other W343 (Or.inr (slot_ne (Or.inl (hw _ (List.mem_of_getElem? (i := 29) rfl))) (Or.inl (hw _ (List.mem_of_getElem? (i := 27) rfl))) (by decide) (t := .int) (t' := .int) (by decide) (by decide)))
            have f348_F : Fld Z h343 a "com/example/weaverbird/weaverbird/model/xml/Utf8Decoder" "length" "I" (.int (3 : Int32)) := f334_F.other W343 (Or.inr (slot_ne (Or.inl (hw _ (List.mem_of_getElem? (i := 21) rfl))) (Or.inl (hw _ (List.mem_of_getElem? (i := 27) rfl))) (by decide) (t := .int) (t' := .int) (by decide) (by decide)))
            have f349_F : Fld Z h343 a "com/example/weaverbird/weaverbird/model/xml/Utf8Decoder" "taken" "I" (.int (1 : Int32)) := f335_F.other W343 (Or.inr (slot_ne (Or.inl (hw _ (List.mem_of_getElem? (i := 23) rfl))) (Or.inl (hw _ (List.mem_of_getElem? (i := 27) rfl))) (by decide) (t := .int) (t' := .int) (by decide) (by decide)))
            have f350_F : Fld Z h343 a "com/example/weaverbird/weaverbird/model/xml/Utf8Decoder" "reading" "Z" (.int (1 : Int32)) := f336_F.other W343 (Or.inr (slot_ne (Or.inl (hw _ (List.mem_of_getElem? (i := 19) rfl))) (Or.inl (hw _ (List.mem_of_getElem? (i := 27) rfl))) (by decide) (t := .boolean) (t' := .int) (by decide) (by decide)))
            have f351_F : Fld Z h343 a "com/example/weaverbird/weaverbird/model/xml/Utf8Decoder" "partial" "I" (.int (p1 &&& ((63 : Int32) >>> (((3 : Int32) - (1 : Int32)) &&& 31)))) := f339_F.other W343 (Or.inr (slot_ne (Or.inl (hw _ (List.mem_of_getElem? (i := 25) rfl))) (Or.inl (hw _ (List.mem_of_getElem? (i := 27) rfl))) (by decide) (t := .int) (t' := .int) (by decide) (by decide)))
            have Z352 : n0 ≤ h343.size := Nat.le_trans Z337 (Keep.of_wr W343).1
            have K353 : Keep h0 h343 [a] := K338.wr W343 (Or.inl (List.mem_of_getElem? (i := 0) rfl))
            have f354_F : Fld Z h343 a "com/example/weaverbird/weaverbird/model/xml/Utf8Decoder" "low" "I" (.int (160 : Int32)) := f332_F.same W343
            have pre355 : ∀ t, own_s p e below T343 m 275 #[rv a, iv p1, .unset] [(.int (191 : Int32)), (.ref a)] t → Steps p.tables e below S0 t := by
              intro tX kX
              refine pre344 _ ?_
              show own_s p e below T343 m 245 #[rv a, iv p1, .unset] [] _
              refine XS.aloadN X345.here hx rfl (hb hby d2_245) rfl rfl ?_
              show own_s p e below T343 m 246 #[rv a, iv p1, .unset] [(.ref a)] _
              refine XS.iloadN X345.here hx rfl (hb hby d2_246) rfl ?_
              show own_s p e below T343 m 247 #[rv a, iv p1, .unset] [(.int p1), (.ref a)] _
              refine XS.sipush X345.here hx rfl (hb hby d2_247) ?_
              show own_s p e below T343 m 250 #[rv a, iv p1, .unset] [(.int (237 : Int32)), (.int p1), (.ref a)] _
              refine XS.icmpYes X345.here hx rfl (pc0 := 250) (pc' := 259) rfl (hb hby d2_250) rfl (feq (show ¬ (p1 = (237 : Int32)) from (fun q => absurd (show (p1).toInt = (237 : Int) from congrArg Int32.toInt q) (by omega)))).2 (by decide) (by decide) ?_
              show own_s p e below T343 m 259 #[rv a, iv p1, .unset] [(.ref a)] _
              refine XS.iloadN X345.here hx rfl (hb hby d2_259) rfl ?_
              show own_s p e below T343 m 260 #[rv a, iv p1, .unset] [(.int p1), (.ref a)] _
              refine XS.sipush X345.here hx rfl (hb hby d2_260) ?_
              show own_s p e below T343 m 263 #[rv a, iv p1, .unset] [(.int (244 : Int32)), (.int p1), (.ref a)] _
              refine XS.icmpYes X345.here hx rfl (pc0 := 263) (pc' := 272) rfl (hb hby d2_263) rfl (feq (show ¬ (p1 = (244 : Int32)) from (fun q => absurd (show (p1).toInt = (244 : Int) from congrArg Int32.toInt q) (by omega)))).2 (by decide) (by decide) ?_
              show own_s p e below T343 m 272 #[rv a, iv p1, .unset] [(.ref a)] _
              refine XS.sipush X345.here hx rfl (hb hby d2_272) ?_
              exact kX
            obtain ⟨T356, h356, X356, e356, W356, st356⟩ := putF X345 hx hZ hown (host := "") (Or.inl (hw _ (List.mem_of_getElem? (i := 28) rfl))) Via.refl e343 f347_F f346_E (Or.inl (hw _ (List.mem_of_getElem? (i := 29) rfl))) (hw _ (List.mem_of_getElem? (i := 5) rfl)) (ty := .int) (by decide) rfl rfl (g := (mkF m 275 #[rv a, iv p1, .unset] [(.int (191 : Int32)), (.ref a)])) rfl rfl (hb hby d2_275)
            have pre357 : ∀ t, own_s p e below T356 m 278 #[rv a, iv p1, .unset] [] t → Steps p.tables e below S0 t := fun tX kX => pre355 _ (st356 _ kX)
            obtain ⟨LL358, X358, N358⟩ : ∃ LL, Stand p l e ({ frames := 0, cells := 0, slots := 0, locals := 0 } : Room) s m #[(.ref a), (.int p1)] below meth c T356 LL 0 0 ∧ Fr n0 LL := ⟨_, X356, Fr.snoc X356 N345 g_a⟩
            have f359_E : Exa Z h356 a "com/example/weaverbird/weaverbird/model/xml/Utf8Decoder" := f346_E.wr W356
            have f360_F : Fld Z h356 a "com/example/weaverbird/weaverbird/model/xml/Utf8Decoder" "length" "I" (.int (3 : Int32)) := f348_F.other W356 (Or.inr (slot_ne (Or.inl (hw _ (List.mem_of_getElem? (i := 21) rfl))) (Or.inl (hw _ (List.mem_of_getElem? (i := 29) rfl))) (by decide) (t := .int) (t' := .int) (by decide) (by decide)))
            have f361_F : Fld Z h356 a "com/example/weaverbird/weaverbird/model/xml/Utf8Decoder" "taken" "I" (.int (1 : Int32)) := f349_F.other W356 (Or.inr (slot_ne (Or.inl (hw _ (List.mem_of_getElem? (i := 23) rfl))) (Or.inl (hw _ (List.mem_of_getElem? (i := 29) rfl))) (by decide) (t := .int) (t' := .int) (by decide) (by decide)))
            have f362_F : Fld Z h356 a "com/example/weaverbird/weaverbird/model/xml/Utf8Decoder" "reading" "Z" (.int (1 : Int32)) := f350_F.other W356 (Or.inr (slot_ne (Or.inl (hw _ (List.mem_of_getElem? (i := 19) rfl))) (Or.inl (hw _ (List.mem_of_getElem? (i := 29) rfl))) (by decide) (t := .boolean) (t' := .int) (by decide) (by decide)))
            have f363_F : Fld Z h356 a "com/example/weaverbird/weaverbird/model/xml/Utf8Decoder" "partial" "I" (.int (p1 &&& ((63 : Int32) >>> (((3 : Int32) - (1 : Int32)) &&& 31)))) := f351_F.other W356 (Or.inr (slot_ne (Or.inl (hw _ (List.mem_of_getElem? (i := 25) rfl))) (Or.inl (hw _ (List.mem_of_getElem? (i := 29) rfl))) (by decide) (t := .int) (t' := .int) (by decide) (by decide)))
            have f364_F : Fld Z h356 a "com/example/weaverbird/weaverbird/model/xml/Utf8Decoder" "low" "I" (.int (160 : Int32)) := f354_F.other W356 (Or.inr (slot_ne (Or.inl (hw _ (List.mem_of_getElem? (i := 27) rfl))) (Or.inl (hw _ (List.mem_of_getElem? (i := 29) rfl))) (by decide) (t := .int) (t' := .int) (by decide) (by decide)))
            have Z365 : n0 ≤ h356.size := Nat.le_trans Z352 (Keep.of_wr W356).1
            have K366 : Keep h0 h356 [a] := K353.wr W356 (Or.inl (List.mem_of_getElem? (i := 0) rfl))
            have f367_F : Fld Z h356 a "com/example/weaverbird/weaverbird/model/xml/Utf8Decoder" "high" "I" (.int (191 : Int32)) := f347_F.same W356
            have pre368 : ∀ t, own_s p e below T356 m 290 #[rv a, iv p1, .unset] [(.ref a)] t → Steps p.tables e below S0 t := by
              intro tX kX
              refine pre357 _ ?_
              show own_s p e below T356 m 278 #[rv a, iv p1, .unset] [] _
              refine XS.iloadN X358.here hx rfl (hb hby d2_278) rfl ?_
              show own_s p e below T356 m 279 #[rv a, iv p1, .unset] [(.int p1)] _
              refine XS.sipush X358.here hx rfl (hb hby d2_279) ?_
              show own_s p e below T356 m 282 #[rv a, iv p1, .unset] [(.int (128 : Int32)), (.int p1)] _
              refine XS.icmpYes X358.here hx rfl (pc0 := 282) (pc' := 289) rfl (hb hby d2_282) rfl (flt (show ¬ (p1 < (128 : Int32)) from (fun q => absurd (show (p1).toInt < (128 : Int) from Int32.lt_iff_toInt_lt.mp q) (by omega)))).2.1 (by decide) (by decide) ?_
              show own_s p e below T356 m 289 #[rv a, iv p1, .unset] [] _
              refine XS.aloadN X358.here hx rfl (hb hby d2_289) rfl rfl ?_
              exact kX
            obtain ⟨T369, X369, e369, st369⟩ := getF X358 hx hZ hown (host := "") (Or.inl (hw _ (List.mem_of_getElem? (i := 18) rfl))) Via.refl e356 f362_F (g := (mkF m 290 #[rv a, iv p1, .unset] [(.ref a)])) rfl rfl (hb hby d2_290)
            have pre370 : ∀ t, own_s p e below T369 m 293 #[rv a, iv p1, .unset] [(.int (1 : Int32))] t → Steps p.tables e below S0 t := fun tX kX => pre368 _ (st369 _ kX)
            have pre371 : ∀ t, own_s p e below T369 m 304 #[rv a, iv p1, iv (-1 : Int32)] [(.int (-1 : Int32))] t → Steps p.tables e below S0 t := by
              intro tX kX
              refine pre370 _ ?_
              show own_s p e below T369 m 293 #[rv a, iv p1, .unset] [(.int (1 : Int32))] _
              refine XS.ifNo X369.here hx rfl (hb hby d2_293) rfl ((if0 _ _).trans (feq (by decide : ¬ ((1 : Int32) = (0 : Int32)))).1) ?_
              show own_s p e below T369 m 296 #[rv a, iv p1, .unset] [] _
              refine XS.iconst X369.here hx rfl (hb hby d2_296) ?_
              show own_s p e below T369 m 297 #[rv a, iv p1, .unset] [(.int (-1 : Int32))] _
              refine XS.goto X369.here hx rfl (pc0 := 297) (pc' := 302) rfl (hb hby d2_297) (by decide) (by decide) ?_
              show own_s p e below T369 m 302 #[rv a, iv p1, .unset] [(.int (-1 : Int32))] _
              refine XS.istoreN X369.here hx rfl (hb hby d2_302) rfl (l' := #[rv a, iv p1, iv (-1 : Int32)]) rfl ?_
              show own_s p e below T369 m 303 #[rv a, iv p1, iv (-1 : Int32)] [] _
              refine XS.iloadN X369.here hx rfl (hb hby d2_303) rfl ?_
              exact kX
            subst hS0
            obtain ⟨fs, hr, hrun, hended, hW, hsame⟩ := X369.leave (v := (some (.int (-1 : Int32)))) (fun h => by rw [Bd.returns] at h; cases h)
            refine ⟨_, _, pre371 _ (retI X369 hx Bd.returns (hb hby d2_304) hr), hrun, hended, _, _, rfl, ?_, ⟨_, rfl⟩, hW, hsame.mono (by decide) (by decide)⟩
            show Q2 Z a p1 pa le ta lo hi re h0 n0 (some (.int (-1 : Int32))) T369.heap _
            rw [e369]
            refine ⟨(-1 : Int32), (p1 &&& ((63 : Int32) >>> (((3 : Int32) - (1 : Int32)) &&& 31))), (3 : Int32), (1 : Int32), (160 : Int32), (191 : Int32), (1 : Int32), rfl, N358, K366, f359_E, f363_F, f360_F, f361_F, f364_F, f367_F, f362_F, ?_⟩
            have mk := c_mask p1 ((63 : Int32) >>> (((3 : Int32) - (1 : Int32)) &&& 31)) 4 (by decide) (by decide)
            show own_T0 p1.toInt (-1 : Int) ((p1 &&& ((63 : Int32) >>> (((3 : Int32) - (1 : Int32)) &&& 31)))).toInt (3 : Int) (1 : Int) (160 : Int) (191 : Int) (1 : Int)
            unfold own_T0
            omega
          · skip
            have ihc341 : ¬ ((p1).toInt = (224 : Int)) := fun q => hc341 (Int32.toInt_inj.mp q)
            have pre372 : ∀ t, own_s p e below T328 m 242 #[rv a, iv p1, .unset] [(.int (128 : Int32)), (.ref a)] t → Steps p.tables e below S0 t := by
              intro tX kX
              refine pre340 _ ?_
              show own_s p e below T328 m 217 #[rv a, iv p1, .unset] [(.int (224 : Int32)), (.int p1), (.ref a)] _
              refine XS.icmpYes X330.here hx rfl (pc0 := 217) (pc' := 226) rfl (hb hby d2_217) rfl (feq hc341).2 (by decide) (by decide) ?_
              show own_s p e below T328 m 226 #[rv a, iv p1, .unset] [(.ref a)] _
              refine XS.iloadN X330.here hx rfl (hb hby d2_226) rfl ?_
              show own_s p e below T328 m 227 #[rv a, iv p1, .unset] [(.int p1), (.ref a)] _
              refine XS.sipush X330.here hx rfl (hb hby d2_227) ?_
              show own_s p e below T328 m 230 #[rv a, iv p1, .unset] [(.int (240 : Int32)), (.int p1), (.ref a)] _
              refine XS.icmpYes X330.here hx rfl (pc0 := 230) (pc' := 239) rfl (hb hby d2_230) rfl (feq (show ¬ (p1 = (240 : Int32)) from (fun q => absurd (show (p1).toInt = (240 : Int) from congrArg Int32.toInt q) (by omega)))).2 (by decide) (by decide) ?_
              show own_s p e below T328 m 239 #[rv a, iv p1, .unset] [(.ref a)] _
              refine XS.sipush X330.here hx rfl (hb hby d2_239) ?_
              exact kX
            obtain ⟨T373, h373, X373, e373, W373, st373⟩ := putF X330 hx hZ hown (host := "") (Or.inl (hw _ (List.mem_of_getElem? (i := 26) rfl))) Via.refl e328 f332_F f331_E (Or.inl (hw _ (List.mem_of_getElem? (i := 27) rfl))) (hw _ (List.mem_of_getElem? (i := 5) rfl)) (ty := .int) (by decide) rfl rfl (g := (mkF m 242 #[rv a, iv p1, .unset] [(.int (128 : Int32)), (.ref a)])) rfl rfl (hb hby d2_242)
            have pre374 : ∀ t, own_s p e below T373 m 245 #[rv a, iv p1, .unset] [] t → Steps p.tables e below S0 t := fun tX kX => pre372 _ (st373 _ kX)
            obtain ⟨LL375, X375, N375⟩ : ∃ LL, Stand p l e ({ frames := 0, cells := 0, slots := 0, locals := 0 } : Room) s m #[(.ref a), (.int p1)] below meth c T373 LL 0 0 ∧ Fr n0 LL := ⟨_, X373, Fr.snoc X373 N330 g_a⟩
            have f376_E : Exa Z h373 a "com/example/weaverbird/weaverbird/model/xml/Utf8Decoder" := f331_E.wr W373
            have f377_F : Fld Z h373 a "com/example/weaverbird/weaverbird/model/xml/Utf8Decoder" "high" "I" (.int hi) := f333_F.other W373 (Or.inr (slot_ne (Or.inl (hw _ (List.mem_of_getElem? (i := 29) rfl))) (Or.inl (hw _ (List.mem_of_getElem? (i := 27) rfl))) (by decide) (t := .int) (t' := .int) (by decide) (by decide)))
            have f378_F : Fld Z h373 a "com/example/weaverbird/weaverbird/model/xml/Utf8Decoder" "length" "I" (.int (3 : Int32)) := f334_F.other W373 (Or.inr (slot_ne (Or.inl (hw _ (List.mem_of_getElem? (i := 21) rfl))) (Or.inl (hw _ (List.mem_of_getElem? (i := 27) rfl))) (by decide) (t := .int) (t' := .int) (by decide) (by decide)))
            have f379_F : Fld Z h373 a "com/example/weaverbird/weaverbird/model/xml/Utf8Decoder" "taken" "I" (.int (1 : Int32)) := f335_F.other W373 (Or.inr (slot_ne (Or.inl (hw _ (List.mem_of_getElem? (i := 23) rfl))) (Or.inl (hw _ (List.mem_of_getElem? (i := 27) rfl))) (by decide) (t := .int) (t' := .int) (by decide) (by decide)))
            have f380_F : Fld Z h373 a "com/example/weaverbird/weaverbird/model/xml/Utf8Decoder" "reading" "Z" (.int (1 : Int32)) := f336_F.other W373 (Or.inr (slot_ne (Or.inl (hw _ (List.mem_of_getElem? (i := 19) rfl))) (Or.inl (hw _ (List.mem_of_getElem? (i := 27) rfl))) (by decide) (t := .boolean) (t' := .int) (by decide) (by decide)))
            have f381_F : Fld Z h373 a "com/example/weaverbird/weaverbird/model/xml/Utf8Decoder" "partial" "I" (.int (p1 &&& ((63 : Int32) >>> (((3 : Int32) - (1 : Int32)) &&& 31)))) := f339_F.other W373 (Or.inr (slot_ne (Or.inl (hw _ (List.mem_of_getElem? (i := 25) rfl))) (Or.inl (hw _ (List.mem_of_getElem? (i := 27) rfl))) (by decide) (t := .int) (t' := .int) (by decide) (by decide)))
            have Z382 : n0 ≤ h373.size := Nat.le_trans Z337 (Keep.of_wr W373).1
            have K383 : Keep h0 h373 [a] := K338.wr W373 (Or.inl (List.mem_of_getElem? (i := 0) rfl))
            have f384_F : Fld Z h373 a "com/example/weaverbird/weaverbird/model/xml/Utf8Decoder" "low" "I" (.int (128 : Int32)) := f332_F.same W373
            have pre385 : ∀ t, own_s p e below T373 m 250 #[rv a, iv p1, .unset] [(.int (237 : Int32)), (.int p1), (.ref a)] t → Steps p.tables e below S0 t := by
              intro tX kX
              refine pre374 _ ?_
              show own_s p e below T373 m 245 #[rv a, iv p1, .unset] [] _
              refine XS.aloadN X375.here hx rfl (hb hby d2_245) rfl rfl ?_
              show own_s p e below T373 m 246 #[rv a, iv p1, .unset] [(.ref a)] _
              refine XS.iloadN X375.here hx rfl (hb hby d2_246) rfl ?_
              show own_s p e below T373 m 247 #[rv a, iv p1, .unset] [(.int p1), (.ref a)] _
              refine XS.sipush X375.here hx rfl (hb hby d2_247) ?_
              exact kX
            by_cases hc386 : p1 = (237 : Int32)
            · skip
              have ihc386 : (p1).toInt = (237 : Int) := congrArg Int32.toInt hc386
              have pre387 : ∀ t, own_s p e below T373 m 275 #[rv a, iv p1, .unset] [(.int (159 : Int32)), (.ref a)] t → Steps p.tables e below S0 t := by
                intro tX kX
                refine pre385 _ ?_
                show own_s p e below T373 m 250 #[rv a, iv p1, .unset] [(.int (237 : Int32)), (.int p1), (.ref a)] _
                refine XS.icmpNo X375.here hx rfl (hb hby d2_250) rfl (teq hc386).2 ?_
                show own_s p e below T373 m 253 #[rv a, iv p1, .unset] [(.ref a)] _
                refine XS.sipush X375.here hx rfl (hb hby d2_253) ?_
                show own_s p e below T373 m 256 #[rv a, iv p1, .unset] [(.int (159 : Int32)), (.ref a)] _
                refine XS.goto X375.here hx rfl (pc0 := 256) (pc' := 275) rfl (hb hby d2_256) (by decide) (by decide) ?_
                exact kX
              obtain ⟨T388, h388, X388, e388, W388, st388⟩ := putF X375 hx hZ hown (host := "") (Or.inl (hw _ (List.mem_of_getElem? (i := 28) rfl))) Via.refl e373 f377_F f376_E (Or.inl (hw _ (List.mem_of_getElem? (i := 29) rfl))) (hw _ (List.mem_of_getElem? (i := 5) rfl)) (ty := .int) (by decide) rfl rfl (g := (mkF m 275 #[rv a, iv p1, .unset] [(.int (159 : Int32)), (.ref a)])) rfl rfl (hb hby d2_275)
              have pre389 : ∀ t, own_s p e below T388 m 278 #[rv a, iv p1, .unset] [] t → Steps p.tables e below S0 t := fun tX kX => pre387 _ (st388 _ kX)
              obtain ⟨LL390, X390, N390⟩ : ∃ LL, Stand p l e ({ frames := 0, cells := 0, slots := 0, locals := 0 } : Room) s m #[(.ref a), (.int p1)] below meth c T388 LL 0 0 ∧ Fr n0 LL := ⟨_, X388, Fr.snoc X388 N375 g_a⟩
              have f391_E : Exa Z h388 a "com/example/weaverbird/weaverbird/model/xml/Utf8Decoder" := f376_E.wr W388
              have f392_F : Fld Z h388 a "com/example/weaverbird/weaverbird/model/xml/Utf8Decoder" "length" "I" (.int (3 : Int32)) := f378_F.other W388 (Or.inr (slot_ne (Or.inl (hw _ (List.mem_of_getElem? (i := 21) rfl))) (Or.inl (hw _ (List.mem_of_getElem? (i := 29) rfl))) (by decide) (t := .int) (t' := .int) (by decide) (by decide)))
              have f393_F : Fld Z h388 a "com/example/weaverbird/weaverbird/model/xml/Utf8Decoder" "taken" "I" (.int (1 : Int32)) := f379_F.other W388 (Or.inr (slot_ne (Or.inl (hw _ (List.mem_of_getElem? (i := 23) rfl))) (Or.inl (hw _ (List.mem_of_getElem? (i := 29) rfl))) (by decide) (t := .int) (t' := .int) (by decide) (by decide)))
              have f394_F : Fld Z h388 a "com/example/weaverbird/weaverbird/model/xml/Utf8Decoder" "reading" "Z" (.int (1 : Int32)) := f380_F.other W388 (Or.inr (slot_ne (Or.inl (hw _ (List.mem_of_getElem? (i := 19) rfl))) (Or.inl (hw _ (List.mem_of_getElem? (i := 29) rfl))) (by decide) (t := .boolean) (t' := .int) (by decide) (by decide)))
              have f395_F : Fld Z h388 a "com/example/weaverbird/weaverbird/model/xml/Utf8Decoder" "partial" "I" (.int (p1 &&& ((63 : Int32) >>> (((3 : Int32) - (1 : Int32)) &&& 31)))) := f381_F.other W388 (Or.inr (slot_ne (Or.inl (hw _ (List.mem_of_getElem? (i := 25) rfl))) (Or.inl (hw _ (List.mem_of_getElem? (i := 29) rfl))) (by decide) (t := .int) (t' := .int) (by decide) (by decide)))
              have f396_F : Fld Z h388 a "com/example/weaverbird/weaverbird/model/xml/Utf8Decoder" "low" "I" (.int (128 : Int32)) := f384_F.other W388 (Or.inr (slot_ne (Or.inl (hw _ (List.mem_of_getElem? (i := 27) rfl))) (Or.inl (hw _ (List.mem_of_getElem? (i := 29) rfl))) (by decide) (t := .int) (t' := .int) (by decide) (by decide)))
              have Z397 : n0 ≤ h388.size := Nat.le_trans Z382 (Keep.of_wr W388).1
              have K398 : Keep h0 h388 [a] := K383.wr W388 (Or.inl (List.mem_of_getElem? (i := 0) rfl))
              have f399_F : Fld Z h388 a "com/example/weaverbird/weaverbird/model/xml/Utf8Decoder" "high" "I" (.int (159 : Int32)) := f377_F.same W388
              have pre400 : ∀ t, own_s p e below T388 m 290 #[rv a, iv p1, .unset] [(.ref a)] t → Steps p.tables e below S0 t := by
                intro tX kX
                refine pre389 _ ?_
                show own_s p e below T388 m 278 #[rv a, iv p1, .unset] [] _
                refine XS.iloadN X390.here hx rfl (hb hby d2_278) rfl ?_
                show own_s p e below T388 m 279 #[rv a, iv p1, .unset] [(.int p1)] _
                refine XS.sipush X390.here hx rfl (hb hby d2_279) ?_
                show own_s p e below T388 m 282 #[rv a, iv p1, .unset] [(.int (128 : Int32)), (.int p1)] _
                refine XS.icmpYes X390.here hx rfl (pc0 := 282) (pc' := 289) rfl (hb hby d2_282) rfl (flt (show ¬ (p1 < (128 : Int32)) from (fun q => absurd (show (p1).toInt < (128 : Int) from Int32.lt_iff_toInt_lt.mp q) (by omega)))).2.1 (by decide) (by decide) ?_
                show own_s p e below T388 m 289 #[rv a, iv p1, .unset] [] _
                refine XS.aloadN X390.here hx rfl (hb hby d2_289) rfl rfl ?_
                exact kX
              obtain ⟨T401, X401, e401, st401⟩ := getF X390 hx hZ hown (host := "") (Or.inl (hw _ (List.mem_of_getElem? (i := 18) rfl))) Via.refl e388 f394_F (g := (mkF m 290 #[rv a, iv p1, .unset] [(.ref a)])) rfl rfl (hb hby d2_290)
              have pre402 : ∀ t, own_s p e below T401 m 293 #[rv a, iv p1, .unset] [(.int (1 : Int32))] t → Steps p.tables e below S0 t := fun tX kX => pre400 _ (st401 _ kX)
              have pre403 : ∀ t, own_s p e below T401 m 304 #[rv a, iv p1, iv (-1 : Int32)] [(.int (-1 : Int32))] t → Steps p.tables e below S0 t := by
                intro tX kX
                refine pre402 _ ?_
                show own_s p e below T401 m 293 #[rv a, iv p1, .unset] [(.int (1 : Int32))] _
                refine XS.ifNo X401.here hx rfl (hb hby d2_293) rfl ((if0 _ _).trans (feq (by decide : ¬ ((1 : Int32) = (0 : Int32)))).1) ?_
                show own_s p e below T401 m 296 #[rv a, iv p1, .unset] [] _
                refine XS.iconst X401.here hx rfl (hb hby d2_296) ?_
                show own_s p e below T401 m 297 #[rv a, iv p1, .unset] [(.int (-1 : Int32))] _
                refine XS.goto X401.here hx rfl (pc0 := 297) (pc' := 302) rfl (hb hby d2_297) (by decide) (by decide) ?_
                show own_s p e below T401 m 302 #[rv a, iv p1, .unset] [(.int (-1 : Int32))] _
                refine XS.istoreN X401.here hx rfl (hb hby d2_302) rfl (l' := #[rv a, iv p1, iv (-1 : Int32)]) rfl ?_
                show own_s p e below T401 m 303 #[rv a, iv p1, iv (-1 : Int32)] [] _
                refine XS.iloadN X401.here hx rfl (hb hby d2_303) rfl ?_
                exact kX
              subst hS0
              obtain ⟨fs, hr, hrun, hended, hW, hsame⟩ := X401.leave (v := (some (.int (-1 : Int32)))) (fun h => by rw [Bd.returns] at h; cases h)
              refine ⟨_, _, pre403 _ (retI X401 hx Bd.returns (hb hby d2_304) hr), hrun, hended, _, _, rfl, ?_, ⟨_, rfl⟩, hW, hsame.mono (by decide) (by decide)⟩
              show Q2 Z a p1 pa le ta lo hi re h0 n0 (some (.int (-1 : Int32))) T401.heap _
              rw [e401]
              refine ⟨(-1 : Int32), (p1 &&& ((63 : Int32) >>> (((3 : Int32) - (1 : Int32)) &&& 31))), (3 : Int32), (1 : Int32), (128 : Int32), (159 : Int32), (1 : Int32), rfl, N390, K398, f391_E, f395_F, f392_F, f393_F, f396_F, f399_F, f394_F, ?_⟩
              have mk := c_mask p1 ((63 : Int32) >>> (((3 : Int32) - (1 : Int32)) &&& 31)) 4 (by decide) (by decide)
              show own_T0 p1.toInt (-1 : Int) ((p1 &&& ((63 : Int32) >>> (((3 : Int32) - (1 : Int32)) &&& 31)))).toInt (3 : Int) (1 : Int) (128 : Int) (159 : Int) (1 : Int)
              unfold own_T0
              omega
            · skip
              have ihc386 : ¬ ((p1).toInt = (237 : Int)) := fun q => hc386 (Int32.toInt_inj.mp q)
              have pre404 : ∀ t, own_s p e below T373 m 275 #[rv a, iv p1, .unset] [(.int (191 : Int32)), (.ref a)] t → Steps p.tables e below S0 t := by
                intro tX kX
                refine pre385 _ ?_
                show own_s p e below T373 m 250 #[rv a, iv p1, .unset] [(.int (237 : Int32)), (.int p1), (.ref a)] _
                refine XS.icmpYes X375.here hx rfl (pc0 := 250) (pc' := 259) rfl (hb hby d2_250) rfl (feq hc386).2 (by decide) (by decide) ?_
                show own_s p e below T373 m 259 #[rv a, iv p1, .unset] [(.ref a)] _
                refine XS.iloadN X375.here hx rfl (hb hby d2_259) rfl ?_
                show own_s p e below T373 m 260 #[rv a, iv p1, .unset] [(.int p1), (.ref a)] _
                refine XS.sipush X375.here hx rfl (hb hby d2_260) ?_
                show own_s p e below T373 m 263 #[rv a, iv p1, .unset] [(.int (244 : Int32)), (.int p1), (.ref a)] _
                refine XS.icmpYes X375.here hx rfl (pc0 := 263) (pc' := 272) rfl (hb hby d2_263) rfl (feq (show ¬ (p1 = (244 : Int32)) from (fun q => absurd (show (p1).toInt = (244 : Int) from congrArg Int32.toInt q) (by omega)))).2 (by decide) (by decide) ?_
                show own_s p e below T373 m 272 #[rv a, iv p1, .unset] [(.ref a)] _
                refine XS.sipush X375.here hx rfl (hb hby d2_272) ?_
                exact kX
              obtain ⟨T405, h405, X405, e405, W405, st405⟩ := putF X375 hx hZ hown (host := "") (Or.inl (hw _ (List.mem_of_getElem? (i := 28) rfl))) Via.refl e373 f377_F f376_E (Or.inl (hw _ (List.mem_of_getElem? (i := 29) rfl))) (hw _ (List.mem_of_getElem? (i := 5) rfl)) (ty := .int) (by decide) rfl rfl (g := (mkF m 275 #[rv a, iv p1, .unset] [(.int (191 : Int32)), (.ref a)])) rfl rfl (hb hby d2_275)
              have pre406 : ∀ t, own_s p e below T405 m 278 #[rv a, iv p1, .unset] [] t → Steps p.tables e below S0 t := fun tX kX => pre404 _ (st405 _ kX)
              obtain ⟨LL407, X407, N407⟩ : ∃ LL, Stand p l e ({ frames := 0, cells := 0, slots := 0, locals := 0 } : Room) s m #[(.ref a), (.int p1)] below meth c T405 LL 0 0 ∧ Fr n0 LL := ⟨_, X405, Fr.snoc X405 N375 g_a⟩
              have f408_E : Exa Z h405 a "com/example/weaverbird/weaverbird/model/xml/Utf8Decoder" := f376_E.wr W405
              have f409_F : Fld Z h405 a "com/example/weaverbird/weaverbird/model/xml/Utf8Decoder" "length" "I" (.int (3 : Int32)) := f378_F.other W405 (Or.inr (slot_ne (Or.inl (hw _ (List.mem_of_getElem? (i := 21) rfl))) (Or.inl (hw _ (List.mem_of_getElem? (i := 29) rfl))) (by decide) (t := .int) (t' := .int) (by decide) (by decide)))
              have f410_F : Fld Z h405 a "com/example/weaverbird/weaverbird/model/xml/Utf8Decoder" "taken" "I" (.int (1 : Int32)) := f379_F.other W405 (Or.inr (slot_ne (Or.inl (hw _ (List.mem_of_getElem? (i := 23) rfl))) (Or.inl (hw _ (List.mem_of_getElem? (i := 29) rfl))) (by decide) (t := .int) (t' := .int) (by decide) (by decide)))
              have f411_F : Fld Z h405 a "com/example/weaverbird/weaverbird/model/xml/Utf8Decoder" "reading" "Z" (.int (1 : Int32)) := f380_F.other W405 (Or.inr (slot_ne (Or.inl (hw _ (List.mem_of_getElem? (i := 19) rfl))) (Or.inl (hw _ (List.mem_of_getElem? (i := 29) rfl))) (by decide) (t := .boolean) (t' := .int) (by decide) (by decide)))
              have f412_F : Fld Z h405 a "com/example/weaverbird/weaverbird/model/xml/Utf8Decoder" "partial" "I" (.int (p1 &&& ((63 : Int32) >>> (((3 : Int32) - (1 : Int32)) &&& 31)))) := f381_F.other W405 (Or.inr (slot_ne (Or.inl (hw _ (List.mem_of_getElem? (i := 25) rfl))) (Or.inl (hw _ (List.mem_of_getElem? (i := 29) rfl))) (by decide) (t := .int) (t' := .int) (by decide) (by decide)))
              have f413_F : Fld Z h405 a "com/example/weaverbird/weaverbird/model/xml/Utf8Decoder" "low" "I" (.int (128 : Int32)) := f384_F.other W405 (Or.inr (slot_ne (Or.inl (hw _ (List.mem_of_getElem? (i := 27) rfl))) (Or.inl (hw _ (List.mem_of_getElem? (i := 29) rfl))) (by decide) (t := .int) (t' := .int) (by decide) (by decide)))
              have Z414 : n0 ≤ h405.size := Nat.le_trans Z382 (Keep.of_wr W405).1
              have K415 : Keep h0 h405 [a] := K383.wr W405 (Or.inl (List.mem_of_getElem? (i := 0) rfl))
              have f416_F : Fld Z h405 a "com/example/weaverbird/weaverbird/model/xml/Utf8Decoder" "high" "I" (.int (191 : Int32)) := f377_F.same W405
              have pre417 : ∀ t, own_s p e below T405 m 290 #[rv a, iv p1, .unset] [(.ref a)] t → Steps p.tables e below S0 t := by
                intro tX kX
                refine pre406 _ ?_
                show own_s p e below T405 m 278 #[rv a, iv p1, .unset] [] _
                refine XS.iloadN X407.here hx rfl (hb hby d2_278) rfl ?_
                show own_s p e below T405 m 279 #[rv a, iv p1, .unset] [(.int p1)] _
                refine XS.sipush X407.here hx rfl (hb hby d2_279) ?_
                show own_s p e below T405 m 282 #[rv a, iv p1, .unset] [(.int (128 : Int32)), (.int p1)] _
                refine XS.icmpYes X407.here hx rfl (pc0 := 282) (pc' := 289) rfl (hb hby d2_282) rfl (flt (show ¬ (p1 < (128 : Int32)) from (fun q => absurd (show (p1).toInt < (128 : Int) from Int32.lt_iff_toInt_lt.mp q) (by omega)))).2.1 (by decide) (by decide) ?_
                show own_s p e below T405 m 289 #[rv a, iv p1, .unset] [] _
                refine XS.aloadN X407.here hx rfl (hb hby d2_289) rfl rfl ?_
                exact kX
              obtain ⟨T418, X418, e418, st418⟩ := getF X407 hx hZ hown (host := "") (Or.inl (hw _ (List.mem_of_getElem? (i := 18) rfl))) Via.refl e405 f411_F (g := (mkF m 290 #[rv a, iv p1, .unset] [(.ref a)])) rfl rfl (hb hby d2_290)
              have pre419 : ∀ t, own_s p e below T418 m 293 #[rv a, iv p1, .unset] [(.int (1 : Int32))] t → Steps p.tables e below S0 t := fun tX kX => pre417 _ (st418 _ kX)
              have pre420 : ∀ t, own_s p e below T418 m 304 #[rv a, iv p1, iv (-1 : Int32)] [(.int (-1 : Int32))] t → Steps p.tables e below S0 t := by
                intro tX kX
                refine pre419 _ ?_
                show own_s p e below T418 m 293 #[rv a, iv p1, .unset] [(.int (1 : Int32))] _
                refine XS.ifNo X418.here hx rfl (hb hby d2_293) rfl ((if0 _ _).trans (feq (by decide : ¬ ((1 : Int32) = (0 : Int32)))).1) ?_
                show own_s p e below T418 m 296 #[rv a, iv p1, .unset] [] _
                refine XS.iconst X418.here hx rfl (hb hby d2_296) ?_
                show own_s p e below T418 m 297 #[rv a, iv p1, .unset] [(.int (-1 : Int32))] _
                refine XS.goto X418.here hx rfl (pc0 := 297) (pc' := 302) rfl (hb hby d2_297) (by decide) (by decide) ?_
                show own_s p e below T418 m 302 #[rv a, iv p1, .unset] [(.int (-1 : Int32))] _
                refine XS.istoreN X418.here hx rfl (hb hby d2_302) rfl (l' := #[rv a, iv p1, iv (-1 : Int32)]) rfl ?_
                show own_s p e below T418 m 303 #[rv a, iv p1, iv (-1 : Int32)] [] _
                refine XS.iloadN X418.here hx rfl (hb hby d2_303) rfl ?_
                exact kX
              subst hS0
              obtain ⟨fs, hr, hrun, hended, hW, hsame⟩ := X418.leave (v := (some (.int (-1 : Int32)))) (fun h => by rw [Bd.returns] at h; cases h)
              refine ⟨_, _, pre420 _ (retI X418 hx Bd.returns (hb hby d2_304) hr), hrun, hended, _, _, rfl, ?_, ⟨_, rfl⟩, hW, hsame.mono (by decide) (by decide)⟩
              show Q2 Z a p1 pa le ta lo hi re h0 n0 (some (.int (-1 : Int32))) T418.heap _
              rw [e418]
              refine ⟨(-1 : Int32), (p1 &&& ((63 : Int32) >>> (((3 : Int32) - (1 : Int32)) &&& 31))), (3 : Int32), (1 : Int32), (128 : Int32), (191 : Int32), (1 : Int32), rfl, N407, K415, f408_E, f412_F, f409_F, f410_F, f413_F, f416_F, f411_F, ?_⟩
              have mk := c_mask p1 ((63 : Int32) >>> (((3 : Int32) - (1 : Int32)) &&& 31)) 4 (by decide) (by decide)
              show own_T0 p1.toInt (-1 : Int) ((p1 &&& ((63 : Int32) >>> (((3 : Int32) - (1 : Int32)) &&& 31)))).toInt (3 : Int) (1 : Int) (128 : Int) (191 : Int) (1 : Int)
              unfold own_T0
              omega
        · skip
          have ihc281 : ¬ ((p1).toInt < (240 : Int)) := fun q => hc281 (Int32.lt_iff_toInt_lt.mpr q)
          have pre421 : ∀ t, own_s p e below T5 m 172 #[rv a, iv p1, .unset] [(.int (4 : Int32)), (.ref a)] t → Steps p.tables e below S0 t := by
            intro tX kX
            refine pre280 _ ?_
            show own_s p e below T5 m 164 #[rv a, iv p1, .unset] [(.int (240 : Int32)), (.int p1), (.ref a)] _
            refine XS.icmpYes X5.here hx rfl (pc0 := 164) (pc' := 171) rfl (hb hby d2_164) rfl (flt hc281).2.1 (by decide) (by decide) ?_
            show own_s p e below T5 m 171 #[rv a, iv p1, .unset] [(.ref a)] _
            refine XS.iconst X5.here hx rfl (hb hby d2_171) ?_
            exact kX
          obtain ⟨T422, h422, X422, e422, W422, st422⟩ := putF X5 hx hZ hown (host := "") (Or.inl (hw _ (List.mem_of_getElem? (i := 20) rfl))) Via.refl e5 F_le E_a (Or.inl (hw _ (List.mem_of_getElem? (i := 21) rfl))) (hw _ (List.mem_of_getElem? (i := 5) rfl)) (ty := .int) (by decide) rfl rfl (g := (mkF m 172 #[rv a, iv p1, .unset] [(.int (4 : Int32)), (.ref a)])) rfl rfl (hb hby d2_172)
          have pre423 : ∀ t, own_s p e below T422 m 175 #[rv a, iv p1, .unset] [] t → Steps p.tables e below S0 t := fun tX kX => pre421 _ (st422 _ kX)
          obtain ⟨LL424, X424, N424⟩ : ∃ LL, Stand p l e ({ frames := 0, cells := 0, slots := 0, locals := 0 } : Room) s m #[(.ref a), (.int p1)] below meth c T422 LL 0 0 ∧ Fr n0 LL := ⟨_, X422, Fr.snoc X422 N0 g_a⟩
          have f425_E : Exa Z h422 a "com/example/weaverbird/weaverbird/model/xml/Utf8Decoder" := E_a.wr W422
          have f426_F : Fld Z h422 a "com/example/weaverbird/weaverbird/model/xml/Utf8Decoder" "partial" "I" (.int pa) := F_pa.other W422 (Or.inr (slot_ne (Or.inl (hw _ (List.mem_of_getElem? (i := 25) rfl))) (Or.inl (hw _ (List.mem_of_getElem? (i := 21) rfl))) (by decide) (t := .int) (t' := .int) (by decide) (by decide)))
          have f427_F : Fld Z h422 a "com/example/weaverbird/weaverbird/model/xml/Utf8Decoder" "taken" "I" (.int ta) := F_ta.other W422 (Or.inr (slot_ne (Or.inl (hw _ (List.mem_of_getElem? (i := 23) rfl))) (Or.inl (hw _ (List.mem_of_getElem? (i := 21) rfl))) (by decide) (t := .int) (t' := .int) (by decide) (by decide)))
          have f428_F : Fld Z h422 a "com/example/weaverbird/weaverbird/model/xml/Utf8Decoder" "low" "I" (.int lo) := F_lo.other W422 (Or.inr (slot_ne (Or.inl (hw _ (List.mem_of_getElem? (i := 27) rfl))) (Or.inl (hw _ (List.mem_of_getElem? (i := 21) rfl))) (by decide) (t := .int) (t' := .int) (by decide) (by decide)))
          have f429_F : Fld Z h422 a "com/example/weaverbird/weaverbird/model/xml/Utf8Decoder" "high" "I" (.int hi) := F_hi.other W422 (Or.inr (slot_ne (Or.inl (hw _ (List.mem_of_getElem? (i := 29) rfl))) (Or.inl (hw _ (List.mem_of_getElem? (i := 21) rfl))) (by decide) (t := .int) (t' := .int) (by decide) (by decide)))
          have f430_F : Fld Z h422 a "com/example/weaverbird/weaverbird/model/xml/Utf8Decoder" "reading" "Z" (.int re) := F_re.other W422 (Or.inr (slot_ne (Or.inl (hw _ (List.mem_of_getElem? (i := 19) rfl))) (Or.inl (hw _ (List.mem_of_getElem? (i := 21) rfl))) (by decide) (t := .boolean) (t' := .int) (by decide) (by decide)))
          have Z431 : n0 ≤ h422.size := Nat.le_trans Z0 (Keep.of_wr W422).1
          have K432 : Keep h0 h422 [a] := K0.wr W422 (Or.inl (List.mem_of_getElem? (i := 0) rfl))
          have f433_F : Fld Z h422 a "com/example/weaverbird/weaverbird/model/xml/Utf8Decoder" "length" "I" (.int (4 : Int32)) := F_le.same W422
          have pre434 : ∀ t, own_s p e below T422 m 177 #[rv a, iv p1, .unset] [(.int (1 : Int32)), (.ref a)] t → Steps p.tables e below S0 t := by
            intro tX kX
            refine pre423 _ ?_
            show own_s p e below T422 m 175 #[rv a, iv p1, .unset] [] _
            refine XS.aloadN X424.here hx rfl (hb hby d2_175) rfl rfl ?_
            show own_s p e below T422 m 176 #[rv a, iv p1, .unset] [(.ref a)] _
            refine XS.iconst X424.here hx rfl (hb hby d2_176) ?_
            exact kX
          obtain ⟨T435, h435, X435, e435, W435, st435⟩ := putF X424 hx hZ hown (host := "") (Or.inl (hw _ (List.mem_of_getElem? (i := 22) rfl))) Via.refl e422 f427_F f425_E (Or.inl (hw _ (List.mem_of_getElem? (i := 23) rfl))) (hw _ (List.mem_of_getElem? (i := 5) rfl)) (ty := .int) (by decide) rfl rfl (g := (mkF m 177 #[rv a, iv p1, .unset] [(.int (1 : Int32)), (.ref a)])) rfl rfl (hb hby d2_177)
          have pre436 : ∀ t, own_s p e below T435 m 180 #[rv a, iv p1, .unset] [] t → Steps p.tables e below S0 t := fun tX kX => pre434 _ (st435 _ kX)
          obtain ⟨LL437, X437, N437⟩ : ∃ LL, Stand p l e ({ frames := 0, cells := 0, slots := 0, locals := 0 } : Room) s m #[(.ref a), (.int p1)] below meth c T435 LL 0 0 ∧ Fr n0 LL := ⟨_, X435, Fr.snoc X435 N424 g_a⟩
          have f438_E : Exa Z h435 a "com/example/weaverbird/weaverbird/model/xml/Utf8Decoder" := f425_E.wr W435
          have f439_F : Fld Z h435 a "com/example/weaverbird/weaverbird/model/xml/Utf8Decoder" "partial" "I" (.int pa) := f426_F.other W435 (Or.inr (slot_ne (Or.inl (hw _ (List.mem_of_getElem? (i := 25) rfl))) (Or.inl (hw _ (List.mem_of_getElem? (i := 23) rfl))) (by decide) (t := .int) (t' := .int) (by decide) (by decide)))
          have f440_F : Fld Z h435 a "com/example/weaverbird/weaverbird/model/xml/Utf8Decoder" "low" "I" (.int lo) := f428_F.other W435 (Or.inr (slot_ne (Or.inl (hw _ (List.mem_of_getElem? (i := 27) rfl))) (Or.inl (hw _ (List.mem_of_getElem? (i := 23) rfl))) (by decide) (t := .int) (t' := .int) (by decide) (by decide)))
          have f441_F : Fld Z h435 a "com/example/weaverbird/weaverbird/model/xml/Utf8Decoder" "high" "I" (.int hi) := f429_F.other W435 (Or.inr (slot_ne (Or.inl (hw _ (List.mem_of_getElem? (i := 29) rfl))) (Or.inl (hw _ (List.mem_of_getElem? (i := 23) rfl))) (by decide) (t := .int) (t' := .int) (by decide) (by decide)))
          have f442_F : Fld Z h435 a "com/example/weaverbird/weaverbird/model/xml/Utf8Decoder" "reading" "Z" (.int re) := f430_F.other W435 (Or.inr (slot_ne (Or.inl (hw _ (List.mem_of_getElem? (i := 19) rfl))) (Or.inl (hw _ (List.mem_of_getElem? (i := 23) rfl))) (by decide) (t := .boolean) (t' := .int) (by decide) (by decide)))
          have f443_F : Fld Z h435 a "com/example/weaverbird/weaverbird/model/xml/Utf8Decoder" "length" "I" (.int (4 : Int32)) := f433_F.other W435 (Or.inr (slot_ne (Or.inl (hw _ (List.mem_of_getElem? (i := 21) rfl))) (Or.inl (hw _ (List.mem_of_getElem? (i := 23) rfl))) (by decide) (t := .int) (t' := .int) (by decide) (by decide)))
          have Z444 : n0 ≤ h435.size := Nat.le_trans Z431 (Keep.of_wr W435).1
          have K445 : Keep h0 h435 [a] := K432.wr W435 (Or.inl (List.mem_of_getElem? (i := 0) rfl))
          have f446_F : Fld Z h435 a "com/example/weaverbird/weaverbird/model/xml/Utf8Decoder" "taken" "I" (.int (1 : Int32)) := f427_F.same W435
          have pre447 : ∀ t, own_s p e below T435 m 182 #[rv a, iv p1, .unset] [(.ref a), (.ref a)] t → Steps p.tables e below S0 t := by
            intro tX kX
            refine pre436 _ ?_
            show own_s p e below T435 m 180 #[rv a, iv p1, .unset] [] _
            refine XS.aloadN X437.here hx rfl (hb hby d2_180) rfl rfl ?_
            show own_s p e below T435 m 181 #[rv a, iv p1, .unset] [(.ref a)] _
            refine XS.aloadN X437.here hx rfl (hb hby d2_181) rfl rfl ?_
            exact kX
          obtain ⟨T448, X448, e448, st448⟩ := getF X437 hx hZ hown (host := "") (Or.inl (hw _ (List.mem_of_getElem? (i := 20) rfl))) Via.refl e435 f443_F (g := (mkF m 182 #[rv a, iv p1, .unset] [(.ref a), (.ref a)])) rfl rfl (hb hby d2_182)
          have pre449 : ∀ t, own_s p e below T448 m 185 #[rv a, iv p1, .unset] [(.int (4 : Int32)), (.ref a)] t → Steps p.tables e below S0 t := fun tX kX => pre447 _ (st448 _ kX)
          have pre450 : ∀ t, own_s p e below T448 m 194 #[rv a, iv p1, .unset] [(.int (1 : Int32)), (.ref a)] t → Steps p.tables e below S0 t := by
            intro tX kX
            refine pre449 _ ?_
            show own_s p e below T448 m 185 #[rv a, iv p1, .unset] [(.int (4 : Int32)), (.ref a)] _
            refine XS.iconst X448.here hx rfl (hb hby d2_185) ?_
            show own_s p e below T448 m 186 #[rv a, iv p1, .unset] [(.int (1 : Int32)), (.int (4 : Int32)), (.ref a)] _
            refine XS.icmpNo X448.here hx rfl (hb hby d2_186) rfl (tlt (by decide : (1 : Int32) < (4 : Int32))).2.2.2 ?_
            show own_s p e below T448 m 189 #[rv a, iv p1, .unset] [(.ref a)] _
            refine XS.iconst X448.here hx rfl (hb hby d2_189) ?_
            show own_s p e below T448 m 190 #[rv a, iv p1, .unset] [(.int (1 : Int32)), (.ref a)] _
            refine XS.goto X448.here hx rfl (pc0 := 190) (pc' := 194) rfl (hb hby d2_190) (by decide) (by decide) ?_
            exact kX
          obtain ⟨T451, h451, X451, e451, W451, st451⟩ := putFN X448 hx hZ hown (hw _ (List.mem_of_getElem? (i := 18) rfl)) Via.refl e448 f442_F f438_E (Or.inl (hw _ (List.mem_of_getElem? (i := 19) rfl))) (hw _ (List.mem_of_getElem? (i := 5) rfl)) (ty := .boolean) (v' := (.int (1 : Int32))) (by decide) rfl rfl (g := (mkF m 194 #[rv a, iv p1, .unset] [(.int (1 : Int32)), (.ref a)])) rfl rfl (hb hby d2_194)
          have pre452 : ∀ t, own_s p e below T451 m 197 #[rv a, iv p1, .unset] [] t → Steps p.tables e below S0 t := fun tX kX => pre450 _ (st451 _ kX)
          obtain ⟨LL453, X453, N453⟩ : ∃ LL, Stand p l e ({ frames := 0, cells := 0, slots := 0, locals := 0 } : Room) s m #[(.ref a), (.int p1)] below meth c T451 LL 0 0 ∧ Fr n0 LL := ⟨_, X451, Fr.snoc X451 N437 g_a⟩
          have f454_E : Exa Z h451 a "com/example/weaverbird/weaverbird/model/xml/Utf8Decoder" := f438_E.wr W451
          have f455_F : Fld Z h451 a "com/example/weaverbird/weaverbird/model/xml/Utf8Decoder" "partial" "I" (.int pa) := f439_F.other W451 (Or.inr (slot_ne (Or.inl (hw _ (List.mem_of_getElem? (i := 25) rfl))) (Or.inl (hw _ (List.mem_of_getElem? (i := 19) rfl))) (by decide) (t := .int) (t' := .boolean) (by decide) (by decide)))
          have f456_F : Fld Z h451 a "com/example/weaverbird/weaverbird/model/xml/Utf8Decoder" "low" "I" (.int lo) := f440_F.other W451 (Or.inr (slot_ne (Or.inl (hw _ (List.mem_of_getElem? (i := 27) rfl))) (Or.inl (hw _ (List.mem_of_getElem? (i := 19) rfl))) (by decide) (t := .int) (t' := .boolean) (by decide) (by decide)))
          have f457_F : Fld Z h451 a "com/example/weaverbird/weaverbird/model/xml/Utf8Decoder" "high" "I" (.int hi) := f441_F.other W451 (Or.inr (slot_ne (Or.inl (hw _ (List.mem_of_getElem? (i := 29) rfl))) (Or.inl (hw _ (List.mem_of_getElem? (i := 19) rfl))) (by decide) (t := .int) (t' := .boolean) (by decide) (by decide)))
          have f458_F : Fld Z h451 a "com/example/weaverbird/weaverbird/model/xml/Utf8Decoder" "length" "I" (.int (4 : Int32)) := f443_F.other W451 (Or.inr (slot_ne (Or.inl (hw _ (List.mem_of_getElem? (i := 21) rfl))) (Or.inl (hw _ (List.mem_of_getElem? (i := 19) rfl))) (by decide) (t := .int) (t' := .boolean) (by decide) (by decide)))
          have f459_F : Fld Z h451 a "com/example/weaverbird/weaverbird/model/xml/Utf8Decoder" "taken" "I" (.int (1 : Int32)) := f446_F.other W451 (Or.inr (slot_ne (Or.inl (hw _ (List.mem_of_getElem? (i := 23) rfl))) (Or.inl (hw _ (List.mem_of_getElem? (i := 19) rfl))) (by decide) (t := .int) (t' := .boolean) (by decide) (by decide)))
          have Z460 : n0 ≤ h451.size := Nat.le_trans Z444 (Keep.of_wr W451).1
          have K461 : Keep h0 h451 [a] := K445.wr W451 (Or.inl (List.mem_of_getElem? (i := 0) rfl))
          have f462_F : Fld Z h451 a "com/example/weaverbird/weaverbird/model/xml/Utf8Decoder" "reading" "Z" (.int (1 : Int32)) := f442_F.same W451
          have pre463 : ∀ t, own_s p e below T451 m 202 #[rv a, iv p1, .unset] [(.ref a), (.int (63 : Int32)), (.int p1), (.ref a)] t → Steps p.tables e below S0 t := by
            intro tX kX
            refine pre452 _ ?_
            show own_s p e below T451 m 197 #[rv a, iv p1, .unset] [] _
            refine XS.aloadN X453.here hx rfl (hb hby d2_197) rfl rfl ?_
            show own_s p e below T451 m 198 #[rv a, iv p1, .unset] [(.ref a)] _
            refine XS.iloadN X453.here hx rfl (hb hby d2_198) rfl ?_
            show own_s p e below T451 m 199 #[rv a, iv p1, .unset] [(.int p1), (.ref a)] _
            refine XS.bipush X453.here hx rfl (hb hby d2_199) ?_
            show own_s p e below T451 m 201 #[rv a, iv p1, .unset] [(.int (63 : Int32)), (.int p1), (.ref a)] _
            refine XS.aloadN X453.here hx rfl (hb hby d2_201) rfl rfl ?_
            exact kX
          obtain ⟨T464, X464, e464, st464⟩ := getF X453 hx hZ hown (host := "") (Or.inl (hw _ (List.mem_of_getElem? (i := 20) rfl))) Via.refl e451 f458_F (g := (mkF m 202 #[rv a, iv p1, .unset] [(.ref a), (.int (63 : Int32)), (.int p1), (.ref a)])) rfl rfl (hb hby d2_202)
          have pre465 : ∀ t, own_s p e below T464 m 205 #[rv a, iv p1, .unset] [(.int (4 : Int32)), (.int (63 : Int32)), (.int p1), (.ref a)] t → Steps p.tables e below S0 t := fun tX kX => pre463 _ (st464 _ kX)
          have pre466 : ∀ t, own_s p e below T464 m 209 #[rv a, iv p1, .unset] [(.int (p1 &&& ((63 : Int32) >>> (((4 : Int32) - (1 : Int32)) &&& 31)))), (.ref a)] t → Steps p.tables e below S0 t := by
            intro tX kX
            refine pre465 _ ?_
            show own_s p e below T464 m 205 #[rv a, iv p1, .unset] [(.int (4 : Int32)), (.int (63 : Int32)), (.int p1), (.ref a)] _
            refine XS.iconst X464.here hx rfl (hb hby d2_205) ?_
            show own_s p e below T464 m 206 #[rv a, iv p1, .unset] [(.int (1 : Int32)), (.int (4 : Int32)), (.int (63 : Int32)), (.int p1), (.ref a)] _
            refine XS.isub X464.here hx rfl (hb hby d2_206) rfl ?_
            show own_s p e below T464 m 207 #[rv a, iv p1, .unset] [(.int ((4 : Int32) - (1 : Int32))), (.int (63 : Int32)), (.int p1), (.ref a)] _
            refine XS.ishr X464.here hx rfl (hb hby d2_207) rfl ?_
            show own_s p e below T464 m 208 #[rv a, iv p1, .unset] [(.int ((63 : Int32) >>> (((4 : Int32) - (1 : Int32)) &&& 31))), (.int p1), (.ref a)] _
            refine XS.iand X464.here hx rfl (hb hby d2_208) rfl ?_
            exact kX
          obtain ⟨T467, h467, X467, e467, W467, st467⟩ := putF X464 hx hZ hown (host := "") (Or.inl (hw _ (List.mem_of_getElem? (i := 24) rfl))) Via.refl e464 f455_F f454_E (Or.inl (hw _ (List.mem_of_getElem? (i := 25) rfl))) (hw _ (List.mem_of_getElem? (i := 5) rfl)) (ty := .int) (by decide) rfl rfl (g := (mkF m 209 #[rv a, iv p1, .unset] [(.int (p1 &&& ((63 : Int32) >>> (((4 : Int32) - (1 : Int32)) &&& 31)))), (.ref a)])) rfl rfl (hb hby d2_209)
          have pre468 : ∀ t, own_s p e below T467 m 212 #[rv a, iv p1, .unset] [] t → Steps p.tables e below S0 t := fun tX kX => pre466 _ (st467 _ kX)
          obtain ⟨LL469, X469, N469⟩ : ∃ LL, Stand p l e ({ frames := 0, cells := 0, slots := 0, locals := 0 } : Room) s m #[(.ref a), (.int p1)] below meth c T467 LL 0 0 ∧ Fr n0 LL := ⟨_, X467, Fr.snoc X467 N453 g_a⟩
          have f470_E : Exa Z h467 a "com/example/weaverbird/weaverbird/model/xml/Utf8Decoder" := f454_E.wr W467
          have f471_F : Fld Z h467 a "com/example/weaverbird/weaverbird/model/xml/Utf8Decoder" "low" "I" (.int lo) := f456_F.other W467 (Or.inr (slot_ne (Or.inl (hw _ (List.mem_of_getElem? (i := 27) rfl))) (Or.inl (hw _ (List.mem_of_getElem? (i := 25) rfl))) (by decide) (t := .int) (t' := .int) (by decide) (by decide)))
          have f472_F : Fld Z h467 a "com/example/weaverbird/weaverbird/model/xml/Utf8Decoder" "high" "I" (.int hi) := f457_F.other W467 (Or.inr (slot_ne (Or.inl (hw _ (List.mem_of_getElem? (i := 29) rfl))) (Or.inl (hw _ (List.mem_of_getElem? (i := 25) rfl))) (by decide) (t := .int) (t' := .int) (by decide) (by decide)))
          have f473_F : Fld Z h467 a "com/example/weaverbird/weaverbird/model/xml/Utf8Decoder" "length" "I" (.int (4 : Int32)) := f458_F.other W467 (Or.inr (slot_ne (Or.inl (hw _ (List.mem_of_getElem? (i := 21) rfl))) (Or.inl (hw _ (List.mem_of_getElem? (i := 25) rfl))) (by decide) (t := .int) (t' := .int) (by decide) (by decide)))
          have f474_F : Fld Z h467 a "com/example/weaverbird/weaverbird/model/xml/Utf8Decoder" "taken" "I" (.int (1 : Int32)) := f459_F.other W467 (Or.inr (slot_ne (Or.inl (hw _ (List.mem_of_getElem? (i := 23) rfl))) (Or.inl (hw _ (List.mem_of_getElem? (i := 25) rfl))) (by decide) (t := .int) (t' := .int) (by decide) (by decide)))
          have f475_F : Fld Z h467 a "com/example/weaverbird/weaverbird/model/xml/Utf8Decoder" "reading" "Z" (.int (1 : Int32)) := f462_F.other W467 (Or.inr (slot_ne (Or.inl (hw _ (List.mem_of_getElem? (i := 19) rfl))) (Or.inl (hw _ (List.mem_of_getElem? (i := 25) rfl))) (by decide) (t := .boolean) (t' := .int) (by decide) (by decide)))
          have Z476 : n0 ≤ h467.size := Nat.le_trans Z460 (Keep.of_wr W467).1
          have K477 : Keep h0 h467 [a] := K461.wr W467 (Or.inl (List.mem_of_getElem? (i := 0) rfl))
          have f478_F : Fld Z h467 a "com/example/weaverbird/weaverbird/model/xml/Utf8Decoder" "partial" "I" (.int (p1 &&& ((63 : Int32) >>> (((4 : Int32) - (1 : Int32)) &&& 31)))) := f455_F.same W467
          have pre479 : ∀ t, own_s p e below T467 m 230 #[rv a, iv p1, .unset] [(.int (240 : Int32)), (.int p1), (.ref a)] t → Steps p.tables e below S0 t := by
            intro tX kX
            refine pre468 _ ?_
            show own_s p e below T467 m 212 #[rv a, iv p1, .unset] [] _
            refine XS.aloadN X469.here hx rfl (hb hby d2_212) rfl rfl ?_
            show own_s p e below T467 m 213 #[rv a, iv p1, .unset] [(.ref a)] _
            refine XS.iloadN X469.here hx rfl (hb hby d2_213) rfl ?_
            show own_s p e below T467 m 214 #[rv a, iv p1, .unset] [(.int p1), (.ref a)] _
            refine XS.sipush X469.here hx rfl (hb hby d2_214) ?_
            show own_s p e below T467 m 217 #[rv a, iv p1, .unset] [(.int (224 : Int32)), (.int p1), (.ref a)] _
            refine XS.icmpYes X469.here hx rfl (pc0 := 217) (pc' := 226) rfl (hb hby d2_217) rfl (feq (show ¬ (p1 = (224 : Int32)) from (fun q => absurd (show (p1).toInt = (224 : Int) from congrArg Int32.toInt q) (by omega)))).2 (by decide) (by decide) ?_
            show own_s p e below T467 m 226 #[rv a, iv p1, .unset] [(.ref a)] _
            refine XS.iloadN X469.here hx rfl (hb hby d2_226) rfl ?_
            show own_s p e below T467 m 227 #[rv a, iv p1, .unset] [(.int p1), (.ref a)] _
            refine XS.sipush X469.here hx rfl (hb hby d2_227) ?_
            exact kX
          by_cases hc480 : p1 = (240 : Int32)
          · skip
            have ihc480 : (p1).toInt = (240 : Int) := congrArg Int32.toInt hc480
            have pre481 : ∀ t, own_s p e below T467 m 242 #[rv a, iv p1, .unset] [(.int (144 : Int32)), (.ref a)] t → Steps p.tables e below S0 t := by
              intro tX kX
              refine pre479 _ ?_
              show own_s p e below T467 m 230 #[rv a, iv p1, .unset] [(.int (240 : Int32)), (.int p1), (.ref a)] _
              refine XS.icmpNo X469.here hx rfl (hb hby d2_230) rfl (teq hc480).2 ?_
              show own_s p e below T467 m 233 #[rv a, iv p1, .unset] [(.ref a)] _
              refine XS.sipush X469.here hx rfl (hb hby d2_233) ?_
              show own_s p e below T467 m 236 #[rv a, iv p1, .unset] [(.int (144 : Int32)), (.ref a)] _
              refine XS.goto X469.here hx rfl (pc0 := 236) (pc' := 242) rfl (hb hby d2_236) (by decide) (by decide) ?_
              exact kX
            obtain ⟨T482, h482, X482, e482, W482, st482⟩ := putF X469 hx hZ hown (host := "") (Or.inl (hw _ (List.mem_of_getElem? (i := 26) rfl))) Via.refl e467 f471_F f470_E (Or.inl (hw _ (List.mem_of_getElem? (i := 27) rfl))) (hw _ (List.mem_of_getElem? (i := 5) rfl)) (ty := .int) (by decide) rfl rfl (g := (mkF m 242 #[rv a, iv p1, .unset] [(.int (144 : Int32)), (.ref a)])) rfl rfl (hb hby d2_242)
            have pre483 : ∀ t, own_s p e below T482 m 245 #[rv a, iv p1, .unset] [] t → Steps p.tables e below S0 t := fun tX kX => pre481 _ (st482 _ kX)
            obtain ⟨LL484, X484, N484⟩ : ∃ LL, Stand p l e ({ frames := 0, cells := 0, slots := 0, locals := 0 } : Room) s m #[(.ref a), (.int p1)] below meth c T482 LL 0 0 ∧ Fr n0 LL := ⟨_, X482, Fr.snoc X482 N469 g_a⟩
            have f485_E : Exa Z h482 a "com/example/weaverbird/weaverbird/model/xml/Utf8Decoder" := f470_E.wr W482
            have f486_F : Fld Z h482 a "com/example/weaverbird/weaverbird/model/xml/Utf8Decoder" "high" "I" (.int hi) := f472_F.other W482 (Or.inr (slot_ne (Or.inl (hw _ (List.mem_of_getElem? (i := 29) rfl))) (Or.inl (hw _ (List.mem_of_getElem? (i := 27) rfl))) (by decide) (t := .int) (t' := .int) (by decide) (by decide)))
            have f487_F : Fld Z h482 a "com/example/weaverbird/weaverbird/model/xml/Utf8Decoder" "length" "I" (.int (4 : Int32)) := f473_F.other W482 (Or.inr (slot_ne (Or.inl (hw _ (List.mem_of_getElem? (i := 21) rfl))) (Or.inl (hw _ (List.mem_of_getElem? (i := 27) rfl))) (by decide) (t := .int) (t' := .int) (by decide) (by decide)))
            have f488_F : Fld Z h482 a "com/example/weaverbird/weaverbird/model/xml/Utf8Decoder" "taken" "I" (.int (1 : Int32)) := f474_F.other W482 (Or.inr (slot_ne (Or.inl (hw _ (List.mem_of_getElem? (i := 23) rfl))) (Or.inl (hw _ (List.mem_of_getElem? (i := 27) rfl))) (by decide) (t := .int) (t' := .int) (by decide) (by decide)))
            have f489_F : Fld Z h482 a "com/example/weaverbird/weaverbird/model/xml/Utf8Decoder" "reading" "Z" (.int (1 : Int32)) := f475_F.other W482 (Or.inr (slot_ne (Or.inl (hw _ (List.mem_of_getElem? (i := 19) rfl))) (Or.inl (hw _ (List.mem_of_getElem? (i := 27) rfl))) (by decide) (t := .boolean) (t' := .int) (by decide) (by decide)))
            have f490_F : Fld Z h482 a "com/example/weaverbird/weaverbird/model/xml/Utf8Decoder" "partial" "I" (.int (p1 &&& ((63 : Int32) >>> (((4 : Int32) - (1 : Int32)) &&& 31)))) := f478_F.other W482 (Or.inr (slot_ne (Or.inl (hw _ (List.mem_of_getElem? (i := 25) rfl))) (Or.inl (hw _ (List.mem_of_getElem? (i := 27) rfl))) (by decide) (t := .int) (t' := .int) (by decide) (by decide)))
            have Z491 : n0 ≤ h482.size := Nat.le_trans Z476 (Keep.of_wr W482).1
            have K492 : Keep h0 h482 [a] := K477.wr W482 (Or.inl (List.mem_of_getElem? (i := 0) rfl))
            have f493_F : Fld Z h482 a "com/example/weaverbird/weaverbird/model/xml/Utf8Decoder" "low" "I" (.int (144 : Int32)) := f471_F.same W482
            have pre494 : ∀ t, own_s p e below T482 m 275 #[rv a, iv p1, .unset] [(.int (191 : Int32)), (.ref a)] t → Steps p.tables e below S0 t := by
              intro tX kX
              refine pre483 _ ?_
              show own_s p e below T482 m 245 #[rv a, iv p1, .unset] [] _
              refine XS.aloadN X484.here hx rfl (hb hby d2_245) rfl rfl ?_
              show own_s p e below T482 m 246 #[rv a, iv p1, .unset] [(.ref a)] _
              refine XS.iloadN X484.here hx rfl (hb hby d2_246) rfl ?_
              show own_s p e below T482 m 247 #[rv a, iv p1, .unset] [(.int p1), (.ref a)] _
              refine XS.sipush X484.here hx rfl (hb hby d2_247) ?_
              show own_s p e below T482 m 250 #[rv a, iv p1, .unset] [(.int (237 : Int32)), (.int p1), (.ref a)] _
              refine XS.icmpYes X484.here hx rfl (pc0 := 250) (pc' := 259) rfl (hb hby d2_250) rfl (feq (show ¬ (p1 = (237 : Int32)) from (fun q => absurd (show (p1).toInt = (237 : Int) from congrArg Int32.toInt q) (by omega)))).2 (by decide) (by decide) ?_
              show own_s p e below T482 m 259 #[rv a, iv p1, .unset] [(.ref a)] _
              refine XS.iloadN X484.here hx rfl (hb hby d2_259) rfl ?_
              show own_s p e below T482 m 260 #[rv a, iv p1, .unset] [(.int p1), (.ref a)] _
              refine XS.sipush X484.here hx rfl (hb hby d2_260) ?_
              show own_s p e below T482 m 263 #[rv a, iv p1, .unset] [(.int (244 : Int32)), (.int p1), (.ref a)] _
              refine XS.icmpYes X484.here hx rfl (pc0 := 263) (pc' := 272) rfl (hb hby d2_263) rfl (feq (show ¬ (p1 = (244 : Int32)) from (fun q => absurd (show (p1).toInt = (244 : Int) from congrArg Int32.toInt q) (by omega)))).2 (by decide) (by decide) ?_
              show own_s p e below T482 m 272 #[rv a, iv p1, .unset] [(.ref a)] _
              refine XS.sipush X484.here hx rfl (hb hby d2_272) ?_
              exact kX
            obtain ⟨T495, h495, X495, e495, W495, st495⟩ := putF X484 hx hZ hown (host := "") (Or.inl (hw _ (List.mem_of_getElem? (i := 28) rfl))) Via.refl e482 f486_F f485_E (Or.inl (hw _ (List.mem_of_getElem? (i := 29) rfl))) (hw _ (List.mem_of_getElem? (i := 5) rfl)) (ty := .int) (by decide) rfl rfl (g := (mkF m 275 #[rv a, iv p1, .unset] [(.int (191 : Int32)), (.ref a)])) rfl rfl (hb hby d2_275)
            have pre496 : ∀ t, own_s p e below T495 m 278 #[rv a, iv p1, .unset] [] t → Steps p.tables e below S0 t := fun tX kX => pre494 _ (st495 _ kX)
            obtain ⟨LL497, X497, N497⟩ : ∃ LL, Stand p l e ({ frames := 0, cells := 0, slots := 0, locals := 0 } : Room) s m #[(.ref a), (.int p1)] below meth c T495 LL 0 0 ∧ Fr n0 LL := ⟨_, X495, Fr.snoc X495 N484 g_a⟩
            have f498_E : Exa Z h495 a "com/example/weaverbird/weaverbird/model/xml/Utf8Decoder" := f485_E.wr W495
            have f499_F : Fld Z h495 a "com/example/weaverbird/weaverbird/model/xml/Utf8Decoder" "length" "I" (.int (4 : Int32)) := f487_F.other W495 (Or.inr (slot_ne (Or.inl (hw _ (List.mem_of_getElem? (i := 21) rfl))) (Or.inl (hw _ (List.mem_of_getElem? (i := 29) rfl))) (by decide) (t := .int) (t' := .int) (by decide) (by decide)))
            have f500_F : Fld Z h495 a "com/example/weaverbird/weaverbird/model/xml/Utf8Decoder" "taken" "I" (.int (1 : Int32)) := f488_F.other W495 (Or.inr (slot_ne (Or.inl (hw _ (List.mem_of_getElem? (i := 23) rfl))) (Or.inl (hw _ (List.mem_of_getElem? (i := 29) rfl))) (by decide) (t := .int) (t' := .int) (by decide) (by decide)))
            have f501_F : Fld Z h495 a "com/example/weaverbird/weaverbird/model/xml/Utf8Decoder" "reading" "Z" (.int (1 : Int32)) := f489_F.other W495 (Or.inr (slot_ne (Or.inl (hw _ (List.mem_of_getElem? (i := 19) rfl))) (Or.inl (hw _ (List.mem_of_getElem? (i := 29) rfl))) (by decide) (t := .boolean) (t' := .int) (by decide) (by decide)))
            have f502_F : Fld Z h495 a "com/example/weaverbird/weaverbird/model/xml/Utf8Decoder" "partial" "I" (.int (p1 &&& ((63 : Int32) >>> (((4 : Int32) - (1 : Int32)) &&& 31)))) := f490_F.other W495 (Or.inr (slot_ne (Or.inl (hw _ (List.mem_of_getElem? (i := 25) rfl))) (Or.inl (hw _ (List.mem_of_getElem? (i := 29) rfl))) (by decide) (t := .int) (t' := .int) (by decide) (by decide)))
            have f503_F : Fld Z h495 a "com/example/weaverbird/weaverbird/model/xml/Utf8Decoder" "low" "I" (.int (144 : Int32)) := f493_F.other W495 (Or.inr (slot_ne (Or.inl (hw _ (List.mem_of_getElem? (i := 27) rfl))) (Or.inl (hw _ (List.mem_of_getElem? (i := 29) rfl))) (by decide) (t := .int) (t' := .int) (by decide) (by decide)))
            have Z504 : n0 ≤ h495.size := Nat.le_trans Z491 (Keep.of_wr W495).1
            have K505 : Keep h0 h495 [a] := K492.wr W495 (Or.inl (List.mem_of_getElem? (i := 0) rfl))
            have f506_F : Fld Z h495 a "com/example/weaverbird/weaverbird/model/xml/Utf8Decoder" "high" "I" (.int (191 : Int32)) := f486_F.same W495
            have pre507 : ∀ t, own_s p e below T495 m 290 #[rv a, iv p1, .unset] [(.ref a)] t → Steps p.tables e below S0 t := by
              intro tX kX
              refine pre496 _ ?_
              show own_s p e below T495 m 278 #[rv a, iv p1, .unset] [] _
              refine XS.iloadN X497.here hx rfl (hb hby d2_278) rfl ?_
              show own_s p e below T495 m 279 #[rv a, iv p1, .unset] [(.int p1)] _
              refine XS.sipush X497.here hx rfl (hb hby d2_279) ?_
              show own_s p e below T495 m 282 #[rv a, iv p1, .unset] [(.int (128 : Int32)), (.int p1)] _
              refine XS.icmpYes X497.here hx rfl (pc0 := 282) (pc' := 289) rfl (hb hby d2_282) rfl (flt (show ¬ (p1 < (128 : Int32)) from (fun q => absurd (show (p1).toInt < (128 : Int) from Int32.lt_iff_toInt_lt.mp q) (by omega)))).2.1 (by decide) (by decide) ?_
              show own_s p e below T495 m 289 #[rv a, iv p1, .unset] [] _
              refine XS.aloadN X497.here hx rfl (hb hby d2_289) rfl rfl ?_
              exact kX
            obtain ⟨T508, X508, e508, st508⟩ := getF X497 hx hZ hown (host := "") (Or.inl (hw _ (List.mem_of_getElem? (i := 18) rfl))) Via.refl e495 f501_F (g := (mkF m 290 #[rv a, iv p1, .unset] [(.ref a)])) rfl rfl (hb hby d2_290)
            have pre509 : ∀ t, own_s p e below T508 m 293 #[rv a, iv p1, .unset] [(.int (1 : Int32))] t → Steps p.tables e below S0 t := fun tX kX => pre507 _ (st508 _ kX)
            have pre510 : ∀ t, own_s p e below T508 m 304 #[rv a, iv p1, iv (-1 : Int32)] [(.int (-1 : Int32))] t → Steps p.tables e below S0 t := by
              intro tX kX
              refine pre509 _ ?_
              show own_s p e below T508 m 293 #[rv a, iv p1, .unset] [(.int (1 : Int32))] _
              refine XS.ifNo X508.here hx rfl (hb hby d2_293) rfl ((if0 _ _).trans (feq (by decide : ¬ ((1 : Int32) = (0 : Int32)))).1) ?_
              show own_s p e below T508 m 296 #[rv a, iv p1, .unset] [] _
              refine XS.iconst X508.here hx rfl (hb hby d2_296) ?_
              show own_s p e below T508 m 297 #[rv a, iv p1, .unset] [(.int (-1 : Int32))] _
              refine XS.goto X508.here hx rfl (pc0 := 297) (pc' := 302) rfl (hb hby d2_297) (by decide) (by decide) ?_
              show own_s p e below T508 m 302 #[rv a, iv p1, .unset] [(.int (-1 : Int32))] _
              refine XS.istoreN X508.here hx rfl (hb hby d2_302) rfl (l' := #[rv a, iv p1, iv (-1 : Int32)]) rfl ?_
              show own_s p e below T508 m 303 #[rv a, iv p1, iv (-1 : Int32)] [] _
              refine XS.iloadN X508.here hx rfl (hb hby d2_303) rfl ?_
              exact kX
            subst hS0
            obtain ⟨fs, hr, hrun, hended, hW, hsame⟩ := X508.leave (v := (some (.int (-1 : Int32)))) (fun h => by rw [Bd.returns] at h; cases h)
            refine ⟨_, _, pre510 _ (retI X508 hx Bd.returns (hb hby d2_304) hr), hrun, hended, _, _, rfl, ?_, ⟨_, rfl⟩, hW, hsame.mono (by decide) (by decide)⟩
            show Q2 Z a p1 pa le ta lo hi re h0 n0 (some (.int (-1 : Int32))) T508.heap _
            rw [e508]
            refine ⟨(-1 : Int32), (p1 &&& ((63 : Int32) >>> (((4 : Int32) - (1 : Int32)) &&& 31))), (4 : Int32), (1 : Int32), (144 : Int32), (191 : Int32), (1 : Int32), rfl, N497, K505, f498_E, f502_F, f499_F, f500_F, f503_F, f506_F, f501_F, ?_⟩
            have mk := c_mask p1 ((63 : Int32) >>> (((4 : Int32) - (1 : Int32)) &&& 31)) 3 (by decide) (by decide)
            show own_T0 p1.toInt (-1 : Int) ((p1 &&& ((63 : Int32) >>> (((4 : Int32) - (1 : Int32)) &&& 31)))).toInt (4 : Int) (1 : Int) (144 : Int) (191 : Int) (1 : Int)
            unfold own_T0
            omega
          · skip
            have ihc480 : ¬ ((p1).toInt = (240 : Int)) := fun q => hc480 (Int32.toInt_inj.mp q)
            have pre511 : ∀ t, own_s p e below T467 m 242 #[rv a, iv p1, .unset] [(.int (128 : Int32)), (.ref a)] t → Steps p.tables e below S0 t := by
              intro tX kX
              refine pre479 _ ?_
              show own_s p e below T467 m 230 #[rv a, iv p1, .unset] [(.int (240 : Int32)), (.int p1), (.ref a)] _
              refine XS.icmpYes X469.here hx rfl (pc0 := 230) (pc' := 239) rfl (hb hby d2_230) rfl (feq hc480).2 (by decide) (by decide) ?_
              show own_s p e below T467 m 239 #[rv a, iv p1, .unset] [(.ref a)] _
              refine XS.sipush X469.here hx rfl (hb hby d2_239) ?_
              exact kX
            obtain ⟨T512, h512, X512, e512, W512, st512⟩ := putF X469 hx hZ hown (host := "") (Or.inl (hw _ (List.mem_of_getElem? (i := 26) rfl))) Via.refl e467 f471_F f470_E (Or.inl (hw _ (List.mem_of_getElem? (i := 27) rfl))) (hw _ (List.mem_of_getElem? (i := 5) rfl)) (ty := .int) (by decide) rfl rfl (g := (mkF m 242 #[rv a, iv p1, .unset] [(.int (128 : Int32)), (.ref a)])) rfl rfl (hb hby d2_242)
            have pre513 : ∀ t, own_s p e below T512 m 245 #[rv a, iv p1, .unset] [] t → Steps p.tables e below S0 t := fun tX kX => pre511 _ (st512 _ kX)
            obtain ⟨LL514, X514, N514⟩ : ∃ LL, Stand p l e ({ frames := 0, cells := 0, slots := 0, locals := 0 } : Room) s m #[(.ref a), (.int p1)] below meth c T512 LL 0 0 ∧ Fr n0 LL := ⟨_, X512, Fr.snoc X512 N469 g_a⟩
            have f515_E : Exa Z h512 a "com/example/weaverbird/weaverbird/model/xml/Utf8Decoder" := f470_E.wr W512
            have f516_F : Fld Z h512 a "com/example/weaverbird/weaverbird/model/xml/Utf8Decoder" "high" "I" (.int hi) := f472_F.other W512 (Or.inr (slot_ne (Or.inl (hw _ (List.mem_of_getElem? (i := 29) rfl))) (Or.inl (hw _ (List.mem_of_getElem? (i := 27) rfl))) (by decide) (t := .int) (t' := .int) (by decide) (by decide)))
            have f517_F : Fld Z h512 a "com/example/weaverbird/weaverbird/model/xml/Utf8Decoder" "length" "I" (.int (4 : Int32)) := f473_F.other W512 (Or.inr (slot_ne (Or.inl (hw _ (List.mem_of_getElem? (i := 21) rfl))) (Or.inl (hw _ (List.mem_of_getElem? (i := 27) rfl))) (by decide) (t := .int) (t' := .int) (by decide) (by decide)))
            have f518_F : Fld Z h512 a "com/example/weaverbird/weaverbird/model/xml/Utf8Decoder" "taken" "I" (.int (1 : Int32)) := f474_F.other W512 (Or.inr (slot_ne (Or.inl (hw _ (List.mem_of_getElem? (i := 23) rfl))) (Or.inl (hw _ (List.mem_of_getElem? (i := 27) rfl))) (by decide) (t := .int) (t' := .int) (by decide) (by decide)))
            have f519_F : Fld Z h512 a "com/example/weaverbird/weaverbird/model/xml/Utf8Decoder" "reading" "Z" (.int (1 : Int32)) := f475_F.other W512 (Or.inr (slot_ne (Or.inl (hw _ (List.mem_of_getElem? (i := 19) rfl))) (Or.inl (hw _ (List.mem_of_getElem? (i := 27) rfl))) (by decide) (t := .boolean) (t' := .int) (by decide) (by decide)))
            have f520_F : Fld Z h512 a "com/example/weaverbird/weaverbird/model/xml/Utf8Decoder" "partial" "I" (.int (p1 &&& ((63 : Int32) >>> (((4 : Int32) - (1 : Int32)) &&& 31)))) := f478_F.other W512 (Or.inr (slot_ne (Or.inl (hw _ (List.mem_of_getElem? (i := 25) rfl))) (Or.inl (hw _ (List.mem_of_getElem? (i := 27) rfl))) (by decide) (t := .int) (t' := .int) (by decide) (by decide)))
            have Z521 : n0 ≤ h512.size := Nat.le_trans Z476 (Keep.of_wr W512).1
            have K522 : Keep h0 h512 [a] := K477.wr W512 (Or.inl (List.mem_of_getElem? (i := 0) rfl))
            have f523_F : Fld Z h512 a "com/example/weaverbird/weaverbird/model/xml/Utf8Decoder" "low" "I" (.int (128 : Int32)) := f471_F.same W512
            have pre524 : ∀ t, own_s p e below T512 m 263 #[rv a, iv p1, .unset] [(.int (244 : Int32)), (.int p1), (.ref a)] t → Steps p.tables e below S0 t := by
              intro tX kX
              refine pre513 _ ?_
              show own_s p e below T512 m 245 #[rv a, iv p1, .unset] [] _
              refine XS.aloadN X514.here hx rfl (hb hby d2_245) rfl rfl ?_
              show own_s p e below T512 m 246 #[rv a, iv p1, .unset] [(.ref a)] _
              refine XS.iloadN X514.here hx rfl (hb hby d2_246) rfl ?_
              show own_s p e below T512 m 247 #[rv a, iv p1, .unset] [(.int p1), (.ref a)] _
              refine XS.sipush X514.here hx rfl (hb hby d2_247) ?_
              show own_s p e below T512 m 250 #[rv a, iv p1, .unset] [(.int (237 : Int32)), (.int p1), (.ref a)] _
              refine XS.icmpYes X514.here hx rfl (pc0 := 250) (pc' := 259) rfl (hb hby d2_250) rfl (feq (show ¬ (p1 = (237 : Int32)) from (fun q => absurd (show (p1).toInt = (237 : Int) from congrArg Int32.toInt q) (by omega)))).2 (by decide) (by decide) ?_
              show own_s p e below T512 m 259 #[rv a, iv p1, .unset] [(.ref a)] _
              refine XS.iloadN X514.here hx rfl (hb hby d2_259) rfl ?_
              show own_s p e below T512 m 260 #[rv a, iv p1, .unset] [(.int p1), (.ref a)] _
              refine XS.sipush X514.here hx rfl (hb hby d2_260) ?_
              exact kX
            by_cases hc525 : p1 = (244 : Int32)
            · skip
              have ihc525 : (p1).toInt = (244 : Int) := congrArg Int32.toInt hc525
              have pre526 : ∀ t, own_s p e below T512 m 275 #[rv a, iv p1, .unset] [(.int (143 : Int32)), (.ref a)] t → Steps p.tables e below S0 t := by
                intro tX kX
                refine pre524 _ ?_
                show own_s p e below T512 m 263 #[rv a, iv p1, .unset] [(.int (244 : Int32)), (.int p1), (.ref a)] _
                refine XS.icmpNo X514.here hx rfl (hb hby d2_263) rfl (teq hc525).2 ?_
                show own_s p e below T512 m 266 #[rv a, iv p1, .unset] [(.ref a)] _
                refine XS.sipush X514.here hx rfl (hb hby d2_266) ?_
                show own_s p e below T512 m 269 #[rv a, iv p1, .unset] [(.int (143 : Int32)), (.ref a)] _
                refine XS.goto X514.here hx rfl (pc0 := 269) (pc' := 275) rfl (hb hby d2_269) (by decide) (by decide) ?_
                exact kX
              obtain ⟨T527, h527, X527, e527, W527, st527⟩ := putF X514 hx hZ hown (host := "") (Or.inl (hw _ (List.mem_of_getElem? (i := 28) rfl))) Via.refl e512 f516_F f515_E (Or.inl (hw _ (List.mem_of_getElem? (i := 29) rfl))) (hw _ (List.mem_of_getElem? (i := 5) rfl)) (ty := .int) (by decide) rfl rfl (g := (mkF m 275 #[rv a, iv p1, .unset] [(.int (143 : Int32)), (.ref a)])) rfl rfl (hb hby d2_275)
              have pre528 : ∀ t, own_s p e below T527 m 278 #[rv a, iv p1, .unset] [] t → Steps p.tables e below S0 t := fun tX kX => pre526 _ (st527 _ kX)
              obtain ⟨LL529, X529, N529⟩ : ∃ LL, Stand p l e ({ frames := 0, cells := 0, slots := 0, locals := 0 } : Room) s m #[(.ref a), (.int p1)] below meth c T527 LL 0 0 ∧ Fr n0 LL := ⟨_, X527, Fr.snoc X527 N514 g_a⟩
              have f530_E : Exa Z h527 a "com/example/weaverbird/weaverbird/model/xml/Utf8Decoder" := f515_E.wr W527
              have f531_F : Fld Z h527 a "com/example/weaverbird/weaverbird/model/xml/Utf8Decoder" "length" "I" (.int (4 : Int32)) := f517_F.other W527 (Or.inr (slot_ne (Or.inl (hw _ (List.mem_of_getElem? (i := 21) rfl))) (Or.inl (hw _ (List.mem_of_getElem? (i := 29) rfl))) (by decide) (t := .int) (t' := .int) (by decide) (by decide)))
              have f532_F : Fld Z h527 a "com/example/weaverbird/weaverbird/model/xml/Utf8Decoder" "taken" "I" (.int (1 : Int32)) := f518_F.other W527 (Or.inr (slot_ne (Or.inl (hw _ (List.mem_of_getElem? (i := 23) rfl))) (Or.inl (hw _ (List.mem_of_getElem? (i := 29) rfl))) (by decide) (t := .int) (t' := .int) (by decide) (by decide)))
              have f533_F : Fld Z h527 a "com/example/weaverbird/weaverbird/model/xml/Utf8Decoder" "reading" "Z" (.int (1 : Int32)) := f519_F.other W527 (Or.inr (slot_ne (Or.inl (hw _ (List.mem_of_getElem? (i := 19) rfl))) (Or.inl (hw _ (List.mem_of_getElem? (i := 29) rfl))) (by decide) (t := .boolean) (t' := .int) (by decide) (by decide)))
              have f534_F : Fld Z h527 a "com/example/weaverbird/weaverbird/model/xml/Utf8Decoder" "partial" "I" (.int (p1 &&& ((63 : Int32) >>> (((4 : Int32) - (1 : Int32)) &&& 31)))) := f520_F.other W527 (Or.inr (slot_ne (Or.inl (hw _ (List.mem_of_getElem? (i := 25) rfl))) (Or.inl (hw _ (List.mem_of_getElem? (i := 29) rfl))) (by decide) (t := .int) (t' := .int) (by decide) (by decide)))
              have f535_F : Fld Z h527 a "com/example/weaverbird/weaverbird/model/xml/Utf8Decoder" "low" "I" (.int (128 : Int32)) := f523_F.other W527 (Or.inr (slot_ne (Or.inl (hw _ (List.mem_of_getElem? (i := 27) rfl))) (Or.inl (hw _ (List.mem_of_getElem? (i := 29) rfl))) (by decide) (t := .int) (t' := .int) (by decide) (by decide)))
              have Z536 : n0 ≤ h527.size := Nat.le_trans Z521 (Keep.of_wr W527).1
              have K537 : Keep h0 h527 [a] := K522.wr W527 (Or.inl (List.mem_of_getElem? (i := 0) rfl))
              have f538_F : Fld Z h527 a "com/example/weaverbird/weaverbird/model/xml/Utf8Decoder" "high" "I" (.int (143 : Int32)) := f516_F.same W527
              have pre539 : ∀ t, own_s p e below T527 m 290 #[rv a, iv p1, .unset] [(.ref a)] t → Steps p.tables e below S0 t := by
                intro tX kX
                refine pre528 _ ?_
                show own_s p e below T527 m 278 #[rv a, iv p1, .unset] [] _
                refine XS.iloadN X529.here hx rfl (hb hby d2_278) rfl ?_
                show own_s p e below T527 m 279 #[rv a, iv p1, .unset] [(.int p1)] _
                refine XS.sipush X529.here hx rfl (hb hby d2_279) ?_
                show own_s p e below T527 m 282 #[rv a, iv p1, .unset] [(.int (128 : Int32)), (.int p1)] _
                refine XS.icmpYes X529.here hx rfl (pc0 := 282) (pc' := 289) rfl (hb hby d2_282) rfl (flt (show ¬ (p1 < (128 : Int32)) from (fun q => absurd (show (p1).toInt < (128 : Int) from Int32.lt_iff_toInt_lt.mp q) (by omega)))).2.1 (by decide) (by decide) ?_
                show own_s p e below T527 m 289 #[rv a, iv p1, .unset] [] _
                refine XS.aloadN X529.here hx rfl (hb hby d2_289) rfl rfl ?_
                exact kX
              obtain ⟨T540, X540, e540, st540⟩ := getF X529 hx hZ hown (host := "") (Or.inl (hw _ (List.mem_of_getElem? (i := 18) rfl))) Via.refl e527 f533_F (g := (mkF m 290 #[rv a, iv p1, .unset] [(.ref a)])) rfl rfl (hb hby d2_290)
              have pre541 : ∀ t, own_s p e below T540 m 293 #[rv a, iv p1, .unset] [(.int (1 : Int32))] t → Steps p.tables e below S0 t := fun tX kX => pre539 _ (st540 _ kX)
              have pre542 : ∀ t, own_s p e below T540 m 304 #[rv a, iv p1, iv (-1 : Int32)] [(.int (-1 : Int32))] t → Steps p.tables e below S0 t := by
                intro tX kX
                refine pre541 _ ?_
                show own_s p e below T540 m 293 #[rv a, iv p1, .unset] [(.int (1 : Int32))] _
                refine XS.ifNo X540.here hx rfl (hb hby d2_293) rfl ((if0 _ _).trans (feq (by decide : ¬ ((1 : Int32) = (0 : Int32)))).1) ?_
                show own_s p e below T540 m 296 #[rv a, iv p1, .unset] [] _
                refine XS.iconst X540.here hx rfl (hb hby d2_296) ?_
                show own_s p e below T540 m 297 #[rv a, iv p1, .unset] [(.int (-1 : Int32))] _
                refine XS.goto X540.here hx rfl (pc0 := 297) (pc' := 302) rfl (hb hby d2_297) (by decide) (by decide) ?_
                show own_s p e below T540 m 302 #[rv a, iv p1, .unset] [(.int (-1 : Int32))] _
                refine XS.istoreN X540.here hx rfl (hb hby d2_302) rfl (l' := #[rv a, iv p1, iv (-1 : Int32)]) rfl ?_
                show own_s p e below T540 m 303 #[rv a, iv p1, iv (-1 : Int32)] [] _
                refine XS.iloadN X540.here hx rfl (hb hby d2_303) rfl ?_
                exact kX
              subst hS0
              obtain ⟨fs, hr, hrun, hended, hW, hsame⟩ := X540.leave (v := (some (.int (-1 : Int32)))) (fun h => by rw [Bd.returns] at h; cases h)
              refine ⟨_, _, pre542 _ (retI X540 hx Bd.returns (hb hby d2_304) hr), hrun, hended, _, _, rfl, ?_, ⟨_, rfl⟩, hW, hsame.mono (by decide) (by decide)⟩
              show Q2 Z a p1 pa le ta lo hi re h0 n0 (some (.int (-1 : Int32))) T540.heap _
              rw [e540]
              refine ⟨(-1 : Int32), (p1 &&& ((63 : Int32) >>> (((4 : Int32) - (1 : Int32)) &&& 31))), (4 : Int32), (1 : Int32), (128 : Int32), (143 : Int32), (1 : Int32), rfl, N529, K537, f530_E, f534_F, f531_F, f532_F, f535_F, f538_F, f533_F, ?_⟩
              have mk := c_mask p1 ((63 : Int32) >>> (((4 : Int32) - (1 : Int32)) &&& 31)) 3 (by decide) (by decide)
              show own_T0 p1.toInt (-1 : Int) ((p1 &&& ((63 : Int32) >>> (((4 : Int32) - (1 : Int32)) &&& 31)))).toInt (4 : Int) (1 : Int) (128 : Int) (143 : Int) (1 : Int)
              unfold own_T0
              omega
            · skip
              have ihc525 : ¬ ((p1).toInt = (244 : Int)) := fun q => hc525 (Int32.toInt_inj.mp q)
              have pre543 : ∀ t, own_s p e below T512 m 275 #[rv a, iv p1, .unset] [(.int (191 : Int32)), (.ref a)] t → Steps p.tables e below S0 t := by
                intro tX kX
                refine pre524 _ ?_
                show own_s p e below T512 m 263 #[rv a, iv p1, .unset] [(.int (244 : Int32)), (.int p1), (.ref a)] _
                refine XS.icmpYes X514.here hx rfl (pc0 := 263) (pc' := 272) rfl (hb hby d2_263) rfl (feq hc525).2 (by decide) (by decide) ?_
                show own_s p e below T512 m 272 #[rv a, iv p1, .unset] [(.ref a)] _
                refine XS.sipush X514.here hx rfl (hb hby d2_272) ?_
                exact kX
              obtain ⟨T544, h544, X544, e544, W544, st544⟩ := putF X514 hx hZ hown (host := "") (Or.inl (hw _ (List.mem_of_getElem? (i := 28) rfl))) Via.refl e512 f516_F f515_E (Or.inl (hw _ (List.mem_of_getElem? (i := 29) rfl))) (hw _ (List.mem_of_getElem? (i := 5) rfl)) (ty := .int) (by decide) rfl rfl (g := (mkF m 275 #[rv a, iv p1, .unset] [(.int (191 : Int32)), (.ref a)])) rfl rfl (hb hby d2_275)
              have pre545 : ∀ t, own_s p e below T544 m 278 #[rv a, iv p1, .unset] [] t → Steps p.tables e below S0 t := fun tX kX => pre543 _ (st544 _ kX)
              obtain ⟨LL546, X546, N546⟩ : ∃ LL, Stand p l e ({ frames := 0, cells := 0, slots := 0, locals := 0 } : Room) s m #[(.ref a), (.int p1)] below meth c T544 LL 0 0 ∧ Fr n0 LL := ⟨_, X544, Fr.snoc X544 N514 g_a⟩
              have f547_E : Exa Z h544 a "com/example/weaverbird/weaverbird/model/xml/Utf8Decoder" := f515_E.wr W544
              have f548_F : Fld Z h544 a "com/example/weaverbird/weaverbird/model/xml/Utf8Decoder" "length" "I" (.int (4 : Int32)) := f517_F.other W544 (Or.inr (slot_ne (Or.inl (hw _ (List.mem_of_getElem? (i := 21) rfl))) (Or.inl (hw _ (List.mem_of_getElem? (i := 29) rfl))) (by decide) (t := .int) (t' := .int) (by decide) (by decide)))
              have f549_F : Fld Z h544 a "com/example/weaverbird/weaverbird/model/xml/Utf8Decoder" "taken" "I" (.int (1 : Int32)) := f518_F.other W544 (Or.inr (slot_ne (Or.inl (hw _ (List.mem_of_getElem? (i := 23) rfl))) (Or.inl (hw _ (List.mem_of_getElem? (i := 29) rfl))) (by decide) (t := .int) (t' := .int) (by decide) (by decide)))
              have f550_F : Fld Z h544 a "com/example/weaverbird/weaverbird/model/xml/Utf8Decoder" "reading" "Z" (.int (1 : Int32)) := f519_F.other W544 (Or.inr (slot_ne (Or.inl (hw _ (List.mem_of_getElem? (i := 19) rfl))) (Or.inl (hw _ (List.mem_of_getElem? (i := 29) rfl))) (by decide) (t := .boolean) (t' := .int) (by decide) (by decide)))
              have f551_F : Fld Z h544 a "com/example/weaverbird/weaverbird/model/xml/Utf8Decoder" "partial" "I" (.int (p1 &&& ((63 : Int32) >>> (((4 : Int32) - (1 : Int32)) &&& 31)))) := f520_F.other W544 (Or.inr (slot_ne (Or.inl (hw _ (List.mem_of_getElem? (i := 25) rfl))) (Or.inl (hw _ (List.mem_of_getElem? (i := 29) rfl))) (by decide) (t := .int) (t' := .int) (by decide) (by decide)))
              have f552_F : Fld Z h544 a "com/example/weaverbird/weaverbird/model/xml/Utf8Decoder" "low" "I" (.int (128 : Int32)) := f523_F.other W544 (Or.inr (slot_ne (Or.inl (hw _ (List.mem_of_getElem? (i := 27) rfl))) (Or.inl (hw _ (List.mem_of_getElem? (i := 29) rfl))) (by decide) (t := .int) (t' := .int) (by decide) (by decide)))
              have Z553 : n0 ≤ h544.size := Nat.le_trans Z521 (Keep.of_wr W544).1
              have K554 : Keep h0 h544 [a] := K522.wr W544 (Or.inl (List.mem_of_getElem? (i := 0) rfl))
              have f555_F : Fld Z h544 a "com/example/weaverbird/weaverbird/model/xml/Utf8Decoder" "high" "I" (.int (191 : Int32)) := f516_F.same W544
              have pre556 : ∀ t, own_s p e below T544 m 290 #[rv a, iv p1, .unset] [(.ref a)] t → Steps p.tables e below S0 t := by
                intro tX kX
                refine pre545 _ ?_
                show own_s p e below T544 m 278 #[rv a, iv p1, .unset] [] _
                refine XS.iloadN X546.here hx rfl (hb hby d2_278) rfl ?_
                show own_s p e below T544 m 279 #[rv a, iv p1, .unset] [(.int p1)] _
                refine XS.sipush X546.here hx rfl (hb hby d2_279) ?_
                show own_s p e below T544 m 282 #[rv a, iv p1, .unset] [(.int (128 : Int32)), (.int p1)] _
                refine XS.icmpYes X546.here hx rfl (pc0 := 282) (pc' := 289) rfl (hb hby d2_282) rfl (flt (show ¬ (p1 < (128 : Int32)) from (fun q => absurd (show (p1).toInt < (128 : Int) from Int32.lt_iff_toInt_lt.mp q) (by omega)))).2.1 (by decide) (by decide) ?_
                show own_s p e below T544 m 289 #[rv a, iv p1, .unset] [] _
                refine XS.aloadN X546.here hx rfl (hb hby d2_289) rfl rfl ?_
                exact kX
              obtain ⟨T557, X557, e557, st557⟩ := getF X546 hx hZ hown (host := "") (Or.inl (hw _ (List.mem_of_getElem? (i := 18) rfl))) Via.refl e544 f550_F (g := (mkF m 290 #[rv a, iv p1, .unset] [(.ref a)])) rfl rfl (hb hby d2_290)
              have pre558 : ∀ t, own_s p e below T557 m 293 #[rv a, iv p1, .unset] [(.int (1 : Int32))] t → Steps p.tables e below S0 t := fun tX kX => pre556 _ (st557 _ kX)
              have pre559 : ∀ t, own_s p e below T557 m 304 #[rv a, iv p1, iv (-1 : Int32)] [(.int (-1 : Int32))] t → Steps p.tables e below S0 t := by
                intro tX kX
                refine pre558 _ ?_
                show own_s p e below T557 m 293 #[rv a, iv p1, .unset] [(.int (1 : Int32))] _
                refine XS.ifNo X557.here hx rfl (hb hby d2_293) rfl ((if0 _ _).trans (feq (by decide : ¬ ((1 : Int32) = (0 : Int32)))).1) ?_
                show own_s p e below T557 m 296 #[rv a, iv p1, .unset] [] _
                refine XS.iconst X557.here hx rfl (hb hby d2_296) ?_
                show own_s p e below T557 m 297 #[rv a, iv p1, .unset] [(.int (-1 : Int32))] _
                refine XS.goto X557.here hx rfl (pc0 := 297) (pc' := 302) rfl (hb hby d2_297) (by decide) (by decide) ?_
                show own_s p e below T557 m 302 #[rv a, iv p1, .unset] [(.int (-1 : Int32))] _
                refine XS.istoreN X557.here hx rfl (hb hby d2_302) rfl (l' := #[rv a, iv p1, iv (-1 : Int32)]) rfl ?_
                show own_s p e below T557 m 303 #[rv a, iv p1, iv (-1 : Int32)] [] _
                refine XS.iloadN X557.here hx rfl (hb hby d2_303) rfl ?_
                exact kX
              subst hS0
              obtain ⟨fs, hr, hrun, hended, hW, hsame⟩ := X557.leave (v := (some (.int (-1 : Int32)))) (fun h => by rw [Bd.returns] at h; cases h)
              refine ⟨_, _, pre559 _ (retI X557 hx Bd.returns (hb hby d2_304) hr), hrun, hended, _, _, rfl, ?_, ⟨_, rfl⟩, hW, hsame.mono (by decide) (by decide)⟩
              show Q2 Z a p1 pa le ta lo hi re h0 n0 (some (.int (-1 : Int32))) T557.heap _
              rw [e557]
              refine ⟨(-1 : Int32), (p1 &&& ((63 : Int32) >>> (((4 : Int32) - (1 : Int32)) &&& 31))), (4 : Int32), (1 : Int32), (128 : Int32), (191 : Int32), (1 : Int32), rfl, N546, K554, f547_E, f551_F, f548_F, f549_F, f552_F, f555_F, f550_F, ?_⟩
              have mk := c_mask p1 ((63 : Int32) >>> (((4 : Int32) - (1 : Int32)) &&& 31)) 3 (by decide) (by decide)
              show own_T0 p1.toInt (-1 : Int) ((p1 &&& ((63 : Int32) >>> (((4 : Int32) - (1 : Int32)) &&& 31)))).toInt (4 : Int) (1 : Int) (128 : Int) (191 : Int) (1 : Int)
              unfold own_T0
              omega
theorem d3_0 : decode prog_181_method_4_code 0 = .ok (.aload_n 0, 1) := by decide +kernel
theorem d3_1 : decode prog_181_method_4_code 1 = .ok (.getfield 16, 3) := by decide +kernel
theorem d3_4 : decode prog_181_method_4_code 4 = .ok (.ifCond .eq 98, 3) := by decide +kernel
theorem d3_7 : decode prog_181_method_4_code 7 = .ok (.iload_n 1, 1) := by decide +kernel
theorem d3_8 : decode prog_181_method_4_code 8 = .ok (.aload_n 0, 1) := by decide +kernel
theorem d3_9 : decode prog_181_method_4_code 9 = .ok (.getfield 20, 3) := by decide +kernel
theorem d3_12 : decode prog_181_method_4_code 12 = .ok (.if_icmp .lt 90, 3) := by decide +kernel
theorem d3_15 : decode prog_181_method_4_code 15 = .ok (.iload_n 1, 1) := by decide +kernel
theorem d3_16 : decode prog_181_method_4_code 16 = .ok (.aload_n 0, 1) := by decide +kernel
theorem d3_17 : decode prog_181_method_4_code 17 = .ok (.getfield 23, 3) := by decide +kernel
theorem d3_20 : decode prog_181_method_4_code 20 = .ok (.if_icmp .gt 82, 3) := by decide +kernel
theorem d3_23 : decode prog_181_method_4_code 23 = .ok (.aload_n 0, 1) := by decide +kernel
theorem d3_24 : decode prog_181_method_4_code 24 = .ok (.aload_n 0, 1) := by decide +kernel
theorem d3_25 : decode prog_181_method_4_code 25 = .ok (.getfield 26, 3) := by decide +kernel
theorem d3_28 : decode prog_181_method_4_code 28 = .ok (.bipush 6, 2) := by decide +kernel
theorem d3_30 : decode prog_181_method_4_code 30 = .ok (.ishl, 1) := by decide +kernel
theorem d3_31 : decode prog_181_method_4_code 31 = .ok (.iload_n 1, 1) := by decide +kernel
theorem d3_32 : decode prog_181_method_4_code 32 = .ok (.bipush 63, 2) := by decide +kernel
theorem d3_34 : decode prog_181_method_4_code 34 = .ok (.iand, 1) := by decide +kernel
theorem d3_35 : decode prog_181_method_4_code 35 = .ok (.ior, 1) := by decide +kernel
theorem d3_36 : decode prog_181_method_4_code 36 = .ok (.putfield 26, 3) := by decide +kernel
theorem d3_39 : decode prog_181_method_4_code 39 = .ok (.aload_n 0, 1) := by decide +kernel
theorem d3_40 : decode prog_181_method_4_code 40 = .ok (.dup, 1) := by decide +kernel
theorem d3_41 : decode prog_181_method_4_code 41 = .ok (.getfield 13, 3) := by decide +kernel
theorem d3_44 : decode prog_181_method_4_code 44 = .ok (.iconst 1, 1) := by decide +kernel
theorem d3_45 : decode prog_181_method_4_code 45 = .ok (.iadd, 1) := by decide +kernel
theorem d3_46 : decode prog_181_method_4_code 46 = .ok (.putfield 13, 3) := by decide +kernel
theorem d3_49 : decode prog_181_method_4_code 49 = .ok (.aload_n 0, 1) := by decide +kernel
theorem d3_50 : decode prog_181_method_4_code 50 = .ok (.aload_n 0, 1) := by decide +kernel
theorem d3_51 : decode prog_181_method_4_code 51 = .ok (.getfield 13, 3) := by decide +kernel
theorem d3_54 : decode prog_181_method_4_code 54 = .ok (.aload_n 0, 1) := by decide +kernel
theorem d3_55 : decode prog_181_method_4_code 55 = .ok (.getfield 7, 3) := by decide +kernel
theorem d3_58 : decode prog_181_method_4_code 58 = .ok (.if_icmp .ge 7, 3) := by decide +kernel
theorem d3_61 : decode prog_181_method_4_code 61 = .ok (.iconst 1, 1) := by decide +kernel
theorem d3_62 : decode prog_181_method_4_code 62 = .ok (.goto 4, 3) := by decide +kernel
theorem d3_65 : decode prog_181_method_4_code 65 = .ok (.iconst 0, 1) := by decide +kernel
theorem d3_66 : decode prog_181_method_4_code 66 = .ok (.putfield 16, 3) := by decide +kernel
theorem d3_69 : decode prog_181_method_4_code 69 = .ok (.aload_n 0, 1) := by decide +kernel
theorem d3_70 : decode prog_181_method_4_code 70 = .ok (.sipush 128, 3) := by decide +kernel
theorem d3_73 : decode prog_181_method_4_code 73 = .ok (.putfield 20, 3) := by decide +kernel
theorem d3_76 : decode prog_181_method_4_code 76 = .ok (.aload_n 0, 1) := by decide +kernel
theorem d3_77 : decode prog_181_method_4_code 77 = .ok (.sipush 191, 3) := by decide +kernel
theorem d3_80 : decode prog_181_method_4_code 80 = .ok (.putfield 23, 3) := by decide +kernel
theorem d3_83 : decode prog_181_method_4_code 83 = .ok (.aload_n 0, 1) := by decide +kernel
theorem d3_84 : decode prog_181_method_4_code 84 = .ok (.getfield 16, 3) := by decide +kernel
theorem d3_87 : decode prog_181_method_4_code 87 = .ok (.ifCond .eq 7, 3) := by decide +kernel
theorem d3_90 : decode prog_181_method_4_code 90 = .ok (.iconst (-1), 1) := by decide +kernel
theorem d3_91 : decode prog_181_method_4_code 91 = .ok (.goto 7, 3) := by decide +kernel
theorem d3_94 : decode prog_181_method_4_code 94 = .ok (.aload_n 0, 1) := by decide +kernel
theorem d3_95 : decode prog_181_method_4_code 95 = .ok (.getfield 26, 3) := by decide +kernel
theorem d3_98 : decode prog_181_method_4_code 98 = .ok (.istore_n 2, 1) := by decide +kernel
theorem d3_99 : decode prog_181_method_4_code 99 = .ok (.goto 204, 3) := by decide +kernel
theorem d3_102 : decode prog_181_method_4_code 102 = .ok (.aload_n 0, 1) := by decide +kernel
theorem d3_103 : decode prog_181_method_4_code 103 = .ok (.getfield 16, 3) := by decide +kernel
theorem d3_106 : decode prog_181_method_4_code 106 = .ok (.ifCond .eq 24, 3) := by decide +kernel
theorem d3_109 : decode prog_181_method_4_code 109 = .ok (.aload_n 0, 1) := by decide +kernel
theorem d3_110 : decode prog_181_method_4_code 110 = .ok (.dup, 1) := by decide +kernel
theorem d3_111 : decode prog_181_method_4_code 111 = .ok (.getfield 13, 3) := by decide +kernel
theorem d3_114 : decode prog_181_method_4_code 114 = .ok (.iconst 1, 1) := by decide +kernel
theorem d3_115 : decode prog_181_method_4_code 115 = .ok (.iadd, 1) := by decide +kernel
theorem d3_116 : decode prog_181_method_4_code 116 = .ok (.putfield 13, 3) := by decide +kernel
theorem d3_119 : decode prog_181_method_4_code 119 = .ok (.aload_n 0, 1) := by decide +kernel
theorem d3_120 : decode prog_181_method_4_code 120 = .ok (.iconst 0, 1) := by decide +kernel
theorem d3_121 : decode prog_181_method_4_code 121 = .ok (.putfield 16, 3) := by decide +kernel
theorem d3_124 : decode prog_181_method_4_code 124 = .ok (.bipush (-3), 2) := by decide +kernel
theorem d3_126 : decode prog_181_method_4_code 126 = .ok (.istore_n 2, 1) := by decide +kernel
theorem d3_127 : decode prog_181_method_4_code 127 = .ok (.goto 176, 3) := by decide +kernel
theorem d3_303 : decode prog_181_method_4_code 303 = .ok (.iload_n 2, 1) := by decide +kernel
theorem d3_304 : decode prog_181_method_4_code 304 = .ok (.ireturn, 1) := by decide +kernel
theorem pn_3 : plainName "com/example/weaverbird/weaverbird/model/xml/Utf8Decoder" = true := by first | (simp [plainName, overriddenIn]; done) | decide +kernel
theorem ef_3 (m : MethodId) (a : Addr) (p1 : Int32) : entryFrame m #[(.ref a), (.int p1)] 3 = mkF m 0 #[rv a, iv p1, .unset] [] := by first | (simp [entryFrame, mkF, argsToLocals, Value.category]; done) | rfl
def Q3 (Z : State) (a : Addr) (p1 : Int32) (pa : Int32) (le : Int32) (ta : Int32) (lo : Int32) (hi : Int32) (re : Int32) (h0 : Heap) (n0 : Nat) (v : Option Value) (h : Heap) (L : List Loc) : Prop := ∃ v' pa' le' ta' lo' hi' re' : Int32, v = some (.int v') ∧ Fr n0 L ∧ Keep h0 h [a] ∧ Exa Z h a "com/example/weaverbird/weaverbird/model/xml/Utf8Decoder" ∧ Fld Z h a "com/example/weaverbird/weaverbird/model/xml/Utf8Decoder" "partial" "I" (.int pa') ∧ Fld Z h a "com/example/weaverbird/weaverbird/model/xml/Utf8Decoder" "length" "I" (.int le') ∧ Fld Z h a "com/example/weaverbird/weaverbird/model/xml/Utf8Decoder" "taken" "I" (.int ta') ∧ Fld Z h a "com/example/weaverbird/weaverbird/model/xml/Utf8Decoder" "low" "I" (.int lo') ∧ Fld Z h a "com/example/weaverbird/weaverbird/model/xml/Utf8Decoder" "high" "I" (.int hi') ∧ Fld Z h a "com/example/weaverbird/weaverbird/model/xml/Utf8Decoder" "reading" "Z" (.int re') ∧ le' = le ∧ own_T1 p1.toInt v'.toInt pa.toInt pa'.toInt le.toInt ta.toInt ta'.toInt lo.toInt hi.toInt lo'.toInt hi'.toInt re'.toInt
set_option maxRecDepth 65536 in
set_option maxHeartbeats 40000000 in
theorem rm3 (l : Launch) (Z : State) (a0 : Array Value) (hw : ∀ d ∈ tables_1, d.before a0 Z = true) (ws : List Jvm.Cond) (a : Addr) (p1 : Int32) (pa : Int32) (le : Int32) (ta : Int32) (lo : Int32) (hi : Int32) (re : Int32) (h0 : Heap) (n0 : Nat) (Z0 : n0 ≤ h0.size) (E_a : Exa Z h0 a "com/example/weaverbird/weaverbird/model/xml/Utf8Decoder") (F_pa : Fld Z h0 a "com/example/weaverbird/weaverbird/model/xml/Utf8Decoder" "partial" "I" (.int pa)) (F_le : Fld Z h0 a "com/example/weaverbird/weaverbird/model/xml/Utf8Decoder" "length" "I" (.int le)) (F_ta : Fld Z h0 a "com/example/weaverbird/weaverbird/model/xml/Utf8Decoder" "taken" "I" (.int ta)) (F_lo : Fld Z h0 a "com/example/weaverbird/weaverbird/model/xml/Utf8Decoder" "low" "I" (.int lo)) (F_hi : Fld Z h0 a "com/example/weaverbird/weaverbird/model/xml/Utf8Decoder" "high" "I" (.int hi)) (F_re : Fld Z h0 a "com/example/weaverbird/weaverbird/model/xml/Utf8Decoder" "reading" "Z" (.int re)) (g_a : n0 ≤ a) (hre : re = 1) (hx0 : 0 ≤ p1.toInt) (hx1 : p1.toInt ≤ 255) (hp0 : 0 ≤ pa.toInt) (hp1 : pa.toInt < 2097152) (ht0 : 0 ≤ ta.toInt) (ht1 : ta.toInt < 10) :
    MetFree l (⟨"com/example/weaverbird/weaverbird/model/xml/Utf8Decoder", "take", "(I)I"⟩ : MethodName) (head1 (Jvm.Cond.code (⟨"com/example/weaverbird/weaverbird/model/xml/Utf8Decoder", "take", "(I)I"⟩ : MethodName) prog_181_method_4_code 3 (some .int) :: ws) ({ frames := 0, cells := 0, slots := 0, locals := 0 } : Room)) (fun aX UX => aX = #[(.ref a), (.int p1)] ∧ Z.Warmed39 UX.vm ∧ UX.heap = h0) (fun _ _ _ _ _ => True) (fun _ UX oX UY => ∃ vX LX, oX = .returned vX ∧ Q3 Z a p1 pa le ta lo hi re h0 n0 vX UY.heap LX ∧ FrameEnd UX oX UY LX ({ frames := 0, cells := 0, slots := 0, locals := 0 } : Room).cells ({ frames := 0, cells := 0, slots := 0, locals := 0 } : Room).slots) := by
  refine MetFree.of_bodySF (plainFor_of_name pn_3) hisR ?_
  intro p e s m args below meth c s₁ Bd hml0 hPX hKX
  obtain ⟨rfl, hZ, hh⟩ := hPX
  have hx := Bd.exec
  have hby := Bd.bytes
  have hml : c.maxLocals = 3 := hml0
  have hown : s.vm.findClass "com/example/weaverbird/weaverbird/model/xml/Utf8Decoder" = some m.cls := findClass_of_methodNamed Bd.named
  have hnm := (name_of_methodNamed Bd.named Bd.method).1
  have X0 : Stand p l e ({ frames := 0, cells := 0, slots := 0, locals := 0 } : Room) s m #[(.ref a), (.int p1)] below meth c s₁ [] 0 0 := Stand.of_body Bd
  have e0 : s₁.heap = h0 := by rw [← hh, Bd.state]; rfl
  have N0 := Fr.nil n0
  have pre0 : ∀ t, Steps p.tables e below (s₁.setTop (mkF m 0 #[rv a, iv p1, .unset] [])) t → Steps p.tables e below (s₁.setTop (entryFrame m #[(.ref a), (.int p1)] 3)) t := fun t k => castTop (ef_3 m a p1) k
  obtain ⟨S0, hS0⟩ : ∃ z, z = (s₁.setTop (entryFrame m #[(.ref a), (.int p1)] 3)) := ⟨_, rfl⟩
  rw [← hS0] at pre0
  have K0 : Keep h0 h0 [a] := Keep.refl h0 _
  have pre1 : ∀ t, own_s p e below s₁ m 1 #[rv a, iv p1, .unset] [(.ref a)] t → Steps p.tables e below S0 t := by
    intro tX kX
    refine pre0 _ ?_
    show own_s p e below s₁ m 0 #[rv a, iv p1, .unset] [] _
    refine XS.aloadN X0.here hx rfl (hb hby d3_0) rfl rfl ?_
    exact kX
  obtain ⟨T2, X2, e2, st2⟩ := getF X0 hx hZ hown (host := "") (Or.inl (hw _ (List.mem_of_getElem? (i := 18) rfl))) Via.refl e0 F_re (g := (mkF m 1 #[rv a, iv p1, .unset] [(.ref a)])) rfl rfl (hb hby d3_1)
  have pre3 : ∀ t, own_s p e below T2 m 4 #[rv a, iv p1, .unset] [(.int re)] t → Steps p.tables e below S0 t := fun tX kX => pre1 _ (st2 _ kX)
  have pre4 : ∀ t, own_s p e below T2 m 9 #[rv a, iv p1, .unset] [(.ref a), (.int p1)] t → Steps p.tables e below S0 t := by
    intro tX kX
    refine pre3 _ ?_
    show own_s p e below T2 m 4 #[rv a, iv p1, .unset] [(.int re)] _
    refine XS.ifNo X2.here hx rfl (hb hby d3_4) rfl ((if0 _ _).trans (feq (fun q => absurd (hre.symm.trans q) (by decide))).1) ?_
    show own_s p e below T2 m 7 #[rv a, iv p1, .unset] [] _
    refine XS.iloadN X2.here hx rfl (hb hby d3_7) rfl ?_
    show own_s p e below T2 m 8 #[rv a, iv p1, .unset] [(.int p1)] _
    refine XS.aloadN X2.here hx rfl (hb hby d3_8) rfl rfl ?_
    exact kX
  obtain ⟨T5, X5, e5, st5⟩ := getF X2 hx hZ hown (host := "") (Or.inl (hw _ (List.mem_of_getElem? (i := 26) rfl))) Via.refl e2 F_lo (g := (mkF m 9 #[rv a, iv p1, .unset] [(.ref a), (.int p1)])) rfl rfl (hb hby d3_9)
  have pre6 : ∀ t, own_s p e below T5 m 12 #[rv a, iv p1, .unset] [(.int lo), (.int p1)] t → Steps p.tables e below S0 t := fun tX kX => pre4 _ (st5 _ kX)
  by_cases hc7 : p1 < lo
  · skip
    have ihc7 : (p1).toInt < (lo).toInt := Int32.lt_iff_toInt_lt.mp hc7
    have pre8 : ∀ t, own_s p e below T5 m 103 #[rv a, iv p1, .unset] [(.ref a)] t → Steps p.tables e below S0 t := by
      intro tX kX
      refine pre6 _ ?_
      show own_s p e below T5 m 12 #[rv a, iv p1, .unset] [(.int lo), (.int p1)] _
      refine XS.icmpYes X5.here hx rfl (pc0 := 12) (pc' := 102) rfl (hb hby d3_12) rfl (tlt hc7).1 (by decide) (by decide) ?_
      show own_s p e below T5 m 102 #[rv a, iv p1, .unset] [] _
      refine XS.aloadN X5.here hx rfl (hb hby d3_102) rfl rfl ?_
      exact kX
    obtain ⟨T9, X9, e9, st9⟩ := getF X5 hx hZ hown (host := "") (Or.inl (hw _ (List.mem_of_getElem? (i := 18) rfl))) Via.refl e5 F_re (g := (mkF m 103 #[rv a, iv p1, .unset] [(.ref a)])) rfl rfl (hb hby d3_103)
    have pre10 : ∀ t, own_s p e below T9 m 106 #[rv a, iv p1, .unset] [(.int re)] t → Steps p.tables e below S0 t := fun tX kX => pre8 _ (st9 _ kX)
    have pre11 : ∀ t, own_s p e below T9 m 111 #[rv a, iv p1, .unset] [(.ref a), (.ref a)] t → Steps p.tables e below S0 t := by
      intro tX kX
      refine pre10 _ ?_
      show own_s p e below T9 m 106 #[rv a, iv p1, .unset] [(.int re)] _
      refine XS.ifNo X9.here hx rfl (hb hby d3_106) rfl ((if0 _ _).trans (feq (fun q => absurd (hre.symm.trans q) (by decide))).1) ?_
      show own_s p e below T9 m 109 #[rv a, iv p1, .unset] [] _
      refine XS.aloadN X9.here hx rfl (hb hby d3_109) rfl rfl ?_
      show own_s p e below T9 m 110 #[rv a, iv p1, .unset] [(.ref a)] _
      refine XS.dup X9.here hx rfl (hb hby d3_110) rfl rfl ?_
      exact kX
    obtain ⟨T12, X12, e12, st12⟩ := getF X9 hx hZ hown (host := "") (Or.inl (hw _ (List.mem_of_getElem? (i := 22) rfl))) Via.refl e9 F_ta (g := (mkF m 111 #[rv a, iv p1, .unset] [(.ref a), (.ref a)])) rfl rfl (hb hby d3_111)
    have pre13 : ∀ t, own_s p e below T12 m 114 #[rv a, iv p1, .unset] [(.int ta), (.ref a)] t → Steps p.tables e below S0 t := fun tX kX => pre11 _ (st12 _ kX)
    have pre14 : ∀ t, own_s p e below T12 m 116 #[rv a, iv p1, .unset] [(.int (ta + (1 : Int32))), (.ref a)] t → Steps p.tables e below S0 t := by
      intro tX kX
      refine pre13 _ ?_
      show own_s p e below T12 m 114 #[rv a, iv p1, .unset] [(.int ta), (.ref a)] _
      refine XS.iconst X12.here hx rfl (hb hby d3_114) ?_
      show own_s p e below T12 m 115 #[rv a, iv p1, .unset] [(.int (1 : Int32)), (.int ta), (.ref a)] _
      refine XS.iadd X12.here hx rfl (hb hby d3_115) rfl ?_
      exact kX
    obtain ⟨T15, h15, X15, e15, W15, st15⟩ := putF X12 hx hZ hown (host := "") (Or.inl (hw _ (List.mem_of_getElem? (i := 22) rfl))) Via.refl e12 F_ta E_a (Or.inl (hw _ (List.mem_of_getElem? (i := 23) rfl))) (hw _ (List.mem_of_getElem? (i := 5) rfl)) (ty := .int) (by decide) rfl rfl (g := (mkF m 116 #[rv a, iv p1, .unset] [(.int (ta + (1 : Int32))), (.ref a)])) rfl rfl (hb hby d3_116)
    have pre16 : ∀ t, own_s p e below T15 m 119 #[rv a, iv p1, .unset] [] t → Steps p.tables e below S0 t := fun tX kX => pre14 _ (st15 _ kX)
    obtain ⟨LL17, X17, N17⟩ : ∃ LL, Stand p l e ({ frames := 0, cells := 0, slots := 0, locals := 0 } : Room) s m #[(.ref a), (.int p1)] below meth c T15 LL 0 0 ∧ Fr n0 LL := ⟨_, X15, Fr.snoc X15 N0 g_a⟩
    have f18_E : Exa Z h15 a "com/example/weaverbird/weaverbird/model/xml/Utf8Decoder" := E_a.wr W15
    have f19_F : Fld Z h15 a "com/example/weaverbird/weaverbird/model/xml/Utf8Decoder" "partial" "I" (.int pa) := F_pa.other W15 (Or.inr (slot_ne (Or.inl (hw _ (List.mem_of_getElem? (i := 25) rfl))) (Or.inl (hw _ (List.mem_of_getElem? (i := 23) rfl))) (by decide) (t := .int) (t' := .int) (by decide) (by decide)))
    have f20_F : Fld Z h15 a "com/example/weaverbird/weaverbird/model/xml/Utf8Decoder" "length" "I" (.int le) := F_le.other W15 (Or.inr (slot_ne (Or.inl (hw _ (List.mem_of_getElem? (i := 21) rfl))) (Or.inl (hw _ (List.mem_of_getElem? (i := 23) rfl))) (by decide) (t := .int) (t' := .int) (by decide) (by decide)))
    have f21_F : Fld Z h15 a "com/example/weaverbird/weaverbird/model/xml/Utf8Decoder" "low" "I" (.int lo) := F_lo.other W15 (Or.inr (slot_ne (Or.inl (hw _ (List.mem_of_getElem? (i := 27) rfl))) (Or.inl (hw _ (List.mem_of_getElem? (i := 23) rfl))) (by decide) (t := .int) (t' := .int) (by decide) (by decide)))
    have f22_F : Fld Z h15 a "com/example/weaverbird/weaverbird/model/xml/Utf8Decoder" "high" "I" (.int hi) := F_hi.other W15 (Or.inr (slot_ne (Or.inl (hw _ (List.mem_of_getElem? (i := 29) rfl))) (Or.inl (hw _ (List.mem_of_getElem? (i := 23) rfl))) (by decide) (t := .int) (t' := .int) (by decide) (by decide)))
    have f23_F : Fld Z h15 a "com/example/weaverbird/weaverbird/model/xml/Utf8Decoder" "reading" "Z" (.int re) := F_re.other W15 (Or.inr (slot_ne (Or.inl (hw _ (List.mem_of_getElem? (i := 19) rfl))) (Or.inl (hw _ (List.mem_of_getElem? (i := 23) rfl))) (by decide) (t := .boolean) (t' := .int) (by decide) (by decide)))
    have Z24 : n0 ≤ h15.size := Nat.le_trans Z0 (Keep.of_wr W15).1
    have K25 : Keep h0 h15 [a] := K0.wr W15 (Or.inl (List.mem_of_getElem? (i := 0) rfl))
    have f26_F : Fld Z h15 a "com/example/weaverbird/weaverbird/model/xml/Utf8Decoder" "taken" "I" (.int (ta + (1 : Int32))) := F_ta.same W15
    have pre27 : ∀ t, own_s p e below T15 m 121 #[rv a, iv p1, .unset] [(.int (0 : Int32)), (.ref a)] t → Steps p.tables e below S0 t := by
      intro tX kX
      refine pre16 _ ?_
      show own_s p e below T15 m 119 #[rv a, iv p1, .unset] [] _
      refine XS.aloadN X17.here hx rfl (hb hby d3_119) rfl rfl ?_
      show own_s p e below T15 m 120 #[rv a, iv p1, .unset] [(.ref a)] _
      refine XS.iconst X17.here hx rfl (hb hby d3_120) ?_
      exact kX
    obtain ⟨T28, h28, X28, e28, W28, st28⟩ := putFN X17 hx hZ hown (hw _ (List.mem_of_getElem? (i := 18) rfl)) Via.refl e15 f23_F f18_E (Or.inl (hw _ (List.mem_of_getElem? (i := 19) rfl))) (hw _ (List.mem_of_getElem? (i := 5) rfl)) (ty := .boolean) (v' := (.int (0 : Int32))) (by decide) rfl rfl (g := (mkF m 121 #[rv a, iv p1, .unset] [(.int (0 : Int32)), (.ref a)])) rfl rfl (hb hby d3_121)
    have pre29 : ∀ t, own_s p e below T28 m 124 #[rv a, iv p1, .unset] [] t → Steps p.tables e below S0 t := fun tX kX => pre27 _ (st28 _ kX)
    obtain ⟨LL30, X30, N30⟩ : ∃ LL, Stand p l e ({ frames := 0, cells := 0, slots := 0, locals := 0 } : Room) s m #[(.ref a), (.int p1)] below meth c T28 LL 0 0 ∧ Fr n0 LL := ⟨_, X28, Fr.snoc X28 N17 g_a⟩
    have f31_E : Exa Z h28 a "com/example/weaverbird/weaverbird/model/xml/Utf8Decoder" := f18_E.wr W28
    have f32_F : Fld Z h28 a "com/example/weaverbird/weaverbird/model/xml/Utf8Decoder" "partial" "I" (.int pa) := f19_F.other W28 (Or.inr (slot_ne (Or.inl (hw _ (List.mem_of_getElem? (i := 25) rfl))) (Or.inl (hw _ (List.mem_of_getElem? (i := 19) rfl))) (by decide) (t := .int) (t' := .boolean) (by decide) (by decide)))
    have f33_F : Fld Z h28 a "com/example/weaverbird/weaverbird/model/xml/Utf8Decoder" "length" "I" (.int le) := f20_F.other W28 (Or.inr (slot_ne (Or.inl (hw _ (List.mem_of_getElem? (i := 21) rfl))) (Or.inl (hw _ (List.mem_of_getElem? (i := 19) rfl))) (by decide) (t := .int) (t' := .boolean) (by decide) (by decide)))
    have f34_F : Fld Z h28 a "com/example/weaverbird/weaverbird/model/xml/Utf8Decoder" "low" "I" (.int lo) := f21_F.other W28 (Or.inr (slot_ne (Or.inl (hw _ (List.mem_of_getElem? (i := 27) rfl))) (Or.inl (hw _ (List.mem_of_getElem? (i := 19) rfl))) (by decide) (t := .int) (t' := .boolean) (by decide) (by decide)))
    have f35_F : Fld Z h28 a "com/example/weaverbird/weaverbird/model/xml/Utf8Decoder" "high" "I" (.int hi) := f22_F.other W28 (Or.inr (slot_ne (Or.inl (hw _ (List.mem_of_getElem? (i := 29) rfl))) (Or.inl (hw _ (List.mem_of_getElem? (i := 19) rfl))) (by decide) (t := .int) (t' := .boolean) (by decide) (by decide)))
    have f36_F : Fld Z h28 a "com/example/weaverbird/weaverbird/model/xml/Utf8Decoder" "taken" "I" (.int (ta + (1 : Int32))) := f26_F.other W28 (Or.inr (slot_ne (Or.inl (hw _ (List.mem_of_getElem? (i := 23) rfl))) (Or.inl (hw _ (List.mem_of_getElem? (i := 19) rfl))) (by decide) (t := .int) (t' := .boolean) (by decide) (by decide)))
    have Z37 : n0 ≤ h28.size := Nat.le_trans Z24 (Keep.of_wr W28).1
    have K38 : Keep h0 h28 [a] := K25.wr W28 (Or.inl (List.mem_of_getElem? (i := 0) rfl))
    have f39_F : Fld Z h28 a "com/example/weaverbird/weaverbird/model/xml/Utf8Decoder" "reading" "Z" (.int (0 : Int32)) := f23_F.same W28
    have pre40 : ∀ t, own_s p e below T28 m 304 #[rv a, iv p1, iv (-3 : Int32)] [(.int (-3 : Int32))] t → Steps p.tables e below S0 t := by
      intro tX kX
      refine pre29 _ ?_
      show own_s p e below T28 m 124 #[rv a, iv p1, .unset] [] _
      refine XS.bipush X30.here hx rfl (hb hby d3_124) ?_
      show own_s p e below T28 m 126 #[rv a, iv p1, .unset] [(.int (-3 : Int32))] _
      refine XS.istoreN X30.here hx rfl (hb hby d3_126) rfl (l' := #[rv a, iv p1, iv (-3 : Int32)]) rfl ?_
      show own_s p e below T28 m 127 #[rv a, iv p1, iv (-3 : Int32)] [] _
      refine XS.goto X30.here hx rfl (pc0 := 127) (pc' := 303) rfl (hb hby d3_127) (by decide) (by decide) ?_
      show own_s p e below T28 m 303 #[rv a, iv p1, iv (-3 : Int32)] [] _
      refine XS.iloadN X30.here hx rfl (hb hby d3_303) rfl ?_
      exact kX
    subst hS0
    obtain ⟨fs, hr, hrun, hended, hW, hsame⟩ := X30.leave (v := (some (.int (-3 : Int32)))) (fun h => by rw [Bd.returns] at h; cases h)
    refine ⟨_, _, pre40 _ (retI X30 hx Bd.returns (hb hby d3_304) hr), hrun, hended, _, _, rfl, ?_, ⟨_, rfl⟩, hW, hsame.mono (by decide) (by decide)⟩
    show Q3 Z a p1 pa le ta lo hi re h0 n0 (some (.int (-3 : Int32))) T28.heap _
    rw [e28]
    refine ⟨(-3 : Int32), pa, le, (ta + (1 : Int32)), lo, hi, (0 : Int32), rfl, N30, K38, f31_E, f32_F, f33_F, f36_F, f34_F, f35_F, f39_F, rfl, ?_⟩
    have ct := own_cat pa p1 hp0 hp1
    have d1 := c_iadd ta 1
    have d2 := rng32 (ta + 1)
    have d3 : (1 : Int32).toInt = 1 := rfl
    show own_T1 p1.toInt (-3 : Int) pa.toInt (pa).toInt le.toInt ta.toInt ((ta + (1 : Int32))).toInt lo.toInt hi.toInt (lo).toInt (hi).toInt (0 : Int)
    unfold own_T1
    omega
  · skip
    have ihc7 : ¬ ((p1).toInt < (lo).toInt) := fun q => hc7 (Int32.lt_iff_toInt_lt.mpr q)
    have pre41 : ∀ t, own_s p e below T5 m 17 #[rv a, iv p1, .unset] [(.ref a), (.int p1)] t → Steps p.tables e below S0 t := by
      intro tX kX
      refine pre6 _ ?_
      show own_s p e below T5 m 12 #[rv a, iv p1, .unset] [(.int lo), (.int p1)] _
      refine XS.icmpNo X5.here hx rfl (hb hby d3_12) rfl (flt hc7).1 ?_
      show own_s p e below T5 m 15 #[rv a, iv p1, .unset] [] _
      refine XS.iloadN X5.here hx rfl (hb hby d3_15) rfl ?_
      show own_s p e below T5 m 16 #[rv a, iv p1, .unset] [(.int p1)] _
      refine XS.aloadN X5.here hx rfl (hb hby d3_16) rfl rfl ?_
      exact kX
    obtain ⟨T42, X42, e42, st42⟩ := getF X5 hx hZ hown (host := "") (Or.inl (hw _ (List.mem_of_getElem? (i := 28) rfl))) Via.refl e5 F_hi (g := (mkF m 17 #[rv a, iv p1, .unset] [(.ref a), (.int p1)])) rfl rfl (hb hby d3_17)
    have pre43 : ∀ t, own_s p e below T42 m 20 #[rv a, iv p1, .unset] [(.int hi), (.int p1)] t → Steps p.tables e below S0 t := fun tX kX => pre41 _ (st42 _ kX)
    by_cases hc44 : hi < p1
    · skip
      have ihc44 : (hi).toInt < (p1).toInt := Int32.lt_iff_toInt_lt.mp hc44
      have pre45 : ∀ t, own_s p e below T42 m 103 #[rv a, iv p1, .unset] [(.ref a)] t → Steps p.tables e below S0 t := by
        intro tX kX
        refine pre43 _ ?_
        show own_s p e below T42 m 20 #[rv a, iv p1, .unset] [(.int hi), (.int p1)] _
        refine XS.icmpYes X42.here hx rfl (pc0 := 20) (pc' := 102) rfl (hb hby d3_20) rfl (tlt hc44).2.2.1 (by decide) (by decide) ?_
        show own_s p e below T42 m 102 #[rv a, iv p1, .unset] [] _
        refine XS.aloadN X42.here hx rfl (hb hby d3_102) rfl rfl ?_
        exact kX
      obtain ⟨T46, X46, e46, st46⟩ := getF X42 hx hZ hown (host := "") (Or.inl (hw _ (List.mem_of_getElem? (i := 18) rfl))) Via.refl e42 F_re (g := (mkF m 103 #[rv a, iv p1, .unset] [(.ref a)])) rfl rfl (hb hby d3_103)
      have pre47 : ∀ t, own_s p e below T46 m 106 #[rv a, iv p1, .unset] [(.int re)] t → Steps p.tables e below S0 t := fun tX kX => pre45 _ (st46 _ kX)
      have pre48 : ∀ t, own_s p e below T46 m 111 #[rv a, iv p1, .unset] [(.ref a), (.ref a)] t → Steps p.tables e below S0 t := by
        intro tX kX
        refine pre47 _ ?_
        show own_s p e below T46 m 106 #[rv a, iv p1, .unset] [(.int re)] _
        refine XS.ifNo X46.here hx rfl (hb hby d3_106) rfl ((if0 _ _).trans (feq (fun q => absurd (hre.symm.trans q) (by decide))).1) ?_
        show own_s p e below T46 m 109 #[rv a, iv p1, .unset] [] _
        refine XS.aloadN X46.here hx rfl (hb hby d3_109) rfl rfl ?_
        show own_s p e below T46 m 110 #[rv a, iv p1, .unset] [(.ref a)] _
        refine XS.dup X46.here hx rfl (hb hby d3_110) rfl rfl ?_
        exact kX
      obtain ⟨T49, X49, e49, st49⟩ := getF X46 hx hZ hown (host := "") (Or.inl (hw _ (List.mem_of_getElem? (i := 22) rfl))) Via.refl e46 F_ta (g := (mkF m 111 #[rv a, iv p1, .unset] [(.ref a), (.ref a)])) rfl rfl (hb hby d3_111)
      have pre50 : ∀ t, own_s p e below T49 m 114 #[rv a, iv p1, .unset] [(.int ta), (.ref a)] t → Steps p.tables e below S0 t := fun tX kX => pre48 _ (st49 _ kX)
      have pre51 : ∀ t, own_s p e below T49 m 116 #[rv a, iv p1, .unset] [(.int (ta + (1 : Int32))), (.ref a)] t → Steps p.tables e below S0 t := by
        intro tX kX
        refine pre50 _ ?_
        show own_s p e below T49 m 114 #[rv a, iv p1, .unset] [(.int ta), (.ref a)] _
        refine XS.iconst X49.here hx rfl (hb hby d3_114) ?_
        show own_s p e below T49 m 115 #[rv a, iv p1, .unset] [(.int (1 : Int32)), (.int ta), (.ref a)] _
        refine XS.iadd X49.here hx rfl (hb hby d3_115) rfl ?_
        exact kX
      obtain ⟨T52, h52, X52, e52, W52, st52⟩ := putF X49 hx hZ hown (host := "") (Or.inl (hw _ (List.mem_of_getElem? (i := 22) rfl))) Via.refl e49 F_ta E_a (Or.inl (hw _ (List.mem_of_getElem? (i := 23) rfl))) (hw _ (List.mem_of_getElem? (i := 5) rfl)) (ty := .int) (by decide) rfl rfl (g := (mkF m 116 #[rv a, iv p1, .unset] [(.int (ta + (1 : Int32))), (.ref a)])) rfl rfl (hb hby d3_116)
      have pre53 : ∀ t, own_s p e below T52 m 119 #[rv a, iv p1, .unset] [] t → Steps p.tables e below S0 t := fun tX kX => pre51 _ (st52 _ kX)
      obtain ⟨LL54, X54, N54⟩ : ∃ LL, Stand p l e ({ frames := 0, cells := 0, slots := 0, locals := 0 } : Room) s m #[(.ref a), (.int p1)] below meth c T52 LL 0 0 ∧ Fr n0 LL := ⟨_, X52, Fr.snoc X52 N0 g_a⟩
      have f55_E : Exa Z h52 a "com/example/weaverbird/weaverbird/model/xml/Utf8Decoder" := E_a.wr W52
      have f56_F : Fld Z h52 a "com/example/weaverbird/weaverbird/model/xml/Utf8Decoder" "partial" "I" (.int pa) := F_pa.other W52 (Or.inr (slot_ne (Or.inl (hw _ (List.mem_of_getElem? (i := 25) rfl))) (Or.inl (hw _ (List.mem_of_getElem? (i := 23) rfl))) (by decide) (t := .int) (t' := .int) (by decide) (by decide)))
      have f57_F : Fld Z h52 a "com/example/weaverbird/weaverbird/model/xml/Utf8Decoder" "length" "I" (.int le) := F_le.other W52 (Or.inr (slot_ne (Or.inl (hw _ (List.mem_of_getElem? (i := 21) rfl))) (Or.inl (hw _ (List.mem_of_getElem? (i := 23) rfl))) (by decide) (t := .int) (t' := .int) (by decide) (by decide)))
      have f58_F : Fld Z h52 a "com/example/weaverbird/weaverbird/model/xml/Utf8Decoder" "low" "I" (.int lo) := F_lo.other W52 (Or.inr (slot_ne (Or.inl (hw _ (List.mem_of_getElem? (i := 27) rfl))) (Or.inl (hw _ (List.mem_of_getElem? (i := 23) rfl))) (by decide) (t := .int) (t' := .int) (by decide) (by decide)))
      have f59_F : Fld Z h52 a "com/example/weaverbird/weaverbird/model/xml/Utf8Decoder" "high" "I" (.int hi) := F_hi.other W52 (Or.inr (slot_ne (Or.inl (hw _ (List.mem_of_getElem? (i := 29) rfl))) (Or.inl (hw _ (List.mem_of_getElem? (i := 23) rfl))) (by decide) (t := .int) (t' := .int) (by decide) (by decide)))
      have f60_F : Fld Z h52 a "com/example/weaverbird/weaverbird/model/xml/Utf8Decoder" "reading" "Z" (.int re) := F_re.other W52 (Or.inr (slot_ne (Or.inl (hw _ (List.mem_of_getElem? (i := 19) rfl))) (Or.inl (hw _ (List.mem_of_getElem? (i := 23) rfl))) (by decide) (t := .boolean) (t' := .int) (by decide) (by decide)))
      have Z61 : n0 ≤ h52.size := Nat.le_trans Z0 (Keep.of_wr W52).1
      have K62 : Keep h0 h52 [a] := K0.wr W52 (Or.inl (List.mem_of_getElem? (i := 0) rfl))
      have f63_F : Fld Z h52 a "com/example/weaverbird/weaverbird/model/xml/Utf8Decoder" "taken" "I" (.int (ta + (1 : Int32))) := F_ta.same W52
      have pre64 : ∀ t, own_s p e below T52 m 121 #[rv a, iv p1, .unset] [(.int (0 : Int32)), (.ref a)] t → Steps p.tables e below S0 t := by
        intro tX kX
        refine pre53 _ ?_
        show own_s p e below T52 m 119 #[rv a, iv p1, .unset] [] _
        refine XS.aloadN X54.here hx rfl (hb hby d3_119) rfl rfl ?_
        show own_s p e below T52 m 120 #[rv a, iv p1, .unset] [(.ref a)] _
        refine XS.iconst X54.here hx rfl (hb hby d3_120) ?_
        exact kX
      obtain ⟨T65, h65, X65, e65, W65, st65⟩ := putFN X54 hx hZ hown (hw _ (List.mem_of_getElem? (i := 18) rfl)) Via.refl e52 f60_F f55_E (Or.inl (hw _ (List.mem_of_getElem? (i := 19) rfl))) (hw _ (List.mem_of_getElem? (i := 5) rfl)) (ty := .boolean) (v' := (.int (0 : Int32))) (by decide) rfl rfl (g := (mkF m 121 #[rv a, iv p1, .unset] [(.int (0 : Int32)), (.ref a)])) rfl rfl (hb hby d3_121)
      have pre66 : ∀ t, own_s p e below T65 m 124 #[rv a, iv p1, .unset] [] t → Steps p.tables e below S0 t := fun tX kX => pre64 _ (st65 _ kX)
      obtain ⟨LL67, X67, N67⟩ : ∃ LL, Stand p l e ({ frames := 0, cells := 0, slots := 0, locals := 0 } : Room) s m #[(.ref a), (.int p1)] below meth c T65 LL 0 0 ∧ Fr n0 LL := ⟨_, X65, Fr.snoc X65 N54 g_a⟩
      have f68_E : Exa Z h65 a "com/example/weaverbird/weaverbird/model/xml/Utf8Decoder" := f55_E.wr W65
      have f69_F : Fld Z h65 a "com/example/weaverbird/weaverbird/model/xml/Utf8Decoder" "partial" "I" (.int pa) := f56_F.other W65 (Or.inr (slot_ne (Or.inl (hw _ (List.mem_of_getElem? (i := 25) rfl))) (Or.inl (hw _ (List.mem_of_getElem? (i := 19) rfl))) (by decide) (t := .int) (t' := .boolean) (by decide) (by decide)))
      have f70_F : Fld Z h65 a "com/example/weaverbird/weaverbird/model/xml/Utf8Decoder" "length" "I" (.int le) := f57_F.other W65 (Or.inr (slot_ne (Or.inl (hw _ (List.mem_of_getElem? (i := 21) rfl))) (Or.inl (hw _ (List.mem_of_getElem? (i := 19) rfl))) (by decide) (t := .int) (t' := .boolean) (by decide) (by decide)))
      have f71_F : Fld Z h65 a "com/example/weaverbird/weaverbird/model/xml/Utf8Decoder" "low" "I" (.int lo) := f58_F.other W65 (Or.inr (slot_ne (Or.inl (hw _ (List.mem_of_getElem? (i := 27) rfl))) (Or.inl (hw _ (List.mem_of_getElem? (i := 19) rfl))) (by decide) (t := .int) (t' := .boolean) (by decide) (by decide)))
      have f72_F : Fld Z h65 a "com/example/weaverbird/weaverbird/model/xml/Utf8Decoder" "high" "I" (.int hi) := f59_F.other W65 (Or.inr (slot_ne (Or.inl (hw _ (List.mem_of_getElem? (i := 29) rfl))) (Or.inl (hw _ (List.mem_of_getElem? (i := 19) rfl))) (by decide) (t := .int) (t' := .boolean) (by decide) (by decide)))
      have f73_F : Fld Z h65 a "com/example/weaverbird/weaverbird/model/xml/Utf8Decoder" "taken" "I" (.int (ta + (1 : Int32))) := f63_F.other W65 (Or.inr (slot_ne (Or.inl (hw _ (List.mem_of_getElem? (i := 23) rfl))) (Or.inl (hw _ (List.mem_of_getElem? (i := 19) rfl))) (by decide) (t := .int) (t' := .boolean) (by decide) (by decide)))
      have Z74 : n0 ≤ h65.size := Nat.le_trans Z61 (Keep.of_wr W65).1
      have K75 : Keep h0 h65 [a] := K62.wr W65 (Or.inl (List.mem_of_getElem? (i := 0) rfl))
      have f76_F : Fld Z h65 a "com/example/weaverbird/weaverbird/model/xml/Utf8Decoder" "reading" "Z" (.int (0 : Int32)) := f60_F.same W65
      have pre77 : ∀ t, own_s p e below T65 m 304 #[rv a, iv p1, iv (-3 : Int32)] [(.int (-3 : Int32))] t → Steps p.tables e below S0 t := by
        intro tX kX
        refine pre66 _ ?_
        show own_s p e below T65 m 124 #[rv a, iv p1, .unset] [] _
        refine XS.bipush X67.here hx rfl (hb hby d3_124) ?_
        show own_s p e below T65 m 126 #[rv a, iv p1, .unset] [(.int (-3 : Int32))] _
        refine XS.istoreN X67.here hx rfl (hb hby d3_126) rfl (l' := #[rv a, iv p1, iv (-3 : Int32)]) rfl ?_
        show own_s p e below T65 m 127 #[rv a, iv p1, iv (-3 : Int32)] [] _
        refine XS.goto X67.here hx rfl (pc0 := 127) (pc' := 303) rfl (hb hby d3_127) (by decide) (by decide) ?_
        show own_s p e below T65 m 303 #[rv a, iv p1, iv (-3 : Int32)] [] _
        refine XS.iloadN X67.here hx rfl (hb hby d3_303) rfl ?_
        exact kX
      subst hS0
      obtain ⟨fs, hr, hrun, hended, hW, hsame⟩ := X67.leave (v := (some (.int (-3 : Int32)))) (fun h => by rw [Bd.returns] at h; cases h)
      refine ⟨_, _, pre77 _ (retI X67 hx Bd.returns (hb hby d3_304) hr), hrun, hended, _, _, rfl, ?_, ⟨_, rfl⟩, hW, hsame.mono (by decide) (by decide)⟩
      show Q3 Z a p1 pa le ta lo hi re h0 n0 (some (.int (-3 : Int32))) T65.heap _
      rw [e65]
      refine ⟨(-3 : Int32), pa, le, (ta + (1 : Int32)), lo, hi, (0 : Int32), rfl, N67, K75, f68_E, f69_F, f70_F, f73_F, f71_F, f72_F, f76_F, rfl, ?_⟩
      have ct := own_cat pa p1 hp0 hp1
      have d1 := c_iadd ta 1
      have d2 := rng32 (ta + 1)
      have d3 : (1 : Int32).toInt = 1 := rfl
      show own_T1 p1.toInt (-3 : Int) pa.toInt (pa).toInt le.toInt ta.toInt ((ta + (1 : Int32))).toInt lo.toInt hi.toInt (lo).toInt (hi).toInt (0 : Int)
      unfold own_T1
      omega
    · skip
      have ihc44 : ¬ ((hi).toInt < (p1).toInt) := fun q => hc44 (Int32.lt_iff_toInt_lt.mpr q)
      have pre78 : ∀ t, own_s p e below T42 m 25 #[rv a, iv p1, .unset] [(.ref a), (.ref a)] t → Steps p.tables e below S0 t := by
        intro tX kX
        refine pre43 _ ?_
        show own_s p e below T42 m 20 #[rv a, iv p1, .unset] [(.int hi), (.int p1)] _
        refine XS.icmpNo X42.here hx rfl (hb hby d3_20) rfl (flt hc44).2.2.1 ?_
        show own_s p e below T42 m 23 #[rv a, iv p1, .unset] [] _
        refine XS.aloadN X42.here hx rfl (hb hby d3_23) rfl rfl ?_
        show own_s p e below T42 m 24 #[rv a, iv p1, .unset] [(.ref a)] _
        refine XS.aloadN X42.here hx rfl (hb hby d3_24) rfl rfl ?_
        exact kX
      obtain ⟨T79, X79, e79, st79⟩ := getF X42 hx hZ hown (host := "") (Or.inl (hw _ (List.mem_of_getElem? (i := 24) rfl))) Via.refl e42 F_pa (g := (mkF m 25 #[rv a, iv p1, .unset] [(.ref a), (.ref a)])) rfl rfl (hb hby d3_25)
      have pre80 : ∀ t, own_s p e below T79 m 28 #[rv a, iv p1, .unset] [(.int pa), (.ref a)] t → Steps p.tables e below S0 t := fun tX kX => pre78 _ (st79 _ kX)
      have pre81 : ∀ t, own_s p e below T79 m 36 #[rv a, iv p1, .unset] [(.int ((pa <<< ((6 : Int32) &&& 31)) ||| (p1 &&& (63 : Int32)))), (.ref a)] t → Steps p.tables e below S0 t := by
        intro tX kX
        refine pre80 _ ?_
        show own_s p e below T79 m 28 #[rv a, iv p1, .unset] [(.int pa), (.ref a)] _
        refine XS.bipush X79.here hx rfl (hb hby d3_28) ?_
        show own_s p e below T79 m 30 #[rv a, iv p1, .unset] [(.int (6 : Int32)), (.int pa), (.ref a)] _
        refine XS.ishl X79.here hx rfl (hb hby d3_30) rfl ?_
        show own_s p e below T79 m 31 #[rv a, iv p1, .unset] [(.int (pa <<< ((6 : Int32) &&& 31))), (.ref a)] _
        refine XS.iloadN X79.here hx rfl (hb hby d3_31) rfl ?_
        show own_s p e below T79 m 32 #[rv a, iv p1, .unset] [(.int p1), (.int (pa <<< ((6 : Int32) &&& 31))), (.ref a)] _
        refine XS.bipush X79.here hx rfl (hb hby d3_32) ?_
        show own_s p e below T79 m 34 #[rv a, iv p1, .unset] [(.int (63 : Int32)), (.int p1), (.int (pa <<< ((6 : Int32) &&& 31))), (.ref a)] _
        refine XS.iand X79.here hx rfl (hb hby d3_34) rfl ?_
        show own_s p e below T79 m 35 #[rv a, iv p1, .unset] [(.int (p1 &&& (63 : Int32))), (.int (pa <<< ((6 : Int32) &&& 31))), (.ref a)] _
        refine XS.ior X79.here hx rfl (hb hby d3_35) rfl ?_
        exact kX
      obtain ⟨T82, h82, X82, e82, W82, st82⟩ := putF X79 hx hZ hown (host := "") (Or.inl (hw _ (List.mem_of_getElem? (i := 24) rfl))) Via.refl e79 F_pa E_a (Or.inl (hw _ (List.mem_of_getElem? (i := 25) rfl))) (hw _ (List.mem_of_getElem? (i := 5) rfl)) (ty := .int) (by decide) rfl rfl (g := (mkF m 36 #[rv a, iv p1, .unset] [(.int ((pa <<< ((6 : Int32) &&& 31)) ||| (p1 &&& (63 : Int32)))), (.ref a)])) rfl rfl (hb hby d3_36)
      have pre83 : ∀ t, own_s p e below T82 m 39 #[rv a, iv p1, .unset] [] t → Steps p.tables e below S0 t := fun tX kX => pre81 _ (st82 _ kX)
      obtain ⟨LL84, X84, N84⟩ : ∃ LL, Stand p l e ({ frames := 0, cells := 0, slots := 0, locals := 0 } : Room) s m #[(.ref a), (.int p1)] below meth c T82 LL 0 0 ∧ Fr n0 LL := ⟨_, X82, Fr.snoc X82 N0 g_a⟩
      have f85_E : Exa Z h82 a "com/example/weaverbird/weaverbird/model/xml/Utf8Decoder" := E_a.wr W82
      have f86_F : Fld Z h82 a "com/example/weaverbird/weaverbird/model/xml/Utf8Decoder" "length" "I" (.int le) := F_le.other W82 (Or.inr (slot_ne (Or.inl (hw _ (List.mem_of_getElem? (i := 21) rfl))) (Or.inl (hw _ (List.mem_of_getElem? (i := 25) rfl))) (by decide) (t := .int) (t' := .int) (by decide) (by decide)))
      have f87_F : Fld Z h82 a "com/example/weaverbird/weaverbird/model/xml/Utf8Decoder" "taken" "I" (.int ta) := F_ta.other W82 (Or.inr (slot_ne (Or.inl (hw _ (List.mem_of_getElem? (i := 23) rfl))) (Or.inl (hw _ (List.mem_of_getElem? (i := 25) rfl))) (by decide) (t := .int) (t' := .int) (by decide) (by decide)))
      have f88_F : Fld Z h82 a "com/example/weaverbird/weaverbird/model/xml/Utf8Decoder" "low" "I" (.int lo) := F_lo.other W82 (Or.inr (slot_ne (Or.inl (hw _ (List.mem_of_getElem? (i := 27) rfl))) (Or.inl (hw _ (List.mem_of_getElem? (i := 25) rfl))) (by decide) (t := .int) (t' := .int) (by decide) (by decide)))
      have f89_F : Fld Z h82 a "com/example/weaverbird/weaverbird/model/xml/Utf8Decoder" "high" "I" (.int hi) := F_hi.other W82 (Or.inr (slot_ne (Or.inl (hw _ (List.mem_of_getElem? (i := 29) rfl))) (Or.inl (hw _ (List.mem_of_getElem? (i := 25) rfl))) (by decide) (t := .int) (t' := .int) (by decide) (by decide)))
      have f90_F : Fld Z h82 a "com/example/weaverbird/weaverbird/model/xml/Utf8Decoder" "reading" "Z" (.int re) := F_re.other W82 (Or.inr (slot_ne (Or.inl (hw _ (List.mem_of_getElem? (i := 19) rfl))) (Or.inl (hw _ (List.mem_of_getElem? (i := 25) rfl))) (by decide) (t := .boolean) (t' := .int) (by decide) (by decide)))
      have Z91 : n0 ≤ h82.size := Nat.le_trans Z0 (Keep.of_wr W82).1
      have K92 : Keep h0 h82 [a] := K0.wr W82 (Or.inl (List.mem_of_getElem? (i := 0) rfl))
      have f93_F : Fld Z h82 a "com/example/weaverbird/weaverbird/model/xml/Utf8Decoder" "partial" "I" (.int ((pa <<< ((6 : Int32) &&& 31)) ||| (p1 &&& (63 : Int32)))) := F_pa.same W82
      have pre94 : ∀ t, own_s p e below T82 m 41 #[rv a, iv p1, .unset] [(.ref a), (.ref a)] t → Steps p.tables e below S0 t := by
        intro tX kX
        refine pre83 _ ?_
        show own_s p e below T82 m 39 #[rv a, iv p1, .unset] [] _
        refine XS.aloadN X84.here hx rfl (hb hby d3_39) rfl rfl ?_
        show own_s p e below T82 m 40 #[rv a, iv p1, .unset] [(.ref a)] _
        refine XS.dup X84.here hx rfl (hb hby d3_40) rfl rfl ?_
        exact kX
      obtain ⟨T95, X95, e95, st95⟩ := getF X84 hx hZ hown (host := "") (Or.inl (hw _ (List.mem_of_getElem? (i := 22) rfl))) Via.refl e82 f87_F (g := (mkF m 41 #[rv a, iv p1, .unset] [(.ref a), (.ref a)])) rfl rfl (hb hby d3_41)
      have pre96 : ∀ t, own_s p e below T95 m 44 #[rv a, iv p1, .unset] [(.int ta), (.ref a)] t → Steps p.tables e below S0 t := fun tX kX => pre94 _ (st95 _ kX)
      have pre97 : ∀ t, own_s p e below T95 m 46 #[rv a, iv p1, .unset] [(.int (ta + (1 : Int32))), (.ref a)] t → Steps p.tables e below S0 t := by
        intro tX kX
        refine pre96 _ ?_
        show own_s p e below T95 m 44 #[rv a, iv p1, .unset] [(.int ta), (.ref a)] _
        refine XS.iconst X95.here hx rfl (hb hby d3_44) ?_
        show own_s p e below T95 m 45 #[rv a, iv p1, .unset] [(.int (1 : Int32)), (.int ta), (.ref a)] _
        refine XS.iadd X95.here hx rfl (hb hby d3_45) rfl ?_
        exact kX
      obtain ⟨T98, h98, X98, e98, W98, st98⟩ := putF X95 hx hZ hown (host := "") (Or.inl (hw _ (List.mem_of_getElem? (i := 22) rfl))) Via.refl e95 f87_F f85_E (Or.inl (hw _ (List.mem_of_getElem? (i := 23) rfl))) (hw _ (List.mem_of_getElem? (i := 5) rfl)) (ty := .int) (by decide) rfl rfl (g := (mkF m 46 #[rv a, iv p1, .unset] [(.int (ta + (1 : Int32))), (.ref a)])) rfl rfl (hb hby d3_46)
      have pre99 : ∀ t, own_s p e below T98 m 49 #[rv a, iv p1, .unset] [] t → Steps p.tables e below S0 t := fun tX kX => pre97 _ (st98 _ kX)
      obtain ⟨LL100, X100, N100⟩ : ∃ LL, Stand p l e ({ frames := 0, cells := 0, slots := 0, locals := 0 } : Room) s m #[(.ref a), (.int p1)] below meth c T98 LL 0 0 ∧ Fr n0 LL := ⟨_, X98, Fr.snoc X98 N84 g_a⟩
      have f101_E : Exa Z h98 a "com/example/weaverbird/weaverbird/model/xml/Utf8Decoder" := f85_E.wr W98
      have f102_F : Fld Z h98 a "com/example/weaverbird/weaverbird/model/xml/Utf8Decoder" "length" "I" (.int le) := f86_F.other W98 (Or.inr (slot_ne (Or.inl (hw _ (List.mem_of_getElem? (i := 21) rfl))) (Or.inl (hw _ (List.mem_of_getElem? (i := 23) rfl))) (by decide) (t := .int) (t' := .int) (by decide) (by decide)))
      have f103_F : Fld Z h98 a "com/example/weaverbird/weaverbird/model/xml/Utf8Decoder" "low" "I" (.int lo) := f88_F.other W98 (Or.inr (slot_ne (Or.inl (hw _ (List.mem_of_getElem? (i := 27) rfl))) (Or.inl (hw _ (List.mem_of_getElem? (i := 23) rfl))) (by decide) (t := .int) (t' := .int) (by decide) (by decide)))
      have f104_F : Fld Z h98 a "com/example/weaverbird/weaverbird/model/xml/Utf8Decoder" "high" "I" (.int hi) := f89_F.other W98 (Or.inr (slot_ne (Or.inl (hw _ (List.mem_of_getElem? (i := 29) rfl))) (Or.inl (hw _ (List.mem_of_getElem? (i := 23) rfl))) (by decide) (t := .int) (t' := .int) (by decide) (by decide)))
      have f105_F : Fld Z h98 a "com/example/weaverbird/weaverbird/model/xml/Utf8Decoder" "reading" "Z" (.int re) := f90_F.other W98 (Or.inr (slot_ne (Or.inl (hw _ (List.mem_of_getElem? (i := 19) rfl))) (Or.inl (hw _ (List.mem_of_getElem? (i := 23) rfl))) (by decide) (t := .boolean) (t' := .int) (by decide) (by decide)))
      have f106_F : Fld Z h98 a "com/example/weaverbird/weaverbird/model/xml/Utf8Decoder" "partial" "I" (.int ((pa <<< ((6 : Int32) &&& 31)) ||| (p1 &&& (63 : Int32)))) := f93_F.other W98 (Or.inr (slot_ne (Or.inl (hw _ (List.mem_of_getElem? (i := 25) rfl))) (Or.inl (hw _ (List.mem_of_getElem? (i := 23) rfl))) (by decide) (t := .int) (t' := .int) (by decide) (by decide)))
      have Z107 : n0 ≤ h98.size := Nat.le_trans Z91 (Keep.of_wr W98).1
      have K108 : Keep h0 h98 [a] := K92.wr W98 (Or.inl (List.mem_of_getElem? (i := 0) rfl))
      have f109_F : Fld Z h98 a "com/example/weaverbird/weaverbird/model/xml/Utf8Decoder" "taken" "I" (.int (ta + (1 : Int32))) := f87_F.same W98
      have pre110 : ∀ t, own_s p e below T98 m 51 #[rv a, iv p1, .unset] [(.ref a), (.ref a)] t → Steps p.tables e below S0 t := by
        intro tX kX
        refine pre99 _ ?_
        show own_s p e below T98 m 49 #[rv a, iv p1, .unset] [] _
        refine XS.aloadN X100.here hx rfl (hb hby d3_49) rfl rfl ?_
        show own_s p e below T98 m 50 #[rv a, iv p1, .unset] [(.ref a)] _
        refine XS.aloadN X100.here hx rfl (hb hby d3_50) rfl rfl ?_
        exact kX
      obtain ⟨T111, X111, e111, st111⟩ := getF X100 hx hZ hown (host := "") (Or.inl (hw _ (List.mem_of_getElem? (i := 22) rfl))) Via.refl e98 f109_F (g := (mkF m 51 #[rv a, iv p1, .unset] [(.ref a), (.ref a)])) rfl rfl (hb hby d3_51)
      have pre112 : ∀ t, own_s p e below T111 m 54 #[rv a, iv p1, .unset] [(.int (ta + (1 : Int32))), (.ref a)] t → Steps p.tables e below S0 t := fun tX kX => pre110 _ (st111 _ kX)
      have pre113 : ∀ t, own_s p e below T111 m 55 #[rv a, iv p1, .unset] [(.ref a), (.int (ta + (1 : Int32))), (.ref a)] t → Steps p.tables e below S0 t := by
        intro tX kX
        refine pre112 _ ?_
        show own_s p e below T111 m 54 #[rv a, iv p1, .unset] [(.int (ta + (1 : Int32))), (.ref a)] _
        refine XS.aloadN X111.here hx rfl (hb hby d3_54) rfl rfl ?_
        exact kX
      obtain ⟨T114, X114, e114, st114⟩ := getF X111 hx hZ hown (host := "") (Or.inl (hw _ (List.mem_of_getElem? (i := 20) rfl))) Via.refl e111 f102_F (g := (mkF m 55 #[rv a, iv p1, .unset] [(.ref a), (.int (ta + (1 : Int32))), (.ref a)])) rfl rfl (hb hby d3_55)
      have pre115 : ∀ t, own_s p e below T114 m 58 #[rv a, iv p1, .unset] [(.int le), (.int (ta + (1 : Int32))), (.ref a)] t → Steps p.tables e below S0 t := fun tX kX => pre113 _ (st114 _ kX)
      by_cases hc116 : (ta + (1 : Int32)) < le
      · skip
        have ihc116 : ((ta + (1 : Int32))).toInt < (le).toInt := Int32.lt_iff_toInt_lt.mp hc116
        have pre117 : ∀ t, own_s p e below T114 m 66 #[rv a, iv p1, .unset] [(.int (1 : Int32)), (.ref a)] t → Steps p.tables e below S0 t := by
          intro tX kX
          refine pre115 _ ?_
          show own_s p e below T114 m 58 #[rv a, iv p1, .unset] [(.int le), (.int (ta + (1 : Int32))), (.ref a)] _
          refine XS.icmpNo X114.here hx rfl (hb hby d3_58) rfl (tlt hc116).2.1 ?_
          show own_s p e below T114 m 61 #[rv a, iv p1, .unset] [(.ref a)] _
          refine XS.iconst X114.here hx rfl (hb hby d3_61) ?_
          show own_s p e below T114 m 62 #[rv a, iv p1, .unset] [(.int (1 : Int32)), (.ref a)] _
          refine XS.goto X114.here hx rfl (pc0 := 62) (pc' := 66) rfl (hb hby d3_62) (by decide) (by decide) ?_
          exact kX
        obtain ⟨T118, h118, X118, e118, W118, st118⟩ := putFN X114 hx hZ hown (hw _ (List.mem_of_getElem? (i := 18) rfl)) Via.refl e114 f105_F f101_E (Or.inl (hw _ (List.mem_of_getElem? (i := 19) rfl))) (hw _ (List.mem_of_getElem? (i := 5) rfl)) (ty := .boolean) (v' := (.int (1 : Int32))) (by decide) rfl rfl (g := (mkF m 66 #[rv a, iv p1, .unset] [(.int (1 : Int32)), (.ref a)])) rfl rfl (hb hby d3_66)
        have pre119 : ∀ t, own_s p e below T118 m 69 #[rv a, iv p1, .unset] [] t → Steps p.tables e below S0 t := fun tX kX => pre117 _ (st118 _ kX)
        obtain ⟨LL120, X120, N120⟩ : ∃ LL, Stand p l e ({ frames := 0, cells := 0, slots := 0, locals := 0 } : Room) s m #[(.ref a), (.int p1)] below meth c T118 LL 0 0 ∧ Fr n0 LL := ⟨_, X118, Fr.snoc X118 N100 g_a⟩
        have f121_E : Exa Z h118 a "com/example/weaverbird/weaverbird/model/xml/Utf8Decoder" := f101_E.wr W118
        have f122_F : Fld Z h118 a "com/example/weaverbird/weaverbird/model/xml/Utf8Decoder" "length" "I" (.int le) := f102_F.other W118 (Or.inr (slot_ne (Or.inl (hw _ (List.mem_of_getElem? (i := 21) rfl))) (Or.inl (hw _ (List.mem_of_getElem? (i := 19) rfl))) (by decide) (t := .int) (t' := .boolean) (by decide) (by decide)))
        have f123_F : Fld Z h118 a "com/example/weaverbird/weaverbird/model/xml/Utf8Decoder" "low" "I" (.int lo) := f103_F.other W118 (Or.inr (slot_ne (Or.inl (hw _ (List.mem_of_getElem? (i := 27) rfl))) (Or.inl (hw _ (List.mem_of_getElem? (i := 19) rfl))) (by decide) (t := .int) (t' := .boolean) (by decide) (by decide)))
        have f124_F : Fld Z h118 a "com/example/weaverbird/weaverbird/model/xml/Utf8Decoder" "high" "I" (.int hi) := f104_F.other W118 (Or.inr (slot_ne (Or.inl (hw _ (List.mem_of_getElem? (i := 29) rfl))) (Or.inl (hw _ (List.mem_of_getElem? (i := 19) rfl))) (by decide) (t := .int) (t' := .boolean) (by decide) (by decide)))
        have f125_F : Fld Z h118 a "com/example/weaverbird/weaverbird/model/xml/Utf8Decoder" "partial" "I" (.int ((pa <<< ((6 : Int32) &&& 31)) ||| (p1 &&& (63 : Int32)))) := f106_F.other W118 (Or.inr (slot_ne (Or.inl (hw _ (List.mem_of_getElem? (i := 25) rfl))) (Or.inl (hw _ (List.mem_of_getElem? (i := 19) rfl))) (by decide) (t := .int) (t' := .boolean) (by decide) (by decide)))
        have f126_F : Fld Z h118 a "com/example/weaverbird/weaverbird/model/xml/Utf8Decoder" "taken" "I" (.int (ta + (1 : Int32))) := f109_F.other W118 (Or.inr (slot_ne (Or.inl (hw _ (List.mem_of_getElem? (i := 23) rfl))) (Or.inl (hw _ (List.mem_of_getElem? (i := 19) rfl))) (by decide) (t := .int) (t' := .boolean) (by decide) (by decide)))
        have Z127 : n0 ≤ h118.size := Nat.le_trans Z107 (Keep.of_wr W118).1
        have K128 : Keep h0 h118 [a] := K108.wr W118 (Or.inl (List.mem_of_getElem? (i := 0) rfl))
        have f129_F : Fld Z h118 a "com/example/weaverbird/weaverbird/model/xml/Utf8Decoder" "reading" "Z" (.int (1 : Int32)) := f105_F.same W118
        have pre130 : ∀ t, own_s p e below T118 m 73 #[rv a, iv p1, .unset] [(.int (128 : Int32)), (.ref a)] t → Steps p.tables e below S0 t := by
          intro tX kX
          refine pre119 _ ?_
          show own_s p e below T118 m 69 #[rv a, iv p1, .unset] [] _
          refine XS.aloadN X120.here hx rfl (hb hby d3_69) rfl rfl ?_
          show own_s p e below T118 m 70 #[rv a, iv p1, .unset] [(.ref a)] _
          refine XS.sipush X120.here hx rfl (hb hby d3_70) ?_
          exact kX
        obtain ⟨T131, h131, X131, e131, W131, st131⟩ := putF X120 hx hZ hown (host := "") (Or.inl (hw _ (List.mem_of_getElem? (i := 26) rfl))) Via.refl e118 f123_F f121_E (Or.inl (hw _ (List.mem_of_getElem? (i := 27) rfl))) (hw _ (List.mem_of_getElem? (i := 5) rfl)) (ty := .int) (by decide) rfl rfl (g := (mkF m 73 #[rv a, iv p1, .unset] [(.int (128 : Int32)), (.ref a)])) rfl rfl (hb hby d3_73)
        have pre132 : ∀ t, own_s p e below T131 m 76 #[rv a, iv p1, .unset] [] t → Steps p.tables e below S0 t := fun tX kX => pre130 _ (st131 _ kX)
        obtain ⟨LL133, X133, N133⟩ : ∃ LL, Stand p l e ({ frames := 0, cells := 0, slots := 0, locals := 0 } : Room) s m #[(.ref a), (.int p1)] below meth c T131 LL 0 0 ∧ Fr n0 LL := ⟨_, X131, Fr.snoc X131 N120 g_a⟩
        have f134_E : Exa Z h131 a "com/example/weaverbird/weaverbird/model/xml/Utf8Decoder" := f121_E.wr W131
        have f135_F : Fld Z h131 a "com/example/weaverbird/weaverbird/model/xml/Utf8Decoder" "length" "I" (.int le) := f122_F.other W131 (Or.inr (slot_ne (Or.inl (hw _ (List.mem_of_getElem? (i := 21) rfl))) (Or.inl (hw _ (List.mem_of_getElem? (i := 27) rfl))) (by decide) (t := .int) (t' := .int) (by decide) (by decide)))
        have f136_F : Fld Z h131 a "com/example/weaverbird/weaverbird/model/xml/Utf8Decoder" "high" "I" (.int hi) := f124_F.other W131 (Or.inr (slot_ne (Or.inl (hw _ (List.mem_of_getElem? (i := 29) rfl))) (Or.inl (hw _ (List.mem_of_getElem? (i := 27) rfl))) (by decide) (t := .int) (t' := .int) (by decide) (by decide)))
        have f137_F : Fld Z h131 a "com/example/weaverbird/weaverbird/model/xml/Utf8Decoder" "partial" "I" (.int ((pa <<< ((6 : Int32) &&& 31)) ||| (p1 &&& (63 : Int32)))) := f125_F.other W131 (Or.inr (slot_ne (Or.inl (hw _ (List.mem_of_getElem? (i := 25) rfl))) (Or.inl (hw _ (List.mem_of_getElem? (i := 27) rfl))) (by decide) (t := .int) (t' := .int) (by decide) (by decide)))
        have f138_F : Fld Z h131 a "com/example/weaverbird/weaverbird/model/xml/Utf8Decoder" "taken" "I" (.int (ta + (1 : Int32))) := f126_F.other W131 (Or.inr (slot_ne (Or.inl (hw _ (List.mem_of_getElem? (i := 23) rfl))) (Or.inl (hw _ (List.mem_of_getElem? (i := 27) rfl))) (by decide) (t := .int) (t' := .int) (by decide) (by decide)))
        have f139_F : Fld Z h131 a "com/example/weaverbird/weaverbird/model/xml/Utf8Decoder" "reading" "Z" (.int (1 : Int32)) := f129_F.other W131 (Or.inr (slot_ne (Or.inl (hw _ (List.mem_of_getElem? (i := 19) rfl))) (Or.inl (hw _ (List.mem_of_getElem? (i := 27) rfl))) (by decide) (t := .boolean) (t' := .int) (by decide) (by decide)))
        have Z140 : n0 ≤ h131.size := Nat.le_trans Z127 (Keep.of_wr W131).1
        have K141 : Keep h0 h131 [a] := K128.wr W131 (Or.inl (List.mem_of_getElem? (i := 0) rfl))
        have f142_F : Fld Z h131 a "com/example/weaverbird/weaverbird/model/xml/Utf8Decoder" "low" "I" (.int (128 : Int32)) := f123_F.same W131
        have pre143 : ∀ t, own_s p e below T131 m 80 #[rv a, iv p1, .unset] [(.int (191 : Int32)), (.ref a)] t → Steps p.tables e below S0 t := by
          intro tX kX
          refine pre132 _ ?_
          show own_s p e below T131 m 76 #[rv a, iv p1, .unset] [] _
          refine XS.aloadN X133.here hx rfl (hb hby d3_76) rfl rfl ?_
          show own_s p e below T131 m 77 #[rv a, iv p1, .unset] [(.ref a)] _
          refine XS.sipush X133.here hx rfl (hb hby d3_77) ?_
          exact kX
        obtain ⟨T144, h144, X144, e144, W144, st144⟩ := putF X133 hx hZ hown (host := "") (Or.inl (hw _ (List.mem_of_getElem? (i := 28) rfl))) Via.refl e131 f136_F f134_E (Or.inl (hw _ (List.mem_of_getElem? (i := 29) rfl))) (hw _ (List.mem_of_getElem? (i := 5) rfl)) (ty := .int) (by decide) rfl rfl (g := (mkF m 80 #[rv a, iv p1, .unset] [(.int (191 : Int32)), (.ref a)])) rfl rfl (hb hby d3_80)
        have pre145 : ∀ t, own_s p e below T144 m 83 #[rv a, iv p1, .unset] [] t → Steps p.tables e below S0 t := fun tX kX => pre143 _ (st144 _ kX)
        obtain ⟨LL146, X146, N146⟩ : ∃ LL, Stand p l e ({ frames := 0, cells := 0, slots := 0, locals := 0 } : Room) s m #[(.ref a), (.int p1)] below meth c T144 LL 0 0 ∧ Fr n0 LL := ⟨_, X144, Fr.snoc X144 N133 g_a⟩
        have f147_E : Exa Z h144 a "com/example/weaverbird/weaverbird/model/xml/Utf8Decoder" := f134_E.wr W144
        have f148_F : Fld Z h144 a "com/example/weaverbird/weaverbird/model/xml/Utf8Decoder" "length" "I" (.int le) := f135_F.other W144 (Or.inr (slot_ne (Or.inl (hw _ (List.mem_of_getElem? (i := 21) rfl))) (Or.inl (hw _ (List.mem_of_getElem? (i := 29) rfl))) (by decide) (t := .int) (t' := .int) (by decide) (by decide)))
        have f149_F : Fld Z h144 a "com/example/weaverbird/weaverbird/model/xml/Utf8Decoder" "partial" "I" (.int ((pa <<< ((6 : Int32) &&& 31)) ||| (p1 &&& (63 : Int32)))) := f137_F.other W144 (Or.inr (slot_ne (Or.inl (hw _ (List.mem_of_getElem? (i := 25) rfl))) (Or.inl (hw _ (List.mem_of_getElem? (i := 29) rfl))) (by decide) (t := .int) (t' := .int) (by decide) (by decide)))
        have f150_F : Fld Z h144 a "com/example/weaverbird/weaverbird/model/xml/Utf8Decoder" "taken" "I" (.int (ta + (1 : Int32))) := f138_F.other W144 (Or.inr (slot_ne (Or.inl (hw _ (List.mem_of_getElem? (i := 23) rfl))) (Or.inl (hw _ (List.mem_of_getElem? (i := 29) rfl))) (by decide) (t := .int) (t' := .int) (by decide) (by decide)))
        have f151_F : Fld Z h144 a "com/example/weaverbird/weaverbird/model/xml/Utf8Decoder" "reading" "Z" (.int (1 : Int32)) := f139_F.other W144 (Or.inr (slot_ne (Or.inl (hw _ (List.mem_of_getElem? (i := 19) rfl))) (Or.inl (hw _ (List.mem_of_getElem? (i := 29) rfl))) (by decide) (t := .boolean) (t' := .int) (by decide) (by decide)))
        have f152_F : Fld Z h144 a "com/example/weaverbird/weaverbird/model/xml/Utf8Decoder" "low" "I" (.int (128 : Int32)) := f142_F.other W144 (Or.inr (slot_ne (Or.inl (hw _ (List.mem_of_getElem? (i := 27) rfl))) (Or.inl (hw _ (List.mem_of_getElem? (i := 29) rfl))) (by decide) (t := .int) (t' := .int) (by decide) (by decide)))
        have Z153 : n0 ≤ h144.size := Nat.le_trans Z140 (Keep.of_wr W144).1
        have K154 : Keep h0 h144 [a] := K141.wr W144 (Or.inl (List.mem_of_getElem? (i := 0) rfl))
        have f155_F : Fld Z h144 a "com/example/weaverbird/weaverbird/model/xml/Utf8Decoder" "high" "I" (.int (191 : Int32)) := f136_F.same W144
        have pre156 : ∀ t, own_s p e below T144 m 84 #[rv a, iv p1, .unset] [(.ref a)] t → Steps p.tables e below S0 t := by
          intro tX kX
          refine pre145 _ ?_
          show own_s p e below T144 m 83 #[rv a, iv p1, .unset] [] _
          refine XS.aloadN X146.here hx rfl (hb hby d3_83) rfl rfl ?_
          exact kX
        obtain ⟨T157, X157, e157, st157⟩ := getF X146 hx hZ hown (host := "") (Or.inl (hw _ (List.mem_of_getElem? (i := 18) rfl))) Via.refl e144 f151_F (g := (mkF m 84 #[rv a, iv p1, .unset] [(.ref a)])) rfl rfl (hb hby d3_84)
        have pre158 : ∀ t, own_s p e below T157 m 87 #[rv a, iv p1, .unset] [(.int (1 : Int32))] t → Steps p.tables e below S0 t := fun tX kX => pre156 _ (st157 _ kX)
        have pre159 : ∀ t, own_s p e below T157 m 304 #[rv a, iv p1, iv (-1 : Int32)] [(.int (-1 : Int32))] t → Steps p.tables e below S0 t := by
          intro tX kX
          refine pre158 _ ?_
          show own_s p e below T157 m 87 #[rv a, iv p1, .unset] [(.int (1 : Int32))] _
          refine XS.ifNo X157.here hx rfl (hb hby d3_87) rfl ((if0 _ _).trans (feq (by decide : ¬ ((1 : Int32) = (0 : Int32)))).1) ?_
          show own_s p e below T157 m 90 #[rv a, iv p1, .unset] [] _
          refine XS.iconst X157.here hx rfl (hb hby d3_90) ?_
          show own_s p e below T157 m 91 #[rv a, iv p1, .unset] [(.int (-1 : Int32))] _
          refine XS.goto X157.here hx rfl (pc0 := 91) (pc' := 98) rfl (hb hby d3_91) (by decide) (by decide) ?_
          show own_s p e below T157 m 98 #[rv a, iv p1, .unset] [(.int (-1 : Int32))] _
          refine XS.istoreN X157.here hx rfl (hb hby d3_98) rfl (l' := #[rv a, iv p1, iv (-1 : Int32)]) rfl ?_
          show own_s p e below T157 m 99 #[rv a, iv p1, iv (-1 : Int32)] [] _
          refine XS.goto X157.here hx rfl (pc0 := 99) (pc' := 303) rfl (hb hby d3_99) (by decide) (by decide) ?_
          show own_s p e below T157 m 303 #[rv a, iv p1, iv (-1 : Int32)] [] _
          refine XS.iloadN X157.here hx rfl (hb hby d3_303) rfl ?_
          exact kX
        subst hS0
        obtain ⟨fs, hr, hrun, hended, hW, hsame⟩ := X157.leave (v := (some (.int (-1 : Int32)))) (fun h => by rw [Bd.returns] at h; cases h)
        refine ⟨_, _, pre159 _ (retI X157 hx Bd.returns (hb hby d3_304) hr), hrun, hended, _, _, rfl, ?_, ⟨_, rfl⟩, hW, hsame.mono (by decide) (by decide)⟩
        show Q3 Z a p1 pa le ta lo hi re h0 n0 (some (.int (-1 : Int32))) T157.heap _
        rw [e157]
        refine ⟨(-1 : Int32), ((pa <<< ((6 : Int32) &&& 31)) ||| (p1 &&& (63 : Int32))), le, (ta + (1 : Int32)), (128 : Int32), (191 : Int32), (1 : Int32), rfl, N146, K154, f147_E, f149_F, f148_F, f150_F, f152_F, f155_F, f151_F, rfl, ?_⟩
        have ct := own_cat pa p1 hp0 hp1
        have d1 := c_iadd ta 1
        have d2 := rng32 (ta + 1)
        have d3 : (1 : Int32).toInt = 1 := rfl
        show own_T1 p1.toInt (-1 : Int) pa.toInt (((pa <<< ((6 : Int32) &&& 31)) ||| (p1 &&& (63 : Int32)))).toInt le.toInt ta.toInt ((ta + (1 : Int32))).toInt lo.toInt hi.toInt (128 : Int) (191 : Int) (1 : Int)
        unfold own_T1
        omega
      · skip
        have ihc116 : ¬ (((ta + (1 : Int32))).toInt < (le).toInt) := fun q => hc116 (Int32.lt_iff_toInt_lt.mpr q)
        have pre160 : ∀ t, own_s p e below T114 m 66 #[rv a, iv p1, .unset] [(.int (0 : Int32)), (.ref a)] t → Steps p.tables e below S0 t := by
          intro tX kX
          refine pre115 _ ?_
          show own_s p e below T114 m 58 #[rv a, iv p1, .unset] [(.int le), (.int (ta + (1 : Int32))), (.ref a)] _
          refine XS.icmpYes X114.here hx rfl (pc0 := 58) (pc' := 65) rfl (hb hby d3_58) rfl (flt hc116).2.1 (by decide) (by decide) ?_
          show own_s p e below T114 m 65 #[rv a, iv p1, .unset] [(.ref a)] _
          refine XS.iconst X114.here hx rfl (hb hby d3_65) ?_
          exact kX
        obtain ⟨T161, h161, X161, e161, W161, st161⟩ := putFN X114 hx hZ hown (hw _ (List.mem_of_getElem? (i := 18) rfl)) Via.refl e114 f105_F f101_E (Or.inl (hw _ (List.mem_of_getElem? (i := 19) rfl))) (hw _ (List.mem_of_getElem? (i := 5) rfl)) (ty := .boolean) (v' := (.int (0 : Int32))) (by decide) rfl rfl (g := (mkF m 66 #[rv a, iv p1, .unset] [(.int (0 : Int32)), (.ref a)])) rfl rfl (hb hby d3_66)
        have pre162 : ∀ t, own_s p e below T161 m 69 #[rv a, iv p1, .unset] [] t → Steps p.tables e below S0 t := fun tX kX => pre160 _ (st161 _ kX)
        obtain ⟨LL163, X163, N163⟩ : ∃ LL, Stand p l e ({ frames := 0, cells := 0, slots := 0, locals := 0 } : Room) s m #[(.ref a), (.int p1)] below meth c T161 LL 0 0 ∧ Fr n0 LL := ⟨_, X161, Fr.snoc X161 N100 g_a⟩
        have f164_E : Exa Z h161 a "com/example/weaverbird/weaverbird/model/xml/Utf8Decoder" := f101_E.wr W161
        have f165_F : Fld Z h161 a "com/example/weaverbird/weaverbird/model/xml/Utf8Decoder" "length" "I" (.int le) := f102_F.other W161 (Or.inr (slot_ne (Or.inl (hw _ (List.mem_of_getElem? (i := 21) rfl))) (Or.inl (hw _ (List.mem_of_getElem? (i := 19) rfl))) (by decide) (t := .int) (t' := .boolean) (by decide) (by decide)))
        have f166_F : Fld Z h161 a "com/example/weaverbird/weaverbird/model/xml/Utf8Decoder" "low" "I" (.int lo) := f103_F.other W161 (Or.inr (slot_ne (Or.inl (hw _ (List.mem_of_getElem? (i := 27) rfl))) (Or.inl (hw _ (List.mem_of_getElem? (i := 19) rfl))) (by decide) (t := .int) (t' := .boolean) (by decide) (by decide)))
        have f167_F : Fld Z h161 a "com/example/weaverbird/weaverbird/model/xml/Utf8Decoder" "high" "I" (.int hi) := f104_F.other W161 (Or.inr (slot_ne (Or.inl (hw _ (List.mem_of_getElem? (i := 29) rfl))) (Or.inl (hw _ (List.mem_of_getElem? (i := 19) rfl))) (by decide) (t := .int) (t' := .boolean) (by decide) (by decide)))
        have f168_F : Fld Z h161 a "com/example/weaverbird/weaverbird/model/xml/Utf8Decoder" "partial" "I" (.int ((pa <<< ((6 : Int32) &&& 31)) ||| (p1 &&& (63 : Int32)))) := f106_F.other W161 (Or.inr (slot_ne (Or.inl (hw _ (List.mem_of_getElem? (i := 25) rfl))) (Or.inl (hw _ (List.mem_of_getElem? (i := 19) rfl))) (by decide) (t := .int) (t' := .boolean) (by decide) (by decide)))
        have f169_F : Fld Z h161 a "com/example/weaverbird/weaverbird/model/xml/Utf8Decoder" "taken" "I" (.int (ta + (1 : Int32))) := f109_F.other W161 (Or.inr (slot_ne (Or.inl (hw _ (List.mem_of_getElem? (i := 23) rfl))) (Or.inl (hw _ (List.mem_of_getElem? (i := 19) rfl))) (by decide) (t := .int) (t' := .boolean) (by decide) (by decide)))
        have Z170 : n0 ≤ h161.size := Nat.le_trans Z107 (Keep.of_wr W161).1
        have K171 : Keep h0 h161 [a] := K108.wr W161 (Or.inl (List.mem_of_getElem? (i := 0) rfl))
        have f172_F : Fld Z h161 a "com/example/weaverbird/weaverbird/model/xml/Utf8Decoder" "reading" "Z" (.int (0 : Int32)) := f105_F.same W161
        have pre173 : ∀ t, own_s p e below T161 m 73 #[rv a, iv p1, .unset] [(.int (128 : Int32)), (.ref a)] t → Steps p.tables e below S0 t := by
          intro tX kX
          refine pre162 _ ?_
          show own_s p e below T161 m 69 #[rv a, iv p1, .unset] [] _
          refine XS.aloadN X163.here hx rfl (hb hby d3_69) rfl rfl ?_
          show own_s p e below T161 m 70 #[rv a, iv p1, .unset] [(.ref a)] _
          refine XS.sipush X163.here hx rfl (hb hby d3_70) ?_
          exact kX
        obtain ⟨T174, h174, X174, e174, W174, st174⟩ := putF X163 hx hZ hown (host := "") (Or.inl (hw _ (List.mem_of_getElem? (i := 26) rfl))) Via.refl e161 f166_F f164_E (Or.inl (hw _ (List.mem_of_getElem? (i := 27) rfl))) (hw _ (List.mem_of_getElem? (i := 5) rfl)) (ty := .int) (by decide) rfl rfl (g := (mkF m 73 #[rv a, iv p1, .unset] [(.int (128 : Int32)), (.ref a)])) rfl rfl (hb hby d3_73)
        have pre175 : ∀ t, own_s p e below T174 m 76 #[rv a, iv p1, .unset] [] t → Steps p.tables e below S0 t := fun tX kX => pre173 _ (st174 _ kX)
        obtain ⟨LL176, X176, N176⟩ : ∃ LL, Stand p l e ({ frames := 0, cells := 0, slots := 0, locals := 0 } : Room) s m #[(.ref a), (.int p1)] below meth c T174 LL 0 0 ∧ Fr n0 LL := ⟨_, X174, Fr.snoc X174 N163 g_a⟩
        have f177_E : Exa Z h174 a "com/example/weaverbird/weaverbird/model/xml/Utf8Decoder" := f164_E.wr W174
        have f178_F : Fld Z h174 a "com/example/weaverbird/weaverbird/model/xml/Utf8Decoder" "length" "I" (.int le) := f165_F.other W174 (Or.inr (slot_ne (Or.inl (hw _ (List.mem_of_getElem? (i := 21) rfl))) (Or.inl (hw _ (List.mem_of_getElem? (i := 27) rfl))) (by decide) (t := .int) (t' := .int) (by decide) (by decide)))
        have f179_F : Fld Z h174 a "com/example/weaverbird/weaverbird/model/xml/Utf8Decoder" "high" "I" (.int hi) := f167_F.other W174 (Or.inr (slot_ne (Or.inl (hw _ (List.mem_of_getElem? (i := 29) rfl))) (Or.inl (hw _ (List.mem_of_getElem? (i := 27) rfl))) (by decide) (t := .int) (t' := .int) (by decide) (by decide)))
        have f180_F : Fld Z h174 a "com/example/weaverbird/weaverbird/model/xml/Utf8Decoder" "partial" "I" (.int ((pa <<< ((6 : Int32) &&& 31)) ||| (p1 &&& (63 : Int32)))) := f168_F.other W174 (Or.inr (slot_ne (Or.inl (hw _ (List.mem_of_getElem? (i := 25) rfl))) (Or.inl (hw _ (List.mem_of_getElem? (i := 27) rfl))) (by decide) (t := .int) (t' := .int) (by decide) (by decide)))
        have f181_F : Fld Z h174 a "com/example/weaverbird/weaverbird/model/xml/Utf8Decoder" "taken" "I" (.int (ta + (1 : Int32))) := f169_F.other W174 (Or.inr (slot_ne (Or.inl (hw _ (List.mem_of_getElem? (i := 23) rfl))) (Or.inl (hw _ (List.mem_of_getElem? (i := 27) rfl))) (by decide) (t := .int) (t' := .int) (by decide) (by decide)))
        have f182_F : Fld Z h174 a "com/example/weaverbird/weaverbird/model/xml/Utf8Decoder" "reading" "Z" (.int (0 : Int32)) := f172_F.other W174 (Or.inr (slot_ne (Or.inl (hw _ (List.mem_of_getElem? (i := 19) rfl))) (Or.inl (hw _ (List.mem_of_getElem? (i := 27) rfl))) (by decide) (t := .boolean) (t' := .int) (by decide) (by decide)))
        have Z183 : n0 ≤ h174.size := Nat.le_trans Z170 (Keep.of_wr W174).1
        have K184 : Keep h0 h174 [a] := K171.wr W174 (Or.inl (List.mem_of_getElem? (i := 0) rfl))
        have f185_F : Fld Z h174 a "com/example/weaverbird/weaverbird/model/xml/Utf8Decoder" "low" "I" (.int (128 : Int32)) := f166_F.same W174
        have pre186 : ∀ t, own_s p e below T174 m 80 #[rv a, iv p1, .unset] [(.int (191 : Int32)), (.ref a)] t → Steps p.tables e below S0 t := by
          intro tX kX
          refine pre175 _ ?_
          show own_s p e below T174 m 76 #[rv a, iv p1, .unset] [] _
          refine XS.aloadN X176.here hx rfl (hb hby d3_76) rfl rfl ?_
          show own_s p e below T174 m 77 #[rv a, iv p1, .unset] [(.ref a)] _
          refine XS.sipush X176.here hx rfl (hb hby d3_77) ?_
          exact kX
        obtain ⟨T187, h187, X187, e187, W187, st187⟩ := putF X176 hx hZ hown (host := "") (Or.inl (hw _ (List.mem_of_getElem? (i := 28) rfl))) Via.refl e174 f179_F f177_E (Or.inl (hw _ (List.mem_of_getElem? (i := 29) rfl))) (hw _ (List.mem_of_getElem? (i := 5) rfl)) (ty := .int) (by decide) rfl rfl (g := (mkF m 80 #[rv a, iv p1, .unset] [(.int (191 : Int32)), (.ref a)])) rfl rfl (hb hby d3_80)
        have pre188 : ∀ t, own_s p e below T187 m 83 #[rv a, iv p1, .unset] [] t → Steps p.tables e below S0 t := fun tX kX => pre186 _ (st187 _ kX)
        obtain ⟨LL189, X189, N189⟩ : ∃ LL, Stand p l e ({ frames := 0, cells := 0, slots := 0, locals := 0 } : Room) s m #[(.ref a), (.int p1)] below meth c T187 LL 0 0 ∧ Fr n0 LL := ⟨_, X187, Fr.snoc X187 N176 g_a⟩
        have f190_E : Exa Z h187 a "com/example/weaverbird/weaverbird/model/xml/Utf8Decoder" := f177_E.wr W187
        have f191_F : Fld Z h187 a "com/example/weaverbird/weaverbird/model/xml/Utf8Decoder" "length" "I" (.int le) := f178_F.other W187 (Or.inr (slot_ne (Or.inl (hw _ (List.mem_of_getElem? (i := 21) rfl))) (Or.inl (hw _ (List.mem_of_getElem? (i := 29) rfl))) (by decide) (t := .int) (t' := .int) (by decide) (by decide)))
        have f192_F : Fld Z h187 a "com/example/weaverbird/weaverbird/model/xml/Utf8Decoder" "partial" "I" (.int ((pa <<< ((6 : Int32) &&& 31)) ||| (p1 &&& (63 : Int32)))) := f180_F.other W187 (Or.inr (slot_ne (Or.inl (hw _ (List.mem_of_getElem? (i := 25) rfl))) (Or.inl (hw _ (List.mem_of_getElem? (i := 29) rfl))) (by decide) (t := .int) (t' := .int) (by decide) (by decide)))
        have f193_F : Fld Z h187 a "com/example/weaverbird/weaverbird/model/xml/Utf8Decoder" "taken" "I" (.int (ta + (1 : Int32))) := f181_F.other W187 (Or.inr (slot_ne (Or.inl (hw _ (List.mem_of_getElem? (i := 23) rfl))) (Or.inl (hw _ (List.mem_of_getElem? (i := 29) rfl))) (by decide) (t := .int) (t' := .int) (by decide) (by decide)))
        have f194_F : Fld Z h187 a "com/example/weaverbird/weaverbird/model/xml/Utf8Decoder" "reading" "Z" (.int (0 : Int32)) := f182_F.other W187 (Or.inr (slot_ne (Or.inl (hw _ (List.mem_of_getElem? (i := 19) rfl))) (Or.inl (hw _ (List.mem_of_getElem? (i := 29) rfl))) (by decide) (t := .boolean) (t' := .int) (by decide) (by decide)))
        have f195_F : Fld Z h187 a "com/example/weaverbird/weaverbird/model/xml/Utf8Decoder" "low" "I" (.int (128 : Int32)) := f185_F.other W187 (Or.inr (slot_ne (Or.inl (hw _ (List.mem_of_getElem? (i := 27) rfl))) (Or.inl (hw _ (List.mem_of_getElem? (i := 29) rfl))) (by decide) (t := .int) (t' := .int) (by decide) (by decide)))
        have Z196 : n0 ≤ h187.size := Nat.le_trans Z183 (Keep.of_wr W187).1
        have K197 : Keep h0 h187 [a] := K184.wr W187 (Or.inl (List.mem_of_getElem? (i := 0) rfl))
        have f198_F : Fld Z h187 a "com/example/weaverbird/weaverbird/model/xml/Utf8Decoder" "high" "I" (.int (191 : Int32)) := f179_F.same W187
        have pre199 : ∀ t, own_s p e below T187 m 84 #[rv a, iv p1, .unset] [(.ref a)] t → Steps p.tables e below S0 t := by
          intro tX kX
          refine pre188 _ ?_
          show own_s p e below T187 m 83 #[rv a, iv p1, .unset] [] _
          refine XS.aloadN X189.here hx rfl (hb hby d3_83) rfl rfl ?_
          exact kX
        obtain ⟨T200, X200, e200, st200⟩ := getF X189 hx hZ hown (host := "") (Or.inl (hw _ (List.mem_of_getElem? (i := 18) rfl))) Via.refl e187 f194_F (g := (mkF m 84 #[rv a, iv p1, .unset] [(.ref a)])) rfl rfl (hb hby d3_84)
        have pre201 : ∀ t, own_s p e below T200 m 87 #[rv a, iv p1, .unset] [(.int (0 : Int32))] t → Steps p.tables e below S0 t := fun tX kX => pre199 _ (st200 _ kX)
        have pre202 : ∀ t, own_s p e below T200 m 95 #[rv a, iv p1, .unset] [(.ref a)] t → Steps p.tables e below S0 t := by
          intro tX kX
          refine pre201 _ ?_
          show own_s p e below T200 m 87 #[rv a, iv p1, .unset] [(.int (0 : Int32))] _
          refine XS.ifYes X200.here hx rfl (pc0 := 87) (pc' := 94) rfl (hb hby d3_87) rfl ((if0 _ _).trans (teq (by decide : (0 : Int32) = (0 : Int32))).1) (by decide) (by decide) ?_
          show own_s p e below T200 m 94 #[rv a, iv p1, .unset] [] _
          refine XS.aloadN X200.here hx rfl (hb hby d3_94) rfl rfl ?_
          exact kX
        obtain ⟨T203, X203, e203, st203⟩ := getF X200 hx hZ hown (host := "") (Or.inl (hw _ (List.mem_of_getElem? (i := 24) rfl))) Via.refl e200 f192_F (g := (mkF m 95 #[rv a, iv p1, .unset] [(.ref a)])) rfl rfl (hb hby d3_95)
        have pre204 : ∀ t, own_s p e below T203 m 98 #[rv a, iv p1, .unset] [(.int ((pa <<< ((6 : Int32) &&& 31)) ||| (p1 &&& (63 : Int32))))] t → Steps p.tables e below S0 t := fun tX kX => pre202 _ (st203 _ kX)
        have pre205 : ∀ t, own_s p e below T203 m 304 #[rv a, iv p1, iv ((pa <<< ((6 : Int32) &&& 31)) ||| (p1 &&& (63 : Int32)))] [(.int ((pa <<< ((6 : Int32) &&& 31)) ||| (p1 &&& (63 : Int32))))] t → Steps p.tables e below S0 t := by
          intro tX kX
          refine pre204 _ ?_
          show own_s p e below T203 m 98 #[rv a, iv p1, .unset] [(.int ((pa <<< ((6 : Int32) &&& 31)) ||| (p1 &&& (63 : Int32))))] _
          refine XS.istoreN X203.here hx rfl (hb hby d3_98) rfl (l' := #[rv a, iv p1, iv ((pa <<< ((6 : Int32) &&& 31)) ||| (p1 &&& (63 : Int32)))]) rfl ?_
          show own_s p e below T203 m 99 #[rv a, iv p1, iv ((pa <<< ((6 : Int32) &&& 31)) ||| (p1 &&& (63 : Int32)))] [] _
          refine XS.goto X203.here hx rfl (pc0 := 99) (pc' := 303) rfl (hb hby d3_99) (by decide) (by decide) ?_
          show own_s p e below T203 m 303 #[rv a, iv p1, iv ((pa <<< ((6 : Int32) &&& 31)) ||| (p1 &&& (63 : Int32)))] [] _
          refine XS.iloadN X203.here hx rfl (hb hby d3_303) rfl ?_
          exact kX
        subst hS0
        obtain ⟨fs, hr, hrun, hended, hW, hsame⟩ := X203.leave (v := (some (.int ((pa <<< ((6 : Int32) &&& 31)) ||| (p1 &&& (63 : Int32)))))) (fun h => by rw [Bd.returns] at h; cases h)
        refine ⟨_, _, pre205 _ (retI X203 hx Bd.returns (hb hby d3_304) hr), hrun, hended, _, _, rfl, ?_, ⟨_, rfl⟩, hW, hsame.mono (by decide) (by decide)⟩
        show Q3 Z a p1 pa le ta lo hi re h0 n0 (some (.int ((pa <<< ((6 : Int32) &&& 31)) ||| (p1 &&& (63 : Int32))))) T203.heap _
        rw [e203]
        refine ⟨((pa <<< ((6 : Int32) &&& 31)) ||| (p1 &&& (63 : Int32))), ((pa <<< ((6 : Int32) &&& 31)) ||| (p1 &&& (63 : Int32))), le, (ta + (1 : Int32)), (128 : Int32), (191 : Int32), (0 : Int32), rfl, N189, K197, f190_E, f192_F, f191_F, f193_F, f195_F, f198_F, f194_F, rfl, ?_⟩
        have ct := own_cat pa p1 hp0 hp1
        have d1 := c_iadd ta 1
        have d2 := rng32 (ta + 1)
        have d3 : (1 : Int32).toInt = 1 := rfl
        show own_T1 p1.toInt (((pa <<< ((6 : Int32) &&& 31)) ||| (p1 &&& (63 : Int32)))).toInt pa.toInt (((pa <<< ((6 : Int32) &&& 31)) ||| (p1 &&& (63 : Int32)))).toInt le.toInt ta.toInt ((ta + (1 : Int32))).toInt lo.toInt hi.toInt (128 : Int) (191 : Int) (0 : Int)
        unfold own_T1
        omega
theorem d4_0 : decode prog_181_method_2_code 0 = .ok (.aload_n 0, 1) := by decide +kernel
theorem d4_1 : decode prog_181_method_2_code 1 = .ok (.getfield 7, 3) := by decide +kernel
theorem d4_4 : decode prog_181_method_2_code 4 = .ok (.ireturn, 1) := by decide +kernel
theorem pn_4 : plainName "com/example/weaverbird/weaverbird/model/xml/Utf8Decoder" = true := by first | (simp [plainName, overriddenIn]; done) | decide +kernel
theorem ef_4 (m : MethodId) (a : Addr) : entryFrame m #[(.ref a)] 1 = mkF m 0 #[rv a] [] := by first | (simp [entryFrame, mkF, argsToLocals, Value.category]; done) | rfl
def Q4 (Z : State) (a : Addr) (le : Int32) (h0 : Heap) (n0 : Nat) (v : Option Value) (h : Heap) (L : List Loc) : Prop := v = some (.int le) ∧ Fr n0 L ∧ h = h0
set_option maxRecDepth 65536 in
set_option maxHeartbeats 40000000 in
theorem rm4 (l : Launch) (Z : State) (a0 : Array Value) (hw : ∀ d ∈ tables_1, d.before a0 Z = true) (ws : List Jvm.Cond) (a : Addr) (le : Int32) (h0 : Heap) (n0 : Nat) (Z0 : n0 ≤ h0.size) (F_le : Fld Z h0 a "com/example/weaverbird/weaverbird/model/xml/Utf8Decoder" "length" "I" (.int le)) :
    MetFree l (⟨"com/example/weaverbird/weaverbird/model/xml/Utf8Decoder", "length", "()I"⟩ : MethodName) (head1 (Jvm.Cond.code (⟨"com/example/weaverbird/weaverbird/model/xml/Utf8Decoder", "length", "()I"⟩ : MethodName) prog_181_method_2_code 1 (some .int) :: ws) ({ frames := 0, cells := 0, slots := 0, locals := 0 } : Room)) (fun aX UX => aX = #[(.ref a)] ∧ Z.Warmed39 UX.vm ∧ UX.heap = h0) (fun _ _ _ _ _ => True) (fun _ UX oX UY => ∃ vX LX, oX = .returned vX ∧ Q4 Z a le h0 n0 vX UY.heap LX ∧ FrameEnd UX oX UY LX ({ frames := 0, cells := 0, slots := 0, locals := 0 } : Room).cells ({ frames := 0, cells := 0, slots := 0, locals := 0 } : Room).slots) := by
  refine MetFree.of_bodySF (plainFor_of_name pn_4) hisR ?_
  intro p e s m args below meth c s₁ Bd hml0 hPX hKX
  obtain ⟨rfl, hZ, hh⟩ := hPX
  have hx := Bd.exec
  have hby := Bd.bytes
  have hml : c.maxLocals = 1 := hml0
  have hown : s.vm.findClass "com/example/weaverbird/weaverbird/model/xml/Utf8Decoder" = some m.cls := findClass_of_methodNamed Bd.named
  have hnm := (name_of_methodNamed Bd.named Bd.method).1
  have X0 : Stand p l e ({ frames := 0, cells := 0, slots := 0, locals := 0 } : Room) s m #[(.ref a)] below meth c s₁ [] 0 0 := Stand.of_body Bd
  have e0 : s₁.heap = h0 := by rw [← hh, Bd.state]; rfl
  have N0 := Fr.nil n0
  have pre0 : ∀ t, Steps p.tables e below (s₁.setTop (mkF m 0 #[rv a] [])) t → Steps p.tables e below (s₁.setTop (entryFrame m #[(.ref a)] 1)) t := fun t k => castTop (ef_4 m a) k
  obtain ⟨S0, hS0⟩ : ∃ z, z = (s₁.setTop (entryFrame m #[(.ref a)] 1)) := ⟨_, rfl⟩
  rw [← hS0] at pre0
  have pre1 : ∀ t, own_s p e below s₁ m 1 #[rv a] [(.ref a)] t → Steps p.tables e below S0 t := by
    intro tX kX
    refine pre0 _ ?_
    show own_s p e below s₁ m 0 #[rv a] [] _
    refine XS.aloadN X0.here hx rfl (hb hby d4_0) rfl rfl ?_
    exact kX
  obtain ⟨T2, X2, e2, st2⟩ := getF X0 hx hZ hown (host := "") (Or.inl (hw _ (List.mem_of_getElem? (i := 20) rfl))) Via.refl e0 F_le (g := (mkF m 1 #[rv a] [(.ref a)])) rfl rfl (hb hby d4_1)
  have pre3 : ∀ t, own_s p e below T2 m 4 #[rv a] [(.int le)] t → Steps p.tables e below S0 t := fun tX kX => pre1 _ (st2 _ kX)
  subst hS0
  obtain ⟨fs, hr, hrun, hended, hW, hsame⟩ := X2.leave (v := (some (.int le))) (fun h => by rw [Bd.returns] at h; cases h)
  refine ⟨_, _, pre3 _ (retI X2 hx Bd.returns (hb hby d4_4) hr), hrun, hended, _, _, rfl, ?_, ⟨_, rfl⟩, hW, hsame.mono (by decide) (by decide)⟩
  show Q4 Z a le h0 n0 (some (.int le)) T2.heap _
  exact ⟨rfl, N0, e2⟩
theorem d5_0 : decode prog_181_method_3_code 0 = .ok (.aload_n 0, 1) := by decide +kernel
theorem d5_1 : decode prog_181_method_3_code 1 = .ok (.getfield 13, 3) := by decide +kernel
theorem d5_4 : decode prog_181_method_3_code 4 = .ok (.ireturn, 1) := by decide +kernel
theorem pn_5 : plainName "com/example/weaverbird/weaverbird/model/xml/Utf8Decoder" = true := by first | (simp [plainName, overriddenIn]; done) | decide +kernel
theorem ef_5 (m : MethodId) (a : Addr) : entryFrame m #[(.ref a)] 1 = mkF m 0 #[rv a] [] := by first | (simp [entryFrame, mkF, argsToLocals, Value.category]; done) | rfl
def Q5 (Z : State) (a : Addr) (ta : Int32) (h0 : Heap) (n0 : Nat) (v : Option Value) (h : Heap) (L : List Loc) : Prop := v = some (.int ta) ∧ Fr n0 L ∧ h = h0
set_option maxRecDepth 65536 in
set_option maxHeartbeats 40000000 in
theorem rm5 (l : Launch) (Z : State) (a0 : Array Value) (hw : ∀ d ∈ tables_1, d.before a0 Z = true) (ws : List Jvm.Cond) (a : Addr) (ta : Int32) (h0 : Heap) (n0 : Nat) (Z0 : n0 ≤ h0.size) (F_ta : Fld Z h0 a "com/example/weaverbird/weaverbird/model/xml/Utf8Decoder" "taken" "I" (.int ta)) :
    MetFree l (⟨"com/example/weaverbird/weaverbird/model/xml/Utf8Decoder", "taken", "()I"⟩ : MethodName) (head1 (Jvm.Cond.code (⟨"com/example/weaverbird/weaverbird/model/xml/Utf8Decoder", "taken", "()I"⟩ : MethodName) prog_181_method_3_code 1 (some .int) :: ws) ({ frames := 0, cells := 0, slots := 0, locals := 0 } : Room)) (fun aX UX => aX = #[(.ref a)] ∧ Z.Warmed39 UX.vm ∧ UX.heap = h0) (fun _ _ _ _ _ => True) (fun _ UX oX UY => ∃ vX LX, oX = .returned vX ∧ Q5 Z a ta h0 n0 vX UY.heap LX ∧ FrameEnd UX oX UY LX ({ frames := 0, cells := 0, slots := 0, locals := 0 } : Room).cells ({ frames := 0, cells := 0, slots := 0, locals := 0 } : Room).slots) := by
  refine MetFree.of_bodySF (plainFor_of_name pn_5) hisR ?_
  intro p e s m args below meth c s₁ Bd hml0 hPX hKX
  obtain ⟨rfl, hZ, hh⟩ := hPX
  have hx := Bd.exec
  have hby := Bd.bytes
  have hml : c.maxLocals = 1 := hml0
  have hown : s.vm.findClass "com/example/weaverbird/weaverbird/model/xml/Utf8Decoder" = some m.cls := findClass_of_methodNamed Bd.named
  have hnm := (name_of_methodNamed Bd.named Bd.method).1
  have X0 : Stand p l e ({ frames := 0, cells := 0, slots := 0, locals := 0 } : Room) s m #[(.ref a)] below meth c s₁ [] 0 0 := Stand.of_body Bd
  have e0 : s₁.heap = h0 := by rw [← hh, Bd.state]; rfl
  have N0 := Fr.nil n0
  have pre0 : ∀ t, Steps p.tables e below (s₁.setTop (mkF m 0 #[rv a] [])) t → Steps p.tables e below (s₁.setTop (entryFrame m #[(.ref a)] 1)) t := fun t k => castTop (ef_5 m a) k
  obtain ⟨S0, hS0⟩ : ∃ z, z = (s₁.setTop (entryFrame m #[(.ref a)] 1)) := ⟨_, rfl⟩
  rw [← hS0] at pre0
  have pre1 : ∀ t, own_s p e below s₁ m 1 #[rv a] [(.ref a)] t → Steps p.tables e below S0 t := by
    intro tX kX
    refine pre0 _ ?_
    show own_s p e below s₁ m 0 #[rv a] [] _
    refine XS.aloadN X0.here hx rfl (hb hby d5_0) rfl rfl ?_
    exact kX
  obtain ⟨T2, X2, e2, st2⟩ := getF X0 hx hZ hown (host := "") (Or.inl (hw _ (List.mem_of_getElem? (i := 22) rfl))) Via.refl e0 F_ta (g := (mkF m 1 #[rv a] [(.ref a)])) rfl rfl (hb hby d5_1)
  have pre3 : ∀ t, own_s p e below T2 m 4 #[rv a] [(.int ta)] t → Steps p.tables e below S0 t := fun tX kX => pre1 _ (st2 _ kX)
  subst hS0
  obtain ⟨fs, hr, hrun, hended, hW, hsame⟩ := X2.leave (v := (some (.int ta))) (fun h => by rw [Bd.returns] at h; cases h)
  refine ⟨_, _, pre3 _ (retI X2 hx Bd.returns (hb hby d5_4) hr), hrun, hended, _, _, rfl, ?_, ⟨_, rfl⟩, hW, hsame.mono (by decide) (by decide)⟩
  show Q5 Z a ta h0 n0 (some (.int ta)) T2.heap _
  exact ⟨rfl, N0, e2⟩
theorem d6_0 : decode method_6_code 0 = .ok (.iload_n 0, 1) := by decide +kernel
theorem d6_1 : decode method_6_code 1 = .ok (.bipush 7, 2) := by decide +kernel
theorem d6_3 : decode method_6_code 3 = .ok (.ishr, 1) := by decide +kernel
theorem d6_4 : decode method_6_code 4 = .ok (.ifCond .ne 5, 3) := by decide +kernel
theorem d6_7 : decode method_6_code 7 = .ok (.iconst 1, 1) := by decide +kernel
theorem d6_8 : decode method_6_code 8 = .ok (.ireturn, 1) := by decide +kernel
theorem d6_9 : decode method_6_code 9 = .ok (.iload_n 0, 1) := by decide +kernel
theorem d6_10 : decode method_6_code 10 = .ok (.iconst 5, 1) := by decide +kernel
theorem d6_11 : decode method_6_code 11 = .ok (.ishr, 1) := by decide +kernel
theorem d6_12 : decode method_6_code 12 = .ok (.bipush 6, 2) := by decide +kernel
theorem d6_14 : decode method_6_code 14 = .ok (.if_icmp .ne 5, 3) := by decide +kernel
theorem d6_17 : decode method_6_code 17 = .ok (.iconst 2, 1) := by decide +kernel
theorem d6_18 : decode method_6_code 18 = .ok (.ireturn, 1) := by decide +kernel
theorem d6_19 : decode method_6_code 19 = .ok (.iload_n 0, 1) := by decide +kernel
theorem d6_20 : decode method_6_code 20 = .ok (.iconst 4, 1) := by decide +kernel
theorem d6_21 : decode method_6_code 21 = .ok (.ishr, 1) := by decide +kernel
theorem d6_22 : decode method_6_code 22 = .ok (.bipush 14, 2) := by decide +kernel
theorem d6_24 : decode method_6_code 24 = .ok (.if_icmp .ne 5, 3) := by decide +kernel
theorem d6_27 : decode method_6_code 27 = .ok (.iconst 3, 1) := by decide +kernel
theorem d6_28 : decode method_6_code 28 = .ok (.ireturn, 1) := by decide +kernel
theorem d6_29 : decode method_6_code 29 = .ok (.iload_n 0, 1) := by decide +kernel
theorem d6_30 : decode method_6_code 30 = .ok (.iconst 3, 1) := by decide +kernel
theorem d6_31 : decode method_6_code 31 = .ok (.ishr, 1) := by decide +kernel
theorem d6_32 : decode method_6_code 32 = .ok (.bipush 30, 2) := by decide +kernel
theorem d6_34 : decode method_6_code 34 = .ok (.if_icmp .ne 5, 3) := by decide +kernel
theorem d6_37 : decode method_6_code 37 = .ok (.iconst 4, 1) := by decide +kernel
theorem d6_38 : decode method_6_code 38 = .ok (.ireturn, 1) := by decide +kernel
theorem d6_39 : decode method_6_code 39 = .ok (.iconst 0, 1) := by decide +kernel
theorem d6_40 : decode method_6_code 40 = .ok (.ireturn, 1) := by decide +kernel
theorem pn_6 : plainName "com/example/weaverbird/weaverbird/model/xml/Utf8DecoderTakePinLaw" = true := by first | (simp [plainName, overriddenIn]; done) | decide +kernel
theorem ef_6 (m : MethodId) (p0 : Int32) : entryFrame m #[(.int p0)] 1 = mkF m 0 #[iv p0] [] := by first | (simp [entryFrame, mkF, argsToLocals, Value.category]; done) | rfl
def Q6 (Z : State) (p0 : Int32) (h0 : Heap) (n0 : Nat) (v : Option Value) (h : Heap) (L : List Loc) : Prop := ((v = some (.int 1) ∧ (p0.toInt < 128)) ∨ (v = some (.int 2) ∧ (192 ≤ p0.toInt ∧ p0.toInt < 224)) ∨ (v = some (.int 3) ∧ (224 ≤ p0.toInt ∧ p0.toInt < 240)) ∨ (v = some (.int 4) ∧ (240 ≤ p0.toInt ∧ p0.toInt < 248)) ∨ (v = some (.int 0) ∧ ((128 ≤ p0.toInt ∧ p0.toInt < 192) ∨ 248 ≤ p0.toInt))) ∧ Fr n0 L ∧ h = h0
set_option maxRecDepth 65536 in
set_option maxHeartbeats 40000000 in
theorem rm6 (l : Launch) (Z : State) (a0 : Array Value) (hw : ∀ d ∈ tables_1, d.before a0 Z = true) (ws : List Jvm.Cond) (p0 : Int32) (h0 : Heap) (n0 : Nat) (Z0 : n0 ≤ h0.size) (hx0 : 0 ≤ p0.toInt) (hx1 : p0.toInt ≤ 255) :
    MetFree l (⟨"com/example/weaverbird/weaverbird/model/xml/Utf8DecoderTakePinLaw", "leadLen", "(I)I"⟩ : MethodName) (head1 (Jvm.Cond.code (⟨"com/example/weaverbird/weaverbird/model/xml/Utf8DecoderTakePinLaw", "leadLen", "(I)I"⟩ : MethodName) method_6_code 1 (some .int) :: ws) ({ frames := 0, cells := 0, slots := 0, locals := 0 } : Room)) (fun aX UX => aX = #[(.int p0)] ∧ Z.Warmed39 UX.vm ∧ UX.heap = h0) (fun _ _ _ _ _ => True) (fun _ UX oX UY => ∃ vX LX, oX = .returned vX ∧ Q6 Z p0 h0 n0 vX UY.heap LX ∧ FrameEnd UX oX UY LX ({ frames := 0, cells := 0, slots := 0, locals := 0 } : Room).cells ({ frames := 0, cells := 0, slots := 0, locals := 0 } : Room).slots) := by
  refine MetFree.of_bodySF (plainFor_of_name pn_6) hisR ?_
  intro p e s m args below meth c s₁ Bd hml0 hPX hKX
  obtain ⟨rfl, hZ, hh⟩ := hPX
  have hx := Bd.exec
  have hby := Bd.bytes
  have hml : c.maxLocals = 1 := hml0
  have hown : s.vm.findClass "com/example/weaverbird/weaverbird/model/xml/Utf8DecoderTakePinLaw" = some m.cls := findClass_of_methodNamed Bd.named
  have hnm := (name_of_methodNamed Bd.named Bd.method).1
  have X0 : Stand p l e ({ frames := 0, cells := 0, slots := 0, locals := 0 } : Room) s m #[(.int p0)] below meth c s₁ [] 0 0 := Stand.of_body Bd
  have e0 : s₁.heap = h0 := by rw [← hh, Bd.state]; rfl
  have N0 := Fr.nil n0
  have pre0 : ∀ t, Steps p.tables e below (s₁.setTop (mkF m 0 #[iv p0] [])) t → Steps p.tables e below (s₁.setTop (entryFrame m #[(.int p0)] 1)) t := fun t k => castTop (ef_6 m p0) k
  obtain ⟨S0, hS0⟩ : ∃ z, z = (s₁.setTop (entryFrame m #[(.int p0)] 1)) := ⟨_, rfl⟩
  rw [← hS0] at pre0
  have s7 := c_ishr p0 7 7 (by decide)
  have s5 := c_ishr p0 5 5 (by decide)
  have s4 := c_ishr p0 4 4 (by decide)
  have s3 := c_ishr p0 3 3 (by decide)
  have pre1 : ∀ t, own_s p e below s₁ m 4 #[iv p0] [(.int (p0 >>> ((7 : Int32) &&& 31)))] t → Steps p.tables e below S0 t := by
    intro tX kX
    refine pre0 _ ?_
    show own_s p e below s₁ m 0 #[iv p0] [] _
    refine XS.iloadN X0.here hx rfl (hb hby d6_0) rfl ?_
    show own_s p e below s₁ m 1 #[iv p0] [(.int p0)] _
    refine XS.bipush X0.here hx rfl (hb hby d6_1) ?_
    show own_s p e below s₁ m 3 #[iv p0] [(.int (7 : Int32)), (.int p0)] _
    refine XS.ishr X0.here hx rfl (hb hby d6_3) rfl ?_
    exact kX
  by_cases hc2 : (p0 >>> ((7 : Int32) &&& 31)) = (0 : Int32)
  · skip
    have ihc2 : ((p0 >>> ((7 : Int32) &&& 31))).toInt = (0 : Int) := congrArg Int32.toInt hc2
    have pre3 : ∀ t, own_s p e below s₁ m 8 #[iv p0] [(.int (1 : Int32))] t → Steps p.tables e below S0 t := by
      intro tX kX
      refine pre1 _ ?_
      show own_s p e below s₁ m 4 #[iv p0] [(.int (p0 >>> ((7 : Int32) &&& 31)))] _
      refine XS.ifNo X0.here hx rfl (hb hby d6_4) rfl ((if0 _ _).trans (teq hc2).2) ?_
      show own_s p e below s₁ m 7 #[iv p0] [] _
      refine XS.iconst X0.here hx rfl (hb hby d6_7) ?_
      exact kX
    subst hS0
    obtain ⟨fs, hr, hrun, hended, hW, hsame⟩ := X0.leave (v := (some (.int (1 : Int32)))) (fun h => by rw [Bd.returns] at h; cases h)
    refine ⟨_, _, pre3 _ (retI X0 hx Bd.returns (hb hby d6_8) hr), hrun, hended, _, _, rfl, ?_, ⟨_, rfl⟩, hW, hsame.mono (by decide) (by decide)⟩
    show Q6 Z p0 h0 n0 (some (.int (1 : Int32))) s₁.heap _
    exact ⟨Or.inl ⟨rfl, by omega⟩, N0, e0⟩
  · skip
    have ihc2 : ¬ (((p0 >>> ((7 : Int32) &&& 31))).toInt = (0 : Int)) := fun q => hc2 (Int32.toInt_inj.mp q)
    have pre4 : ∀ t, own_s p e below s₁ m 14 #[iv p0] [(.int (6 : Int32)), (.int (p0 >>> ((5 : Int32) &&& 31)))] t → Steps p.tables e below S0 t := by
      intro tX kX
      refine pre1 _ ?_
      show own_s p e below s₁ m 4 #[iv p0] [(.int (p0 >>> ((7 : Int32) &&& 31)))] _
      refine XS.ifYes X0.here hx rfl (pc0 := 4) (pc' := 9) rfl (hb hby d6_4) rfl ((if0 _ _).trans (feq hc2).2) (by decide) (by decide) ?_
      show own_s p e below s₁ m 9 #[iv p0] [] _
      refine XS.iloadN X0.here hx rfl (hb hby d6_9) rfl ?_
      show own_s p e below s₁ m 10 #[iv p0] [(.int p0)] _
      refine XS.iconst X0.here hx rfl (hb hby d6_10) ?_
      show own_s p e below s₁ m 11 #[iv p0] [(.int (5 : Int32)), (.int p0)] _
      refine XS.ishr X0.here hx rfl (hb hby d6_11) rfl ?_
      show own_s p e below s₁ m 12 #[iv p0] [(.int (p0 >>> ((5 : Int32) &&& 31)))] _
      refine XS.bipush X0.here hx rfl (hb hby d6_12) ?_
      exact kX
    by_cases hc5 : (p0 >>> ((5 : Int32) &&& 31)) = (6 : Int32)
    · skip
      have ihc5 : ((p0 >>> ((5 : Int32) &&& 31))).toInt = (6 : Int) := congrArg Int32.toInt hc5
      have pre6 : ∀ t, own_s p e below s₁ m 18 #[iv p0] [(.int (2 : Int32))] t → Steps p.tables e below S0 t := by
        intro tX kX
        refine pre4 _ ?_
        show own_s p e below s₁ m 14 #[iv p0] [(.int (6 : Int32)), (.int (p0 >>> ((5 : Int32) &&& 31)))] _
        refine XS.icmpNo X0.here hx rfl (hb hby d6_14) rfl (teq hc5).2 ?_
        show own_s p e below s₁ m 17 #[iv p0] [] _
        refine XS.iconst X0.here hx rfl (hb hby d6_17) ?_
        exact kX
      subst hS0
      obtain ⟨fs, hr, hrun, hended, hW, hsame⟩ := X0.leave (v := (some (.int (2 : Int32)))) (fun h => by rw [Bd.returns] at h; cases h)
      refine ⟨_, _, pre6 _ (retI X0 hx Bd.returns (hb hby d6_18) hr), hrun, hended, _, _, rfl, ?_, ⟨_, rfl⟩, hW, hsame.mono (by decide) (by decide)⟩
      show Q6 Z p0 h0 n0 (some (.int (2 : Int32))) s₁.heap _
      exact ⟨Or.inr (Or.inl ⟨rfl, by omega⟩), N0, e0⟩
    · skip
      have ihc5 : ¬ (((p0 >>> ((5 : Int32) &&& 31))).toInt = (6 : Int)) := fun q => hc5 (Int32.toInt_inj.mp q)
      have pre7 : ∀ t, own_s p e below s₁ m 24 #[iv p0] [(.int (14 : Int32)), (.int (p0 >>> ((4 : Int32) &&& 31)))] t → Steps p.tables e below S0 t := by
        intro tX kX
        refine pre4 _ ?_
        show own_s p e below s₁ m 14 #[iv p0] [(.int (6 : Int32)), (.int (p0 >>> ((5 : Int32) &&& 31)))] _
        refine XS.icmpYes X0.here hx rfl (pc0 := 14) (pc' := 19) rfl (hb hby d6_14) rfl (feq hc5).2 (by decide) (by decide) ?_
        show own_s p e below s₁ m 19 #[iv p0] [] _
        refine XS.iloadN X0.here hx rfl (hb hby d6_19) rfl ?_
        show own_s p e below s₁ m 20 #[iv p0] [(.int p0)] _
        refine XS.iconst X0.here hx rfl (hb hby d6_20) ?_
        show own_s p e below s₁ m 21 #[iv p0] [(.int (4 : Int32)), (.int p0)] _
        refine XS.ishr X0.here hx rfl (hb hby d6_21) rfl ?_
        show own_s p e below s₁ m 22 #[iv p0] [(.int (p0 >>> ((4 : Int32) &&& 31)))] _
        refine XS.bipush X0.here hx rfl (hb hby d6_22) ?_
        exact kX
      by_cases hc8 : (p0 >>> ((4 : Int32) &&& 31)) = (14 : Int32)
      · skip
        have ihc8 : ((p0 >>> ((4 : Int32) &&& 31))).toInt = (14 : Int) := congrArg Int32.toInt hc8
        have pre9 : ∀ t, own_s p e below s₁ m 28 #[iv p0] [(.int (3 : Int32))] t → Steps p.tables e below S0 t := by
          intro tX kX
          refine pre7 _ ?_
          show own_s p e below s₁ m 24 #[iv p0] [(.int (14 : Int32)), (.int (p0 >>> ((4 : Int32) &&& 31)))] _
          refine XS.icmpNo X0.here hx rfl (hb hby d6_24) rfl (teq hc8).2 ?_
          show own_s p e below s₁ m 27 #[iv p0] [] _
          refine XS.iconst X0.here hx rfl (hb hby d6_27) ?_
          exact kX
        subst hS0
        obtain ⟨fs, hr, hrun, hended, hW, hsame⟩ := X0.leave (v := (some (.int (3 : Int32)))) (fun h => by rw [Bd.returns] at h; cases h)
        refine ⟨_, _, pre9 _ (retI X0 hx Bd.returns (hb hby d6_28) hr), hrun, hended, _, _, rfl, ?_, ⟨_, rfl⟩, hW, hsame.mono (by decide) (by decide)⟩
        show Q6 Z p0 h0 n0 (some (.int (3 : Int32))) s₁.heap _
        exact ⟨Or.inr (Or.inr (Or.inl ⟨rfl, by omega⟩)), N0, e0⟩
      · skip
        have ihc8 : ¬ (((p0 >>> ((4 : Int32) &&& 31))).toInt = (14 : Int)) := fun q => hc8 (Int32.toInt_inj.mp q)
        have pre10 : ∀ t, own_s p e below s₁ m 34 #[iv p0] [(.int (30 : Int32)), (.int (p0 >>> ((3 : Int32) &&& 31)))] t → Steps p.tables e below S0 t := by
          intro tX kX
          refine pre7 _ ?_
          show own_s p e below s₁ m 24 #[iv p0] [(.int (14 : Int32)), (.int (p0 >>> ((4 : Int32) &&& 31)))] _
          refine XS.icmpYes X0.here hx rfl (pc0 := 24) (pc' := 29) rfl (hb hby d6_24) rfl (feq hc8).2 (by decide) (by decide) ?_
          show own_s p e below s₁ m 29 #[iv p0] [] _
          refine XS.iloadN X0.here hx rfl (hb hby d6_29) rfl ?_
          show own_s p e below s₁ m 30 #[iv p0] [(.int p0)] _
          refine XS.iconst X0.here hx rfl (hb hby d6_30) ?_
          show own_s p e below s₁ m 31 #[iv p0] [(.int (3 : Int32)), (.int p0)] _
          refine XS.ishr X0.here hx rfl (hb hby d6_31) rfl ?_
          show own_s p e below s₁ m 32 #[iv p0] [(.int (p0 >>> ((3 : Int32) &&& 31)))] _
          refine XS.bipush X0.here hx rfl (hb hby d6_32) ?_
          exact kX
        by_cases hc11 : (p0 >>> ((3 : Int32) &&& 31)) = (30 : Int32)
        · skip
          have ihc11 : ((p0 >>> ((3 : Int32) &&& 31))).toInt = (30 : Int) := congrArg Int32.toInt hc11
          have pre12 : ∀ t, own_s p e below s₁ m 38 #[iv p0] [(.int (4 : Int32))] t → Steps p.tables e below S0 t := by
            intro tX kX
            refine pre10 _ ?_
            show own_s p e below s₁ m 34 #[iv p0] [(.int (30 : Int32)), (.int (p0 >>> ((3 : Int32) &&& 31)))] _
            refine XS.icmpNo X0.here hx rfl (hb hby d6_34) rfl (teq hc11).2 ?_
            show own_s p e below s₁ m 37 #[iv p0] [] _
            refine XS.iconst X0.here hx rfl (hb hby d6_37) ?_
            exact kX
          subst hS0
          obtain ⟨fs, hr, hrun, hended, hW, hsame⟩ := X0.leave (v := (some (.int (4 : Int32)))) (fun h => by rw [Bd.returns] at h; cases h)
          refine ⟨_, _, pre12 _ (retI X0 hx Bd.returns (hb hby d6_38) hr), hrun, hended, _, _, rfl, ?_, ⟨_, rfl⟩, hW, hsame.mono (by decide) (by decide)⟩
          show Q6 Z p0 h0 n0 (some (.int (4 : Int32))) s₁.heap _
          exact ⟨Or.inr (Or.inr (Or.inr (Or.inl ⟨rfl, by omega⟩))), N0, e0⟩
        · skip
          have ihc11 : ¬ (((p0 >>> ((3 : Int32) &&& 31))).toInt = (30 : Int)) := fun q => hc11 (Int32.toInt_inj.mp q)
          have pre13 : ∀ t, own_s p e below s₁ m 40 #[iv p0] [(.int (0 : Int32))] t → Steps p.tables e below S0 t := by
            intro tX kX
            refine pre10 _ ?_
            show own_s p e below s₁ m 34 #[iv p0] [(.int (30 : Int32)), (.int (p0 >>> ((3 : Int32) &&& 31)))] _
            refine XS.icmpYes X0.here hx rfl (pc0 := 34) (pc' := 39) rfl (hb hby d6_34) rfl (feq hc11).2 (by decide) (by decide) ?_
            show own_s p e below s₁ m 39 #[iv p0] [] _
            refine XS.iconst X0.here hx rfl (hb hby d6_39) ?_
            exact kX
          subst hS0
          obtain ⟨fs, hr, hrun, hended, hW, hsame⟩ := X0.leave (v := (some (.int (0 : Int32)))) (fun h => by rw [Bd.returns] at h; cases h)
          refine ⟨_, _, pre13 _ (retI X0 hx Bd.returns (hb hby d6_40) hr), hrun, hended, _, _, rfl, ?_, ⟨_, rfl⟩, hW, hsame.mono (by decide) (by decide)⟩
          show Q6 Z p0 h0 n0 (some (.int (0 : Int32))) s₁.heap _
          exact ⟨Or.inr (Or.inr (Or.inr (Or.inr (⟨rfl, by omega⟩)))), N0, e0⟩
theorem d7_0 : decode method_8_code 0 = .ok (.iload_n 0, 1) := by decide +kernel
theorem d7_1 : decode method_8_code 1 = .ok (.bipush 6, 2) := by decide +kernel
theorem d7_3 : decode method_8_code 3 = .ok (.ishr, 1) := by decide +kernel
theorem d7_4 : decode method_8_code 4 = .ok (.iconst 2, 1) := by decide +kernel
theorem d7_5 : decode method_8_code 5 = .ok (.if_icmp .ne 7, 3) := by decide +kernel
theorem d7_8 : decode method_8_code 8 = .ok (.iconst 1, 1) := by decide +kernel
theorem d7_9 : decode method_8_code 9 = .ok (.goto 4, 3) := by decide +kernel
theorem d7_12 : decode method_8_code 12 = .ok (.iconst 0, 1) := by decide +kernel
theorem d7_13 : decode method_8_code 13 = .ok (.ireturn, 1) := by decide +kernel
theorem pn_7 : plainName "com/example/weaverbird/weaverbird/model/xml/Utf8DecoderTakePinLaw" = true := by first | (simp [plainName, overriddenIn]; done) | decide +kernel
theorem ef_7 (m : MethodId) (p0 : Int32) : entryFrame m #[(.int p0)] 1 = mkF m 0 #[iv p0] [] := by first | (simp [entryFrame, mkF, argsToLocals, Value.category]; done) | rfl
def Q7 (Z : State) (p0 : Int32) (h0 : Heap) (n0 : Nat) (v : Option Value) (h : Heap) (L : List Loc) : Prop := ((v = some (.int 1) ∧ (128 ≤ p0.toInt ∧ p0.toInt < 192)) ∨ (v = some (.int 0) ∧ (p0.toInt < 128 ∨ 192 ≤ p0.toInt))) ∧ Fr n0 L ∧ h = h0
set_option maxRecDepth 65536 in
set_option maxHeartbeats 40000000 in
theorem rm7 (l : Launch) (Z : State) (a0 : Array Value) (hw : ∀ d ∈ tables_1, d.before a0 Z = true) (ws : List Jvm.Cond) (p0 : Int32) (h0 : Heap) (n0 : Nat) (Z0 : n0 ≤ h0.size) (hx0 : 0 ≤ p0.toInt) (hx1 : p0.toInt ≤ 255) :
    MetFree l (⟨"com/example/weaverbird/weaverbird/model/xml/Utf8DecoderTakePinLaw", "isCont", "(I)Z"⟩ : MethodName) (head1 (Jvm.Cond.code (⟨"com/example/weaverbird/weaverbird/model/xml/Utf8DecoderTakePinLaw", "isCont", "(I)Z"⟩ : MethodName) method_8_code 1 (some .boolean) :: ws) ({ frames := 0, cells := 0, slots := 0, locals := 0 } : Room)) (fun aX UX => aX = #[(.int p0)] ∧ Z.Warmed39 UX.vm ∧ UX.heap = h0) (fun _ _ _ _ _ => True) (fun _ UX oX UY => ∃ vX LX, oX = .returned vX ∧ Q7 Z p0 h0 n0 vX UY.heap LX ∧ FrameEnd UX oX UY LX ({ frames := 0, cells := 0, slots := 0, locals := 0 } : Room).cells ({ frames := 0, cells := 0, slots := 0, locals := 0 } : Room).slots) := by
  refine MetFree.of_bodySF (plainFor_of_name pn_7) hisR ?_
  intro p e s m args below meth c s₁ Bd hml0 hPX hKX
  obtain ⟨rfl, hZ, hh⟩ := hPX
  have hx := Bd.exec
  have hby := Bd.bytes
  have hml : c.maxLocals = 1 := hml0
  have hown : s.vm.findClass "com/example/weaverbird/weaverbird/model/xml/Utf8DecoderTakePinLaw" = some m.cls := findClass_of_methodNamed Bd.named
  have hnm := (name_of_methodNamed Bd.named Bd.method).1
  have X0 : Stand p l e ({ frames := 0, cells := 0, slots := 0, locals := 0 } : Room) s m #[(.int p0)] below meth c s₁ [] 0 0 := Stand.of_body Bd
  have e0 : s₁.heap = h0 := by rw [← hh, Bd.state]; rfl
  have N0 := Fr.nil n0
  have pre0 : ∀ t, Steps p.tables e below (s₁.setTop (mkF m 0 #[iv p0] [])) t → Steps p.tables e below (s₁.setTop (entryFrame m #[(.int p0)] 1)) t := fun t k => castTop (ef_7 m p0) k
  obtain ⟨S0, hS0⟩ : ∃ z, z = (s₁.setTop (entryFrame m #[(.int p0)] 1)) := ⟨_, rfl⟩
  rw [← hS0] at pre0
  have s6 := c_ishr p0 6 6 (by decide)
  have pre1 : ∀ t, own_s p e below s₁ m 5 #[iv p0] [(.int (2 : Int32)), (.int (p0 >>> ((6 : Int32) &&& 31)))] t → Steps p.tables e below S0 t := by
    intro tX kX
    refine pre0 _ ?_
    show own_s p e below s₁ m 0 #[iv p0] [] _
    refine XS.iloadN X0.here hx rfl (hb hby d7_0) rfl ?_
    show own_s p e below s₁ m 1 #[iv p0] [(.int p0)] _
    refine XS.bipush X0.here hx rfl (hb hby d7_1) ?_
    show own_s p e below s₁ m 3 #[iv p0] [(.int (6 : Int32)), (.int p0)] _
    refine XS.ishr X0.here hx rfl (hb hby d7_3) rfl ?_
    show own_s p e below s₁ m 4 #[iv p0] [(.int (p0 >>> ((6 : Int32) &&& 31)))] _
    refine XS.iconst X0.here hx rfl (hb hby d7_4) ?_
    exact kX
  by_cases hc2 : (p0 >>> ((6 : Int32) &&& 31)) = (2 : Int32)
  · skip
    have ihc2 : ((p0 >>> ((6 : Int32) &&& 31))).toInt = (2 : Int) := congrArg Int32.toInt hc2
    have pre3 : ∀ t, own_s p e below s₁ m 13 #[iv p0] [(.int (1 : Int32))] t → Steps p.tables e below S0 t := by
      intro tX kX
      refine pre1 _ ?_
      show own_s p e below s₁ m 5 #[iv p0] [(.int (2 : Int32)), (.int (p0 >>> ((6 : Int32) &&& 31)))] _
      refine XS.icmpNo X0.here hx rfl (hb hby d7_5) rfl (teq hc2).2 ?_
      show own_s p e below s₁ m 8 #[iv p0] [] _
      refine XS.iconst X0.here hx rfl (hb hby d7_8) ?_
      show own_s p e below s₁ m 9 #[iv p0] [(.int (1 : Int32))] _
      refine XS.goto X0.here hx rfl (pc0 := 9) (pc' := 13) rfl (hb hby d7_9) (by decide) (by decide) ?_
      exact kX
    subst hS0
    obtain ⟨fs, hr, hrun, hended, hW, hsame⟩ := X0.leave (v := (some (.int (1 : Int32)))) (fun h => by rw [Bd.returns] at h; cases h)
    refine ⟨_, _, pre3 _ (retN X0 hx (t := .boolean) Bd.returns (by simp) (hb hby d7_13) hr), hrun, hended, _, _, rfl, ?_, ⟨_, rfl⟩, hW, hsame.mono (by decide) (by decide)⟩
    show Q7 Z p0 h0 n0 (some (.int (1 : Int32))) s₁.heap _
    exact ⟨Or.inl ⟨rfl, by omega⟩, N0, e0⟩
  · skip
    have ihc2 : ¬ (((p0 >>> ((6 : Int32) &&& 31))).toInt = (2 : Int)) := fun q => hc2 (Int32.toInt_inj.mp q)
    have pre4 : ∀ t, own_s p e below s₁ m 13 #[iv p0] [(.int (0 : Int32))] t → Steps p.tables e below S0 t := by
      intro tX kX
      refine pre1 _ ?_
      show own_s p e below s₁ m 5 #[iv p0] [(.int (2 : Int32)), (.int (p0 >>> ((6 : Int32) &&& 31)))] _
      refine XS.icmpYes X0.here hx rfl (pc0 := 5) (pc' := 12) rfl (hb hby d7_5) rfl (feq hc2).2 (by decide) (by decide) ?_
      show own_s p e below s₁ m 12 #[iv p0] [] _
      refine XS.iconst X0.here hx rfl (hb hby d7_12) ?_
      exact kX
    subst hS0
    obtain ⟨fs, hr, hrun, hended, hW, hsame⟩ := X0.leave (v := (some (.int (0 : Int32)))) (fun h => by rw [Bd.returns] at h; cases h)
    refine ⟨_, _, pre4 _ (retN X0 hx (t := .boolean) Bd.returns (by simp) (hb hby d7_13) hr), hrun, hended, _, _, rfl, ?_, ⟨_, rfl⟩, hW, hsame.mono (by decide) (by decide)⟩
    show Q7 Z p0 h0 n0 (some (.int (0 : Int32))) s₁.heap _
    exact ⟨Or.inr (⟨rfl, by omega⟩), N0, e0⟩
theorem d8_0 : decode method_7_code 0 = .ok (.iload_n 1, 1) := by decide +kernel
theorem d8_1 : decode method_7_code 1 = .ok (.iconst 2, 1) := by decide +kernel
theorem d8_2 : decode method_7_code 2 = .ok (.if_icmp .ne 8, 3) := by decide +kernel
theorem d8_5 : decode method_7_code 5 = .ok (.iload_n 0, 1) := by decide +kernel
theorem d8_6 : decode method_7_code 6 = .ok (.bipush 31, 2) := by decide +kernel
theorem d8_8 : decode method_7_code 8 = .ok (.iand, 1) := by decide +kernel
theorem d8_9 : decode method_7_code 9 = .ok (.ireturn, 1) := by decide +kernel
theorem pn_8 : plainName "com/example/weaverbird/weaverbird/model/xml/Utf8DecoderTakePinLaw" = true := by first | (simp [plainName, overriddenIn]; done) | decide +kernel
theorem ef_8 (m : MethodId) (p0 : Int32) : entryFrame m #[(.int p0), (.int (2 : Int32))] 2 = mkF m 0 #[iv p0, iv (2 : Int32)] [] := by first | (simp [entryFrame, mkF, argsToLocals, Value.category]; done) | rfl
def Q8 (Z : State) (p0 : Int32) (h0 : Heap) (n0 : Nat) (v : Option Value) (h : Heap) (L : List Loc) : Prop := (∃ v' : Int32, v = some (.int v') ∧ v'.toInt = p0.toInt % 32) ∧ Fr n0 L ∧ h = h0
set_option maxRecDepth 65536 in
set_option maxHeartbeats 40000000 in
theorem rm8 (l : Launch) (Z : State) (a0 : Array Value) (hw : ∀ d ∈ tables_1, d.before a0 Z = true) (ws : List Jvm.Cond) (p0 : Int32) (h0 : Heap) (n0 : Nat) (Z0 : n0 ≤ h0.size)  :
    MetFree l (⟨"com/example/weaverbird/weaverbird/model/xml/Utf8DecoderTakePinLaw", "leadBits", "(II)I"⟩ : MethodName) (head1 (Jvm.Cond.code (⟨"com/example/weaverbird/weaverbird/model/xml/Utf8DecoderTakePinLaw", "leadBits", "(II)I"⟩ : MethodName) method_7_code 2 (some .int) :: ws) ({ frames := 0, cells := 0, slots := 0, locals := 0 } : Room)) (fun aX UX => aX = #[(.int p0), (.int (2 : Int32))] ∧ Z.Warmed39 UX.vm ∧ UX.heap = h0) (fun _ _ _ _ _ => True) (fun _ UX oX UY => ∃ vX LX, oX = .returned vX ∧ Q8 Z p0 h0 n0 vX UY.heap LX ∧ FrameEnd UX oX UY LX ({ frames := 0, cells := 0, slots := 0, locals := 0 } : Room).cells ({ frames := 0, cells := 0, slots := 0, locals := 0 } : Room).slots) := by
  refine MetFree.of_bodySF (plainFor_of_name pn_8) hisR ?_
  intro p e s m args below meth c s₁ Bd hml0 hPX hKX
  obtain ⟨rfl, hZ, hh⟩ := hPX
  have hx := Bd.exec
  have hby := Bd.bytes
  have hml : c.maxLocals = 2 := hml0
  have hown : s.vm.findClass "com/example/weaverbird/weaverbird/model/xml/Utf8DecoderTakePinLaw" = some m.cls := findClass_of_methodNamed Bd.named
  have hnm := (name_of_methodNamed Bd.named Bd.method).1
  have X0 : Stand p l e ({ frames := 0, cells := 0, slots := 0, locals := 0 } : Room) s m #[(.int p0), (.int (2 : Int32))] below meth c s₁ [] 0 0 := Stand.of_body Bd
  have e0 : s₁.heap = h0 := by rw [← hh, Bd.state]; rfl
  have N0 := Fr.nil n0
  have pre0 : ∀ t, Steps p.tables e below (s₁.setTop (mkF m 0 #[iv p0, iv (2 : Int32)] [])) t → Steps p.tables e below (s₁.setTop (entryFrame m #[(.int p0), (.int (2 : Int32))] 2)) t := fun t k => castTop (ef_8 m p0) k
  obtain ⟨S0, hS0⟩ : ∃ z, z = (s₁.setTop (entryFrame m #[(.int p0), (.int (2 : Int32))] 2)) := ⟨_, rfl⟩
  rw [← hS0] at pre0
  have pre1 : ∀ t, own_s p e below s₁ m 9 #[iv p0, iv (2 : Int32)] [(.int (p0 &&& (31 : Int32)))] t → Steps p.tables e below S0 t := by
    intro tX kX
    refine pre0 _ ?_
    show own_s p e below s₁ m 0 #[iv p0, iv (2 : Int32)] [] _
    refine XS.iloadN X0.here hx rfl (hb hby d8_0) rfl ?_
    show own_s p e below s₁ m 1 #[iv p0, iv (2 : Int32)] [(.int (2 : Int32))] _
    refine XS.iconst X0.here hx rfl (hb hby d8_1) ?_
    show own_s p e below s₁ m 2 #[iv p0, iv (2 : Int32)] [(.int (2 : Int32)), (.int (2 : Int32))] _
    refine XS.icmpNo X0.here hx rfl (hb hby d8_2) rfl (teq (by decide : (2 : Int32) = (2 : Int32))).2 ?_
    show own_s p e below s₁ m 5 #[iv p0, iv (2 : Int32)] [] _
    refine XS.iloadN X0.here hx rfl (hb hby d8_5) rfl ?_
    show own_s p e below s₁ m 6 #[iv p0, iv (2 : Int32)] [(.int p0)] _
    refine XS.bipush X0.here hx rfl (hb hby d8_6) ?_
    show own_s p e below s₁ m 8 #[iv p0, iv (2 : Int32)] [(.int (31 : Int32)), (.int p0)] _
    refine XS.iand X0.here hx rfl (hb hby d8_8) rfl ?_
    exact kX
  subst hS0
  obtain ⟨fs, hr, hrun, hended, hW, hsame⟩ := X0.leave (v := (some (.int (p0 &&& (31 : Int32))))) (fun h => by rw [Bd.returns] at h; cases h)
  refine ⟨_, _, pre1 _ (retI X0 hx Bd.returns (hb hby d8_9) hr), hrun, hended, _, _, rfl, ?_, ⟨_, rfl⟩, hW, hsame.mono (by decide) (by decide)⟩
  show Q8 Z p0 h0 n0 (some (.int (p0 &&& (31 : Int32)))) s₁.heap _
  exact ⟨⟨_, rfl, by have := c_mask p0 31 5 (by decide) (by decide); omega⟩, N0, e0⟩
theorem d9_0 : decode method_7_code 0 = .ok (.iload_n 1, 1) := by decide +kernel
theorem d9_1 : decode method_7_code 1 = .ok (.iconst 2, 1) := by decide +kernel
theorem d9_2 : decode method_7_code 2 = .ok (.if_icmp .ne 8, 3) := by decide +kernel
theorem d9_10 : decode method_7_code 10 = .ok (.iload_n 1, 1) := by decide +kernel
theorem d9_11 : decode method_7_code 11 = .ok (.iconst 3, 1) := by decide +kernel
theorem d9_12 : decode method_7_code 12 = .ok (.if_icmp .ne 8, 3) := by decide +kernel
theorem d9_15 : decode method_7_code 15 = .ok (.iload_n 0, 1) := by decide +kernel
theorem d9_16 : decode method_7_code 16 = .ok (.bipush 15, 2) := by decide +kernel
theorem d9_18 : decode method_7_code 18 = .ok (.iand, 1) := by decide +kernel
theorem d9_19 : decode method_7_code 19 = .ok (.ireturn, 1) := by decide +kernel
theorem pn_9 : plainName "com/example/weaverbird/weaverbird/model/xml/Utf8DecoderTakePinLaw" = true := by first | (simp [plainName, overriddenIn]; done) | decide +kernel
theorem ef_9 (m : MethodId) (p0 : Int32) : entryFrame m #[(.int p0), (.int (3 : Int32))] 2 = mkF m 0 #[iv p0, iv (3 : Int32)] [] := by first | (simp [entryFrame, mkF, argsToLocals, Value.category]; done) | rfl
def Q9 (Z : State) (p0 : Int32) (h0 : Heap) (n0 : Nat) (v : Option Value) (h : Heap) (L : List Loc) : Prop := (∃ v' : Int32, v = some (.int v') ∧ v'.toInt = p0.toInt % 16) ∧ Fr n0 L ∧ h = h0
set_option maxRecDepth 65536 in
set_option maxHeartbeats 40000000 in
theorem rm9 (l : Launch) (Z : State) (a0 : Array Value) (hw : ∀ d ∈ tables_1, d.before a0 Z = true) (ws : List Jvm.Cond) (p0 : Int32) (h0 : Heap) (n0 : Nat) (Z0 : n0 ≤ h0.size)  :
    MetFree l (⟨"com/example/weaverbird/weaverbird/model/xml/Utf8DecoderTakePinLaw", "leadBits", "(II)I"⟩ : MethodName) (head1 (Jvm.Cond.code (⟨"com/example/weaverbird/weaverbird/model/xml/Utf8DecoderTakePinLaw", "leadBits", "(II)I"⟩ : MethodName) method_7_code 2 (some .int) :: ws) ({ frames := 0, cells := 0, slots := 0, locals := 0 } : Room)) (fun aX UX => aX = #[(.int p0), (.int (3 : Int32))] ∧ Z.Warmed39 UX.vm ∧ UX.heap = h0) (fun _ _ _ _ _ => True) (fun _ UX oX UY => ∃ vX LX, oX = .returned vX ∧ Q9 Z p0 h0 n0 vX UY.heap LX ∧ FrameEnd UX oX UY LX ({ frames := 0, cells := 0, slots := 0, locals := 0 } : Room).cells ({ frames := 0, cells := 0, slots := 0, locals := 0 } : Room).slots) := by
  refine MetFree.of_bodySF (plainFor_of_name pn_9) hisR ?_
  intro p e s m args below meth c s₁ Bd hml0 hPX hKX
  obtain ⟨rfl, hZ, hh⟩ := hPX
  have hx := Bd.exec
  have hby := Bd.bytes
  have hml : c.maxLocals = 2 := hml0
  have hown : s.vm.findClass "com/example/weaverbird/weaverbird/model/xml/Utf8DecoderTakePinLaw" = some m.cls := findClass_of_methodNamed Bd.named
  have hnm := (name_of_methodNamed Bd.named Bd.method).1
  have X0 : Stand p l e ({ frames := 0, cells := 0, slots := 0, locals := 0 } : Room) s m #[(.int p0), (.int (3 : Int32))] below meth c s₁ [] 0 0 := Stand.of_body Bd
  have e0 : s₁.heap = h0 := by rw [← hh, Bd.state]; rfl
  have N0 := Fr.nil n0
  have pre0 : ∀ t, Steps p.tables e below (s₁.setTop (mkF m 0 #[iv p0, iv (3 : Int32)] [])) t → Steps p.tables e below (s₁.setTop (entryFrame m #[(.int p0), (.int (3 : Int32))] 2)) t := fun t k => castTop (ef_9 m p0) k
  obtain ⟨S0, hS0⟩ : ∃ z, z = (s₁.setTop (entryFrame m #[(.int p0), (.int (3 : Int32))] 2)) := ⟨_, rfl⟩
  rw [← hS0] at pre0
  have pre1 : ∀ t, own_s p e below s₁ m 19 #[iv p0, iv (3 : Int32)] [(.int (p0 &&& (15 : Int32)))] t → Steps p.tables e below S0 t := by
    intro tX kX
    refine pre0 _ ?_
    show own_s p e below s₁ m 0 #[iv p0, iv (3 : Int32)] [] _
    refine XS.iloadN X0.here hx rfl (hb hby d9_0) rfl ?_
    show own_s p e below s₁ m 1 #[iv p0, iv (3 : Int32)] [(.int (3 : Int32))] _
    refine XS.iconst X0.here hx rfl (hb hby d9_1) ?_
    show own_s p e below s₁ m 2 #[iv p0, iv (3 : Int32)] [(.int (2 : Int32)), (.int (3 : Int32))] _
    refine XS.icmpYes X0.here hx rfl (pc0 := 2) (pc' := 10) rfl (hb hby d9_2) rfl (feq (by decide : ¬ ((3 : Int32) = (2 : Int32)))).2 (by decide) (by decide) ?_
    show own_s p e below s₁ m 10 #[iv p0, iv (3 : Int32)] [] _
    refine XS.iloadN X0.here hx rfl (hb hby d9_10) rfl ?_
    show own_s p e below s₁ m 11 #[iv p0, iv (3 : Int32)] [(.int (3 : Int32))] _
    refine XS.iconst X0.here hx rfl (hb hby d9_11) ?_
    show own_s p e below s₁ m 12 #[iv p0, iv (3 : Int32)] [(.int (3 : Int32)), (.int (3 : Int32))] _
    refine XS.icmpNo X0.here hx rfl (hb hby d9_12) rfl (teq (by decide : (3 : Int32) = (3 : Int32))).2 ?_
    show own_s p e below s₁ m 15 #[iv p0, iv (3 : Int32)] [] _
    refine XS.iloadN X0.here hx rfl (hb hby d9_15) rfl ?_
    show own_s p e below s₁ m 16 #[iv p0, iv (3 : Int32)] [(.int p0)] _
    refine XS.bipush X0.here hx rfl (hb hby d9_16) ?_
    show own_s p e below s₁ m 18 #[iv p0, iv (3 : Int32)] [(.int (15 : Int32)), (.int p0)] _
    refine XS.iand X0.here hx rfl (hb hby d9_18) rfl ?_
    exact kX
  subst hS0
  obtain ⟨fs, hr, hrun, hended, hW, hsame⟩ := X0.leave (v := (some (.int (p0 &&& (15 : Int32))))) (fun h => by rw [Bd.returns] at h; cases h)
  refine ⟨_, _, pre1 _ (retI X0 hx Bd.returns (hb hby d9_19) hr), hrun, hended, _, _, rfl, ?_, ⟨_, rfl⟩, hW, hsame.mono (by decide) (by decide)⟩
  show Q9 Z p0 h0 n0 (some (.int (p0 &&& (15 : Int32)))) s₁.heap _
  exact ⟨⟨_, rfl, by have := c_mask p0 15 4 (by decide) (by decide); omega⟩, N0, e0⟩
theorem d10_0 : decode method_7_code 0 = .ok (.iload_n 1, 1) := by decide +kernel
theorem d10_1 : decode method_7_code 1 = .ok (.iconst 2, 1) := by decide +kernel
theorem d10_2 : decode method_7_code 2 = .ok (.if_icmp .ne 8, 3) := by decide +kernel
theorem d10_10 : decode method_7_code 10 = .ok (.iload_n 1, 1) := by decide +kernel
theorem d10_11 : decode method_7_code 11 = .ok (.iconst 3, 1) := by decide +kernel
theorem d10_12 : decode method_7_code 12 = .ok (.if_icmp .ne 8, 3) := by decide +kernel
theorem d10_20 : decode method_7_code 20 = .ok (.iload_n 0, 1) := by decide +kernel
theorem d10_21 : decode method_7_code 21 = .ok (.bipush 7, 2) := by decide +kernel
theorem d10_23 : decode method_7_code 23 = .ok (.iand, 1) := by decide +kernel
theorem d10_24 : decode method_7_code 24 = .ok (.ireturn, 1) := by decide +kernel
theorem pn_10 : plainName "com/example/weaverbird/weaverbird/model/xml/Utf8DecoderTakePinLaw" = true := by first | (simp [plainName, overriddenIn]; done) | decide +kernel
theorem ef_10 (m : MethodId) (p0 : Int32) : entryFrame m #[(.int p0), (.int (4 : Int32))] 2 = mkF m 0 #[iv p0, iv (4 : Int32)] [] := by first | (simp [entryFrame, mkF, argsToLocals, Value.category]; done) | rfl
def Q10 (Z : State) (p0 : Int32) (h0 : Heap) (n0 : Nat) (v : Option Value) (h : Heap) (L : List Loc) : Prop := (∃ v' : Int32, v = some (.int v') ∧ v'.toInt = p0.toInt % 8) ∧ Fr n0 L ∧ h = h0
set_option maxRecDepth 65536 in
set_option maxHeartbeats 40000000 in
theorem rm10 (l : Launch) (Z : State) (a0 : Array Value) (hw : ∀ d ∈ tables_1, d.before a0 Z = true) (ws : List Jvm.Cond) (p0 : Int32) (h0 : Heap) (n0 : Nat) (Z0 : n0 ≤ h0.size)  :
    MetFree l (⟨"com/example/weaverbird/weaverbird/model/xml/Utf8DecoderTakePinLaw", "leadBits", "(II)I"⟩ : MethodName) (head1 (Jvm.Cond.code (⟨"com/example/weaverbird/weaverbird/model/xml/Utf8DecoderTakePinLaw", "leadBits", "(II)I"⟩ : MethodName) method_7_code 2 (some .int) :: ws) ({ frames := 0, cells := 0, slots := 0, locals := 0 } : Room)) (fun aX UX => aX = #[(.int p0), (.int (4 : Int32))] ∧ Z.Warmed39 UX.vm ∧ UX.heap = h0) (fun _ _ _ _ _ => True) (fun _ UX oX UY => ∃ vX LX, oX = .returned vX ∧ Q10 Z p0 h0 n0 vX UY.heap LX ∧ FrameEnd UX oX UY LX ({ frames := 0, cells := 0, slots := 0, locals := 0 } : Room).cells ({ frames := 0, cells := 0, slots := 0, locals := 0 } : Room).slots) := by
  refine MetFree.of_bodySF (plainFor_of_name pn_10) hisR ?_
  intro p e s m args below meth c s₁ Bd hml0 hPX hKX
  obtain ⟨rfl, hZ, hh⟩ := hPX
  have hx := Bd.exec
  have hby := Bd.bytes
  have hml : c.maxLocals = 2 := hml0
  have hown : s.vm.findClass "com/example/weaverbird/weaverbird/model/xml/Utf8DecoderTakePinLaw" = some m.cls := findClass_of_methodNamed Bd.named
  have hnm := (name_of_methodNamed Bd.named Bd.method).1
  have X0 : Stand p l e ({ frames := 0, cells := 0, slots := 0, locals := 0 } : Room) s m #[(.int p0), (.int (4 : Int32))] below meth c s₁ [] 0 0 := Stand.of_body Bd
  have e0 : s₁.heap = h0 := by rw [← hh, Bd.state]; rfl
  have N0 := Fr.nil n0
  have pre0 : ∀ t, Steps p.tables e below (s₁.setTop (mkF m 0 #[iv p0, iv (4 : Int32)] [])) t → Steps p.tables e below (s₁.setTop (entryFrame m #[(.int p0), (.int (4 : Int32))] 2)) t := fun t k => castTop (ef_10 m p0) k
  obtain ⟨S0, hS0⟩ : ∃ z, z = (s₁.setTop (entryFrame m #[(.int p0), (.int (4 : Int32))] 2)) := ⟨_, rfl⟩
  rw [← hS0] at pre0
  have pre1 : ∀ t, own_s p e below s₁ m 24 #[iv p0, iv (4 : Int32)] [(.int (p0 &&& (7 : Int32)))] t → Steps p.tables e below S0 t := by
    intro tX kX
    refine pre0 _ ?_
    show own_s p e below s₁ m 0 #[iv p0, iv (4 : Int32)] [] _
    refine XS.iloadN X0.here hx rfl (hb hby d10_0) rfl ?_
    show own_s p e below s₁ m 1 #[iv p0, iv (4 : Int32)] [(.int (4 : Int32))] _
    refine XS.iconst X0.here hx rfl (hb hby d10_1) ?_
    show own_s p e below s₁ m 2 #[iv p0, iv (4 : Int32)] [(.int (2 : Int32)), (.int (4 : Int32))] _
    refine XS.icmpYes X0.here hx rfl (pc0 := 2) (pc' := 10) rfl (hb hby d10_2) rfl (feq (by decide : ¬ ((4 : Int32) = (2 : Int32)))).2 (by decide) (by decide) ?_
    show own_s p e below s₁ m 10 #[iv p0, iv (4 : Int32)] [] _
    refine XS.iloadN X0.here hx rfl (hb hby d10_10) rfl ?_
    show own_s p e below s₁ m 11 #[iv p0, iv (4 : Int32)] [(.int (4 : Int32))] _
    refine XS.iconst X0.here hx rfl (hb hby d10_11) ?_
    show own_s p e below s₁ m 12 #[iv p0, iv (4 : Int32)] [(.int (3 : Int32)), (.int (4 : Int32))] _
    refine XS.icmpYes X0.here hx rfl (pc0 := 12) (pc' := 20) rfl (hb hby d10_12) rfl (feq (by decide : ¬ ((4 : Int32) = (3 : Int32)))).2 (by decide) (by decide) ?_
    show own_s p e below s₁ m 20 #[iv p0, iv (4 : Int32)] [] _
    refine XS.iloadN X0.here hx rfl (hb hby d10_20) rfl ?_
    show own_s p e below s₁ m 21 #[iv p0, iv (4 : Int32)] [(.int p0)] _
    refine XS.bipush X0.here hx rfl (hb hby d10_21) ?_
    show own_s p e below s₁ m 23 #[iv p0, iv (4 : Int32)] [(.int (7 : Int32)), (.int p0)] _
    refine XS.iand X0.here hx rfl (hb hby d10_23) rfl ?_
    exact kX
  subst hS0
  obtain ⟨fs, hr, hrun, hended, hW, hsame⟩ := X0.leave (v := (some (.int (p0 &&& (7 : Int32))))) (fun h => by rw [Bd.returns] at h; cases h)
  refine ⟨_, _, pre1 _ (retI X0 hx Bd.returns (hb hby d10_24) hr), hrun, hended, _, _, rfl, ?_, ⟨_, rfl⟩, hW, hsame.mono (by decide) (by decide)⟩
  show Q10 Z p0 h0 n0 (some (.int (p0 &&& (7 : Int32)))) s₁.heap _
  exact ⟨⟨_, rfl, by have := c_mask p0 7 3 (by decide) (by decide); omega⟩, N0, e0⟩
theorem d11_0 : decode method_9_code 0 = .ok (.iload_n 0, 1) := by decide +kernel
theorem d11_1 : decode method_9_code 1 = .ok (.iconst 2, 1) := by decide +kernel
theorem d11_2 : decode method_9_code 2 = .ok (.if_icmp .ne 7, 3) := by decide +kernel
theorem d11_5 : decode method_9_code 5 = .ok (.sipush 128, 3) := by decide +kernel
theorem d11_8 : decode method_9_code 8 = .ok (.ireturn, 1) := by decide +kernel
theorem pn_11 : plainName "com/example/weaverbird/weaverbird/model/xml/Utf8DecoderTakePinLaw" = true := by first | (simp [plainName, overriddenIn]; done) | decide +kernel
theorem ef_11 (m : MethodId)  : entryFrame m #[(.int (2 : Int32))] 1 = mkF m 0 #[iv (2 : Int32)] [] := by first | (simp [entryFrame, mkF, argsToLocals, Value.category]; done) | rfl
def Q11 (Z : State)  (h0 : Heap) (n0 : Nat) (v : Option Value) (h : Heap) (L : List Loc) : Prop := v = some (.int (128 : Int32)) ∧ Fr n0 L ∧ h = h0
set_option maxRecDepth 65536 in
set_option maxHeartbeats 40000000 in
theorem rm11 (l : Launch) (Z : State) (a0 : Array Value) (hw : ∀ d ∈ tables_1, d.before a0 Z = true) (ws : List Jvm.Cond)  (h0 : Heap) (n0 : Nat) (Z0 : n0 ≤ h0.size)  :
    MetFree l (⟨"com/example/weaverbird/weaverbird/model/xml/Utf8DecoderTakePinLaw", "minOf", "(I)I"⟩ : MethodName) (head1 (Jvm.Cond.code (⟨"com/example/weaverbird/weaverbird/model/xml/Utf8DecoderTakePinLaw", "minOf", "(I)I"⟩ : MethodName) method_9_code 1 (some .int) :: ws) ({ frames := 0, cells := 0, slots := 0, locals := 0 } : Room)) (fun aX UX => aX = #[(.int (2 : Int32))] ∧ Z.Warmed39 UX.vm ∧ UX.heap = h0) (fun _ _ _ _ _ => True) (fun _ UX oX UY => ∃ vX LX, oX = .returned vX ∧ Q11 Z  h0 n0 vX UY.heap LX ∧ FrameEnd UX oX UY LX ({ frames := 0, cells := 0, slots := 0, locals := 0 } : Room).cells ({ frames := 0, cells := 0, slots := 0, locals := 0 } : Room).slots) := by
  refine MetFree.of_bodySF (plainFor_of_name pn_11) hisR ?_
  intro p e s m args below meth c s₁ Bd hml0 hPX hKX
  obtain ⟨rfl, hZ, hh⟩ := hPX
  have hx := Bd.exec
  have hby := Bd.bytes
  have hml : c.maxLocals = 1 := hml0
  have hown : s.vm.findClass "com/example/weaverbird/weaverbird/model/xml/Utf8DecoderTakePinLaw" = some m.cls := findClass_of_methodNamed Bd.named
  have hnm := (name_of_methodNamed Bd.named Bd.method).1
  have X0 : Stand p l e ({ frames := 0, cells := 0, slots := 0, locals := 0 } : Room) s m #[(.int (2 : Int32))] below meth c s₁ [] 0 0 := Stand.of_body Bd
  have e0 : s₁.heap = h0 := by rw [← hh, Bd.state]; rfl
  have N0 := Fr.nil n0
  have pre0 : ∀ t, Steps p.tables e below (s₁.setTop (mkF m 0 #[iv (2 : Int32)] [])) t → Steps p.tables e below (s₁.setTop (entryFrame m #[(.int (2 : Int32))] 1)) t := fun t k => castTop (ef_11 m ) k
  obtain ⟨S0, hS0⟩ : ∃ z, z = (s₁.setTop (entryFrame m #[(.int (2 : Int32))] 1)) := ⟨_, rfl⟩
  rw [← hS0] at pre0
  have pre1 : ∀ t, own_s p e below s₁ m 8 #[iv (2 : Int32)] [(.int (128 : Int32))] t → Steps p.tables e below S0 t := by
    intro tX kX
    refine pre0 _ ?_
    show own_s p e below s₁ m 0 #[iv (2 : Int32)] [] _
    refine XS.iloadN X0.here hx rfl (hb hby d11_0) rfl ?_
    show own_s p e below s₁ m 1 #[iv (2 : Int32)] [(.int (2 : Int32))] _
    refine XS.iconst X0.here hx rfl (hb hby d11_1) ?_
    show own_s p e below s₁ m 2 #[iv (2 : Int32)] [(.int (2 : Int32)), (.int (2 : Int32))] _
    refine XS.icmpNo X0.here hx rfl (hb hby d11_2) rfl (teq (by decide : (2 : Int32) = (2 : Int32))).2 ?_
    show own_s p e below s₁ m 5 #[iv (2 : Int32)] [] _
    refine XS.sipush X0.here hx rfl (hb hby d11_5) ?_
    exact kX
  subst hS0
  obtain ⟨fs, hr, hrun, hended, hW, hsame⟩ := X0.leave (v := (some (.int (128 : Int32)))) (fun h => by rw [Bd.returns] at h; cases h)
  refine ⟨_, _, pre1 _ (retI X0 hx Bd.returns (hb hby d11_8) hr), hrun, hended, _, _, rfl, ?_, ⟨_, rfl⟩, hW, hsame.mono (by decide) (by decide)⟩
  show Q11 Z  h0 n0 (some (.int (128 : Int32))) s₁.heap _
  exact ⟨rfl, N0, e0⟩
theorem d12_0 : decode method_9_code 0 = .ok (.iload_n 0, 1) := by decide +kernel
theorem d12_1 : decode method_9_code 1 = .ok (.iconst 2, 1) := by decide +kernel
theorem d12_2 : decode method_9_code 2 = .ok (.if_icmp .ne 7, 3) := by decide +kernel
theorem d12_9 : decode method_9_code 9 = .ok (.iload_n 0, 1) := by decide +kernel
theorem d12_10 : decode method_9_code 10 = .ok (.iconst 3, 1) := by decide +kernel
theorem d12_11 : decode method_9_code 11 = .ok (.if_icmp .ne 7, 3) := by decide +kernel
theorem d12_14 : decode method_9_code 14 = .ok (.sipush 2048, 3) := by decide +kernel
theorem d12_17 : decode method_9_code 17 = .ok (.ireturn, 1) := by decide +kernel
theorem pn_12 : plainName "com/example/weaverbird/weaverbird/model/xml/Utf8DecoderTakePinLaw" = true := by first | (simp [plainName, overriddenIn]; done) | decide +kernel
theorem ef_12 (m : MethodId)  : entryFrame m #[(.int (3 : Int32))] 1 = mkF m 0 #[iv (3 : Int32)] [] := by first | (simp [entryFrame, mkF, argsToLocals, Value.category]; done) | rfl
def Q12 (Z : State)  (h0 : Heap) (n0 : Nat) (v : Option Value) (h : Heap) (L : List Loc) : Prop := v = some (.int (2048 : Int32)) ∧ Fr n0 L ∧ h = h0
set_option maxRecDepth 65536 in
set_option maxHeartbeats 40000000 in
theorem rm12 (l : Launch) (Z : State) (a0 : Array Value) (hw : ∀ d ∈ tables_1, d.before a0 Z = true) (ws : List Jvm.Cond)  (h0 : Heap) (n0 : Nat) (Z0 : n0 ≤ h0.size)  :
    MetFree l (⟨"com/example/weaverbird/weaverbird/model/xml/Utf8DecoderTakePinLaw", "minOf", "(I)I"⟩ : MethodName) (head1 (Jvm.Cond.code (⟨"com/example/weaverbird/weaverbird/model/xml/Utf8DecoderTakePinLaw", "minOf", "(I)I"⟩ : MethodName) method_9_code 1 (some .int) :: ws) ({ frames := 0, cells := 0, slots := 0, locals := 0 } : Room)) (fun aX UX => aX = #[(.int (3 : Int32))] ∧ Z.Warmed39 UX.vm ∧ UX.heap = h0) (fun _ _ _ _ _ => True) (fun _ UX oX UY => ∃ vX LX, oX = .returned vX ∧ Q12 Z  h0 n0 vX UY.heap LX ∧ FrameEnd UX oX UY LX ({ frames := 0, cells := 0, slots := 0, locals := 0 } : Room).cells ({ frames := 0, cells := 0, slots := 0, locals := 0 } : Room).slots) := by
  refine MetFree.of_bodySF (plainFor_of_name pn_12) hisR ?_
  intro p e s m args below meth c s₁ Bd hml0 hPX hKX
  obtain ⟨rfl, hZ, hh⟩ := hPX
  have hx := Bd.exec
  have hby := Bd.bytes
  have hml : c.maxLocals = 1 := hml0
  have hown : s.vm.findClass "com/example/weaverbird/weaverbird/model/xml/Utf8DecoderTakePinLaw" = some m.cls := findClass_of_methodNamed Bd.named
  have hnm := (name_of_methodNamed Bd.named Bd.method).1
  have X0 : Stand p l e ({ frames := 0, cells := 0, slots := 0, locals := 0 } : Room) s m #[(.int (3 : Int32))] below meth c s₁ [] 0 0 := Stand.of_body Bd
  have e0 : s₁.heap = h0 := by rw [← hh, Bd.state]; rfl
  have N0 := Fr.nil n0
  have pre0 : ∀ t, Steps p.tables e below (s₁.setTop (mkF m 0 #[iv (3 : Int32)] [])) t → Steps p.tables e below (s₁.setTop (entryFrame m #[(.int (3 : Int32))] 1)) t := fun t k => castTop (ef_12 m ) k
  obtain ⟨S0, hS0⟩ : ∃ z, z = (s₁.setTop (entryFrame m #[(.int (3 : Int32))] 1)) := ⟨_, rfl⟩
  rw [← hS0] at pre0
  have pre1 : ∀ t, own_s p e below s₁ m 17 #[iv (3 : Int32)] [(.int (2048 : Int32))] t → Steps p.tables e below S0 t := by
    intro tX kX
    refine pre0 _ ?_
    show own_s p e below s₁ m 0 #[iv (3 : Int32)] [] _
    refine XS.iloadN X0.here hx rfl (hb hby d12_0) rfl ?_
    show own_s p e below s₁ m 1 #[iv (3 : Int32)] [(.int (3 : Int32))] _
    refine XS.iconst X0.here hx rfl (hb hby d12_1) ?_
    show own_s p e below s₁ m 2 #[iv (3 : Int32)] [(.int (2 : Int32)), (.int (3 : Int32))] _
    refine XS.icmpYes X0.here hx rfl (pc0 := 2) (pc' := 9) rfl (hb hby d12_2) rfl (feq (by decide : ¬ ((3 : Int32) = (2 : Int32)))).2 (by decide) (by decide) ?_
    show own_s p e below s₁ m 9 #[iv (3 : Int32)] [] _
    refine XS.iloadN X0.here hx rfl (hb hby d12_9) rfl ?_
    show own_s p e below s₁ m 10 #[iv (3 : Int32)] [(.int (3 : Int32))] _
    refine XS.iconst X0.here hx rfl (hb hby d12_10) ?_
    show own_s p e below s₁ m 11 #[iv (3 : Int32)] [(.int (3 : Int32)), (.int (3 : Int32))] _
    refine XS.icmpNo X0.here hx rfl (hb hby d12_11) rfl (teq (by decide : (3 : Int32) = (3 : Int32))).2 ?_
    show own_s p e below s₁ m 14 #[iv (3 : Int32)] [] _
    refine XS.sipush X0.here hx rfl (hb hby d12_14) ?_
    exact kX
  subst hS0
  obtain ⟨fs, hr, hrun, hended, hW, hsame⟩ := X0.leave (v := (some (.int (2048 : Int32)))) (fun h => by rw [Bd.returns] at h; cases h)
  refine ⟨_, _, pre1 _ (retI X0 hx Bd.returns (hb hby d12_17) hr), hrun, hended, _, _, rfl, ?_, ⟨_, rfl⟩, hW, hsame.mono (by decide) (by decide)⟩
  show Q12 Z  h0 n0 (some (.int (2048 : Int32))) s₁.heap _
  exact ⟨rfl, N0, e0⟩
theorem d13_0 : decode method_9_code 0 = .ok (.iload_n 0, 1) := by decide +kernel
theorem d13_1 : decode method_9_code 1 = .ok (.iconst 2, 1) := by decide +kernel
theorem d13_2 : decode method_9_code 2 = .ok (.if_icmp .ne 7, 3) := by decide +kernel
theorem d13_9 : decode method_9_code 9 = .ok (.iload_n 0, 1) := by decide +kernel
theorem d13_10 : decode method_9_code 10 = .ok (.iconst 3, 1) := by decide +kernel
theorem d13_11 : decode method_9_code 11 = .ok (.if_icmp .ne 7, 3) := by decide +kernel
theorem d13_18 : decode method_9_code 18 = .ok (.ldc 49, 2) := by decide +kernel
theorem d13_20 : decode method_9_code 20 = .ok (.ireturn, 1) := by decide +kernel
theorem pn_13 : plainName "com/example/weaverbird/weaverbird/model/xml/Utf8DecoderTakePinLaw" = true := by first | (simp [plainName, overriddenIn]; done) | decide +kernel
theorem ef_13 (m : MethodId)  : entryFrame m #[(.int (4 : Int32))] 1 = mkF m 0 #[iv (4 : Int32)] [] := by first | (simp [entryFrame, mkF, argsToLocals, Value.category]; done) | rfl
def Q13 (Z : State)  (h0 : Heap) (n0 : Nat) (v : Option Value) (h : Heap) (L : List Loc) : Prop := v = some (.int (65536 : Int32)) ∧ Fr n0 L ∧ h = h0
set_option maxRecDepth 65536 in
set_option maxHeartbeats 40000000 in
theorem rm13 (l : Launch) (Z : State) (a0 : Array Value) (hw : ∀ d ∈ tables_1, d.before a0 Z = true) (ws : List Jvm.Cond)  (h0 : Heap) (n0 : Nat) (Z0 : n0 ≤ h0.size)  :
    MetFree l (⟨"com/example/weaverbird/weaverbird/model/xml/Utf8DecoderTakePinLaw", "minOf", "(I)I"⟩ : MethodName) (head1 (Jvm.Cond.code (⟨"com/example/weaverbird/weaverbird/model/xml/Utf8DecoderTakePinLaw", "minOf", "(I)I"⟩ : MethodName) method_9_code 1 (some .int) :: ws) ({ frames := 0, cells := 0, slots := 0, locals := 0 } : Room)) (fun aX UX => aX = #[(.int (4 : Int32))] ∧ Z.Warmed39 UX.vm ∧ UX.heap = h0) (fun _ _ _ _ _ => True) (fun _ UX oX UY => ∃ vX LX, oX = .returned vX ∧ Q13 Z  h0 n0 vX UY.heap LX ∧ FrameEnd UX oX UY LX ({ frames := 0, cells := 0, slots := 0, locals := 0 } : Room).cells ({ frames := 0, cells := 0, slots := 0, locals := 0 } : Room).slots) := by
  refine MetFree.of_bodySF (plainFor_of_name pn_13) hisR ?_
  intro p e s m args below meth c s₁ Bd hml0 hPX hKX
  obtain ⟨rfl, hZ, hh⟩ := hPX
  have hx := Bd.exec
  have hby := Bd.bytes
  have hml : c.maxLocals = 1 := hml0
  have hown : s.vm.findClass "com/example/weaverbird/weaverbird/model/xml/Utf8DecoderTakePinLaw" = some m.cls := findClass_of_methodNamed Bd.named
  have hnm := (name_of_methodNamed Bd.named Bd.method).1
  have X0 : Stand p l e ({ frames := 0, cells := 0, slots := 0, locals := 0 } : Room) s m #[(.int (4 : Int32))] below meth c s₁ [] 0 0 := Stand.of_body Bd
  have e0 : s₁.heap = h0 := by rw [← hh, Bd.state]; rfl
  have N0 := Fr.nil n0
  have pre0 : ∀ t, Steps p.tables e below (s₁.setTop (mkF m 0 #[iv (4 : Int32)] [])) t → Steps p.tables e below (s₁.setTop (entryFrame m #[(.int (4 : Int32))] 1)) t := fun t k => castTop (ef_13 m ) k
  obtain ⟨S0, hS0⟩ : ∃ z, z = (s₁.setTop (entryFrame m #[(.int (4 : Int32))] 1)) := ⟨_, rfl⟩
  rw [← hS0] at pre0
  have pre1 : ∀ t, own_s p e below s₁ m 20 #[iv (4 : Int32)] [(.int (65536 : Int32))] t → Steps p.tables e below S0 t := by
    intro tX kX
    refine pre0 _ ?_
    show own_s p e below s₁ m 0 #[iv (4 : Int32)] [] _
    refine XS.iloadN X0.here hx rfl (hb hby d13_0) rfl ?_
    show own_s p e below s₁ m 1 #[iv (4 : Int32)] [(.int (4 : Int32))] _
    refine XS.iconst X0.here hx rfl (hb hby d13_1) ?_
    show own_s p e below s₁ m 2 #[iv (4 : Int32)] [(.int (2 : Int32)), (.int (4 : Int32))] _
    refine XS.icmpYes X0.here hx rfl (pc0 := 2) (pc' := 9) rfl (hb hby d13_2) rfl (feq (by decide : ¬ ((4 : Int32) = (2 : Int32)))).2 (by decide) (by decide) ?_
    show own_s p e below s₁ m 9 #[iv (4 : Int32)] [] _
    refine XS.iloadN X0.here hx rfl (hb hby d13_9) rfl ?_
    show own_s p e below s₁ m 10 #[iv (4 : Int32)] [(.int (4 : Int32))] _
    refine XS.iconst X0.here hx rfl (hb hby d13_10) ?_
    show own_s p e below s₁ m 11 #[iv (4 : Int32)] [(.int (3 : Int32)), (.int (4 : Int32))] _
    refine XS.icmpYes X0.here hx rfl (pc0 := 11) (pc' := 18) rfl (hb hby d13_11) rfl (feq (by decide : ¬ ((4 : Int32) = (3 : Int32)))).2 (by decide) (by decide) ?_
    show own_s p e below s₁ m 18 #[iv (4 : Int32)] [] _
    refine X0.ldcInt hx hown (mvT hZ (hw _ (List.mem_of_getElem? (i := 58) rfl))) (g := (mkF m 18 #[iv (4 : Int32)] [])) rfl (hb hby d13_18) _ ?_
    exact kX
  subst hS0
  obtain ⟨fs, hr, hrun, hended, hW, hsame⟩ := X0.leave (v := (some (.int (65536 : Int32)))) (fun h => by rw [Bd.returns] at h; cases h)
  refine ⟨_, _, pre1 _ (retI X0 hx Bd.returns (hb hby d13_20) hr), hrun, hended, _, _, rfl, ?_, ⟨_, rfl⟩, hW, hsame.mono (by decide) (by decide)⟩
  show Q13 Z  h0 n0 (some (.int (65536 : Int32))) s₁.heap _
  exact ⟨rfl, N0, e0⟩
theorem d20_0 : decode method_10_code 0 = .ok (.bipush 6, 2) := by decide +kernel
theorem d20_2 : decode method_10_code 2 = .ok (.iload_n 1, 1) := by decide +kernel
theorem d20_3 : decode method_10_code 3 = .ok (.iload_n 2, 1) := by decide +kernel
theorem d20_4 : decode method_10_code 4 = .ok (.isub, 1) := by decide +kernel
theorem d20_5 : decode method_10_code 5 = .ok (.imul, 1) := by decide +kernel
theorem d20_6 : decode method_10_code 6 = .ok (.istore_n 3, 1) := by decide +kernel
theorem d20_7 : decode method_10_code 7 = .ok (.iload_n 0, 1) := by decide +kernel
theorem d20_8 : decode method_10_code 8 = .ok (.iload_n 3, 1) := by decide +kernel
theorem d20_9 : decode method_10_code 9 = .ok (.ishl, 1) := by decide +kernel
theorem d20_10 : decode method_10_code 10 = .ok (.istore 4, 2) := by decide +kernel
theorem d20_12 : decode method_10_code 12 = .ok (.iload 4, 2) := by decide +kernel
theorem d20_14 : decode method_10_code 14 = .ok (.iconst 1, 1) := by decide +kernel
theorem d20_15 : decode method_10_code 15 = .ok (.iload_n 3, 1) := by decide +kernel
theorem d20_16 : decode method_10_code 16 = .ok (.ishl, 1) := by decide +kernel
theorem d20_17 : decode method_10_code 17 = .ok (.iadd, 1) := by decide +kernel
theorem d20_18 : decode method_10_code 18 = .ok (.iconst 1, 1) := by decide +kernel
theorem d20_19 : decode method_10_code 19 = .ok (.isub, 1) := by decide +kernel
theorem d20_20 : decode method_10_code 20 = .ok (.istore 5, 2) := by decide +kernel
theorem d20_22 : decode method_10_code 22 = .ok (.iload 5, 2) := by decide +kernel
theorem d20_24 : decode method_10_code 24 = .ok (.iload_n 1, 1) := by decide +kernel
theorem d20_25 : decode method_10_code 25 = .ok (.invokestatic 50, 3) := by decide +kernel
theorem d20_28 : decode method_10_code 28 = .ok (.if_icmp .lt 28, 3) := by decide +kernel
theorem d20_31 : decode method_10_code 31 = .ok (.iload 4, 2) := by decide +kernel
theorem d20_33 : decode method_10_code 33 = .ok (.ldc 53, 2) := by decide +kernel
theorem d20_35 : decode method_10_code 35 = .ok (.if_icmp .gt 21, 3) := by decide +kernel
theorem d20_38 : decode method_10_code 38 = .ok (.iload 4, 2) := by decide +kernel
theorem d20_40 : decode method_10_code 40 = .ok (.ldc 54, 2) := by decide +kernel
theorem d20_42 : decode method_10_code 42 = .ok (.if_icmp .lt 10, 3) := by decide +kernel
theorem d20_45 : decode method_10_code 45 = .ok (.iload 5, 2) := by decide +kernel
theorem d20_47 : decode method_10_code 47 = .ok (.ldc 55, 2) := by decide +kernel
theorem d20_49 : decode method_10_code 49 = .ok (.if_icmp .le 7, 3) := by decide +kernel
theorem d20_52 : decode method_10_code 52 = .ok (.iconst 1, 1) := by decide +kernel
theorem d20_53 : decode method_10_code 53 = .ok (.goto 4, 3) := by decide +kernel
theorem d20_56 : decode method_10_code 56 = .ok (.iconst 0, 1) := by decide +kernel
theorem d20_57 : decode method_10_code 57 = .ok (.ireturn, 1) := by decide +kernel
theorem pn_20 : plainName "com/example/weaverbird/weaverbird/model/xml/Utf8DecoderTakePinLaw" = true := by first | (simp [plainName, overriddenIn]; done) | decide +kernel
theorem pd20_0 : parseMethodDescriptor "(I)I" = some ⟨[.int], some .int⟩ := by decide +kernel
theorem ef_20 (m : MethodId) (p0 : Int32) : entryFrame m #[(.int p0), (.int (2 : Int32)), (.int (1 : Int32))] 6 = mkF m 0 #[iv p0, iv (2 : Int32), iv (1 : Int32), .unset, .unset, .unset] [] := by first | (simp [entryFrame, mkF, argsToLocals, Value.category]; done) | rfl
def Q20 (Z : State) (p0 : Int32) (h0 : Heap) (n0 : Nat) (v : Option Value) (h : Heap) (L : List Loc) : Prop := ((v = some (.int 1) ∧ ((128 ≤ p0.toInt * 64 + 63 ∧ p0.toInt * 64 ≤ 1114111 ∧ ¬ (55296 ≤ p0.toInt * 64 ∧ p0.toInt * 64 + 63 ≤ 57343)))) ∨ (v = some (.int 0) ∧ (¬ (128 ≤ p0.toInt * 64 + 63 ∧ p0.toInt * 64 ≤ 1114111 ∧ ¬ (55296 ≤ p0.toInt * 64 ∧ p0.toInt * 64 + 63 ≤ 57343))))) ∧ Fr n0 L ∧ h = h0
set_option maxRecDepth 65536 in
set_option maxHeartbeats 40000000 in
theorem rm20 (l : Launch) (Z : State) (a0 : Array Value) (hw : ∀ d ∈ tables_1, d.before a0 Z = true) (ws : List Jvm.Cond) (p0 : Int32) (h0 : Heap) (n0 : Nat) (Z0 : n0 ≤ h0.size) (hp0 : 0 ≤ p0.toInt) (hp1 : p0.toInt * 64 < 536870912) :
    MetFree l (⟨"com/example/weaverbird/weaverbird/model/xml/Utf8DecoderTakePinLaw", "feasible", "(III)Z"⟩ : MethodName) (head1 (Jvm.Cond.code (⟨"com/example/weaverbird/weaverbird/model/xml/Utf8DecoderTakePinLaw", "feasible", "(III)Z"⟩ : MethodName) method_10_code 6 (some .boolean) :: ws) ({ frames := 1, cells := 0, slots := 0, locals := 15 } : Room)) (fun aX UX => aX = #[(.int p0), (.int (2 : Int32)), (.int (1 : Int32))] ∧ Z.Warmed39 UX.vm ∧ UX.heap = h0) (fun _ _ _ _ _ => True) (fun _ UX oX UY => ∃ vX LX, oX = .returned vX ∧ Q20 Z p0 h0 n0 vX UY.heap LX ∧ FrameEnd UX oX UY LX ({ frames := 1, cells := 0, slots := 0, locals := 15 } : Room).cells ({ frames := 1, cells := 0, slots := 0, locals := 15 } : Room).slots) := by
  refine MetFree.of_bodySF (plainFor_of_name pn_20) hisR ?_
  intro p e s m args below meth c s₁ Bd hml0 hPX hKX
  obtain ⟨rfl, hZ, hh⟩ := hPX
  have hx := Bd.exec
  have hby := Bd.bytes
  have hml : c.maxLocals = 6 := hml0
  have hown : s.vm.findClass "com/example/weaverbird/weaverbird/model/xml/Utf8DecoderTakePinLaw" = some m.cls := findClass_of_methodNamed Bd.named
  have hnm := (name_of_methodNamed Bd.named Bd.method).1
  have X0 : Stand p l e ({ frames := 1, cells := 0, slots := 0, locals := 15 } : Room) s m #[(.int p0), (.int (2 : Int32)), (.int (1 : Int32))] below meth c s₁ [] 0 0 := Stand.of_body Bd
  have e0 : s₁.heap = h0 := by rw [← hh, Bd.state]; rfl
  have N0 := Fr.nil n0
  have pre0 : ∀ t, Steps p.tables e below (s₁.setTop (mkF m 0 #[iv p0, iv (2 : Int32), iv (1 : Int32), .unset, .unset, .unset] [])) t → Steps p.tables e below (s₁.setTop (entryFrame m #[(.int p0), (.int (2 : Int32)), (.int (1 : Int32))] 6)) t := fun t k => castTop (ef_20 m p0) k
  obtain ⟨S0, hS0⟩ : ∃ z, z = (s₁.setTop (entryFrame m #[(.int p0), (.int (2 : Int32)), (.int (1 : Int32))] 6)) := ⟨_, rfl⟩
  rw [← hS0] at pre0
  have pre1 : ∀ t, own_s p e below s₁ m 6 #[iv p0, iv (2 : Int32), iv (1 : Int32), .unset, .unset, .unset] [(.int ((6 : Int32) * ((2 : Int32) - (1 : Int32))))] t → Steps p.tables e below S0 t := by
    intro tX kX
    refine pre0 _ ?_
    show own_s p e below s₁ m 0 #[iv p0, iv (2 : Int32), iv (1 : Int32), .unset, .unset, .unset] [] _
    refine XS.bipush X0.here hx rfl (hb hby d20_0) ?_
    show own_s p e below s₁ m 2 #[iv p0, iv (2 : Int32), iv (1 : Int32), .unset, .unset, .unset] [(.int (6 : Int32))] _
    refine XS.iloadN X0.here hx rfl (hb hby d20_2) rfl ?_
    show own_s p e below s₁ m 3 #[iv p0, iv (2 : Int32), iv (1 : Int32), .unset, .unset, .unset] [(.int (2 : Int32)), (.int (6 : Int32))] _
    refine XS.iloadN X0.here hx rfl (hb hby d20_3) rfl ?_
    show own_s p e below s₁ m 4 #[iv p0, iv (2 : Int32), iv (1 : Int32), .unset, .unset, .unset] [(.int (1 : Int32)), (.int (2 : Int32)), (.int (6 : Int32))] _
    refine XS.isub X0.here hx rfl (hb hby d20_4) rfl ?_
    show own_s p e below s₁ m 5 #[iv p0, iv (2 : Int32), iv (1 : Int32), .unset, .unset, .unset] [(.int ((2 : Int32) - (1 : Int32))), (.int (6 : Int32))] _
    refine XS.imul X0.here hx rfl (hb hby d20_5) rfl ?_
    exact kX
  rw [show ((6 : Int32) * ((2 : Int32) - (1 : Int32))) = (6 : Int32) from by decide] at pre1
  have pre2 : ∀ t, own_s p e below s₁ m 10 #[iv p0, iv (2 : Int32), iv (1 : Int32), iv (6 : Int32), .unset, .unset] [(.int (p0 <<< ((6 : Int32) &&& 31)))] t → Steps p.tables e below S0 t := by
    intro tX kX
    refine pre1 _ ?_
    show own_s p e below s₁ m 6 #[iv p0, iv (2 : Int32), iv (1 : Int32), .unset, .unset, .unset] [(.int (6 : Int32))] _
    refine XS.istoreN X0.here hx rfl (hb hby d20_6) rfl (l' := #[iv p0, iv (2 : Int32), iv (1 : Int32), iv (6 : Int32), .unset, .unset]) rfl ?_
    show own_s p e below s₁ m 7 #[iv p0, iv (2 : Int32), iv (1 : Int32), iv (6 : Int32), .unset, .unset] [] _
    refine XS.iloadN X0.here hx rfl (hb hby d20_7) rfl ?_
    show own_s p e below s₁ m 8 #[iv p0, iv (2 : Int32), iv (1 : Int32), iv (6 : Int32), .unset, .unset] [(.int p0)] _
    refine XS.iloadN X0.here hx rfl (hb hby d20_8) rfl ?_
    show own_s p e below s₁ m 9 #[iv p0, iv (2 : Int32), iv (1 : Int32), iv (6 : Int32), .unset, .unset] [(.int (6 : Int32)), (.int p0)] _
    refine XS.ishl X0.here hx rfl (hb hby d20_9) rfl ?_
    exact kX
  obtain ⟨lw, hlw⟩ : ∃ z : Int32, z = (p0 <<< ((6 : Int32) &&& 31)) := ⟨_, rfl⟩
  rw [← hlw] at pre2
  have lI : lw.toInt = p0.toInt * 64 := by rw [hlw]; have d1 := c_ishl p0 6 6 (by decide); have d2 := rng32 (p0 <<< ((6 : Int32) &&& 31)); omega
  have pre3 : ∀ t, own_s p e below s₁ m 20 #[iv p0, iv (2 : Int32), iv (1 : Int32), iv (6 : Int32), iv lw, .unset] [(.int ((lw + ((1 : Int32) <<< ((6 : Int32) &&& 31))) - (1 : Int32)))] t → Steps p.tables e below S0 t := by
    intro tX kX
    refine pre2 _ ?_
    show own_s p e below s₁ m 10 #[iv p0, iv (2 : Int32), iv (1 : Int32), iv (6 : Int32), .unset, .unset] [(.int lw)] _
    refine XS.istore X0.here hx rfl (hb hby d20_10) rfl (l' := #[iv p0, iv (2 : Int32), iv (1 : Int32), iv (6 : Int32), iv lw, .unset]) rfl ?_
    show own_s p e below s₁ m 12 #[iv p0, iv (2 : Int32), iv (1 : Int32), iv (6 : Int32), iv lw, .unset] [] _
    refine XS.iload X0.here hx rfl (hb hby d20_12) rfl ?_
    show own_s p e below s₁ m 14 #[iv p0, iv (2 : Int32), iv (1 : Int32), iv (6 : Int32), iv lw, .unset] [(.int lw)] _
    refine XS.iconst X0.here hx rfl (hb hby d20_14) ?_
    show own_s p e below s₁ m 15 #[iv p0, iv (2 : Int32), iv (1 : Int32), iv (6 : Int32), iv lw, .unset] [(.int (1 : Int32)), (.int lw)] _
    refine XS.iloadN X0.here hx rfl (hb hby d20_15) rfl ?_
    show own_s p e below s₁ m 16 #[iv p0, iv (2 : Int32), iv (1 : Int32), iv (6 : Int32), iv lw, .unset] [(.int (6 : Int32)), (.int (1 : Int32)), (.int lw)] _
    refine XS.ishl X0.here hx rfl (hb hby d20_16) rfl ?_
    show own_s p e below s₁ m 17 #[iv p0, iv (2 : Int32), iv (1 : Int32), iv (6 : Int32), iv lw, .unset] [(.int ((1 : Int32) <<< ((6 : Int32) &&& 31))), (.int lw)] _
    refine XS.iadd X0.here hx rfl (hb hby d20_17) rfl ?_
    show own_s p e below s₁ m 18 #[iv p0, iv (2 : Int32), iv (1 : Int32), iv (6 : Int32), iv lw, .unset] [(.int (lw + ((1 : Int32) <<< ((6 : Int32) &&& 31))))] _
    refine XS.iconst X0.here hx rfl (hb hby d20_18) ?_
    show own_s p e below s₁ m 19 #[iv p0, iv (2 : Int32), iv (1 : Int32), iv (6 : Int32), iv lw, .unset] [(.int (1 : Int32)), (.int (lw + ((1 : Int32) <<< ((6 : Int32) &&& 31))))] _
    refine XS.isub X0.here hx rfl (hb hby d20_19) rfl ?_
    exact kX
  obtain ⟨hg, hhg⟩ : ∃ z : Int32, z = ((lw + ((1 : Int32) <<< ((6 : Int32) &&& 31))) - (1 : Int32)) := ⟨_, rfl⟩
  rw [← hhg] at pre3
  have hI : hg.toInt = p0.toInt * 64 + 63 := by
    rw [hhg]
    have d3 := c_iadd lw ((1 : Int32) <<< ((6 : Int32) &&& 31))
    have d4 : ((1 : Int32) <<< ((6 : Int32) &&& 31)).toInt = 64 := by decide
    have d5 := rng32 (lw + ((1 : Int32) <<< ((6 : Int32) &&& 31)))
    have d6 := c_isub (lw + ((1 : Int32) <<< ((6 : Int32) &&& 31))) 1
    have d7 : (1 : Int32).toInt = 1 := rfl
    have d8 := rng32 ((lw + ((1 : Int32) <<< ((6 : Int32) &&& 31))) - 1)
    omega
  have pre4 : ∀ t, own_s p e below s₁ m 25 #[iv p0, iv (2 : Int32), iv (1 : Int32), iv (6 : Int32), iv lw, iv hg] [(.int (2 : Int32)), (.int hg)] t → Steps p.tables e below S0 t := by
    intro tX kX
    refine pre3 _ ?_
    show own_s p e below s₁ m 20 #[iv p0, iv (2 : Int32), iv (1 : Int32), iv (6 : Int32), iv lw, .unset] [(.int hg)] _
    refine XS.istore X0.here hx rfl (hb hby d20_20) rfl (l' := #[iv p0, iv (2 : Int32), iv (1 : Int32), iv (6 : Int32), iv lw, iv hg]) rfl ?_
    show own_s p e below s₁ m 22 #[iv p0, iv (2 : Int32), iv (1 : Int32), iv (6 : Int32), iv lw, iv hg] [] _
    refine XS.iload X0.here hx rfl (hb hby d20_22) rfl ?_
    show own_s p e below s₁ m 24 #[iv p0, iv (2 : Int32), iv (1 : Int32), iv (6 : Int32), iv lw, iv hg] [(.int hg)] _
    refine XS.iloadN X0.here hx rfl (hb hby d20_24) rfl ?_
    exact kX
  obtain ⟨_, _, ⟨T5, L5, k5, n5⟩, -, X5, ⟨Lc5, hQ5, l5, y5, z5⟩, st5⟩ := Jvm.LawKit.callS X0 hx (y := (⟨"com/example/weaverbird/weaverbird/model/xml/Utf8DecoderTakePinLaw", "minOf", "(I)I"⟩ : MethodName)) hown (mvT hZ (hw _ (List.mem_of_getElem? (i := 55) rfl))) (mvT hZ (hw _ (List.mem_of_getElem? (i := 56) rfl))) (mvT hZ (hw _ (List.mem_of_getElem? (i := 2) rfl))) (mvT hZ (hw _ (List.mem_of_getElem? (i := 57) rfl))) (by decide) (backOf (W := 1) (rm11 l Z a0 hw []   h0 n0 Z0 ) hZ (hw _ (List.mem_of_getElem? (i := 57) rfl)) (hw _ (List.mem_of_getElem? (i := 2) rfl)) (by decide) (by decide)) (g := (mkF m 25 #[iv p0, iv (2 : Int32), iv (1 : Int32), iv (6 : Int32), iv lw, iv hg] [(.int (2 : Int32)), (.int hg)])) rfl (by rw [hml]; rfl) (argsL := [(.int (2 : Int32))]) (rest := [(.int hg)]) (lenOf pd20_0 rfl) rfl (by show 2 * 0 + _ ≤ _; exact Nat.le_of_eq rfl) (hb hby d20_25) (fun _ _ => ⟨rfl, e0, (by decide : 0 + 0 ≤ _), (by decide : 0 + 0 ≤ _)⟩)
  dsimp only [Pt.U, Pt.locs, Pt.cells, Pt.slots] at X5 l5 y5 z5 st5 hQ5
  subst l5 y5 z5
  obtain ⟨rfl, Nq5, e5⟩ := hQ5
  have N5 := Fr.app N0 Nq5
  obtain ⟨LL6, X6, N6⟩ : ∃ LL, Stand p l e ({ frames := 1, cells := 0, slots := 0, locals := 15 } : Room) s m #[(.int p0), (.int (2 : Int32)), (.int (1 : Int32))] below meth c T5 LL 0 0 ∧ Fr n0 LL := ⟨_, X5, N5⟩
  have pre7 : ∀ t, own_s p e below T5 m 28 #[iv p0, iv (2 : Int32), iv (1 : Int32), iv (6 : Int32), iv lw, iv hg] [(.int (128 : Int32)), (.int hg)] t → Steps p.tables e below S0 t := fun tX kX => pre4 _ (st5 _ kX)
  by_cases hc8 : hg < (128 : Int32)
  · skip
    have ihc8 : (hg).toInt < (128 : Int) := Int32.lt_iff_toInt_lt.mp hc8
    have pre9 : ∀ t, own_s p e below T5 m 57 #[iv p0, iv (2 : Int32), iv (1 : Int32), iv (6 : Int32), iv lw, iv hg] [(.int (0 : Int32))] t → Steps p.tables e below S0 t := by
      intro tX kX
      refine pre7 _ ?_
      show own_s p e below T5 m 28 #[iv p0, iv (2 : Int32), iv (1 : Int32), iv (6 : Int32), iv lw, iv hg] [(.int (128 : Int32)), (.int hg)] _
      refine XS.icmpYes X6.here hx rfl (pc0 := 28) (pc' := 56) rfl (hb hby d20_28) rfl (tlt hc8).1 (by decide) (by decide) ?_
      show own_s p e below T5 m 56 #[iv p0, iv (2 : Int32), iv (1 : Int32), iv (6 : Int32), iv lw, iv hg] [] _
      refine XS.iconst X6.here hx rfl (hb hby d20_56) ?_
      exact kX
    subst hS0
    obtain ⟨fs, hr, hrun, hended, hW, hsame⟩ := X6.leave (v := (some (.int (0 : Int32)))) (fun h => by rw [Bd.returns] at h; cases h)
    refine ⟨_, _, pre9 _ (retN X6 hx (t := .boolean) Bd.returns (by simp) (hb hby d20_57) hr), hrun, hended, _, _, rfl, ?_, ⟨_, rfl⟩, hW, hsame.mono (by decide) (by decide)⟩
    show Q20 Z p0 h0 n0 (some (.int (0 : Int32))) T5.heap _
    exact ⟨Or.inr (⟨rfl, by omega⟩), N6, e5⟩
  · skip
    have ihc8 : ¬ ((hg).toInt < (128 : Int)) := fun q => hc8 (Int32.lt_iff_toInt_lt.mpr q)
    have pre10 : ∀ t, own_s p e below T5 m 35 #[iv p0, iv (2 : Int32), iv (1 : Int32), iv (6 : Int32), iv lw, iv hg] [(.int (1114111 : Int32)), (.int lw)] t → Steps p.tables e below S0 t := by
      intro tX kX
      refine pre7 _ ?_
      show own_s p e below T5 m 28 #[iv p0, iv (2 : Int32), iv (1 : Int32), iv (6 : Int32), iv lw, iv hg] [(.int (128 : Int32)), (.int hg)] _
      refine XS.icmpNo X6.here hx rfl (hb hby d20_28) rfl (flt hc8).1 ?_
      show own_s p e below T5 m 31 #[iv p0, iv (2 : Int32), iv (1 : Int32), iv (6 : Int32), iv lw, iv hg] [] _
      refine XS.iload X6.here hx rfl (hb hby d20_31) rfl ?_
      show own_s p e below T5 m 33 #[iv p0, iv (2 : Int32), iv (1 : Int32), iv (6 : Int32), iv lw, iv hg] [(.int lw)] _
      refine X6.ldcInt hx hown (mvT hZ (hw _ (List.mem_of_getElem? (i := 59) rfl))) (g := (mkF m 33 #[iv p0, iv (2 : Int32), iv (1 : Int32), iv (6 : Int32), iv lw, iv hg] [(.int lw)])) rfl (hb hby d20_33) _ ?_
      exact kX
    by_cases hc11 : (1114111 : Int32) < lw
    · skip
      have ihc11 : (1114111 : Int) < (lw).toInt := Int32.lt_iff_toInt_lt.mp hc11
      have pre12 : ∀ t, own_s p e below T5 m 57 #[iv p0, iv (2 : Int32), iv (1 : Int32), iv (6 : Int32), iv lw, iv hg] [(.int (0 : Int32))] t → Steps p.tables e below S0 t := by
        intro tX kX
        refine pre10 _ ?_
        show own_s p e below T5 m 35 #[iv p0, iv (2 : Int32), iv (1 : Int32), iv (6 : Int32), iv lw, iv hg] [(.int (1114111 : Int32)), (.int lw)] _
        refine XS.icmpYes X6.here hx rfl (pc0 := 35) (pc' := 56) rfl (hb hby d20_35) rfl (tlt hc11).2.2.1 (by decide) (by decide) ?_
        show own_s p e below T5 m 56 #[iv p0, iv (2 : Int32), iv (1 : Int32), iv (6 : Int32), iv lw, iv hg] [] _
        refine XS.iconst X6.here hx rfl (hb hby d20_56) ?_
        exact kX
      subst hS0
      obtain ⟨fs, hr, hrun, hended, hW, hsame⟩ := X6.leave (v := (some (.int (0 : Int32)))) (fun h => by rw [Bd.returns] at h; cases h)
      refine ⟨_, _, pre12 _ (retN X6 hx (t := .boolean) Bd.returns (by simp) (hb hby d20_57) hr), hrun, hended, _, _, rfl, ?_, ⟨_, rfl⟩, hW, hsame.mono (by decide) (by decide)⟩
      show Q20 Z p0 h0 n0 (some (.int (0 : Int32))) T5.heap _
      exact ⟨Or.inr (⟨rfl, by omega⟩), N6, e5⟩
    · skip
      have ihc11 : ¬ ((1114111 : Int) < (lw).toInt) := fun q => hc11 (Int32.lt_iff_toInt_lt.mpr q)
      have pre13 : ∀ t, own_s p e below T5 m 42 #[iv p0, iv (2 : Int32), iv (1 : Int32), iv (6 : Int32), iv lw, iv hg] [(.int (55296 : Int32)), (.int lw)] t → Steps p.tables e below S0 t := by
        intro tX kX
        refine pre10 _ ?_
        show own_s p e below T5 m 35 #[iv p0, iv (2 : Int32), iv (1 : Int32), iv (6 : Int32), iv lw, iv hg] [(.int (1114111 : Int32)), (.int lw)] _
        refine XS.icmpNo X6.here hx rfl (hb hby d20_35) rfl (flt hc11).2.2.1 ?_
        show own_s p e below T5 m 38 #[iv p0, iv (2 : Int32), iv (1 : Int32), iv (6 : Int32), iv lw, iv hg] [] _
        refine XS.iload X6.here hx rfl (hb hby d20_38) rfl ?_
        show own_s p e below T5 m 40 #[iv p0, iv (2 : Int32), iv (1 : Int32), iv (6 : Int32), iv lw, iv hg] [(.int lw)] _
        refine X6.ldcInt hx hown (mvT hZ (hw _ (List.mem_of_getElem? (i := 60) rfl))) (g := (mkF m 40 #[iv p0, iv (2 : Int32), iv (1 : Int32), iv (6 : Int32), iv lw, iv hg] [(.int lw)])) rfl (hb hby d20_40) _ ?_
        exact kX
      by_cases hc14 : lw < (55296 : Int32)
      · skip
        have ihc14 : (lw).toInt < (55296 : Int) := Int32.lt_iff_toInt_lt.mp hc14
        have pre15 : ∀ t, own_s p e below T5 m 57 #[iv p0, iv (2 : Int32), iv (1 : Int32), iv (6 : Int32), iv lw, iv hg] [(.int (1 : Int32))] t → Steps p.tables e below S0 t := by
          intro tX kX
          refine pre13 _ ?_
          show own_s p e below T5 m 42 #[iv p0, iv (2 : Int32), iv (1 : Int32), iv (6 : Int32), iv lw, iv hg] [(.int (55296 : Int32)), (.int lw)] _
          refine XS.icmpYes X6.here hx rfl (pc0 := 42) (pc' := 52) rfl (hb hby d20_42) rfl (tlt hc14).1 (by decide) (by decide) ?_
          show own_s p e below T5 m 52 #[iv p0, iv (2 : Int32), iv (1 : Int32), iv (6 : Int32), iv lw, iv hg] [] _
          refine XS.iconst X6.here hx rfl (hb hby d20_52) ?_
          show own_s p e below T5 m 53 #[iv p0, iv (2 : Int32), iv (1 : Int32), iv (6 : Int32), iv lw, iv hg] [(.int (1 : Int32))] _
          refine XS.goto X6.here hx rfl (pc0 := 53) (pc' := 57) rfl (hb hby d20_53) (by decide) (by decide) ?_
          exact kX
        subst hS0
        obtain ⟨fs, hr, hrun, hended, hW, hsame⟩ := X6.leave (v := (some (.int (1 : Int32)))) (fun h => by rw [Bd.returns] at h; cases h)
        refine ⟨_, _, pre15 _ (retN X6 hx (t := .boolean) Bd.returns (by simp) (hb hby d20_57) hr), hrun, hended, _, _, rfl, ?_, ⟨_, rfl⟩, hW, hsame.mono (by decide) (by decide)⟩
        show Q20 Z p0 h0 n0 (some (.int (1 : Int32))) T5.heap _
        exact ⟨Or.inl ⟨rfl, by omega⟩, N6, e5⟩
      · skip
        have ihc14 : ¬ ((lw).toInt < (55296 : Int)) := fun q => hc14 (Int32.lt_iff_toInt_lt.mpr q)
        have pre16 : ∀ t, own_s p e below T5 m 49 #[iv p0, iv (2 : Int32), iv (1 : Int32), iv (6 : Int32), iv lw, iv hg] [(.int (57343 : Int32)), (.int hg)] t → Steps p.tables e below S0 t := by
          intro tX kX
          refine pre13 _ ?_
          show own_s p e below T5 m 42 #[iv p0, iv (2 : Int32), iv (1 : Int32), iv (6 : Int32), iv lw, iv hg] [(.int (55296 : Int32)), (.int lw)] _
          refine XS.icmpNo X6.here hx rfl (hb hby d20_42) rfl (flt hc14).1 ?_
          show own_s p e below T5 m 45 #[iv p0, iv (2 : Int32), iv (1 : Int32), iv (6 : Int32), iv lw, iv hg] [] _
          refine XS.iload X6.here hx rfl (hb hby d20_45) rfl ?_
          show own_s p e below T5 m 47 #[iv p0, iv (2 : Int32), iv (1 : Int32), iv (6 : Int32), iv lw, iv hg] [(.int hg)] _
          refine X6.ldcInt hx hown (mvT hZ (hw _ (List.mem_of_getElem? (i := 64) rfl))) (g := (mkF m 47 #[iv p0, iv (2 : Int32), iv (1 : Int32), iv (6 : Int32), iv lw, iv hg] [(.int hg)])) rfl (hb hby d20_47) _ ?_
          exact kX
        by_cases hc17 : (57343 : Int32) < hg
        · skip
          have ihc17 : (57343 : Int) < (hg).toInt := Int32.lt_iff_toInt_lt.mp hc17
          have pre18 : ∀ t, own_s p e below T5 m 57 #[iv p0, iv (2 : Int32), iv (1 : Int32), iv (6 : Int32), iv lw, iv hg] [(.int (1 : Int32))] t → Steps p.tables e below S0 t := by
            intro tX kX
            refine pre16 _ ?_
            show own_s p e below T5 m 49 #[iv p0, iv (2 : Int32), iv (1 : Int32), iv (6 : Int32), iv lw, iv hg] [(.int (57343 : Int32)), (.int hg)] _
            refine XS.icmpNo X6.here hx rfl (hb hby d20_49) rfl (tlt hc17).2.2.2 ?_
            show own_s p e below T5 m 52 #[iv p0, iv (2 : Int32), iv (1 : Int32), iv (6 : Int32), iv lw, iv hg] [] _
            refine XS.iconst X6.here hx rfl (hb hby d20_52) ?_
            show own_s p e below T5 m 53 #[iv p0, iv (2 : Int32), iv (1 : Int32), iv (6 : Int32), iv lw, iv hg] [(.int (1 : Int32))] _
            refine XS.goto X6.here hx rfl (pc0 := 53) (pc' := 57) rfl (hb hby d20_53) (by decide) (by decide) ?_
            exact kX
          subst hS0
          obtain ⟨fs, hr, hrun, hended, hW, hsame⟩ := X6.leave (v := (some (.int (1 : Int32)))) (fun h => by rw [Bd.returns] at h; cases h)
          refine ⟨_, _, pre18 _ (retN X6 hx (t := .boolean) Bd.returns (by simp) (hb hby d20_57) hr), hrun, hended, _, _, rfl, ?_, ⟨_, rfl⟩, hW, hsame.mono (by decide) (by decide)⟩
          show Q20 Z p0 h0 n0 (some (.int (1 : Int32))) T5.heap _
          exact ⟨Or.inl ⟨rfl, by omega⟩, N6, e5⟩
        · skip
          have ihc17 : ¬ ((57343 : Int) < (hg).toInt) := fun q => hc17 (Int32.lt_iff_toInt_lt.mpr q)
          have pre19 : ∀ t, own_s p e below T5 m 57 #[iv p0, iv (2 : Int32), iv (1 : Int32), iv (6 : Int32), iv lw, iv hg] [(.int (0 : Int32))] t → Steps p.tables e below S0 t := by
            intro tX kX
            refine pre16 _ ?_
            show own_s p e below T5 m 49 #[iv p0, iv (2 : Int32), iv (1 : Int32), iv (6 : Int32), iv lw, iv hg] [(.int (57343 : Int32)), (.int hg)] _
            refine XS.icmpYes X6.here hx rfl (pc0 := 49) (pc' := 56) rfl (hb hby d20_49) rfl (flt hc17).2.2.2 (by decide) (by decide) ?_
            show own_s p e below T5 m 56 #[iv p0, iv (2 : Int32), iv (1 : Int32), iv (6 : Int32), iv lw, iv hg] [] _
            refine XS.iconst X6.here hx rfl (hb hby d20_56) ?_
            exact kX
          subst hS0
          obtain ⟨fs, hr, hrun, hended, hW, hsame⟩ := X6.leave (v := (some (.int (0 : Int32)))) (fun h => by rw [Bd.returns] at h; cases h)
          refine ⟨_, _, pre19 _ (retN X6 hx (t := .boolean) Bd.returns (by simp) (hb hby d20_57) hr), hrun, hended, _, _, rfl, ?_, ⟨_, rfl⟩, hW, hsame.mono (by decide) (by decide)⟩
          show Q20 Z p0 h0 n0 (some (.int (0 : Int32))) T5.heap _
          exact ⟨Or.inr (⟨rfl, by omega⟩), N6, e5⟩
theorem d21_0 : decode method_10_code 0 = .ok (.bipush 6, 2) := by decide +kernel
theorem d21_2 : decode method_10_code 2 = .ok (.iload_n 1, 1) := by decide +kernel
theorem d21_3 : decode method_10_code 3 = .ok (.iload_n 2, 1) := by decide +kernel
theorem d21_4 : decode method_10_code 4 = .ok (.isub, 1) := by decide +kernel
theorem d21_5 : decode method_10_code 5 = .ok (.imul, 1) := by decide +kernel
theorem d21_6 : decode method_10_code 6 = .ok (.istore_n 3, 1) := by decide +kernel
theorem d21_7 : decode method_10_code 7 = .ok (.iload_n 0, 1) := by decide +kernel
theorem d21_8 : decode method_10_code 8 = .ok (.iload_n 3, 1) := by decide +kernel
theorem d21_9 : decode method_10_code 9 = .ok (.ishl, 1) := by decide +kernel
theorem d21_10 : decode method_10_code 10 = .ok (.istore 4, 2) := by decide +kernel
theorem d21_12 : decode method_10_code 12 = .ok (.iload 4, 2) := by decide +kernel
theorem d21_14 : decode method_10_code 14 = .ok (.iconst 1, 1) := by decide +kernel
theorem d21_15 : decode method_10_code 15 = .ok (.iload_n 3, 1) := by decide +kernel
theorem d21_16 : decode method_10_code 16 = .ok (.ishl, 1) := by decide +kernel
theorem d21_17 : decode method_10_code 17 = .ok (.iadd, 1) := by decide +kernel
theorem d21_18 : decode method_10_code 18 = .ok (.iconst 1, 1) := by decide +kernel
theorem d21_19 : decode method_10_code 19 = .ok (.isub, 1) := by decide +kernel
theorem d21_20 : decode method_10_code 20 = .ok (.istore 5, 2) := by decide +kernel
theorem d21_22 : decode method_10_code 22 = .ok (.iload 5, 2) := by decide +kernel
theorem d21_24 : decode method_10_code 24 = .ok (.iload_n 1, 1) := by decide +kernel
theorem d21_25 : decode method_10_code 25 = .ok (.invokestatic 50, 3) := by decide +kernel
theorem d21_28 : decode method_10_code 28 = .ok (.if_icmp .lt 28, 3) := by decide +kernel
theorem d21_31 : decode method_10_code 31 = .ok (.iload 4, 2) := by decide +kernel
theorem d21_33 : decode method_10_code 33 = .ok (.ldc 53, 2) := by decide +kernel
theorem d21_35 : decode method_10_code 35 = .ok (.if_icmp .gt 21, 3) := by decide +kernel
theorem d21_38 : decode method_10_code 38 = .ok (.iload 4, 2) := by decide +kernel
theorem d21_40 : decode method_10_code 40 = .ok (.ldc 54, 2) := by decide +kernel
theorem d21_42 : decode method_10_code 42 = .ok (.if_icmp .lt 10, 3) := by decide +kernel
theorem d21_45 : decode method_10_code 45 = .ok (.iload 5, 2) := by decide +kernel
theorem d21_47 : decode method_10_code 47 = .ok (.ldc 55, 2) := by decide +kernel
theorem d21_49 : decode method_10_code 49 = .ok (.if_icmp .le 7, 3) := by decide +kernel
theorem d21_52 : decode method_10_code 52 = .ok (.iconst 1, 1) := by decide +kernel
theorem d21_53 : decode method_10_code 53 = .ok (.goto 4, 3) := by decide +kernel
theorem d21_56 : decode method_10_code 56 = .ok (.iconst 0, 1) := by decide +kernel
theorem d21_57 : decode method_10_code 57 = .ok (.ireturn, 1) := by decide +kernel
theorem pn_21 : plainName "com/example/weaverbird/weaverbird/model/xml/Utf8DecoderTakePinLaw" = true := by first | (simp [plainName, overriddenIn]; done) | decide +kernel
theorem pd21_0 : parseMethodDescriptor "(I)I" = some ⟨[.int], some .int⟩ := by decide +kernel
theorem ef_21 (m : MethodId) (p0 : Int32) : entryFrame m #[(.int p0), (.int (3 : Int32)), (.int (1 : Int32))] 6 = mkF m 0 #[iv p0, iv (3 : Int32), iv (1 : Int32), .unset, .unset, .unset] [] := by first | (simp [entryFrame, mkF, argsToLocals, Value.category]; done) | rfl
def Q21 (Z : State) (p0 : Int32) (h0 : Heap) (n0 : Nat) (v : Option Value) (h : Heap) (L : List Loc) : Prop := ((v = some (.int 1) ∧ ((2048 ≤ p0.toInt * 4096 + 4095 ∧ p0.toInt * 4096 ≤ 1114111 ∧ ¬ (55296 ≤ p0.toInt * 4096 ∧ p0.toInt * 4096 + 4095 ≤ 57343)))) ∨ (v = some (.int 0) ∧ (¬ (2048 ≤ p0.toInt * 4096 + 4095 ∧ p0.toInt * 4096 ≤ 1114111 ∧ ¬ (55296 ≤ p0.toInt * 4096 ∧ p0.toInt * 4096 + 4095 ≤ 57343))))) ∧ Fr n0 L ∧ h = h0
set_option maxRecDepth 65536 in
set_option maxHeartbeats 40000000 in
theorem rm21 (l : Launch) (Z : State) (a0 : Array Value) (hw : ∀ d ∈ tables_1, d.before a0 Z = true) (ws : List Jvm.Cond) (p0 : Int32) (h0 : Heap) (n0 : Nat) (Z0 : n0 ≤ h0.size) (hp0 : 0 ≤ p0.toInt) (hp1 : p0.toInt * 4096 < 536870912) :
    MetFree l (⟨"com/example/weaverbird/weaverbird/model/xml/Utf8DecoderTakePinLaw", "feasible", "(III)Z"⟩ : MethodName) (head1 (Jvm.Cond.code (⟨"com/example/weaverbird/weaverbird/model/xml/Utf8DecoderTakePinLaw", "feasible", "(III)Z"⟩ : MethodName) method_10_code 6 (some .boolean) :: ws) ({ frames := 1, cells := 0, slots := 0, locals := 15 } : Room)) (fun aX UX => aX = #[(.int p0), (.int (3 : Int32)), (.int (1 : Int32))] ∧ Z.Warmed39 UX.vm ∧ UX.heap = h0) (fun _ _ _ _ _ => True) (fun _ UX oX UY => ∃ vX LX, oX = .returned vX ∧ Q21 Z p0 h0 n0 vX UY.heap LX ∧ FrameEnd UX oX UY LX ({ frames := 1, cells := 0, slots := 0, locals := 15 } : Room).cells ({ frames := 1, cells := 0, slots := 0, locals := 15 } : Room).slots) := by
  refine MetFree.of_bodySF (plainFor_of_name pn_21) hisR ?_
  intro p e s m args below meth c s₁ Bd hml0 hPX hKX
  obtain ⟨rfl, hZ, hh⟩ := hPX
  have hx := Bd.exec
  have hby := Bd.bytes
  have hml : c.maxLocals = 6 := hml0
  have hown : s.vm.findClass "com/example/weaverbird/weaverbird/model/xml/Utf8DecoderTakePinLaw" = some m.cls := findClass_of_methodNamed Bd.named
  have hnm := (name_of_methodNamed Bd.named Bd.method).1
  have X0 : Stand p l e ({ frames := 1, cells := 0, slots := 0, locals := 15 } : Room) s m #[(.int p0), (.int (3 : Int32)), (.int (1 : Int32))] below meth c s₁ [] 0 0 := Stand.of_body Bd
  have e0 : s₁.heap = h0 := by rw [← hh, Bd.state]; rfl
  have N0 := Fr.nil n0
  have pre0 : ∀ t, Steps p.tables e below (s₁.setTop (mkF m 0 #[iv p0, iv (3 : Int32), iv (1 : Int32), .unset, .unset, .unset] [])) t → Steps p.tables e below (s₁.setTop (entryFrame m #[(.int p0), (.int (3 : Int32)), (.int (1 : Int32))] 6)) t := fun t k => castTop (ef_21 m p0) k
  obtain ⟨S0, hS0⟩ : ∃ z, z = (s₁.setTop (entryFrame m #[(.int p0), (.int (3 : Int32)), (.int (1 : Int32))] 6)) := ⟨_, rfl⟩
  rw [← hS0] at pre0
  have pre1 : ∀ t, own_s p e below s₁ m 6 #[iv p0, iv (3 : Int32), iv (1 : Int32), .unset, .unset, .unset] [(.int ((6 : Int32) * ((3 : Int32) - (1 : Int32))))] t → Steps p.tables e below S0 t := by
    intro tX kX
    refine pre0 _ ?_
    show own_s p e below s₁ m 0 #[iv p0, iv (3 : Int32), iv (1 : Int32), .unset, .unset, .unset] [] _
    refine XS.bipush X0.here hx rfl (hb hby d21_0) ?_
    show own_s p e below s₁ m 2 #[iv p0, iv (3 : Int32), iv (1 : Int32), .unset, .unset, .unset] [(.int (6 : Int32))] _
    refine XS.iloadN X0.here hx rfl (hb hby d21_2) rfl ?_
    show own_s p e below s₁ m 3 #[iv p0, iv (3 : Int32), iv (1 : Int32), .unset, .unset, .unset] [(.int (3 : Int32)), (.int (6 : Int32))] _
    refine XS.iloadN X0.here hx rfl (hb hby d21_3) rfl ?_
    show own_s p e below s₁ m 4 #[iv p0, iv (3 : Int32), iv (1 : Int32), .unset, .unset, .unset] [(.int (1 : Int32)), (.int (3 : Int32)), (.int (6 : Int32))] _
    refine XS.isub X0.here hx rfl (hb hby d21_4) rfl ?_
    show own_s p e below s₁ m 5 #[iv p0, iv (3 : Int32), iv (1 : Int32), .unset, .unset, .unset] [(.int ((3 : Int32) - (1 : Int32))), (.int (6 : Int32))] _
    refine XS.imul X0.here hx rfl (hb hby d21_5) rfl ?_
    exact kX
  rw [show ((6 : Int32) * ((3 : Int32) - (1 : Int32))) = (12 : Int32) from by decide] at pre1
  have pre2 : ∀ t, own_s p e below s₁ m 10 #[iv p0, iv (3 : Int32), iv (1 : Int32), iv (12 : Int32), .unset, .unset] [(.int (p0 <<< ((12 : Int32) &&& 31)))] t → Steps p.tables e below S0 t := by
    intro tX kX
    refine pre1 _ ?_
    show own_s p e below s₁ m 6 #[iv p0, iv (3 : Int32), iv (1 : Int32), .unset, .unset, .unset] [(.int (12 : Int32))] _
    refine XS.istoreN X0.here hx rfl (hb hby d21_6) rfl (l' := #[iv p0, iv (3 : Int32), iv (1 : Int32), iv (12 : Int32), .unset, .unset]) rfl ?_
    show own_s p e below s₁ m 7 #[iv p0, iv (3 : Int32), iv (1 : Int32), iv (12 : Int32), .unset, .unset] [] _
    refine XS.iloadN X0.here hx rfl (hb hby d21_7) rfl ?_
    show own_s p e below s₁ m 8 #[iv p0, iv (3 : Int32), iv (1 : Int32), iv (12 : Int32), .unset, .unset] [(.int p0)] _
    refine XS.iloadN X0.here hx rfl (hb hby d21_8) rfl ?_
    show own_s p e below s₁ m 9 #[iv p0, iv (3 : Int32), iv (1 : Int32), iv (12 : Int32), .unset, .unset] [(.int (12 : Int32)), (.int p0)] _
    refine XS.ishl X0.here hx rfl (hb hby d21_9) rfl ?_
    exact kX
  obtain ⟨lw, hlw⟩ : ∃ z : Int32, z = (p0 <<< ((12 : Int32) &&& 31)) := ⟨_, rfl⟩
  rw [← hlw] at pre2
  have lI : lw.toInt = p0.toInt * 4096 := by rw [hlw]; have d1 := c_ishl p0 12 12 (by decide); have d2 := rng32 (p0 <<< ((12 : Int32) &&& 31)); omega
  have pre3 : ∀ t, own_s p e below s₁ m 20 #[iv p0, iv (3 : Int32), iv (1 : Int32), iv (12 : Int32), iv lw, .unset] [(.int ((lw + ((1 : Int32) <<< ((12 : Int32) &&& 31))) - (1 : Int32)))] t → Steps p.tables e below S0 t := by
    intro tX kX
    refine pre2 _ ?_
    show own_s p e below s₁ m 10 #[iv p0, iv (3 : Int32), iv (1 : Int32), iv (12 : Int32), .unset, .unset] [(.int lw)] _
    refine XS.istore X0.here hx rfl (hb hby d21_10) rfl (l' := #[iv p0, iv (3 : Int32), iv (1 : Int32), iv (12 : Int32), iv lw, .unset]) rfl ?_
    show own_s p e below s₁ m 12 #[iv p0, iv (3 : Int32), iv (1 : Int32), iv (12 : Int32), iv lw, .unset] [] _
    refine XS.iload X0.here hx rfl (hb hby d21_12) rfl ?_
    show own_s p e below s₁ m 14 #[iv p0, iv (3 : Int32), iv (1 : Int32), iv (12 : Int32), iv lw, .unset] [(.int lw)] _
    refine XS.iconst X0.here hx rfl (hb hby d21_14) ?_
    show own_s p e below s₁ m 15 #[iv p0, iv (3 : Int32), iv (1 : Int32), iv (12 : Int32), iv lw, .unset] [(.int (1 : Int32)), (.int lw)] _
    refine XS.iloadN X0.here hx rfl (hb hby d21_15) rfl ?_
    show own_s p e below s₁ m 16 #[iv p0, iv (3 : Int32), iv (1 : Int32), iv (12 : Int32), iv lw, .unset] [(.int (12 : Int32)), (.int (1 : Int32)), (.int lw)] _
    refine XS.ishl X0.here hx rfl (hb hby d21_16) rfl ?_
    show own_s p e below s₁ m 17 #[iv p0, iv (3 : Int32), iv (1 : Int32), iv (12 : Int32), iv lw, .unset] [(.int ((1 : Int32) <<< ((12 : Int32) &&& 31))), (.int lw)] _
    refine XS.iadd X0.here hx rfl (hb hby d21_17) rfl ?_
    show own_s p e below s₁ m 18 #[iv p0, iv (3 : Int32), iv (1 : Int32), iv (12 : Int32), iv lw, .unset] [(.int (lw + ((1 : Int32) <<< ((12 : Int32) &&& 31))))] _
    refine XS.iconst X0.here hx rfl (hb hby d21_18) ?_
    show own_s p e below s₁ m 19 #[iv p0, iv (3 : Int32), iv (1 : Int32), iv (12 : Int32), iv lw, .unset] [(.int (1 : Int32)), (.int (lw + ((1 : Int32) <<< ((12 : Int32) &&& 31))))] _
    refine XS.isub X0.here hx rfl (hb hby d21_19) rfl ?_
    exact kX
  obtain ⟨hg, hhg⟩ : ∃ z : Int32, z = ((lw + ((1 : Int32) <<< ((12 : Int32) &&& 31))) - (1 : Int32)) := ⟨_, rfl⟩
  rw [← hhg] at pre3
  have hI : hg.toInt = p0.toInt * 4096 + 4095 := by
    rw [hhg]
    have d3 := c_iadd lw ((1 : Int32) <<< ((12 : Int32) &&& 31))
    have d4 : ((1 : Int32) <<< ((12 : Int32) &&& 31)).toInt = 4096 := by decide
    have d5 := rng32 (lw + ((1 : Int32) <<< ((12 : Int32) &&& 31)))
    have d6 := c_isub (lw + ((1 : Int32) <<< ((12 : Int32) &&& 31))) 1
    have d7 : (1 : Int32).toInt = 1 := rfl
    have d8 := rng32 ((lw + ((1 : Int32) <<< ((12 : Int32) &&& 31))) - 1)
    omega
  have pre4 : ∀ t, own_s p e below s₁ m 25 #[iv p0, iv (3 : Int32), iv (1 : Int32), iv (12 : Int32), iv lw, iv hg] [(.int (3 : Int32)), (.int hg)] t → Steps p.tables e below S0 t := by
    intro tX kX
    refine pre3 _ ?_
    show own_s p e below s₁ m 20 #[iv p0, iv (3 : Int32), iv (1 : Int32), iv (12 : Int32), iv lw, .unset] [(.int hg)] _
    refine XS.istore X0.here hx rfl (hb hby d21_20) rfl (l' := #[iv p0, iv (3 : Int32), iv (1 : Int32), iv (12 : Int32), iv lw, iv hg]) rfl ?_
    show own_s p e below s₁ m 22 #[iv p0, iv (3 : Int32), iv (1 : Int32), iv (12 : Int32), iv lw, iv hg] [] _
    refine XS.iload X0.here hx rfl (hb hby d21_22) rfl ?_
    show own_s p e below s₁ m 24 #[iv p0, iv (3 : Int32), iv (1 : Int32), iv (12 : Int32), iv lw, iv hg] [(.int hg)] _
    refine XS.iloadN X0.here hx rfl (hb hby d21_24) rfl ?_
    exact kX
  obtain ⟨_, _, ⟨T5, L5, k5, n5⟩, -, X5, ⟨Lc5, hQ5, l5, y5, z5⟩, st5⟩ := Jvm.LawKit.callS X0 hx (y := (⟨"com/example/weaverbird/weaverbird/model/xml/Utf8DecoderTakePinLaw", "minOf", "(I)I"⟩ : MethodName)) hown (mvT hZ (hw _ (List.mem_of_getElem? (i := 55) rfl))) (mvT hZ (hw _ (List.mem_of_getElem? (i := 56) rfl))) (mvT hZ (hw _ (List.mem_of_getElem? (i := 2) rfl))) (mvT hZ (hw _ (List.mem_of_getElem? (i := 57) rfl))) (by decide) (backOf (W := 1) (rm12 l Z a0 hw []   h0 n0 Z0 ) hZ (hw _ (List.mem_of_getElem? (i := 57) rfl)) (hw _ (List.mem_of_getElem? (i := 2) rfl)) (by decide) (by decide)) (g := (mkF m 25 #[iv p0, iv (3 : Int32), iv (1 : Int32), iv (12 : Int32), iv lw, iv hg] [(.int (3 : Int32)), (.int hg)])) rfl (by rw [hml]; rfl) (argsL := [(.int (3 : Int32))]) (rest := [(.int hg)]) (lenOf pd21_0 rfl) rfl (by show 2 * 0 + _ ≤ _; exact Nat.le_of_eq rfl) (hb hby d21_25) (fun _ _ => ⟨rfl, e0, (by decide : 0 + 0 ≤ _), (by decide : 0 + 0 ≤ _)⟩)
  dsimp only [Pt.U, Pt.locs, Pt.cells, Pt.slots] at X5 l5 y5 z5 st5 hQ5
  subst l5 y5 z5
  obtain ⟨rfl, Nq5, e5⟩ := hQ5
  have N5 := Fr.app N0 Nq5
  obtain ⟨LL6, X6, N6⟩ : ∃ LL, Stand p l e ({ frames := 1, cells := 0, slots := 0, locals := 15 } : Room) s m #[(.int p0), (.int (3 : Int32)), (.int (1 : Int32))] below meth c T5 LL 0 0 ∧ Fr n0 LL := ⟨_, X5, N5⟩
  have pre7 : ∀ t, own_s p e below T5 m 28 #[iv p0, iv (3 : Int32), iv (1 : Int32), iv (12 : Int32), iv lw, iv hg] [(.int (2048 : Int32)), (.int hg)] t → Steps p.tables e below S0 t := fun tX kX => pre4 _ (st5 _ kX)
  by_cases hc8 : hg < (2048 : Int32)
  · skip
    have ihc8 : (hg).toInt < (2048 : Int) := Int32.lt_iff_toInt_lt.mp hc8
    have pre9 : ∀ t, own_s p e below T5 m 57 #[iv p0, iv (3 : Int32), iv (1 : Int32), iv (12 : Int32), iv lw, iv hg] [(.int (0 : Int32))] t → Steps p.tables e below S0 t := by
      intro tX kX
      refine pre7 _ ?_
      show own_s p e below T5 m 28 #[iv p0, iv (3 : Int32), iv (1 : Int32), iv (12 : Int32), iv lw, iv hg] [(.int (2048 : Int32)), (.int hg)] _
      refine XS.icmpYes X6.here hx rfl (pc0 := 28) (pc' := 56) rfl (hb hby d21_28) rfl (tlt hc8).1 (by decide) (by decide) ?_
      show own_s p e below T5 m 56 #[iv p0, iv (3 : Int32), iv (1 : Int32), iv (12 : Int32), iv lw, iv hg] [] _
      refine XS.iconst X6.here hx rfl (hb hby d21_56) ?_
      exact kX
    subst hS0
    obtain ⟨fs, hr, hrun, hended, hW, hsame⟩ := X6.leave (v := (some (.int (0 : Int32)))) (fun h => by rw [Bd.returns] at h; cases h)
    refine ⟨_, _, pre9 _ (retN X6 hx (t := .boolean) Bd.returns (by simp) (hb hby d21_57) hr), hrun, hended, _, _, rfl, ?_, ⟨_, rfl⟩, hW, hsame.mono (by decide) (by decide)⟩
    show Q21 Z p0 h0 n0 (some (.int (0 : Int32))) T5.heap _
    exact ⟨Or.inr (⟨rfl, by omega⟩), N6, e5⟩
  · skip
    have ihc8 : ¬ ((hg).toInt < (2048 : Int)) := fun q => hc8 (Int32.lt_iff_toInt_lt.mpr q)
    have pre10 : ∀ t, own_s p e below T5 m 35 #[iv p0, iv (3 : Int32), iv (1 : Int32), iv (12 : Int32), iv lw, iv hg] [(.int (1114111 : Int32)), (.int lw)] t → Steps p.tables e below S0 t := by
      intro tX kX
      refine pre7 _ ?_
      show own_s p e below T5 m 28 #[iv p0, iv (3 : Int32), iv (1 : Int32), iv (12 : Int32), iv lw, iv hg] [(.int (2048 : Int32)), (.int hg)] _
      refine XS.icmpNo X6.here hx rfl (hb hby d21_28) rfl (flt hc8).1 ?_
      show own_s p e below T5 m 31 #[iv p0, iv (3 : Int32), iv (1 : Int32), iv (12 : Int32), iv lw, iv hg] [] _
      refine XS.iload X6.here hx rfl (hb hby d21_31) rfl ?_
      show own_s p e below T5 m 33 #[iv p0, iv (3 : Int32), iv (1 : Int32), iv (12 : Int32), iv lw, iv hg] [(.int lw)] _
      refine X6.ldcInt hx hown (mvT hZ (hw _ (List.mem_of_getElem? (i := 59) rfl))) (g := (mkF m 33 #[iv p0, iv (3 : Int32), iv (1 : Int32), iv (12 : Int32), iv lw, iv hg] [(.int lw)])) rfl (hb hby d21_33) _ ?_
      exact kX
    by_cases hc11 : (1114111 : Int32) < lw
    · skip
      have ihc11 : (1114111 : Int) < (lw).toInt := Int32.lt_iff_toInt_lt.mp hc11
      have pre12 : ∀ t, own_s p e below T5 m 57 #[iv p0, iv (3 : Int32), iv (1 : Int32), iv (12 : Int32), iv lw, iv hg] [(.int (0 : Int32))] t → Steps p.tables e below S0 t := by
        intro tX kX
        refine pre10 _ ?_
        show own_s p e below T5 m 35 #[iv p0, iv (3 : Int32), iv (1 : Int32), iv (12 : Int32), iv lw, iv hg] [(.int (1114111 : Int32)), (.int lw)] _
        refine XS.icmpYes X6.here hx rfl (pc0 := 35) (pc' := 56) rfl (hb hby d21_35) rfl (tlt hc11).2.2.1 (by decide) (by decide) ?_
        show own_s p e below T5 m 56 #[iv p0, iv (3 : Int32), iv (1 : Int32), iv (12 : Int32), iv lw, iv hg] [] _
        refine XS.iconst X6.here hx rfl (hb hby d21_56) ?_
        exact kX
      subst hS0
      obtain ⟨fs, hr, hrun, hended, hW, hsame⟩ := X6.leave (v := (some (.int (0 : Int32)))) (fun h => by rw [Bd.returns] at h; cases h)
      refine ⟨_, _, pre12 _ (retN X6 hx (t := .boolean) Bd.returns (by simp) (hb hby d21_57) hr), hrun, hended, _, _, rfl, ?_, ⟨_, rfl⟩, hW, hsame.mono (by decide) (by decide)⟩
      show Q21 Z p0 h0 n0 (some (.int (0 : Int32))) T5.heap _
      exact ⟨Or.inr (⟨rfl, by omega⟩), N6, e5⟩
    · skip
      have ihc11 : ¬ ((1114111 : Int) < (lw).toInt) := fun q => hc11 (Int32.lt_iff_toInt_lt.mpr q)
      have pre13 : ∀ t, own_s p e below T5 m 42 #[iv p0, iv (3 : Int32), iv (1 : Int32), iv (12 : Int32), iv lw, iv hg] [(.int (55296 : Int32)), (.int lw)] t → Steps p.tables e below S0 t := by
        intro tX kX
        refine pre10 _ ?_
        show own_s p e below T5 m 35 #[iv p0, iv (3 : Int32), iv (1 : Int32), iv (12 : Int32), iv lw, iv hg] [(.int (1114111 : Int32)), (.int lw)] _
        refine XS.icmpNo X6.here hx rfl (hb hby d21_35) rfl (flt hc11).2.2.1 ?_
        show own_s p e below T5 m 38 #[iv p0, iv (3 : Int32), iv (1 : Int32), iv (12 : Int32), iv lw, iv hg] [] _
        refine XS.iload X6.here hx rfl (hb hby d21_38) rfl ?_
        show own_s p e below T5 m 40 #[iv p0, iv (3 : Int32), iv (1 : Int32), iv (12 : Int32), iv lw, iv hg] [(.int lw)] _
        refine X6.ldcInt hx hown (mvT hZ (hw _ (List.mem_of_getElem? (i := 60) rfl))) (g := (mkF m 40 #[iv p0, iv (3 : Int32), iv (1 : Int32), iv (12 : Int32), iv lw, iv hg] [(.int lw)])) rfl (hb hby d21_40) _ ?_
        exact kX
      by_cases hc14 : lw < (55296 : Int32)
      · skip
        have ihc14 : (lw).toInt < (55296 : Int) := Int32.lt_iff_toInt_lt.mp hc14
        have pre15 : ∀ t, own_s p e below T5 m 57 #[iv p0, iv (3 : Int32), iv (1 : Int32), iv (12 : Int32), iv lw, iv hg] [(.int (1 : Int32))] t → Steps p.tables e below S0 t := by
          intro tX kX
          refine pre13 _ ?_
          show own_s p e below T5 m 42 #[iv p0, iv (3 : Int32), iv (1 : Int32), iv (12 : Int32), iv lw, iv hg] [(.int (55296 : Int32)), (.int lw)] _
          refine XS.icmpYes X6.here hx rfl (pc0 := 42) (pc' := 52) rfl (hb hby d21_42) rfl (tlt hc14).1 (by decide) (by decide) ?_
          show own_s p e below T5 m 52 #[iv p0, iv (3 : Int32), iv (1 : Int32), iv (12 : Int32), iv lw, iv hg] [] _
          refine XS.iconst X6.here hx rfl (hb hby d21_52) ?_
          show own_s p e below T5 m 53 #[iv p0, iv (3 : Int32), iv (1 : Int32), iv (12 : Int32), iv lw, iv hg] [(.int (1 : Int32))] _
          refine XS.goto X6.here hx rfl (pc0 := 53) (pc' := 57) rfl (hb hby d21_53) (by decide) (by decide) ?_
          exact kX
        subst hS0
        obtain ⟨fs, hr, hrun, hended, hW, hsame⟩ := X6.leave (v := (some (.int (1 : Int32)))) (fun h => by rw [Bd.returns] at h; cases h)
        refine ⟨_, _, pre15 _ (retN X6 hx (t := .boolean) Bd.returns (by simp) (hb hby d21_57) hr), hrun, hended, _, _, rfl, ?_, ⟨_, rfl⟩, hW, hsame.mono (by decide) (by decide)⟩
        show Q21 Z p0 h0 n0 (some (.int (1 : Int32))) T5.heap _
        exact ⟨Or.inl ⟨rfl, by omega⟩, N6, e5⟩
      · skip
        have ihc14 : ¬ ((lw).toInt < (55296 : Int)) := fun q => hc14 (Int32.lt_iff_toInt_lt.mpr q)
        have pre16 : ∀ t, own_s p e below T5 m 49 #[iv p0, iv (3 : Int32), iv (1 : Int32), iv (12 : Int32), iv lw, iv hg] [(.int (57343 : Int32)), (.int hg)] t → Steps p.tables e below S0 t := by
          intro tX kX
          refine pre13 _ ?_
          show own_s p e below T5 m 42 #[iv p0, iv (3 : Int32), iv (1 : Int32), iv (12 : Int32), iv lw, iv hg] [(.int (55296 : Int32)), (.int lw)] _
          refine XS.icmpNo X6.here hx rfl (hb hby d21_42) rfl (flt hc14).1 ?_
          show own_s p e below T5 m 45 #[iv p0, iv (3 : Int32), iv (1 : Int32), iv (12 : Int32), iv lw, iv hg] [] _
          refine XS.iload X6.here hx rfl (hb hby d21_45) rfl ?_
          show own_s p e below T5 m 47 #[iv p0, iv (3 : Int32), iv (1 : Int32), iv (12 : Int32), iv lw, iv hg] [(.int hg)] _
          refine X6.ldcInt hx hown (mvT hZ (hw _ (List.mem_of_getElem? (i := 64) rfl))) (g := (mkF m 47 #[iv p0, iv (3 : Int32), iv (1 : Int32), iv (12 : Int32), iv lw, iv hg] [(.int hg)])) rfl (hb hby d21_47) _ ?_
          exact kX
        by_cases hc17 : (57343 : Int32) < hg
        · skip
          have ihc17 : (57343 : Int) < (hg).toInt := Int32.lt_iff_toInt_lt.mp hc17
          have pre18 : ∀ t, own_s p e below T5 m 57 #[iv p0, iv (3 : Int32), iv (1 : Int32), iv (12 : Int32), iv lw, iv hg] [(.int (1 : Int32))] t → Steps p.tables e below S0 t := by
            intro tX kX
            refine pre16 _ ?_
            show own_s p e below T5 m 49 #[iv p0, iv (3 : Int32), iv (1 : Int32), iv (12 : Int32), iv lw, iv hg] [(.int (57343 : Int32)), (.int hg)] _
            refine XS.icmpNo X6.here hx rfl (hb hby d21_49) rfl (tlt hc17).2.2.2 ?_
            show own_s p e below T5 m 52 #[iv p0, iv (3 : Int32), iv (1 : Int32), iv (12 : Int32), iv lw, iv hg] [] _
            refine XS.iconst X6.here hx rfl (hb hby d21_52) ?_
            show own_s p e below T5 m 53 #[iv p0, iv (3 : Int32), iv (1 : Int32), iv (12 : Int32), iv lw, iv hg] [(.int (1 : Int32))] _
            refine XS.goto X6.here hx rfl (pc0 := 53) (pc' := 57) rfl (hb hby d21_53) (by decide) (by decide) ?_
            exact kX
          subst hS0
          obtain ⟨fs, hr, hrun, hended, hW, hsame⟩ := X6.leave (v := (some (.int (1 : Int32)))) (fun h => by rw [Bd.returns] at h; cases h)
          refine ⟨_, _, pre18 _ (retN X6 hx (t := .boolean) Bd.returns (by simp) (hb hby d21_57) hr), hrun, hended, _, _, rfl, ?_, ⟨_, rfl⟩, hW, hsame.mono (by decide) (by decide)⟩
          show Q21 Z p0 h0 n0 (some (.int (1 : Int32))) T5.heap _
          exact ⟨Or.inl ⟨rfl, by omega⟩, N6, e5⟩
        · skip
          have ihc17 : ¬ ((57343 : Int) < (hg).toInt) := fun q => hc17 (Int32.lt_iff_toInt_lt.mpr q)
          have pre19 : ∀ t, own_s p e below T5 m 57 #[iv p0, iv (3 : Int32), iv (1 : Int32), iv (12 : Int32), iv lw, iv hg] [(.int (0 : Int32))] t → Steps p.tables e below S0 t := by
            intro tX kX
            refine pre16 _ ?_
            show own_s p e below T5 m 49 #[iv p0, iv (3 : Int32), iv (1 : Int32), iv (12 : Int32), iv lw, iv hg] [(.int (57343 : Int32)), (.int hg)] _
            refine XS.icmpYes X6.here hx rfl (pc0 := 49) (pc' := 56) rfl (hb hby d21_49) rfl (flt hc17).2.2.2 (by decide) (by decide) ?_
            show own_s p e below T5 m 56 #[iv p0, iv (3 : Int32), iv (1 : Int32), iv (12 : Int32), iv lw, iv hg] [] _
            refine XS.iconst X6.here hx rfl (hb hby d21_56) ?_
            exact kX
          subst hS0
          obtain ⟨fs, hr, hrun, hended, hW, hsame⟩ := X6.leave (v := (some (.int (0 : Int32)))) (fun h => by rw [Bd.returns] at h; cases h)
          refine ⟨_, _, pre19 _ (retN X6 hx (t := .boolean) Bd.returns (by simp) (hb hby d21_57) hr), hrun, hended, _, _, rfl, ?_, ⟨_, rfl⟩, hW, hsame.mono (by decide) (by decide)⟩
          show Q21 Z p0 h0 n0 (some (.int (0 : Int32))) T5.heap _
          exact ⟨Or.inr (⟨rfl, by omega⟩), N6, e5⟩
theorem d22_0 : decode method_10_code 0 = .ok (.bipush 6, 2) := by decide +kernel
theorem d22_2 : decode method_10_code 2 = .ok (.iload_n 1, 1) := by decide +kernel
theorem d22_3 : decode method_10_code 3 = .ok (.iload_n 2, 1) := by decide +kernel
theorem d22_4 : decode method_10_code 4 = .ok (.isub, 1) := by decide +kernel
theorem d22_5 : decode method_10_code 5 = .ok (.imul, 1) := by decide +kernel
theorem d22_6 : decode method_10_code 6 = .ok (.istore_n 3, 1) := by decide +kernel
theorem d22_7 : decode method_10_code 7 = .ok (.iload_n 0, 1) := by decide +kernel
theorem d22_8 : decode method_10_code 8 = .ok (.iload_n 3, 1) := by decide +kernel
theorem d22_9 : decode method_10_code 9 = .ok (.ishl, 1) := by decide +kernel
theorem d22_10 : decode method_10_code 10 = .ok (.istore 4, 2) := by decide +kernel
theorem d22_12 : decode method_10_code 12 = .ok (.iload 4, 2) := by decide +kernel
theorem d22_14 : decode method_10_code 14 = .ok (.iconst 1, 1) := by decide +kernel
theorem d22_15 : decode method_10_code 15 = .ok (.iload_n 3, 1) := by decide +kernel
theorem d22_16 : decode method_10_code 16 = .ok (.ishl, 1) := by decide +kernel
theorem d22_17 : decode method_10_code 17 = .ok (.iadd, 1) := by decide +kernel
theorem d22_18 : decode method_10_code 18 = .ok (.iconst 1, 1) := by decide +kernel
theorem d22_19 : decode method_10_code 19 = .ok (.isub, 1) := by decide +kernel
theorem d22_20 : decode method_10_code 20 = .ok (.istore 5, 2) := by decide +kernel
theorem d22_22 : decode method_10_code 22 = .ok (.iload 5, 2) := by decide +kernel
theorem d22_24 : decode method_10_code 24 = .ok (.iload_n 1, 1) := by decide +kernel
theorem d22_25 : decode method_10_code 25 = .ok (.invokestatic 50, 3) := by decide +kernel
theorem d22_28 : decode method_10_code 28 = .ok (.if_icmp .lt 28, 3) := by decide +kernel
theorem d22_31 : decode method_10_code 31 = .ok (.iload 4, 2) := by decide +kernel
theorem d22_33 : decode method_10_code 33 = .ok (.ldc 53, 2) := by decide +kernel
theorem d22_35 : decode method_10_code 35 = .ok (.if_icmp .gt 21, 3) := by decide +kernel
theorem d22_38 : decode method_10_code 38 = .ok (.iload 4, 2) := by decide +kernel
theorem d22_40 : decode method_10_code 40 = .ok (.ldc 54, 2) := by decide +kernel
theorem d22_42 : decode method_10_code 42 = .ok (.if_icmp .lt 10, 3) := by decide +kernel
theorem d22_45 : decode method_10_code 45 = .ok (.iload 5, 2) := by decide +kernel
theorem d22_47 : decode method_10_code 47 = .ok (.ldc 55, 2) := by decide +kernel
theorem d22_49 : decode method_10_code 49 = .ok (.if_icmp .le 7, 3) := by decide +kernel
theorem d22_52 : decode method_10_code 52 = .ok (.iconst 1, 1) := by decide +kernel
theorem d22_53 : decode method_10_code 53 = .ok (.goto 4, 3) := by decide +kernel
theorem d22_56 : decode method_10_code 56 = .ok (.iconst 0, 1) := by decide +kernel
theorem d22_57 : decode method_10_code 57 = .ok (.ireturn, 1) := by decide +kernel
theorem pn_22 : plainName "com/example/weaverbird/weaverbird/model/xml/Utf8DecoderTakePinLaw" = true := by first | (simp [plainName, overriddenIn]; done) | decide +kernel
theorem pd22_0 : parseMethodDescriptor "(I)I" = some ⟨[.int], some .int⟩ := by decide +kernel
theorem ef_22 (m : MethodId) (p0 : Int32) : entryFrame m #[(.int p0), (.int (4 : Int32)), (.int (1 : Int32))] 6 = mkF m 0 #[iv p0, iv (4 : Int32), iv (1 : Int32), .unset, .unset, .unset] [] := by first | (simp [entryFrame, mkF, argsToLocals, Value.category]; done) | rfl
def Q22 (Z : State) (p0 : Int32) (h0 : Heap) (n0 : Nat) (v : Option Value) (h : Heap) (L : List Loc) : Prop := ((v = some (.int 1) ∧ ((65536 ≤ p0.toInt * 262144 + 262143 ∧ p0.toInt * 262144 ≤ 1114111 ∧ ¬ (55296 ≤ p0.toInt * 262144 ∧ p0.toInt * 262144 + 262143 ≤ 57343)))) ∨ (v = some (.int 0) ∧ (¬ (65536 ≤ p0.toInt * 262144 + 262143 ∧ p0.toInt * 262144 ≤ 1114111 ∧ ¬ (55296 ≤ p0.toInt * 262144 ∧ p0.toInt * 262144 + 262143 ≤ 57343))))) ∧ Fr n0 L ∧ h = h0
set_option maxRecDepth 65536 in
set_option maxHeartbeats 40000000 in
theorem rm22 (l : Launch) (Z : State) (a0 : Array Value) (hw : ∀ d ∈ tables_1, d.before a0 Z = true) (ws : List Jvm.Cond) (p0 : Int32) (h0 : Heap) (n0 : Nat) (Z0 : n0 ≤ h0.size) (hp0 : 0 ≤ p0.toInt) (hp1 : p0.toInt * 262144 < 536870912) :
    MetFree l (⟨"com/example/weaverbird/weaverbird/model/xml/Utf8DecoderTakePinLaw", "feasible", "(III)Z"⟩ : MethodName) (head1 (Jvm.Cond.code (⟨"com/example/weaverbird/weaverbird/model/xml/Utf8DecoderTakePinLaw", "feasible", "(III)Z"⟩ : MethodName) method_10_code 6 (some .boolean) :: ws) ({ frames := 1, cells := 0, slots := 0, locals := 15 } : Room)) (fun aX UX => aX = #[(.int p0), (.int (4 : Int32)), (.int (1 : Int32))] ∧ Z.Warmed39 UX.vm ∧ UX.heap = h0) (fun _ _ _ _ _ => True) (fun _ UX oX UY => ∃ vX LX, oX = .returned vX ∧ Q22 Z p0 h0 n0 vX UY.heap LX ∧ FrameEnd UX oX UY LX ({ frames := 1, cells := 0, slots := 0, locals := 15 } : Room).cells ({ frames := 1, cells := 0, slots := 0, locals := 15 } : Room).slots) := by
  refine MetFree.of_bodySF (plainFor_of_name pn_22) hisR ?_
  intro p e s m args below meth c s₁ Bd hml0 hPX hKX
  obtain ⟨rfl, hZ, hh⟩ := hPX
  have hx := Bd.exec
  have hby := Bd.bytes
  have hml : c.maxLocals = 6 := hml0
  have hown : s.vm.findClass "com/example/weaverbird/weaverbird/model/xml/Utf8DecoderTakePinLaw" = some m.cls := findClass_of_methodNamed Bd.named
  have hnm := (name_of_methodNamed Bd.named Bd.method).1
  have X0 : Stand p l e ({ frames := 1, cells := 0, slots := 0, locals := 15 } : Room) s m #[(.int p0), (.int (4 : Int32)), (.int (1 : Int32))] below meth c s₁ [] 0 0 := Stand.of_body Bd
  have e0 : s₁.heap = h0 := by rw [← hh, Bd.state]; rfl
  have N0 := Fr.nil n0
  have pre0 : ∀ t, Steps p.tables e below (s₁.setTop (mkF m 0 #[iv p0, iv (4 : Int32), iv (1 : Int32), .unset, .unset, .unset] [])) t → Steps p.tables e below (s₁.setTop (entryFrame m #[(.int p0), (.int (4 : Int32)), (.int (1 : Int32))] 6)) t := fun t k => castTop (ef_22 m p0) k
  obtain ⟨S0, hS0⟩ : ∃ z, z = (s₁.setTop (entryFrame m #[(.int p0), (.int (4 : Int32)), (.int (1 : Int32))] 6)) := ⟨_, rfl⟩
  rw [← hS0] at pre0
  have pre1 : ∀ t, own_s p e below s₁ m 6 #[iv p0, iv (4 : Int32), iv (1 : Int32), .unset, .unset, .unset] [(.int ((6 : Int32) * ((4 : Int32) - (1 : Int32))))] t → Steps p.tables e below S0 t := by
    intro tX kX
    refine pre0 _ ?_
    show own_s p e below s₁ m 0 #[iv p0, iv (4 : Int32), iv (1 : Int32), .unset, .unset, .unset] [] _
    refine XS.bipush X0.here hx rfl (hb hby d22_0) ?_
    show own_s p e below s₁ m 2 #[iv p0, iv (4 : Int32), iv (1 : Int32), .unset, .unset, .unset] [(.int (6 : Int32))] _
    refine XS.iloadN X0.here hx rfl (hb hby d22_2) rfl ?_
    show own_s p e below s₁ m 3 #[iv p0, iv (4 : Int32), iv (1 : Int32), .unset, .unset, .unset] [(.int (4 : Int32)), (.int (6 : Int32))] _
    refine XS.iloadN X0.here hx rfl (hb hby d22_3) rfl ?_
    show own_s p e below s₁ m 4 #[iv p0, iv (4 : Int32), iv (1 : Int32), .unset, .unset, .unset] [(.int (1 : Int32)), (.int (4 : Int32)), (.int (6 : Int32))] _
    refine XS.isub X0.here hx rfl (hb hby d22_4) rfl ?_
    show own_s p e below s₁ m 5 #[iv p0, iv (4 : Int32), iv (1 : Int32), .unset, .unset, .unset] [(.int ((4 : Int32) - (1 : Int32))), (.int (6 : Int32))] _
    refine XS.imul X0.here hx rfl (hb hby d22_5) rfl ?_
    exact kX
  rw [show ((6 : Int32) * ((4 : Int32) - (1 : Int32))) = (18 : Int32) from by decide] at pre1
  have pre2 : ∀ t, own_s p e below s₁ m 10 #[iv p0, iv (4 : Int32), iv (1 : Int32), iv (18 : Int32), .unset, .unset] [(.int (p0 <<< ((18 : Int32) &&& 31)))] t → Steps p.tables e below S0 t := by
    intro tX kX
    refine pre1 _ ?_
    show own_s p e below s₁ m 6 #[iv p0, iv (4 : Int32), iv (1 : Int32), .unset, .unset, .unset] [(.int (18 : Int32))] _
    refine XS.istoreN X0.here hx rfl (hb hby d22_6) rfl (l' := #[iv p0, iv (4 : Int32), iv (1 : Int32), iv (18 : Int32), .unset, .unset]) rfl ?_
    show own_s p e below s₁ m 7 #[iv p0, iv (4 : Int32), iv (1 : Int32), iv (18 : Int32), .unset, .unset] [] _
    refine XS.iloadN X0.here hx rfl (hb hby d22_7) rfl ?_
    show own_s p e below s₁ m 8 #[iv p0, iv (4 : Int32), iv (1 : Int32), iv (18 : Int32), .unset, .unset] [(.int p0)] _
    refine XS.iloadN X0.here hx rfl (hb hby d22_8) rfl ?_
    show own_s p e below s₁ m 9 #[iv p0, iv (4 : Int32), iv (1 : Int32), iv (18 : Int32), .unset, .unset] [(.int (18 : Int32)), (.int p0)] _
    refine XS.ishl X0.here hx rfl (hb hby d22_9) rfl ?_
    exact kX
  obtain ⟨lw, hlw⟩ : ∃ z : Int32, z = (p0 <<< ((18 : Int32) &&& 31)) := ⟨_, rfl⟩
  rw [← hlw] at pre2
  have lI : lw.toInt = p0.toInt * 262144 := by rw [hlw]; have d1 := c_ishl p0 18 18 (by decide); have d2 := rng32 (p0 <<< ((18 : Int32) &&& 31)); omega
  have pre3 : ∀ t, own_s p e below s₁ m 20 #[iv p0, iv (4 : Int32), iv (1 : Int32), iv (18 : Int32), iv lw, .unset] [(.int ((lw + ((1 : Int32) <<< ((18 : Int32) &&& 31))) - (1 : Int32)))] t → Steps p.tables e below S0 t := by
    intro tX kX
    refine pre2 _ ?_
    show own_s p e below s₁ m 10 #[iv p0, iv (4 : Int32), iv (1 : Int32), iv (18 : Int32), .unset, .unset] [(.int lw)] _
    refine XS.istore X0.here hx rfl (hb hby d22_10) rfl (l' := #[iv p0, iv (4 : Int32), iv (1 : Int32), iv (18 : Int32), iv lw, .unset]) rfl ?_
    show own_s p e below s₁ m 12 #[iv p0, iv (4 : Int32), iv (1 : Int32), iv (18 : Int32), iv lw, .unset] [] _
    refine XS.iload X0.here hx rfl (hb hby d22_12) rfl ?_
    show own_s p e below s₁ m 14 #[iv p0, iv (4 : Int32), iv (1 : Int32), iv (18 : Int32), iv lw, .unset] [(.int lw)] _
    refine XS.iconst X0.here hx rfl (hb hby d22_14) ?_
    show own_s p e below s₁ m 15 #[iv p0, iv (4 : Int32), iv (1 : Int32), iv (18 : Int32), iv lw, .unset] [(.int (1 : Int32)), (.int lw)] _
    refine XS.iloadN X0.here hx rfl (hb hby d22_15) rfl ?_
    show own_s p e below s₁ m 16 #[iv p0, iv (4 : Int32), iv (1 : Int32), iv (18 : Int32), iv lw, .unset] [(.int (18 : Int32)), (.int (1 : Int32)), (.int lw)] _
    refine XS.ishl X0.here hx rfl (hb hby d22_16) rfl ?_
    show own_s p e below s₁ m 17 #[iv p0, iv (4 : Int32), iv (1 : Int32), iv (18 : Int32), iv lw, .unset] [(.int ((1 : Int32) <<< ((18 : Int32) &&& 31))), (.int lw)] _
    refine XS.iadd X0.here hx rfl (hb hby d22_17) rfl ?_
    show own_s p e below s₁ m 18 #[iv p0, iv (4 : Int32), iv (1 : Int32), iv (18 : Int32), iv lw, .unset] [(.int (lw + ((1 : Int32) <<< ((18 : Int32) &&& 31))))] _
    refine XS.iconst X0.here hx rfl (hb hby d22_18) ?_
    show own_s p e below s₁ m 19 #[iv p0, iv (4 : Int32), iv (1 : Int32), iv (18 : Int32), iv lw, .unset] [(.int (1 : Int32)), (.int (lw + ((1 : Int32) <<< ((18 : Int32) &&& 31))))] _
    refine XS.isub X0.here hx rfl (hb hby d22_19) rfl ?_
    exact kX
  obtain ⟨hg, hhg⟩ : ∃ z : Int32, z = ((lw + ((1 : Int32) <<< ((18 : Int32) &&& 31))) - (1 : Int32)) := ⟨_, rfl⟩
  rw [← hhg] at pre3
  have hI : hg.toInt = p0.toInt * 262144 + 262143 := by
    rw [hhg]
    have d3 := c_iadd lw ((1 : Int32) <<< ((18 : Int32) &&& 31))
    have d4 : ((1 : Int32) <<< ((18 : Int32) &&& 31)).toInt = 262144 := by decide
    have d5 := rng32 (lw + ((1 : Int32) <<< ((18 : Int32) &&& 31)))
    have d6 := c_isub (lw + ((1 : Int32) <<< ((18 : Int32) &&& 31))) 1
    have d7 : (1 : Int32).toInt = 1 := rfl
    have d8 := rng32 ((lw + ((1 : Int32) <<< ((18 : Int32) &&& 31))) - 1)
    omega
  have pre4 : ∀ t, own_s p e below s₁ m 25 #[iv p0, iv (4 : Int32), iv (1 : Int32), iv (18 : Int32), iv lw, iv hg] [(.int (4 : Int32)), (.int hg)] t → Steps p.tables e below S0 t := by
    intro tX kX
    refine pre3 _ ?_
    show own_s p e below s₁ m 20 #[iv p0, iv (4 : Int32), iv (1 : Int32), iv (18 : Int32), iv lw, .unset] [(.int hg)] _
    refine XS.istore X0.here hx rfl (hb hby d22_20) rfl (l' := #[iv p0, iv (4 : Int32), iv (1 : Int32), iv (18 : Int32), iv lw, iv hg]) rfl ?_
    show own_s p e below s₁ m 22 #[iv p0, iv (4 : Int32), iv (1 : Int32), iv (18 : Int32), iv lw, iv hg] [] _
    refine XS.iload X0.here hx rfl (hb hby d22_22) rfl ?_
    show own_s p e below s₁ m 24 #[iv p0, iv (4 : Int32), iv (1 : Int32), iv (18 : Int32), iv lw, iv hg] [(.int hg)] _
    refine XS.iloadN X0.here hx rfl (hb hby d22_24) rfl ?_
    exact kX
  obtain ⟨_, _, ⟨T5, L5, k5, n5⟩, -, X5, ⟨Lc5, hQ5, l5, y5, z5⟩, st5⟩ := Jvm.LawKit.callS X0 hx (y := (⟨"com/example/weaverbird/weaverbird/model/xml/Utf8DecoderTakePinLaw", "minOf", "(I)I"⟩ : MethodName)) hown (mvT hZ (hw _ (List.mem_of_getElem? (i := 55) rfl))) (mvT hZ (hw _ (List.mem_of_getElem? (i := 56) rfl))) (mvT hZ (hw _ (List.mem_of_getElem? (i := 2) rfl))) (mvT hZ (hw _ (List.mem_of_getElem? (i := 57) rfl))) (by decide) (backOf (W := 1) (rm13 l Z a0 hw []   h0 n0 Z0 ) hZ (hw _ (List.mem_of_getElem? (i := 57) rfl)) (hw _ (List.mem_of_getElem? (i := 2) rfl)) (by decide) (by decide)) (g := (mkF m 25 #[iv p0, iv (4 : Int32), iv (1 : Int32), iv (18 : Int32), iv lw, iv hg] [(.int (4 : Int32)), (.int hg)])) rfl (by rw [hml]; rfl) (argsL := [(.int (4 : Int32))]) (rest := [(.int hg)]) (lenOf pd22_0 rfl) rfl (by show 2 * 0 + _ ≤ _; exact Nat.le_of_eq rfl) (hb hby d22_25) (fun _ _ => ⟨rfl, e0, (by decide : 0 + 0 ≤ _), (by decide : 0 + 0 ≤ _)⟩)
  dsimp only [Pt.U, Pt.locs, Pt.cells, Pt.slots] at X5 l5 y5 z5 st5 hQ5
  subst l5 y5 z5
  obtain ⟨rfl, Nq5, e5⟩ := hQ5
  have N5 := Fr.app N0 Nq5
  obtain ⟨LL6, X6, N6⟩ : ∃ LL, Stand p l e ({ frames := 1, cells := 0, slots := 0, locals := 15 } : Room) s m #[(.int p0), (.int (4 : Int32)), (.int (1 : Int32))] below meth c T5 LL 0 0 ∧ Fr n0 LL := ⟨_, X5, N5⟩
  have pre7 : ∀ t, own_s p e below T5 m 28 #[iv p0, iv (4 : Int32), iv (1 : Int32), iv (18 : Int32), iv lw, iv hg] [(.int (65536 : Int32)), (.int hg)] t → Steps p.tables e below S0 t := fun tX kX => pre4 _ (st5 _ kX)
  by_cases hc8 : hg < (65536 : Int32)
  · skip
    have ihc8 : (hg).toInt < (65536 : Int) := Int32.lt_iff_toInt_lt.mp hc8
    have pre9 : ∀ t, own_s p e below T5 m 57 #[iv p0, iv (4 : Int32), iv (1 : Int32), iv (18 : Int32), iv lw, iv hg] [(.int (0 : Int32))] t → Steps p.tables e below S0 t := by
      intro tX kX
      refine pre7 _ ?_
      show own_s p e below T5 m 28 #[iv p0, iv (4 : Int32), iv (1 : Int32), iv (18 : Int32), iv lw, iv hg] [(.int (65536 : Int32)), (.int hg)] _
      refine XS.icmpYes X6.here hx rfl (pc0 := 28) (pc' := 56) rfl (hb hby d22_28) rfl (tlt hc8).1 (by decide) (by decide) ?_
      show own_s p e below T5 m 56 #[iv p0, iv (4 : Int32), iv (1 : Int32), iv (18 : Int32), iv lw, iv hg] [] _
      refine XS.iconst X6.here hx rfl (hb hby d22_56) ?_
      exact kX
    subst hS0
    obtain ⟨fs, hr, hrun, hended, hW, hsame⟩ := X6.leave (v := (some (.int (0 : Int32)))) (fun h => by rw [Bd.returns] at h; cases h)
    refine ⟨_, _, pre9 _ (retN X6 hx (t := .boolean) Bd.returns (by simp) (hb hby d22_57) hr), hrun, hended, _, _, rfl, ?_, ⟨_, rfl⟩, hW, hsame.mono (by decide) (by decide)⟩
    show Q22 Z p0 h0 n0 (some (.int (0 : Int32))) T5.heap _
    exact ⟨Or.inr (⟨rfl, by omega⟩), N6, e5⟩
  · skip
    have ihc8 : ¬ ((hg).toInt < (65536 : Int)) := fun q => hc8 (Int32.lt_iff_toInt_lt.mpr q)
    have pre10 : ∀ t, own_s p e below T5 m 35 #[iv p0, iv (4 : Int32), iv (1 : Int32), iv (18 : Int32), iv lw, iv hg] [(.int (1114111 : Int32)), (.int lw)] t → Steps p.tables e below S0 t := by
      intro tX kX
      refine pre7 _ ?_
      show own_s p e below T5 m 28 #[iv p0, iv (4 : Int32), iv (1 : Int32), iv (18 : Int32), iv lw, iv hg] [(.int (65536 : Int32)), (.int hg)] _
      refine XS.icmpNo X6.here hx rfl (hb hby d22_28) rfl (flt hc8).1 ?_
      show own_s p e below T5 m 31 #[iv p0, iv (4 : Int32), iv (1 : Int32), iv (18 : Int32), iv lw, iv hg] [] _
      refine XS.iload X6.here hx rfl (hb hby d22_31) rfl ?_
      show own_s p e below T5 m 33 #[iv p0, iv (4 : Int32), iv (1 : Int32), iv (18 : Int32), iv lw, iv hg] [(.int lw)] _
      refine X6.ldcInt hx hown (mvT hZ (hw _ (List.mem_of_getElem? (i := 59) rfl))) (g := (mkF m 33 #[iv p0, iv (4 : Int32), iv (1 : Int32), iv (18 : Int32), iv lw, iv hg] [(.int lw)])) rfl (hb hby d22_33) _ ?_
      exact kX
    by_cases hc11 : (1114111 : Int32) < lw
    · skip
      have ihc11 : (1114111 : Int) < (lw).toInt := Int32.lt_iff_toInt_lt.mp hc11
      have pre12 : ∀ t, own_s p e below T5 m 57 #[iv p0, iv (4 : Int32), iv (1 : Int32), iv (18 : Int32), iv lw, iv hg] [(.int (0 : Int32))] t → Steps p.tables e below S0 t := by
        intro tX kX
        refine pre10 _ ?_
        show own_s p e below T5 m 35 #[iv p0, iv (4 : Int32), iv (1 : Int32), iv (18 : Int32), iv lw, iv hg] [(.int (1114111 : Int32)), (.int lw)] _
        refine XS.icmpYes X6.here hx rfl (pc0 := 35) (pc' := 56) rfl (hb hby d22_35) rfl (tlt hc11).2.2.1 (by decide) (by decide) ?_
        show own_s p e below T5 m 56 #[iv p0, iv (4 : Int32), iv (1 : Int32), iv (18 : Int32), iv lw, iv hg] [] _
        refine XS.iconst X6.here hx rfl (hb hby d22_56) ?_
        exact kX
      subst hS0
      obtain ⟨fs, hr, hrun, hended, hW, hsame⟩ := X6.leave (v := (some (.int (0 : Int32)))) (fun h => by rw [Bd.returns] at h; cases h)
      refine ⟨_, _, pre12 _ (retN X6 hx (t := .boolean) Bd.returns (by simp) (hb hby d22_57) hr), hrun, hended, _, _, rfl, ?_, ⟨_, rfl⟩, hW, hsame.mono (by decide) (by decide)⟩
      show Q22 Z p0 h0 n0 (some (.int (0 : Int32))) T5.heap _
      exact ⟨Or.inr (⟨rfl, by omega⟩), N6, e5⟩
    · skip
      have ihc11 : ¬ ((1114111 : Int) < (lw).toInt) := fun q => hc11 (Int32.lt_iff_toInt_lt.mpr q)
      have pre13 : ∀ t, own_s p e below T5 m 42 #[iv p0, iv (4 : Int32), iv (1 : Int32), iv (18 : Int32), iv lw, iv hg] [(.int (55296 : Int32)), (.int lw)] t → Steps p.tables e below S0 t := by
        intro tX kX
        refine pre10 _ ?_
        show own_s p e below T5 m 35 #[iv p0, iv (4 : Int32), iv (1 : Int32), iv (18 : Int32), iv lw, iv hg] [(.int (1114111 : Int32)), (.int lw)] _
        refine XS.icmpNo X6.here hx rfl (hb hby d22_35) rfl (flt hc11).2.2.1 ?_
        show own_s p e below T5 m 38 #[iv p0, iv (4 : Int32), iv (1 : Int32), iv (18 : Int32), iv lw, iv hg] [] _
        refine XS.iload X6.here hx rfl (hb hby d22_38) rfl ?_
        show own_s p e below T5 m 40 #[iv p0, iv (4 : Int32), iv (1 : Int32), iv (18 : Int32), iv lw, iv hg] [(.int lw)] _
        refine X6.ldcInt hx hown (mvT hZ (hw _ (List.mem_of_getElem? (i := 60) rfl))) (g := (mkF m 40 #[iv p0, iv (4 : Int32), iv (1 : Int32), iv (18 : Int32), iv lw, iv hg] [(.int lw)])) rfl (hb hby d22_40) _ ?_
        exact kX
      by_cases hc14 : lw < (55296 : Int32)
      · skip
        have ihc14 : (lw).toInt < (55296 : Int) := Int32.lt_iff_toInt_lt.mp hc14
        have pre15 : ∀ t, own_s p e below T5 m 57 #[iv p0, iv (4 : Int32), iv (1 : Int32), iv (18 : Int32), iv lw, iv hg] [(.int (1 : Int32))] t → Steps p.tables e below S0 t := by
          intro tX kX
          refine pre13 _ ?_
          show own_s p e below T5 m 42 #[iv p0, iv (4 : Int32), iv (1 : Int32), iv (18 : Int32), iv lw, iv hg] [(.int (55296 : Int32)), (.int lw)] _
          refine XS.icmpYes X6.here hx rfl (pc0 := 42) (pc' := 52) rfl (hb hby d22_42) rfl (tlt hc14).1 (by decide) (by decide) ?_
          show own_s p e below T5 m 52 #[iv p0, iv (4 : Int32), iv (1 : Int32), iv (18 : Int32), iv lw, iv hg] [] _
          refine XS.iconst X6.here hx rfl (hb hby d22_52) ?_
          show own_s p e below T5 m 53 #[iv p0, iv (4 : Int32), iv (1 : Int32), iv (18 : Int32), iv lw, iv hg] [(.int (1 : Int32))] _
          refine XS.goto X6.here hx rfl (pc0 := 53) (pc' := 57) rfl (hb hby d22_53) (by decide) (by decide) ?_
          exact kX
        subst hS0
        obtain ⟨fs, hr, hrun, hended, hW, hsame⟩ := X6.leave (v := (some (.int (1 : Int32)))) (fun h => by rw [Bd.returns] at h; cases h)
        refine ⟨_, _, pre15 _ (retN X6 hx (t := .boolean) Bd.returns (by simp) (hb hby d22_57) hr), hrun, hended, _, _, rfl, ?_, ⟨_, rfl⟩, hW, hsame.mono (by decide) (by decide)⟩
        show Q22 Z p0 h0 n0 (some (.int (1 : Int32))) T5.heap _
        exact ⟨Or.inl ⟨rfl, by omega⟩, N6, e5⟩
      · skip
        have ihc14 : ¬ ((lw).toInt < (55296 : Int)) := fun q => hc14 (Int32.lt_iff_toInt_lt.mpr q)
        have pre16 : ∀ t, own_s p e below T5 m 57 #[iv p0, iv (4 : Int32), iv (1 : Int32), iv (18 : Int32), iv lw, iv hg] [(.int (1 : Int32))] t → Steps p.tables e below S0 t := by
          intro tX kX
          refine pre13 _ ?_
          show own_s p e below T5 m 42 #[iv p0, iv (4 : Int32), iv (1 : Int32), iv (18 : Int32), iv lw, iv hg] [(.int (55296 : Int32)), (.int lw)] _
          refine XS.icmpNo X6.here hx rfl (hb hby d22_42) rfl (flt hc14).1 ?_
          show own_s p e below T5 m 45 #[iv p0, iv (4 : Int32), iv (1 : Int32), iv (18 : Int32), iv lw, iv hg] [] _
          refine XS.iload X6.here hx rfl (hb hby d22_45) rfl ?_
          show own_s p e below T5 m 47 #[iv p0, iv (4 : Int32), iv (1 : Int32), iv (18 : Int32), iv lw, iv hg] [(.int hg)] _
          refine X6.ldcInt hx hown (mvT hZ (hw _ (List.mem_of_getElem? (i := 64) rfl))) (g := (mkF m 47 #[iv p0, iv (4 : Int32), iv (1 : Int32), iv (18 : Int32), iv lw, iv hg] [(.int hg)])) rfl (hb hby d22_47) _ ?_
          show own_s p e below T5 m 49 #[iv p0, iv (4 : Int32), iv (1 : Int32), iv (18 : Int32), iv lw, iv hg] [(.int (57343 : Int32)), (.int hg)] _
          refine XS.icmpNo X6.here hx rfl (hb hby d22_49) rfl (tlt (show (57343 : Int32) < hg from (Int32.lt_iff_toInt_lt.mpr (by omega : (57343 : Int) < (hg).toInt)))).2.2.2 ?_
          show own_s p e below T5 m 52 #[iv p0, iv (4 : Int32), iv (1 : Int32), iv (18 : Int32), iv lw, iv hg] [] _
          refine XS.iconst X6.here hx rfl (hb hby d22_52) ?_
          show own_s p e below T5 m 53 #[iv p0, iv (4 : Int32), iv (1 : Int32), iv (18 : Int32), iv lw, iv hg] [(.int (1 : Int32))] _
          refine XS.goto X6.here hx rfl (pc0 := 53) (pc' := 57) rfl (hb hby d22_53) (by decide) (by decide) ?_
          exact kX
        subst hS0
        obtain ⟨fs, hr, hrun, hended, hW, hsame⟩ := X6.leave (v := (some (.int (1 : Int32)))) (fun h => by rw [Bd.returns] at h; cases h)
        refine ⟨_, _, pre16 _ (retN X6 hx (t := .boolean) Bd.returns (by simp) (hb hby d22_57) hr), hrun, hended, _, _, rfl, ?_, ⟨_, rfl⟩, hW, hsame.mono (by decide) (by decide)⟩
        show Q22 Z p0 h0 n0 (some (.int (1 : Int32))) T5.heap _
        exact ⟨Or.inl ⟨rfl, by omega⟩, N6, e5⟩
theorem d23_0 : decode method_10_code 0 = .ok (.bipush 6, 2) := by decide +kernel
theorem d23_2 : decode method_10_code 2 = .ok (.iload_n 1, 1) := by decide +kernel
theorem d23_3 : decode method_10_code 3 = .ok (.iload_n 2, 1) := by decide +kernel
theorem d23_4 : decode method_10_code 4 = .ok (.isub, 1) := by decide +kernel
theorem d23_5 : decode method_10_code 5 = .ok (.imul, 1) := by decide +kernel
theorem d23_6 : decode method_10_code 6 = .ok (.istore_n 3, 1) := by decide +kernel
theorem d23_7 : decode method_10_code 7 = .ok (.iload_n 0, 1) := by decide +kernel
theorem d23_8 : decode method_10_code 8 = .ok (.iload_n 3, 1) := by decide +kernel
theorem d23_9 : decode method_10_code 9 = .ok (.ishl, 1) := by decide +kernel
theorem d23_10 : decode method_10_code 10 = .ok (.istore 4, 2) := by decide +kernel
theorem d23_12 : decode method_10_code 12 = .ok (.iload 4, 2) := by decide +kernel
theorem d23_14 : decode method_10_code 14 = .ok (.iconst 1, 1) := by decide +kernel
theorem d23_15 : decode method_10_code 15 = .ok (.iload_n 3, 1) := by decide +kernel
theorem d23_16 : decode method_10_code 16 = .ok (.ishl, 1) := by decide +kernel
theorem d23_17 : decode method_10_code 17 = .ok (.iadd, 1) := by decide +kernel
theorem d23_18 : decode method_10_code 18 = .ok (.iconst 1, 1) := by decide +kernel
theorem d23_19 : decode method_10_code 19 = .ok (.isub, 1) := by decide +kernel
theorem d23_20 : decode method_10_code 20 = .ok (.istore 5, 2) := by decide +kernel
theorem d23_22 : decode method_10_code 22 = .ok (.iload 5, 2) := by decide +kernel
theorem d23_24 : decode method_10_code 24 = .ok (.iload_n 1, 1) := by decide +kernel
theorem d23_25 : decode method_10_code 25 = .ok (.invokestatic 50, 3) := by decide +kernel
theorem d23_28 : decode method_10_code 28 = .ok (.if_icmp .lt 28, 3) := by decide +kernel
theorem d23_31 : decode method_10_code 31 = .ok (.iload 4, 2) := by decide +kernel
theorem d23_33 : decode method_10_code 33 = .ok (.ldc 53, 2) := by decide +kernel
theorem d23_35 : decode method_10_code 35 = .ok (.if_icmp .gt 21, 3) := by decide +kernel
theorem d23_38 : decode method_10_code 38 = .ok (.iload 4, 2) := by decide +kernel
theorem d23_40 : decode method_10_code 40 = .ok (.ldc 54, 2) := by decide +kernel
theorem d23_42 : decode method_10_code 42 = .ok (.if_icmp .lt 10, 3) := by decide +kernel
theorem d23_45 : decode method_10_code 45 = .ok (.iload 5, 2) := by decide +kernel
theorem d23_47 : decode method_10_code 47 = .ok (.ldc 55, 2) := by decide +kernel
theorem d23_49 : decode method_10_code 49 = .ok (.if_icmp .le 7, 3) := by decide +kernel
theorem d23_52 : decode method_10_code 52 = .ok (.iconst 1, 1) := by decide +kernel
theorem d23_53 : decode method_10_code 53 = .ok (.goto 4, 3) := by decide +kernel
theorem d23_56 : decode method_10_code 56 = .ok (.iconst 0, 1) := by decide +kernel
theorem d23_57 : decode method_10_code 57 = .ok (.ireturn, 1) := by decide +kernel
theorem pn_23 : plainName "com/example/weaverbird/weaverbird/model/xml/Utf8DecoderTakePinLaw" = true := by first | (simp [plainName, overriddenIn]; done) | decide +kernel
theorem pd23_0 : parseMethodDescriptor "(I)I" = some ⟨[.int], some .int⟩ := by decide +kernel
theorem ef_23 (m : MethodId) (p0 : Int32) : entryFrame m #[(.int p0), (.int (2 : Int32)), (.int (2 : Int32))] 6 = mkF m 0 #[iv p0, iv (2 : Int32), iv (2 : Int32), .unset, .unset, .unset] [] := by first | (simp [entryFrame, mkF, argsToLocals, Value.category]; done) | rfl
def Q23 (Z : State) (p0 : Int32) (h0 : Heap) (n0 : Nat) (v : Option Value) (h : Heap) (L : List Loc) : Prop := ((v = some (.int 1) ∧ ((128 ≤ p0.toInt * 1 + 0 ∧ p0.toInt * 1 ≤ 1114111 ∧ ¬ (55296 ≤ p0.toInt * 1 ∧ p0.toInt * 1 + 0 ≤ 57343)))) ∨ (v = some (.int 0) ∧ (¬ (128 ≤ p0.toInt * 1 + 0 ∧ p0.toInt * 1 ≤ 1114111 ∧ ¬ (55296 ≤ p0.toInt * 1 ∧ p0.toInt * 1 + 0 ≤ 57343))))) ∧ Fr n0 L ∧ h = h0
set_option maxRecDepth 65536 in
set_option maxHeartbeats 40000000 in
theorem rm23 (l : Launch) (Z : State) (a0 : Array Value) (hw : ∀ d ∈ tables_1, d.before a0 Z = true) (ws : List Jvm.Cond) (p0 : Int32) (h0 : Heap) (n0 : Nat) (Z0 : n0 ≤ h0.size) (hp0 : 0 ≤ p0.toInt) (hp1 : p0.toInt * 1 < 536870912) :
    MetFree l (⟨"com/example/weaverbird/weaverbird/model/xml/Utf8DecoderTakePinLaw", "feasible", "(III)Z"⟩ : MethodName) (head1 (Jvm.Cond.code (⟨"com/example/weaverbird/weaverbird/model/xml/Utf8DecoderTakePinLaw", "feasible", "(III)Z"⟩ : MethodName) method_10_code 6 (some .boolean) :: ws) ({ frames := 1, cells := 0, slots := 0, locals := 15 } : Room)) (fun aX UX => aX = #[(.int p0), (.int (2 : Int32)), (.int (2 : Int32))] ∧ Z.Warmed39 UX.vm ∧ UX.heap = h0) (fun _ _ _ _ _ => True) (fun _ UX oX UY => ∃ vX LX, oX = .returned vX ∧ Q23 Z p0 h0 n0 vX UY.heap LX ∧ FrameEnd UX oX UY LX ({ frames := 1, cells := 0, slots := 0, locals := 15 } : Room).cells ({ frames := 1, cells := 0, slots := 0, locals := 15 } : Room).slots) := by
  refine MetFree.of_bodySF (plainFor_of_name pn_23) hisR ?_
  intro p e s m args below meth c s₁ Bd hml0 hPX hKX
  obtain ⟨rfl, hZ, hh⟩ := hPX
  have hx := Bd.exec
  have hby := Bd.bytes
  have hml : c.maxLocals = 6 := hml0
  have hown : s.vm.findClass "com/example/weaverbird/weaverbird/model/xml/Utf8DecoderTakePinLaw" = some m.cls := findClass_of_methodNamed Bd.named
  have hnm := (name_of_methodNamed Bd.named Bd.method).1
  have X0 : Stand p l e ({ frames := 1, cells := 0, slots := 0, locals := 15 } : Room) s m #[(.int p0), (.int (2 : Int32)), (.int (2 : Int32))] below meth c s₁ [] 0 0 := Stand.of_body Bd
  have e0 : s₁.heap = h0 := by rw [← hh, Bd.state]; rfl
  have N0 := Fr.nil n0
  have pre0 : ∀ t, Steps p.tables e below (s₁.setTop (mkF m 0 #[iv p0, iv (2 : Int32), iv (2 : Int32), .unset, .unset, .unset] [])) t → Steps p.tables e below (s₁.setTop (entryFrame m #[(.int p0), (.int (2 : Int32)), (.int (2 : Int32))] 6)) t := fun t k => castTop (ef_23 m p0) k
  obtain ⟨S0, hS0⟩ : ∃ z, z = (s₁.setTop (entryFrame m #[(.int p0), (.int (2 : Int32)), (.int (2 : Int32))] 6)) := ⟨_, rfl⟩
  rw [← hS0] at pre0
  have pre1 : ∀ t, own_s p e below s₁ m 6 #[iv p0, iv (2 : Int32), iv (2 : Int32), .unset, .unset, .unset] [(.int ((6 : Int32) * ((2 : Int32) - (2 : Int32))))] t → Steps p.tables e below S0 t := by
    intro tX kX
    refine pre0 _ ?_
    show own_s p e below s₁ m 0 #[iv p0, iv (2 : Int32), iv (2 : Int32), .unset, .unset, .unset] [] _
    refine XS.bipush X0.here hx rfl (hb hby d23_0) ?_
    show own_s p e below s₁ m 2 #[iv p0, iv (2 : Int32), iv (2 : Int32), .unset, .unset, .unset] [(.int (6 : Int32))] _
    refine XS.iloadN X0.here hx rfl (hb hby d23_2) rfl ?_
    show own_s p e below s₁ m 3 #[iv p0, iv (2 : Int32), iv (2 : Int32), .unset, .unset, .unset] [(.int (2 : Int32)), (.int (6 : Int32))] _
    refine XS.iloadN X0.here hx rfl (hb hby d23_3) rfl ?_
    show own_s p e below s₁ m 4 #[iv p0, iv (2 : Int32), iv (2 : Int32), .unset, .unset, .unset] [(.int (2 : Int32)), (.int (2 : Int32)), (.int (6 : Int32))] _
    refine XS.isub X0.here hx rfl (hb hby d23_4) rfl ?_
    show own_s p e below s₁ m 5 #[iv p0, iv (2 : Int32), iv (2 : Int32), .unset, .unset, .unset] [(.int ((2 : Int32) - (2 : Int32))), (.int (6 : Int32))] _
    refine XS.imul X0.here hx rfl (hb hby d23_5) rfl ?_
    exact kX
  rw [show ((6 : Int32) * ((2 : Int32) - (2 : Int32))) = (0 : Int32) from by decide] at pre1
  have pre2 : ∀ t, own_s p e below s₁ m 10 #[iv p0, iv (2 : Int32), iv (2 : Int32), iv (0 : Int32), .unset, .unset] [(.int (p0 <<< ((0 : Int32) &&& 31)))] t → Steps p.tables e below S0 t := by
    intro tX kX
    refine pre1 _ ?_
    show own_s p e below s₁ m 6 #[iv p0, iv (2 : Int32), iv (2 : Int32), .unset, .unset, .unset] [(.int (0 : Int32))] _
    refine XS.istoreN X0.here hx rfl (hb hby d23_6) rfl (l' := #[iv p0, iv (2 : Int32), iv (2 : Int32), iv (0 : Int32), .unset, .unset]) rfl ?_
    show own_s p e below s₁ m 7 #[iv p0, iv (2 : Int32), iv (2 : Int32), iv (0 : Int32), .unset, .unset] [] _
    refine XS.iloadN X0.here hx rfl (hb hby d23_7) rfl ?_
    show own_s p e below s₁ m 8 #[iv p0, iv (2 : Int32), iv (2 : Int32), iv (0 : Int32), .unset, .unset] [(.int p0)] _
    refine XS.iloadN X0.here hx rfl (hb hby d23_8) rfl ?_
    show own_s p e below s₁ m 9 #[iv p0, iv (2 : Int32), iv (2 : Int32), iv (0 : Int32), .unset, .unset] [(.int (0 : Int32)), (.int p0)] _
    refine XS.ishl X0.here hx rfl (hb hby d23_9) rfl ?_
    exact kX
  obtain ⟨lw, hlw⟩ : ∃ z : Int32, z = (p0 <<< ((0 : Int32) &&& 31)) := ⟨_, rfl⟩
  rw [← hlw] at pre2
  have lI : lw.toInt = p0.toInt * 1 := by rw [hlw]; have d1 := c_ishl p0 0 0 (by decide); have d2 := rng32 (p0 <<< ((0 : Int32) &&& 31)); omega
  have pre3 : ∀ t, own_s p e below s₁ m 20 #[iv p0, iv (2 : Int32), iv (2 : Int32), iv (0 : Int32), iv lw, .unset] [(.int ((lw + ((1 : Int32) <<< ((0 : Int32) &&& 31))) - (1 : Int32)))] t → Steps p.tables e below S0 t := by
    intro tX kX
    refine pre2 _ ?_
    show own_s p e below s₁ m 10 #[iv p0, iv (2 : Int32), iv (2 : Int32), iv (0 : Int32), .unset, .unset] [(.int lw)] _
    refine XS.istore X0.here hx rfl (hb hby d23_10) rfl (l' := #[iv p0, iv (2 : Int32), iv (2 : Int32), iv (0 : Int32), iv lw, .unset]) rfl ?_
    show own_s p e below s₁ m 12 #[iv p0, iv (2 : Int32), iv (2 : Int32), iv (0 : Int32), iv lw, .unset] [] _
    refine XS.iload X0.here hx rfl (hb hby d23_12) rfl ?_
    show own_s p e below s₁ m 14 #[iv p0, iv (2 : Int32), iv (2 : Int32), iv (0 : Int32), iv lw, .unset] [(.int lw)] _
    refine XS.iconst X0.here hx rfl (hb hby d23_14) ?_
    show own_s p e below s₁ m 15 #[iv p0, iv (2 : Int32), iv (2 : Int32), iv (0 : Int32), iv lw, .unset] [(.int (1 : Int32)), (.int lw)] _
    refine XS.iloadN X0.here hx rfl (hb hby d23_15) rfl ?_
    show own_s p e below s₁ m 16 #[iv p0, iv (2 : Int32), iv (2 : Int32), iv (0 : Int32), iv lw, .unset] [(.int (0 : Int32)), (.int (1 : Int32)), (.int lw)] _
    refine XS.ishl X0.here hx rfl (hb hby d23_16) rfl ?_
    show own_s p e below s₁ m 17 #[iv p0, iv (2 : Int32), iv (2 : Int32), iv (0 : Int32), iv lw, .unset] [(.int ((1 : Int32) <<< ((0 : Int32) &&& 31))), (.int lw)] _
    refine XS.iadd X0.here hx rfl (hb hby d23_17) rfl ?_
    show own_s p e below s₁ m 18 #[iv p0, iv (2 : Int32), iv (2 : Int32), iv (0 : Int32), iv lw, .unset] [(.int (lw + ((1 : Int32) <<< ((0 : Int32) &&& 31))))] _
    refine XS.iconst X0.here hx rfl (hb hby d23_18) ?_
    show own_s p e below s₁ m 19 #[iv p0, iv (2 : Int32), iv (2 : Int32), iv (0 : Int32), iv lw, .unset] [(.int (1 : Int32)), (.int (lw + ((1 : Int32) <<< ((0 : Int32) &&& 31))))] _
    refine XS.isub X0.here hx rfl (hb hby d23_19) rfl ?_
    exact kX
  obtain ⟨hg, hhg⟩ : ∃ z : Int32, z = ((lw + ((1 : Int32) <<< ((0 : Int32) &&& 31))) - (1 : Int32)) := ⟨_, rfl⟩
  rw [← hhg] at pre3
  have hI : hg.toInt = p0.toInt * 1 + 0 := by
    rw [hhg]
    have d3 := c_iadd lw ((1 : Int32) <<< ((0 : Int32) &&& 31))
    have d4 : ((1 : Int32) <<< ((0 : Int32) &&& 31)).toInt = 1 := by decide
    have d5 := rng32 (lw + ((1 : Int32) <<< ((0 : Int32) &&& 31)))
    have d6 := c_isub (lw + ((1 : Int32) <<< ((0 : Int32) &&& 31))) 1
    have d7 : (1 : Int32).toInt = 1 := rfl
    have d8 := rng32 ((lw + ((1 : Int32) <<< ((0 : Int32) &&& 31))) - 1)
    omega
  have pre4 : ∀ t, own_s p e below s₁ m 25 #[iv p0, iv (2 : Int32), iv (2 : Int32), iv (0 : Int32), iv lw, iv hg] [(.int (2 : Int32)), (.int hg)] t → Steps p.tables e below S0 t := by
    intro tX kX
    refine pre3 _ ?_
    show own_s p e below s₁ m 20 #[iv p0, iv (2 : Int32), iv (2 : Int32), iv (0 : Int32), iv lw, .unset] [(.int hg)] _
    refine XS.istore X0.here hx rfl (hb hby d23_20) rfl (l' := #[iv p0, iv (2 : Int32), iv (2 : Int32), iv (0 : Int32), iv lw, iv hg]) rfl ?_
    show own_s p e below s₁ m 22 #[iv p0, iv (2 : Int32), iv (2 : Int32), iv (0 : Int32), iv lw, iv hg] [] _
    refine XS.iload X0.here hx rfl (hb hby d23_22) rfl ?_
    show own_s p e below s₁ m 24 #[iv p0, iv (2 : Int32), iv (2 : Int32), iv (0 : Int32), iv lw, iv hg] [(.int hg)] _
    refine XS.iloadN X0.here hx rfl (hb hby d23_24) rfl ?_
    exact kX
  obtain ⟨_, _, ⟨T5, L5, k5, n5⟩, -, X5, ⟨Lc5, hQ5, l5, y5, z5⟩, st5⟩ := Jvm.LawKit.callS X0 hx (y := (⟨"com/example/weaverbird/weaverbird/model/xml/Utf8DecoderTakePinLaw", "minOf", "(I)I"⟩ : MethodName)) hown (mvT hZ (hw _ (List.mem_of_getElem? (i := 55) rfl))) (mvT hZ (hw _ (List.mem_of_getElem? (i := 56) rfl))) (mvT hZ (hw _ (List.mem_of_getElem? (i := 2) rfl))) (mvT hZ (hw _ (List.mem_of_getElem? (i := 57) rfl))) (by decide) (backOf (W := 1) (rm11 l Z a0 hw []   h0 n0 Z0 ) hZ (hw _ (List.mem_of_getElem? (i := 57) rfl)) (hw _ (List.mem_of_getElem? (i := 2) rfl)) (by decide) (by decide)) (g := (mkF m 25 #[iv p0, iv (2 : Int32), iv (2 : Int32), iv (0 : Int32), iv lw, iv hg] [(.int (2 : Int32)), (.int hg)])) rfl (by rw [hml]; rfl) (argsL := [(.int (2 : Int32))]) (rest := [(.int hg)]) (lenOf pd23_0 rfl) rfl (by show 2 * 0 + _ ≤ _; exact Nat.le_of_eq rfl) (hb hby d23_25) (fun _ _ => ⟨rfl, e0, (by decide : 0 + 0 ≤ _), (by decide : 0 + 0 ≤ _)⟩)
  dsimp only [Pt.U, Pt.locs, Pt.cells, Pt.slots] at X5 l5 y5 z5 st5 hQ5
  subst l5 y5 z5
  obtain ⟨rfl, Nq5, e5⟩ := hQ5
  have N5 := Fr.app N0 Nq5
  obtain ⟨LL6, X6, N6⟩ : ∃ LL, Stand p l e ({ frames := 1, cells := 0, slots := 0, locals := 15 } : Room) s m #[(.int p0), (.int (2 : Int32)), (.int (2 : Int32))] below meth c T5 LL 0 0 ∧ Fr n0 LL := ⟨_, X5, N5⟩
  have pre7 : ∀ t, own_s p e below T5 m 28 #[iv p0, iv (2 : Int32), iv (2 : Int32), iv (0 : Int32), iv lw, iv hg] [(.int (128 : Int32)), (.int hg)] t → Steps p.tables e below S0 t := fun tX kX => pre4 _ (st5 _ kX)
  by_cases hc8 : hg < (128 : Int32)
  · skip
    have ihc8 : (hg).toInt < (128 : Int) := Int32.lt_iff_toInt_lt.mp hc8
    have pre9 : ∀ t, own_s p e below T5 m 57 #[iv p0, iv (2 : Int32), iv (2 : Int32), iv (0 : Int32), iv lw, iv hg] [(.int (0 : Int32))] t → Steps p.tables e below S0 t := by
      intro tX kX
      refine pre7 _ ?_
      show own_s p e below T5 m 28 #[iv p0, iv (2 : Int32), iv (2 : Int32), iv (0 : Int32), iv lw, iv hg] [(.int (128 : Int32)), (.int hg)] _
      refine XS.icmpYes X6.here hx rfl (pc0 := 28) (pc' := 56) rfl (hb hby d23_28) rfl (tlt hc8).1 (by decide) (by decide) ?_
      show own_s p e below T5 m 56 #[iv p0, iv (2 : Int32), iv (2 : Int32), iv (0 : Int32), iv lw, iv hg] [] _
      refine XS.iconst X6.here hx rfl (hb hby d23_56) ?_
      exact kX
    subst hS0
    obtain ⟨fs, hr, hrun, hended, hW, hsame⟩ := X6.leave (v := (some (.int (0 : Int32)))) (fun h => by rw [Bd.returns] at h; cases h)
    refine ⟨_, _, pre9 _ (retN X6 hx (t := .boolean) Bd.returns (by simp) (hb hby d23_57) hr), hrun, hended, _, _, rfl, ?_, ⟨_, rfl⟩, hW, hsame.mono (by decide) (by decide)⟩
    show Q23 Z p0 h0 n0 (some (.int (0 : Int32))) T5.heap _
    exact ⟨Or.inr (⟨rfl, by omega⟩), N6, e5⟩
  · skip
    have ihc8 : ¬ ((hg).toInt < (128 : Int)) := fun q => hc8 (Int32.lt_iff_toInt_lt.mpr q)
    have pre10 : ∀ t, own_s p e below T5 m 35 #[iv p0, iv (2 : Int32), iv (2 : Int32), iv (0 : Int32), iv lw, iv hg] [(.int (1114111 : Int32)), (.int lw)] t → Steps p.tables e below S0 t := by
      intro tX kX
      refine pre7 _ ?_
      show own_s p e below T5 m 28 #[iv p0, iv (2 : Int32), iv (2 : Int32), iv (0 : Int32), iv lw, iv hg] [(.int (128 : Int32)), (.int hg)] _
      refine XS.icmpNo X6.here hx rfl (hb hby d23_28) rfl (flt hc8).1 ?_
      show own_s p e below T5 m 31 #[iv p0, iv (2 : Int32), iv (2 : Int32), iv (0 : Int32), iv lw, iv hg] [] _
      refine XS.iload X6.here hx rfl (hb hby d23_31) rfl ?_
      show own_s p e below T5 m 33 #[iv p0, iv (2 : Int32), iv (2 : Int32), iv (0 : Int32), iv lw, iv hg] [(.int lw)] _
      refine X6.ldcInt hx hown (mvT hZ (hw _ (List.mem_of_getElem? (i := 59) rfl))) (g := (mkF m 33 #[iv p0, iv (2 : Int32), iv (2 : Int32), iv (0 : Int32), iv lw, iv hg] [(.int lw)])) rfl (hb hby d23_33) _ ?_
      exact kX
    by_cases hc11 : (1114111 : Int32) < lw
    · skip
      have ihc11 : (1114111 : Int) < (lw).toInt := Int32.lt_iff_toInt_lt.mp hc11
      have pre12 : ∀ t, own_s p e below T5 m 57 #[iv p0, iv (2 : Int32), iv (2 : Int32), iv (0 : Int32), iv lw, iv hg] [(.int (0 : Int32))] t → Steps p.tables e below S0 t := by
        intro tX kX
        refine pre10 _ ?_
        show own_s p e below T5 m 35 #[iv p0, iv (2 : Int32), iv (2 : Int32), iv (0 : Int32), iv lw, iv hg] [(.int (1114111 : Int32)), (.int lw)] _
        refine XS.icmpYes X6.here hx rfl (pc0 := 35) (pc' := 56) rfl (hb hby d23_35) rfl (tlt hc11).2.2.1 (by decide) (by decide) ?_
        show own_s p e below T5 m 56 #[iv p0, iv (2 : Int32), iv (2 : Int32), iv (0 : Int32), iv lw, iv hg] [] _
        refine XS.iconst X6.here hx rfl (hb hby d23_56) ?_
        exact kX
      subst hS0
      obtain ⟨fs, hr, hrun, hended, hW, hsame⟩ := X6.leave (v := (some (.int (0 : Int32)))) (fun h => by rw [Bd.returns] at h; cases h)
      refine ⟨_, _, pre12 _ (retN X6 hx (t := .boolean) Bd.returns (by simp) (hb hby d23_57) hr), hrun, hended, _, _, rfl, ?_, ⟨_, rfl⟩, hW, hsame.mono (by decide) (by decide)⟩
      show Q23 Z p0 h0 n0 (some (.int (0 : Int32))) T5.heap _
      exact ⟨Or.inr (⟨rfl, by omega⟩), N6, e5⟩
    · skip
      have ihc11 : ¬ ((1114111 : Int) < (lw).toInt) := fun q => hc11 (Int32.lt_iff_toInt_lt.mpr q)
      have pre13 : ∀ t, own_s p e below T5 m 42 #[iv p0, iv (2 : Int32), iv (2 : Int32), iv (0 : Int32), iv lw, iv hg] [(.int (55296 : Int32)), (.int lw)] t → Steps p.tables e below S0 t := by
        intro tX kX
        refine pre10 _ ?_
        show own_s p e below T5 m 35 #[iv p0, iv (2 : Int32), iv (2 : Int32), iv (0 : Int32), iv lw, iv hg] [(.int (1114111 : Int32)), (.int lw)] _
        refine XS.icmpNo X6.here hx rfl (hb hby d23_35) rfl (flt hc11).2.2.1 ?_
        show own_s p e below T5 m 38 #[iv p0, iv (2 : Int32), iv (2 : Int32), iv (0 : Int32), iv lw, iv hg] [] _
        refine XS.iload X6.here hx rfl (hb hby d23_38) rfl ?_
        show own_s p e below T5 m 40 #[iv p0, iv (2 : Int32), iv (2 : Int32), iv (0 : Int32), iv lw, iv hg] [(.int lw)] _
        refine X6.ldcInt hx hown (mvT hZ (hw _ (List.mem_of_getElem? (i := 60) rfl))) (g := (mkF m 40 #[iv p0, iv (2 : Int32), iv (2 : Int32), iv (0 : Int32), iv lw, iv hg] [(.int lw)])) rfl (hb hby d23_40) _ ?_
        exact kX
      by_cases hc14 : lw < (55296 : Int32)
      · skip
        have ihc14 : (lw).toInt < (55296 : Int) := Int32.lt_iff_toInt_lt.mp hc14
        have pre15 : ∀ t, own_s p e below T5 m 57 #[iv p0, iv (2 : Int32), iv (2 : Int32), iv (0 : Int32), iv lw, iv hg] [(.int (1 : Int32))] t → Steps p.tables e below S0 t := by
          intro tX kX
          refine pre13 _ ?_
          show own_s p e below T5 m 42 #[iv p0, iv (2 : Int32), iv (2 : Int32), iv (0 : Int32), iv lw, iv hg] [(.int (55296 : Int32)), (.int lw)] _
          refine XS.icmpYes X6.here hx rfl (pc0 := 42) (pc' := 52) rfl (hb hby d23_42) rfl (tlt hc14).1 (by decide) (by decide) ?_
          show own_s p e below T5 m 52 #[iv p0, iv (2 : Int32), iv (2 : Int32), iv (0 : Int32), iv lw, iv hg] [] _
          refine XS.iconst X6.here hx rfl (hb hby d23_52) ?_
          show own_s p e below T5 m 53 #[iv p0, iv (2 : Int32), iv (2 : Int32), iv (0 : Int32), iv lw, iv hg] [(.int (1 : Int32))] _
          refine XS.goto X6.here hx rfl (pc0 := 53) (pc' := 57) rfl (hb hby d23_53) (by decide) (by decide) ?_
          exact kX
        subst hS0
        obtain ⟨fs, hr, hrun, hended, hW, hsame⟩ := X6.leave (v := (some (.int (1 : Int32)))) (fun h => by rw [Bd.returns] at h; cases h)
        refine ⟨_, _, pre15 _ (retN X6 hx (t := .boolean) Bd.returns (by simp) (hb hby d23_57) hr), hrun, hended, _, _, rfl, ?_, ⟨_, rfl⟩, hW, hsame.mono (by decide) (by decide)⟩
        show Q23 Z p0 h0 n0 (some (.int (1 : Int32))) T5.heap _
        exact ⟨Or.inl ⟨rfl, by omega⟩, N6, e5⟩
      · skip
        have ihc14 : ¬ ((lw).toInt < (55296 : Int)) := fun q => hc14 (Int32.lt_iff_toInt_lt.mpr q)
        have pre16 : ∀ t, own_s p e below T5 m 49 #[iv p0, iv (2 : Int32), iv (2 : Int32), iv (0 : Int32), iv lw, iv hg] [(.int (57343 : Int32)), (.int hg)] t → Steps p.tables e below S0 t := by
          intro tX kX
          refine pre13 _ ?_
          show own_s p e below T5 m 42 #[iv p0, iv (2 : Int32), iv (2 : Int32), iv (0 : Int32), iv lw, iv hg] [(.int (55296 : Int32)), (.int lw)] _
          refine XS.icmpNo X6.here hx rfl (hb hby d23_42) rfl (flt hc14).1 ?_
          show own_s p e below T5 m 45 #[iv p0, iv (2 : Int32), iv (2 : Int32), iv (0 : Int32), iv lw, iv hg] [] _
          refine XS.iload X6.here hx rfl (hb hby d23_45) rfl ?_
          show own_s p e below T5 m 47 #[iv p0, iv (2 : Int32), iv (2 : Int32), iv (0 : Int32), iv lw, iv hg] [(.int hg)] _
          refine X6.ldcInt hx hown (mvT hZ (hw _ (List.mem_of_getElem? (i := 64) rfl))) (g := (mkF m 47 #[iv p0, iv (2 : Int32), iv (2 : Int32), iv (0 : Int32), iv lw, iv hg] [(.int hg)])) rfl (hb hby d23_47) _ ?_
          exact kX
        by_cases hc17 : (57343 : Int32) < hg
        · skip
          have ihc17 : (57343 : Int) < (hg).toInt := Int32.lt_iff_toInt_lt.mp hc17
          have pre18 : ∀ t, own_s p e below T5 m 57 #[iv p0, iv (2 : Int32), iv (2 : Int32), iv (0 : Int32), iv lw, iv hg] [(.int (1 : Int32))] t → Steps p.tables e below S0 t := by
            intro tX kX
            refine pre16 _ ?_
            show own_s p e below T5 m 49 #[iv p0, iv (2 : Int32), iv (2 : Int32), iv (0 : Int32), iv lw, iv hg] [(.int (57343 : Int32)), (.int hg)] _
            refine XS.icmpNo X6.here hx rfl (hb hby d23_49) rfl (tlt hc17).2.2.2 ?_
            show own_s p e below T5 m 52 #[iv p0, iv (2 : Int32), iv (2 : Int32), iv (0 : Int32), iv lw, iv hg] [] _
            refine XS.iconst X6.here hx rfl (hb hby d23_52) ?_
            show own_s p e below T5 m 53 #[iv p0, iv (2 : Int32), iv (2 : Int32), iv (0 : Int32), iv lw, iv hg] [(.int (1 : Int32))] _
            refine XS.goto X6.here hx rfl (pc0 := 53) (pc' := 57) rfl (hb hby d23_53) (by decide) (by decide) ?_
            exact kX
          subst hS0
          obtain ⟨fs, hr, hrun, hended, hW, hsame⟩ := X6.leave (v := (some (.int (1 : Int32)))) (fun h => by rw [Bd.returns] at h; cases h)
          refine ⟨_, _, pre18 _ (retN X6 hx (t := .boolean) Bd.returns (by simp) (hb hby d23_57) hr), hrun, hended, _, _, rfl, ?_, ⟨_, rfl⟩, hW, hsame.mono (by decide) (by decide)⟩
          show Q23 Z p0 h0 n0 (some (.int (1 : Int32))) T5.heap _
          exact ⟨Or.inl ⟨rfl, by omega⟩, N6, e5⟩
        · skip
          have ihc17 : ¬ ((57343 : Int) < (hg).toInt) := fun q => hc17 (Int32.lt_iff_toInt_lt.mpr q)
          have pre19 : ∀ t, own_s p e below T5 m 57 #[iv p0, iv (2 : Int32), iv (2 : Int32), iv (0 : Int32), iv lw, iv hg] [(.int (0 : Int32))] t → Steps p.tables e below S0 t := by
            intro tX kX
            refine pre16 _ ?_
            show own_s p e below T5 m 49 #[iv p0, iv (2 : Int32), iv (2 : Int32), iv (0 : Int32), iv lw, iv hg] [(.int (57343 : Int32)), (.int hg)] _
            refine XS.icmpYes X6.here hx rfl (pc0 := 49) (pc' := 56) rfl (hb hby d23_49) rfl (flt hc17).2.2.2 (by decide) (by decide) ?_
            show own_s p e below T5 m 56 #[iv p0, iv (2 : Int32), iv (2 : Int32), iv (0 : Int32), iv lw, iv hg] [] _
            refine XS.iconst X6.here hx rfl (hb hby d23_56) ?_
            exact kX
          subst hS0
          obtain ⟨fs, hr, hrun, hended, hW, hsame⟩ := X6.leave (v := (some (.int (0 : Int32)))) (fun h => by rw [Bd.returns] at h; cases h)
          refine ⟨_, _, pre19 _ (retN X6 hx (t := .boolean) Bd.returns (by simp) (hb hby d23_57) hr), hrun, hended, _, _, rfl, ?_, ⟨_, rfl⟩, hW, hsame.mono (by decide) (by decide)⟩
          show Q23 Z p0 h0 n0 (some (.int (0 : Int32))) T5.heap _
          exact ⟨Or.inr (⟨rfl, by omega⟩), N6, e5⟩
theorem d24_0 : decode method_10_code 0 = .ok (.bipush 6, 2) := by decide +kernel
theorem d24_2 : decode method_10_code 2 = .ok (.iload_n 1, 1) := by decide +kernel
theorem d24_3 : decode method_10_code 3 = .ok (.iload_n 2, 1) := by decide +kernel
theorem d24_4 : decode method_10_code 4 = .ok (.isub, 1) := by decide +kernel
theorem d24_5 : decode method_10_code 5 = .ok (.imul, 1) := by decide +kernel
theorem d24_6 : decode method_10_code 6 = .ok (.istore_n 3, 1) := by decide +kernel
theorem d24_7 : decode method_10_code 7 = .ok (.iload_n 0, 1) := by decide +kernel
theorem d24_8 : decode method_10_code 8 = .ok (.iload_n 3, 1) := by decide +kernel
theorem d24_9 : decode method_10_code 9 = .ok (.ishl, 1) := by decide +kernel
theorem d24_10 : decode method_10_code 10 = .ok (.istore 4, 2) := by decide +kernel
theorem d24_12 : decode method_10_code 12 = .ok (.iload 4, 2) := by decide +kernel
theorem d24_14 : decode method_10_code 14 = .ok (.iconst 1, 1) := by decide +kernel
theorem d24_15 : decode method_10_code 15 = .ok (.iload_n 3, 1) := by decide +kernel
theorem d24_16 : decode method_10_code 16 = .ok (.ishl, 1) := by decide +kernel
theorem d24_17 : decode method_10_code 17 = .ok (.iadd, 1) := by decide +kernel
theorem d24_18 : decode method_10_code 18 = .ok (.iconst 1, 1) := by decide +kernel
theorem d24_19 : decode method_10_code 19 = .ok (.isub, 1) := by decide +kernel
theorem d24_20 : decode method_10_code 20 = .ok (.istore 5, 2) := by decide +kernel
theorem d24_22 : decode method_10_code 22 = .ok (.iload 5, 2) := by decide +kernel
theorem d24_24 : decode method_10_code 24 = .ok (.iload_n 1, 1) := by decide +kernel
theorem d24_25 : decode method_10_code 25 = .ok (.invokestatic 50, 3) := by decide +kernel
theorem d24_28 : decode method_10_code 28 = .ok (.if_icmp .lt 28, 3) := by decide +kernel
theorem d24_31 : decode method_10_code 31 = .ok (.iload 4, 2) := by decide +kernel
theorem d24_33 : decode method_10_code 33 = .ok (.ldc 53, 2) := by decide +kernel
theorem d24_35 : decode method_10_code 35 = .ok (.if_icmp .gt 21, 3) := by decide +kernel
theorem d24_38 : decode method_10_code 38 = .ok (.iload 4, 2) := by decide +kernel
theorem d24_40 : decode method_10_code 40 = .ok (.ldc 54, 2) := by decide +kernel
theorem d24_42 : decode method_10_code 42 = .ok (.if_icmp .lt 10, 3) := by decide +kernel
theorem d24_45 : decode method_10_code 45 = .ok (.iload 5, 2) := by decide +kernel
theorem d24_47 : decode method_10_code 47 = .ok (.ldc 55, 2) := by decide +kernel
theorem d24_49 : decode method_10_code 49 = .ok (.if_icmp .le 7, 3) := by decide +kernel
theorem d24_52 : decode method_10_code 52 = .ok (.iconst 1, 1) := by decide +kernel
theorem d24_53 : decode method_10_code 53 = .ok (.goto 4, 3) := by decide +kernel
theorem d24_56 : decode method_10_code 56 = .ok (.iconst 0, 1) := by decide +kernel
theorem d24_57 : decode method_10_code 57 = .ok (.ireturn, 1) := by decide +kernel
theorem pn_24 : plainName "com/example/weaverbird/weaverbird/model/xml/Utf8DecoderTakePinLaw" = true := by first | (simp [plainName, overriddenIn]; done) | decide +kernel
theorem pd24_0 : parseMethodDescriptor "(I)I" = some ⟨[.int], some .int⟩ := by decide +kernel
theorem ef_24 (m : MethodId) (p0 : Int32) : entryFrame m #[(.int p0), (.int (3 : Int32)), (.int (2 : Int32))] 6 = mkF m 0 #[iv p0, iv (3 : Int32), iv (2 : Int32), .unset, .unset, .unset] [] := by first | (simp [entryFrame, mkF, argsToLocals, Value.category]; done) | rfl
def Q24 (Z : State) (p0 : Int32) (h0 : Heap) (n0 : Nat) (v : Option Value) (h : Heap) (L : List Loc) : Prop := ((v = some (.int 1) ∧ ((2048 ≤ p0.toInt * 64 + 63 ∧ p0.toInt * 64 ≤ 1114111 ∧ ¬ (55296 ≤ p0.toInt * 64 ∧ p0.toInt * 64 + 63 ≤ 57343)))) ∨ (v = some (.int 0) ∧ (¬ (2048 ≤ p0.toInt * 64 + 63 ∧ p0.toInt * 64 ≤ 1114111 ∧ ¬ (55296 ≤ p0.toInt * 64 ∧ p0.toInt * 64 + 63 ≤ 57343))))) ∧ Fr n0 L ∧ h = h0
set_option maxRecDepth 65536 in
set_option maxHeartbeats 40000000 in
theorem rm24 (l : Launch) (Z : State) (a0 : Array Value) (hw : ∀ d ∈ tables_1, d.before a0 Z = true) (ws : List Jvm.Cond) (p0 : Int32) (h0 : Heap) (n0 : Nat) (Z0 : n0 ≤ h0.size) (hp0 : 0 ≤ p0.toInt) (hp1 : p0.toInt * 64 < 536870912) :
    MetFree l (⟨"com/example/weaverbird/weaverbird/model/xml/Utf8DecoderTakePinLaw", "feasible", "(III)Z"⟩ : MethodName) (head1 (Jvm.Cond.code (⟨"com/example/weaverbird/weaverbird/model/xml/Utf8DecoderTakePinLaw", "feasible", "(III)Z"⟩ : MethodName) method_10_code 6 (some .boolean) :: ws) ({ frames := 1, cells := 0, slots := 0, locals := 15 } : Room)) (fun aX UX => aX = #[(.int p0), (.int (3 : Int32)), (.int (2 : Int32))] ∧ Z.Warmed39 UX.vm ∧ UX.heap = h0) (fun _ _ _ _ _ => True) (fun _ UX oX UY => ∃ vX LX, oX = .returned vX ∧ Q24 Z p0 h0 n0 vX UY.heap LX ∧ FrameEnd UX oX UY LX ({ frames := 1, cells := 0, slots := 0, locals := 15 } : Room).cells ({ frames := 1, cells := 0, slots := 0, locals := 15 } : Room).slots) := by
  refine MetFree.of_bodySF (plainFor_of_name pn_24) hisR ?_
  intro p e s m args below meth c s₁ Bd hml0 hPX hKX
  obtain ⟨rfl, hZ, hh⟩ := hPX
  have hx := Bd.exec
  have hby := Bd.bytes
  have hml : c.maxLocals = 6 := hml0
  have hown : s.vm.findClass "com/example/weaverbird/weaverbird/model/xml/Utf8DecoderTakePinLaw" = some m.cls := findClass_of_methodNamed Bd.named
  have hnm := (name_of_methodNamed Bd.named Bd.method).1
  have X0 : Stand p l e ({ frames := 1, cells := 0, slots := 0, locals := 15 } : Room) s m #[(.int p0), (.int (3 : Int32)), (.int (2 : Int32))] below meth c s₁ [] 0 0 := Stand.of_body Bd
  have e0 : s₁.heap = h0 := by rw [← hh, Bd.state]; rfl
  have N0 := Fr.nil n0
  have pre0 : ∀ t, Steps p.tables e below (s₁.setTop (mkF m 0 #[iv p0, iv (3 : Int32), iv (2 : Int32), .unset, .unset, .unset] [])) t → Steps p.tables e below (s₁.setTop (entryFrame m #[(.int p0), (.int (3 : Int32)), (.int (2 : Int32))] 6)) t := fun t k => castTop (ef_24 m p0) k
  obtain ⟨S0, hS0⟩ : ∃ z, z = (s₁.setTop (entryFrame m #[(.int p0), (.int (3 : Int32)), (.int (2 : Int32))] 6)) := ⟨_, rfl⟩
  rw [← hS0] at pre0
  have pre1 : ∀ t, own_s p e below s₁ m 6 #[iv p0, iv (3 : Int32), iv (2 : Int32), .unset, .unset, .unset] [(.int ((6 : Int32) * ((3 : Int32) - (2 : Int32))))] t → Steps p.tables e below S0 t := by
    intro tX kX
    refine pre0 _ ?_
    show own_s p e below s₁ m 0 #[iv p0, iv (3 : Int32), iv (2 : Int32), .unset, .unset, .unset] [] _
    refine XS.bipush X0.here hx rfl (hb hby d24_0) ?_
    show own_s p e below s₁ m 2 #[iv p0, iv (3 : Int32), iv (2 : Int32), .unset, .unset, .unset] [(.int (6 : Int32))] _
    refine XS.iloadN X0.here hx rfl (hb hby d24_2) rfl ?_
    show own_s p e below s₁ m 3 #[iv p0, iv (3 : Int32), iv (2 : Int32), .unset, .unset, .unset] [(.int (3 : Int32)), (.int (6 : Int32))] _
    refine XS.iloadN X0.here hx rfl (hb hby d24_3) rfl ?_
    show own_s p e below s₁ m 4 #[iv p0, iv (3 : Int32), iv (2 : Int32), .unset, .unset, .unset] [(.int (2 : Int32)), (.int (3 : Int32)), (.int (6 : Int32))] _
    refine XS.isub X0.here hx rfl (hb hby d24_4) rfl ?_
    show own_s p e below s₁ m 5 #[iv p0, iv (3 : Int32), iv (2 : Int32), .unset, .unset, .unset] [(.int ((3 : Int32) - (2 : Int32))), (.int (6 : Int32))] _
    refine XS.imul X0.here hx rfl (hb hby d24_5) rfl ?_
    exact kX
  rw [show ((6 : Int32) * ((3 : Int32) - (2 : Int32))) = (6 : Int32) from by decide] at pre1
  have pre2 : ∀ t, own_s p e below s₁ m 10 #[iv p0, iv (3 : Int32), iv (2 : Int32), iv (6 : Int32), .unset, .unset] [(.int (p0 <<< ((6 : Int32) &&& 31)))] t → Steps p.tables e below S0 t := by
    intro tX kX
    refine pre1 _ ?_
    show own_s p e below s₁ m 6 #[iv p0, iv (3 : Int32), iv (2 : Int32), .unset, .unset, .unset] [(.int (6 : Int32))] _
    refine XS.istoreN X0.here hx rfl (hb hby d24_6) rfl (l' := #[iv p0, iv (3 : Int32), iv (2 : Int32), iv (6 : Int32), .unset, .unset]) rfl ?_
    show own_s p e below s₁ m 7 #[iv p0, iv (3 : Int32), iv (2 : Int32), iv (6 : Int32), .unset, .unset] [] _
    refine XS.iloadN X0.here hx rfl (hb hby d24_7) rfl ?_
    show own_s p e below s₁ m 8 #[iv p0, iv (3 : Int32), iv (2 : Int32), iv (6 : Int32), .unset, .unset] [(.int p0)] _
    refine XS.iloadN X0.here hx rfl (hb hby d24_8) rfl ?_
    show own_s p e below s₁ m 9 #[iv p0, iv (3 : Int32), iv (2 : Int32), iv (6 : Int32), .unset, .unset] [(.int (6 : Int32)), (.int p0)] _
    refine XS.ishl X0.here hx rfl (hb hby d24_9) rfl ?_
    exact kX
  obtain ⟨lw, hlw⟩ : ∃ z : Int32, z = (p0 <<< ((6 : Int32) &&& 31)) := ⟨_, rfl⟩
  rw [← hlw] at pre2
  have lI : lw.toInt = p0.toInt * 64 := by rw [hlw]; have d1 := c_ishl p0 6 6 (by decide); have d2 := rng32 (p0 <<< ((6 : Int32) &&& 31)); omega
  have pre3 : ∀ t, own_s p e below s₁ m 20 #[iv p0, iv (3 : Int32), iv (2 : Int32), iv (6 : Int32), iv lw, .unset] [(.int ((lw + ((1 : Int32) <<< ((6 : Int32) &&& 31))) - (1 : Int32)))] t → Steps p.tables e below S0 t := by
    intro tX kX
    refine pre2 _ ?_
    show own_s p e below s₁ m 10 #[iv p0, iv (3 : Int32), iv (2 : Int32), iv (6 : Int32), .unset, .unset] [(.int lw)] _
    refine XS.istore X0.here hx rfl (hb hby d24_10) rfl (l' := #[iv p0, iv (3 : Int32), iv (2 : Int32), iv (6 : Int32), iv lw, .unset]) rfl ?_
    show own_s p e below s₁ m 12 #[iv p0, iv (3 : Int32), iv (2 : Int32), iv (6 : Int32), iv lw, .unset] [] _
    refine XS.iload X0.here hx rfl (hb hby d24_12) rfl ?_
    show own_s p e below s₁ m 14 #[iv p0, iv (3 : Int32), iv (2 : Int32), iv (6 : Int32), iv lw, .unset] [(.int lw)] _
    refine XS.iconst X0.here hx rfl (hb hby d24_14) ?_
    show own_s p e below s₁ m 15 #[iv p0, iv (3 : Int32), iv (2 : Int32), iv (6 : Int32), iv lw, .unset] [(.int (1 : Int32)), (.int lw)] _
    refine XS.iloadN X0.here hx rfl (hb hby d24_15) rfl ?_
    show own_s p e below s₁ m 16 #[iv p0, iv (3 : Int32), iv (2 : Int32), iv (6 : Int32), iv lw, .unset] [(.int (6 : Int32)), (.int (1 : Int32)), (.int lw)] _
    refine XS.ishl X0.here hx rfl (hb hby d24_16) rfl ?_
    show own_s p e below s₁ m 17 #[iv p0, iv (3 : Int32), iv (2 : Int32), iv (6 : Int32), iv lw, .unset] [(.int ((1 : Int32) <<< ((6 : Int32) &&& 31))), (.int lw)] _
    refine XS.iadd X0.here hx rfl (hb hby d24_17) rfl ?_
    show own_s p e below s₁ m 18 #[iv p0, iv (3 : Int32), iv (2 : Int32), iv (6 : Int32), iv lw, .unset] [(.int (lw + ((1 : Int32) <<< ((6 : Int32) &&& 31))))] _
    refine XS.iconst X0.here hx rfl (hb hby d24_18) ?_
    show own_s p e below s₁ m 19 #[iv p0, iv (3 : Int32), iv (2 : Int32), iv (6 : Int32), iv lw, .unset] [(.int (1 : Int32)), (.int (lw + ((1 : Int32) <<< ((6 : Int32) &&& 31))))] _
    refine XS.isub X0.here hx rfl (hb hby d24_19) rfl ?_
    exact kX
  obtain ⟨hg, hhg⟩ : ∃ z : Int32, z = ((lw + ((1 : Int32) <<< ((6 : Int32) &&& 31))) - (1 : Int32)) := ⟨_, rfl⟩
  rw [← hhg] at pre3
  have hI : hg.toInt = p0.toInt * 64 + 63 := by
    rw [hhg]
    have d3 := c_iadd lw ((1 : Int32) <<< ((6 : Int32) &&& 31))
    have d4 : ((1 : Int32) <<< ((6 : Int32) &&& 31)).toInt = 64 := by decide
    have d5 := rng32 (lw + ((1 : Int32) <<< ((6 : Int32) &&& 31)))
    have d6 := c_isub (lw + ((1 : Int32) <<< ((6 : Int32) &&& 31))) 1
    have d7 : (1 : Int32).toInt = 1 := rfl
    have d8 := rng32 ((lw + ((1 : Int32) <<< ((6 : Int32) &&& 31))) - 1)
    omega
  have pre4 : ∀ t, own_s p e below s₁ m 25 #[iv p0, iv (3 : Int32), iv (2 : Int32), iv (6 : Int32), iv lw, iv hg] [(.int (3 : Int32)), (.int hg)] t → Steps p.tables e below S0 t := by
    intro tX kX
    refine pre3 _ ?_
    show own_s p e below s₁ m 20 #[iv p0, iv (3 : Int32), iv (2 : Int32), iv (6 : Int32), iv lw, .unset] [(.int hg)] _
    refine XS.istore X0.here hx rfl (hb hby d24_20) rfl (l' := #[iv p0, iv (3 : Int32), iv (2 : Int32), iv (6 : Int32), iv lw, iv hg]) rfl ?_
    show own_s p e below s₁ m 22 #[iv p0, iv (3 : Int32), iv (2 : Int32), iv (6 : Int32), iv lw, iv hg] [] _
    refine XS.iload X0.here hx rfl (hb hby d24_22) rfl ?_
    show own_s p e below s₁ m 24 #[iv p0, iv (3 : Int32), iv (2 : Int32), iv (6 : Int32), iv lw, iv hg] [(.int hg)] _
    refine XS.iloadN X0.here hx rfl (hb hby d24_24) rfl ?_
    exact kX
  obtain ⟨_, _, ⟨T5, L5, k5, n5⟩, -, X5, ⟨Lc5, hQ5, l5, y5, z5⟩, st5⟩ := Jvm.LawKit.callS X0 hx (y := (⟨"com/example/weaverbird/weaverbird/model/xml/Utf8DecoderTakePinLaw", "minOf", "(I)I"⟩ : MethodName)) hown (mvT hZ (hw _ (List.mem_of_getElem? (i := 55) rfl))) (mvT hZ (hw _ (List.mem_of_getElem? (i := 56) rfl))) (mvT hZ (hw _ (List.mem_of_getElem? (i := 2) rfl))) (mvT hZ (hw _ (List.mem_of_getElem? (i := 57) rfl))) (by decide) (backOf (W := 1) (rm12 l Z a0 hw []   h0 n0 Z0 ) hZ (hw _ (List.mem_of_getElem? (i := 57) rfl)) (hw _ (List.mem_of_getElem? (i := 2) rfl)) (by decide) (by decide)) (g := (mkF m 25 #[iv p0, iv (3 : Int32), iv (2 : Int32), iv (6 : Int32), iv lw, iv hg] [(.int (3 : Int32)), (.int hg)])) rfl (by rw [hml]; rfl) (argsL := [(.int (3 : Int32))]) (rest := [(.int hg)]) (lenOf pd24_0 rfl) rfl (by show 2 * 0 + _ ≤ _; exact Nat.le_of_eq rfl) (hb hby d24_25) (fun _ _ => ⟨rfl, e0, (by decide : 0 + 0 ≤ _), (by decide : 0 + 0 ≤ _)⟩)
  dsimp only [Pt.U, Pt.locs, Pt.cells, Pt.slots] at X5 l5 y5 z5 st5 hQ5
  subst l5 y5 z5
  obtain ⟨rfl, Nq5, e5⟩ := hQ5
  have N5 := Fr.app N0 Nq5
  obtain ⟨LL6, X6, N6⟩ : ∃ LL, Stand p l e ({ frames := 1, cells := 0, slots := 0, locals := 15 } : Room) s m #[(.int p0), (.int (3 : Int32)), (.int (2 : Int32))] below meth c T5 LL 0 0 ∧ Fr n0 LL := ⟨_, X5, N5⟩
  have pre7 : ∀ t, own_s p e below T5 m 28 #[iv p0, iv (3 : Int32), iv (2 : Int32), iv (6 : Int32), iv lw, iv hg] [(.int (2048 : Int32)), (.int hg)] t → Steps p.tables e below S0 t := fun tX kX => pre4 _ (st5 _ kX)
  by_cases hc8 : hg < (2048 : Int32)
  · skip
    have ihc8 : (hg).toInt < (2048 : Int) := Int32.lt_iff_toInt_lt.mp hc8
    have pre9 : ∀ t, own_s p e below T5 m 57 #[iv p0, iv (3 : Int32), iv (2 : Int32), iv (6 : Int32), iv lw, iv hg] [(.int (0 : Int32))] t → Steps p.tables e below S0 t := by
      intro tX kX
      refine pre7 _ ?_
      show own_s p e below T5 m 28 #[iv p0, iv (3 : Int32), iv (2 : Int32), iv (6 : Int32), iv lw, iv hg] [(.int (2048 : Int32)), (.int hg)] _
      refine XS.icmpYes X6.here hx rfl (pc0 := 28) (pc' := 56) rfl (hb hby d24_28) rfl (tlt hc8).1 (by decide) (by decide) ?_
      show own_s p e below T5 m 56 #[iv p0, iv (3 : Int32), iv (2 : Int32), iv (6 : Int32), iv lw, iv hg] [] _
      refine XS.iconst X6.here hx rfl (hb hby d24_56) ?_
      exact kX
    subst hS0
    obtain ⟨fs, hr, hrun, hended, hW, hsame⟩ := X6.leave (v := (some (.int (0 : Int32)))) (fun h => by rw [Bd.returns] at h; cases h)
    refine ⟨_, _, pre9 _ (retN X6 hx (t := .boolean) Bd.returns (by simp) (hb hby d24_57) hr), hrun, hended, _, _, rfl, ?_, ⟨_, rfl⟩, hW, hsame.mono (by decide) (by decide)⟩
    show Q24 Z p0 h0 n0 (some (.int (0 : Int32))) T5.heap _
    exact ⟨Or.inr (⟨rfl, by omega⟩), N6, e5⟩
  · skip
    have ihc8 : ¬ ((hg).toInt < (2048 : Int)) := fun q => hc8 (Int32.lt_iff_toInt_lt.mpr q)
    have pre10 : ∀ t, own_s p e below T5 m 35 #[iv p0, iv (3 : Int32), iv (2 : Int32), iv (6 : Int32), iv lw, iv hg] [(.int (1114111 : Int32)), (.int lw)] t → Steps p.tables e below S0 t := by
      intro tX kX
      refine pre7 _ ?_
      show own_s p e below T5 m 28 #[iv p0, iv (3 : Int32), iv (2 : Int32), iv (6 : Int32), iv lw, iv hg] [(.int (2048 : Int32)), (.int hg)] _
      refine XS.icmpNo X6.here hx rfl (hb hby d24_28) rfl (flt hc8).1 ?_
      show own_s p e below T5 m 31 #[iv p0, iv (3 : Int32), iv (2 : Int32), iv (6 : Int32), iv lw, iv hg] [] _
      refine XS.iload X6.here hx rfl (hb hby d24_31) rfl ?_
      show own_s p e below T5 m 33 #[iv p0, iv (3 : Int32), iv (2 : Int32), iv (6 : Int32), iv lw, iv hg] [(.int lw)] _
      refine X6.ldcInt hx hown (mvT hZ (hw _ (List.mem_of_getElem? (i := 59) rfl))) (g := (mkF m 33 #[iv p0, iv (3 : Int32), iv (2 : Int32), iv (6 : Int32), iv lw, iv hg] [(.int lw)])) rfl (hb hby d24_33) _ ?_
      exact kX
    by_cases hc11 : (1114111 : Int32) < lw
    · skip
      have ihc11 : (1114111 : Int) < (lw).toInt := Int32.lt_iff_toInt_lt.mp hc11
      have pre12 : ∀ t, own_s p e below T5 m 57 #[iv p0, iv (3 : Int32), iv (2 : Int32), iv (6 : Int32), iv lw, iv hg] [(.int (0 : Int32))] t → Steps p.tables e below S0 t := by
        intro tX kX
        refine pre10 _ ?_
        show own_s p e below T5 m 35 #[iv p0, iv (3 : Int32), iv (2 : Int32), iv (6 : Int32), iv lw, iv hg] [(.int (1114111 : Int32)), (.int lw)] _
        refine XS.icmpYes X6.here hx rfl (pc0 := 35) (pc' := 56) rfl (hb hby d24_35) rfl (tlt hc11).2.2.1 (by decide) (by decide) ?_
        show own_s p e below T5 m 56 #[iv p0, iv (3 : Int32), iv (2 : Int32), iv (6 : Int32), iv lw, iv hg] [] _
        refine XS.iconst X6.here hx rfl (hb hby d24_56) ?_
        exact kX
      subst hS0
      obtain ⟨fs, hr, hrun, hended, hW, hsame⟩ := X6.leave (v := (some (.int (0 : Int32)))) (fun h => by rw [Bd.returns] at h; cases h)
      refine ⟨_, _, pre12 _ (retN X6 hx (t := .boolean) Bd.returns (by simp) (hb hby d24_57) hr), hrun, hended, _, _, rfl, ?_, ⟨_, rfl⟩, hW, hsame.mono (by decide) (by decide)⟩
      show Q24 Z p0 h0 n0 (some (.int (0 : Int32))) T5.heap _
      exact ⟨Or.inr (⟨rfl, by omega⟩), N6, e5⟩
    · skip
      have ihc11 : ¬ ((1114111 : Int) < (lw).toInt) := fun q => hc11 (Int32.lt_iff_toInt_lt.mpr q)
      have pre13 : ∀ t, own_s p e below T5 m 42 #[iv p0, iv (3 : Int32), iv (2 : Int32), iv (6 : Int32), iv lw, iv hg] [(.int (55296 : Int32)), (.int lw)] t → Steps p.tables e below S0 t := by
        intro tX kX
        refine pre10 _ ?_
        show own_s p e below T5 m 35 #[iv p0, iv (3 : Int32), iv (2 : Int32), iv (6 : Int32), iv lw, iv hg] [(.int (1114111 : Int32)), (.int lw)] _
        refine XS.icmpNo X6.here hx rfl (hb hby d24_35) rfl (flt hc11).2.2.1 ?_
        show own_s p e below T5 m 38 #[iv p0, iv (3 : Int32), iv (2 : Int32), iv (6 : Int32), iv lw, iv hg] [] _
        refine XS.iload X6.here hx rfl (hb hby d24_38) rfl ?_
        show own_s p e below T5 m 40 #[iv p0, iv (3 : Int32), iv (2 : Int32), iv (6 : Int32), iv lw, iv hg] [(.int lw)] _
        refine X6.ldcInt hx hown (mvT hZ (hw _ (List.mem_of_getElem? (i := 60) rfl))) (g := (mkF m 40 #[iv p0, iv (3 : Int32), iv (2 : Int32), iv (6 : Int32), iv lw, iv hg] [(.int lw)])) rfl (hb hby d24_40) _ ?_
        exact kX
      by_cases hc14 : lw < (55296 : Int32)
      · skip
        have ihc14 : (lw).toInt < (55296 : Int) := Int32.lt_iff_toInt_lt.mp hc14
        have pre15 : ∀ t, own_s p e below T5 m 57 #[iv p0, iv (3 : Int32), iv (2 : Int32), iv (6 : Int32), iv lw, iv hg] [(.int (1 : Int32))] t → Steps p.tables e below S0 t := by
          intro tX kX
          refine pre13 _ ?_
          show own_s p e below T5 m 42 #[iv p0, iv (3 : Int32), iv (2 : Int32), iv (6 : Int32), iv lw, iv hg] [(.int (55296 : Int32)), (.int lw)] _
          refine XS.icmpYes X6.here hx rfl (pc0 := 42) (pc' := 52) rfl (hb hby d24_42) rfl (tlt hc14).1 (by decide) (by decide) ?_
          show own_s p e below T5 m 52 #[iv p0, iv (3 : Int32), iv (2 : Int32), iv (6 : Int32), iv lw, iv hg] [] _
          refine XS.iconst X6.here hx rfl (hb hby d24_52) ?_
          show own_s p e below T5 m 53 #[iv p0, iv (3 : Int32), iv (2 : Int32), iv (6 : Int32), iv lw, iv hg] [(.int (1 : Int32))] _
          refine XS.goto X6.here hx rfl (pc0 := 53) (pc' := 57) rfl (hb hby d24_53) (by decide) (by decide) ?_
          exact kX
        subst hS0
        obtain ⟨fs, hr, hrun, hended, hW, hsame⟩ := X6.leave (v := (some (.int (1 : Int32)))) (fun h => by rw [Bd.returns] at h; cases h)
        refine ⟨_, _, pre15 _ (retN X6 hx (t := .boolean) Bd.returns (by simp) (hb hby d24_57) hr), hrun, hended, _, _, rfl, ?_, ⟨_, rfl⟩, hW, hsame.mono (by decide) (by decide)⟩
        show Q24 Z p0 h0 n0 (some (.int (1 : Int32))) T5.heap _
        exact ⟨Or.inl ⟨rfl, by omega⟩, N6, e5⟩
      · skip
        have ihc14 : ¬ ((lw).toInt < (55296 : Int)) := fun q => hc14 (Int32.lt_iff_toInt_lt.mpr q)
        have pre16 : ∀ t, own_s p e below T5 m 49 #[iv p0, iv (3 : Int32), iv (2 : Int32), iv (6 : Int32), iv lw, iv hg] [(.int (57343 : Int32)), (.int hg)] t → Steps p.tables e below S0 t := by
          intro tX kX
          refine pre13 _ ?_
          show own_s p e below T5 m 42 #[iv p0, iv (3 : Int32), iv (2 : Int32), iv (6 : Int32), iv lw, iv hg] [(.int (55296 : Int32)), (.int lw)] _
          refine XS.icmpNo X6.here hx rfl (hb hby d24_42) rfl (flt hc14).1 ?_
          show own_s p e below T5 m 45 #[iv p0, iv (3 : Int32), iv (2 : Int32), iv (6 : Int32), iv lw, iv hg] [] _
          refine XS.iload X6.here hx rfl (hb hby d24_45) rfl ?_
          show own_s p e below T5 m 47 #[iv p0, iv (3 : Int32), iv (2 : Int32), iv (6 : Int32), iv lw, iv hg] [(.int hg)] _
          refine X6.ldcInt hx hown (mvT hZ (hw _ (List.mem_of_getElem? (i := 64) rfl))) (g := (mkF m 47 #[iv p0, iv (3 : Int32), iv (2 : Int32), iv (6 : Int32), iv lw, iv hg] [(.int hg)])) rfl (hb hby d24_47) _ ?_
          exact kX
        by_cases hc17 : (57343 : Int32) < hg
        · skip
          have ihc17 : (57343 : Int) < (hg).toInt := Int32.lt_iff_toInt_lt.mp hc17
          have pre18 : ∀ t, own_s p e below T5 m 57 #[iv p0, iv (3 : Int32), iv (2 : Int32), iv (6 : Int32), iv lw, iv hg] [(.int (1 : Int32))] t → Steps p.tables e below S0 t := by
            intro tX kX
            refine pre16 _ ?_
            show own_s p e below T5 m 49 #[iv p0, iv (3 : Int32), iv (2 : Int32), iv (6 : Int32), iv lw, iv hg] [(.int (57343 : Int32)), (.int hg)] _
            refine XS.icmpNo X6.here hx rfl (hb hby d24_49) rfl (tlt hc17).2.2.2 ?_
            show own_s p e below T5 m 52 #[iv p0, iv (3 : Int32), iv (2 : Int32), iv (6 : Int32), iv lw, iv hg] [] _
            refine XS.iconst X6.here hx rfl (hb hby d24_52) ?_
            show own_s p e below T5 m 53 #[iv p0, iv (3 : Int32), iv (2 : Int32), iv (6 : Int32), iv lw, iv hg] [(.int (1 : Int32))] _
            refine XS.goto X6.here hx rfl (pc0 := 53) (pc' := 57) rfl (hb hby d24_53) (by decide) (by decide) ?_
            exact kX
          subst hS0
          obtain ⟨fs, hr, hrun, hended, hW, hsame⟩ := X6.leave (v := (some (.int (1 : Int32)))) (fun h => by rw [Bd.returns] at h; cases h)
          refine ⟨_, _, pre18 _ (retN X6 hx (t := .boolean) Bd.returns (by simp) (hb hby d24_57) hr), hrun, hended, _, _, rfl, ?_, ⟨_, rfl⟩, hW, hsame.mono (by decide) (by decide)⟩
          show Q24 Z p0 h0 n0 (some (.int (1 : Int32))) T5.heap _
          exact ⟨Or.inl ⟨rfl, by omega⟩, N6, e5⟩
        · skip
          have ihc17 : ¬ ((57343 : Int) < (hg).toInt) := fun q => hc17 (Int32.lt_iff_toInt_lt.mpr q)
          have pre19 : ∀ t, own_s p e below T5 m 57 #[iv p0, iv (3 : Int32), iv (2 : Int32), iv (6 : Int32), iv lw, iv hg] [(.int (0 : Int32))] t → Steps p.tables e below S0 t := by
            intro tX kX
            refine pre16 _ ?_
            show own_s p e below T5 m 49 #[iv p0, iv (3 : Int32), iv (2 : Int32), iv (6 : Int32), iv lw, iv hg] [(.int (57343 : Int32)), (.int hg)] _
            refine XS.icmpYes X6.here hx rfl (pc0 := 49) (pc' := 56) rfl (hb hby d24_49) rfl (flt hc17).2.2.2 (by decide) (by decide) ?_
            show own_s p e below T5 m 56 #[iv p0, iv (3 : Int32), iv (2 : Int32), iv (6 : Int32), iv lw, iv hg] [] _
            refine XS.iconst X6.here hx rfl (hb hby d24_56) ?_
            exact kX
          subst hS0
          obtain ⟨fs, hr, hrun, hended, hW, hsame⟩ := X6.leave (v := (some (.int (0 : Int32)))) (fun h => by rw [Bd.returns] at h; cases h)
          refine ⟨_, _, pre19 _ (retN X6 hx (t := .boolean) Bd.returns (by simp) (hb hby d24_57) hr), hrun, hended, _, _, rfl, ?_, ⟨_, rfl⟩, hW, hsame.mono (by decide) (by decide)⟩
          show Q24 Z p0 h0 n0 (some (.int (0 : Int32))) T5.heap _
          exact ⟨Or.inr (⟨rfl, by omega⟩), N6, e5⟩
theorem d25_0 : decode method_10_code 0 = .ok (.bipush 6, 2) := by decide +kernel
theorem d25_2 : decode method_10_code 2 = .ok (.iload_n 1, 1) := by decide +kernel
theorem d25_3 : decode method_10_code 3 = .ok (.iload_n 2, 1) := by decide +kernel
theorem d25_4 : decode method_10_code 4 = .ok (.isub, 1) := by decide +kernel
theorem d25_5 : decode method_10_code 5 = .ok (.imul, 1) := by decide +kernel
theorem d25_6 : decode method_10_code 6 = .ok (.istore_n 3, 1) := by decide +kernel
theorem d25_7 : decode method_10_code 7 = .ok (.iload_n 0, 1) := by decide +kernel
theorem d25_8 : decode method_10_code 8 = .ok (.iload_n 3, 1) := by decide +kernel
theorem d25_9 : decode method_10_code 9 = .ok (.ishl, 1) := by decide +kernel
theorem d25_10 : decode method_10_code 10 = .ok (.istore 4, 2) := by decide +kernel
theorem d25_12 : decode method_10_code 12 = .ok (.iload 4, 2) := by decide +kernel
theorem d25_14 : decode method_10_code 14 = .ok (.iconst 1, 1) := by decide +kernel
theorem d25_15 : decode method_10_code 15 = .ok (.iload_n 3, 1) := by decide +kernel
theorem d25_16 : decode method_10_code 16 = .ok (.ishl, 1) := by decide +kernel
theorem d25_17 : decode method_10_code 17 = .ok (.iadd, 1) := by decide +kernel
theorem d25_18 : decode method_10_code 18 = .ok (.iconst 1, 1) := by decide +kernel
theorem d25_19 : decode method_10_code 19 = .ok (.isub, 1) := by decide +kernel
theorem d25_20 : decode method_10_code 20 = .ok (.istore 5, 2) := by decide +kernel
theorem d25_22 : decode method_10_code 22 = .ok (.iload 5, 2) := by decide +kernel
theorem d25_24 : decode method_10_code 24 = .ok (.iload_n 1, 1) := by decide +kernel
theorem d25_25 : decode method_10_code 25 = .ok (.invokestatic 50, 3) := by decide +kernel
theorem d25_28 : decode method_10_code 28 = .ok (.if_icmp .lt 28, 3) := by decide +kernel
theorem d25_31 : decode method_10_code 31 = .ok (.iload 4, 2) := by decide +kernel
theorem d25_33 : decode method_10_code 33 = .ok (.ldc 53, 2) := by decide +kernel
theorem d25_35 : decode method_10_code 35 = .ok (.if_icmp .gt 21, 3) := by decide +kernel
theorem d25_38 : decode method_10_code 38 = .ok (.iload 4, 2) := by decide +kernel
theorem d25_40 : decode method_10_code 40 = .ok (.ldc 54, 2) := by decide +kernel
theorem d25_42 : decode method_10_code 42 = .ok (.if_icmp .lt 10, 3) := by decide +kernel
theorem d25_45 : decode method_10_code 45 = .ok (.iload 5, 2) := by decide +kernel
theorem d25_47 : decode method_10_code 47 = .ok (.ldc 55, 2) := by decide +kernel
theorem d25_49 : decode method_10_code 49 = .ok (.if_icmp .le 7, 3) := by decide +kernel
theorem d25_52 : decode method_10_code 52 = .ok (.iconst 1, 1) := by decide +kernel
theorem d25_53 : decode method_10_code 53 = .ok (.goto 4, 3) := by decide +kernel
theorem d25_56 : decode method_10_code 56 = .ok (.iconst 0, 1) := by decide +kernel
theorem d25_57 : decode method_10_code 57 = .ok (.ireturn, 1) := by decide +kernel
theorem pn_25 : plainName "com/example/weaverbird/weaverbird/model/xml/Utf8DecoderTakePinLaw" = true := by first | (simp [plainName, overriddenIn]; done) | decide +kernel
theorem pd25_0 : parseMethodDescriptor "(I)I" = some ⟨[.int], some .int⟩ := by decide +kernel
theorem ef_25 (m : MethodId) (p0 : Int32) : entryFrame m #[(.int p0), (.int (4 : Int32)), (.int (2 : Int32))] 6 = mkF m 0 #[iv p0, iv (4 : Int32), iv (2 : Int32), .unset, .unset, .unset] [] := by first | (simp [entryFrame, mkF, argsToLocals, Value.category]; done) | rfl
def Q25 (Z : State) (p0 : Int32) (h0 : Heap) (n0 : Nat) (v : Option Value) (h : Heap) (L : List Loc) : Prop := ((v = some (.int 1) ∧ ((65536 ≤ p0.toInt * 4096 + 4095 ∧ p0.toInt * 4096 ≤ 1114111 ∧ ¬ (55296 ≤ p0.toInt * 4096 ∧ p0.toInt * 4096 + 4095 ≤ 57343)))) ∨ (v = some (.int 0) ∧ (¬ (65536 ≤ p0.toInt * 4096 + 4095 ∧ p0.toInt * 4096 ≤ 1114111 ∧ ¬ (55296 ≤ p0.toInt * 4096 ∧ p0.toInt * 4096 + 4095 ≤ 57343))))) ∧ Fr n0 L ∧ h = h0
set_option maxRecDepth 65536 in
set_option maxHeartbeats 40000000 in
theorem rm25 (l : Launch) (Z : State) (a0 : Array Value) (hw : ∀ d ∈ tables_1, d.before a0 Z = true) (ws : List Jvm.Cond) (p0 : Int32) (h0 : Heap) (n0 : Nat) (Z0 : n0 ≤ h0.size) (hp0 : 0 ≤ p0.toInt) (hp1 : p0.toInt * 4096 < 536870912) :
    MetFree l (⟨"com/example/weaverbird/weaverbird/model/xml/Utf8DecoderTakePinLaw", "feasible", "(III)Z"⟩ : MethodName) (head1 (Jvm.Cond.code (⟨"com/example/weaverbird/weaverbird/model/xml/Utf8DecoderTakePinLaw", "feasible", "(III)Z"⟩ : MethodName) method_10_code 6 (some .boolean) :: ws) ({ frames := 1, cells := 0, slots := 0, locals := 15 } : Room)) (fun aX UX => aX = #[(.int p0), (.int (4 : Int32)), (.int (2 : Int32))] ∧ Z.Warmed39 UX.vm ∧ UX.heap = h0) (fun _ _ _ _ _ => True) (fun _ UX oX UY => ∃ vX LX, oX = .returned vX ∧ Q25 Z p0 h0 n0 vX UY.heap LX ∧ FrameEnd UX oX UY LX ({ frames := 1, cells := 0, slots := 0, locals := 15 } : Room).cells ({ frames := 1, cells := 0, slots := 0, locals := 15 } : Room).slots) := by
  refine MetFree.of_bodySF (plainFor_of_name pn_25) hisR ?_
  intro p e s m args below meth c s₁ Bd hml0 hPX hKX
  obtain ⟨rfl, hZ, hh⟩ := hPX
  have hx := Bd.exec
  have hby := Bd.bytes
  have hml : c.maxLocals = 6 := hml0
  have hown : s.vm.findClass "com/example/weaverbird/weaverbird/model/xml/Utf8DecoderTakePinLaw" = some m.cls := findClass_of_methodNamed Bd.named
  have hnm := (name_of_methodNamed Bd.named Bd.method).1
  have X0 : Stand p l e ({ frames := 1, cells := 0, slots := 0, locals := 15 } : Room) s m #[(.int p0), (.int (4 : Int32)), (.int (2 : Int32))] below meth c s₁ [] 0 0 := Stand.of_body Bd
  have e0 : s₁.heap = h0 := by rw [← hh, Bd.state]; rfl
  have N0 := Fr.nil n0
  have pre0 : ∀ t, Steps p.tables e below (s₁.setTop (mkF m 0 #[iv p0, iv (4 : Int32), iv (2 : Int32), .unset, .unset, .unset] [])) t → Steps p.tables e below (s₁.setTop (entryFrame m #[(.int p0), (.int (4 : Int32)), (.int (2 : Int32))] 6)) t := fun t k => castTop (ef_25 m p0) k
  obtain ⟨S0, hS0⟩ : ∃ z, z = (s₁.setTop (entryFrame m #[(.int p0), (.int (4 : Int32)), (.int (2 : Int32))] 6)) := ⟨_, rfl⟩
  rw [← hS0] at pre0
  have pre1 : ∀ t, own_s p e below s₁ m 6 #[iv p0, iv (4 : Int32), iv (2 : Int32), .unset, .unset, .unset] [(.int ((6 : Int32) * ((4 : Int32) - (2 : Int32))))] t → Steps p.tables e below S0 t := by
    intro tX kX
    refine pre0 _ ?_
    show own_s p e below s₁ m 0 #[iv p0, iv (4 : Int32), iv (2 : Int32), .unset, .unset, .unset] [] _
    refine XS.bipush X0.here hx rfl (hb hby d25_0) ?_
    show own_s p e below s₁ m 2 #[iv p0, iv (4 : Int32), iv (2 : Int32), .unset, .unset, .unset] [(.int (6 : Int32))] _
    refine XS.iloadN X0.here hx rfl (hb hby d25_2) rfl ?_
    show own_s p e below s₁ m 3 #[iv p0, iv (4 : Int32), iv (2 : Int32), .unset, .unset, .unset] [(.int (4 : Int32)), (.int (6 : Int32))] _
    refine XS.iloadN X0.here hx rfl (hb hby d25_3) rfl ?_
    show own_s p e below s₁ m 4 #[iv p0, iv (4 : Int32), iv (2 : Int32), .unset, .unset, .unset] [(.int (2 : Int32)), (.int (4 : Int32)), (.int (6 : Int32))] _
    refine XS.isub X0.here hx rfl (hb hby d25_4) rfl ?_
    show own_s p e below s₁ m 5 #[iv p0, iv (4 : Int32), iv (2 : Int32), .unset, .unset, .unset] [(.int ((4 : Int32) - (2 : Int32))), (.int (6 : Int32))] _
    refine XS.imul X0.here hx rfl (hb hby d25_5) rfl ?_
    exact kX
  rw [show ((6 : Int32) * ((4 : Int32) - (2 : Int32))) = (12 : Int32) from by decide] at pre1
  have pre2 : ∀ t, own_s p e below s₁ m 10 #[iv p0, iv (4 : Int32), iv (2 : Int32), iv (12 : Int32), .unset, .unset] [(.int (p0 <<< ((12 : Int32) &&& 31)))] t → Steps p.tables e below S0 t := by
    intro tX kX
    refine pre1 _ ?_
    show own_s p e below s₁ m 6 #[iv p0, iv (4 : Int32), iv (2 : Int32), .unset, .unset, .unset] [(.int (12 : Int32))] _
    refine XS.istoreN X0.here hx rfl (hb hby d25_6) rfl (l' := #[iv p0, iv (4 : Int32), iv (2 : Int32), iv (12 : Int32), .unset, .unset]) rfl ?_
    show own_s p e below s₁ m 7 #[iv p0, iv (4 : Int32), iv (2 : Int32), iv (12 : Int32), .unset, .unset] [] _
    refine XS.iloadN X0.here hx rfl (hb hby d25_7) rfl ?_
    show own_s p e below s₁ m 8 #[iv p0, iv (4 : Int32), iv (2 : Int32), iv (12 : Int32), .unset, .unset] [(.int p0)] _
    refine XS.iloadN X0.here hx rfl (hb hby d25_8) rfl ?_
    show own_s p e below s₁ m 9 #[iv p0, iv (4 : Int32), iv (2 : Int32), iv (12 : Int32), .unset, .unset] [(.int (12 : Int32)), (.int p0)] _
    refine XS.ishl X0.here hx rfl (hb hby d25_9) rfl ?_
    exact kX
  obtain ⟨lw, hlw⟩ : ∃ z : Int32, z = (p0 <<< ((12 : Int32) &&& 31)) := ⟨_, rfl⟩
  rw [← hlw] at pre2
  have lI : lw.toInt = p0.toInt * 4096 := by rw [hlw]; have d1 := c_ishl p0 12 12 (by decide); have d2 := rng32 (p0 <<< ((12 : Int32) &&& 31)); omega
  have pre3 : ∀ t, own_s p e below s₁ m 20 #[iv p0, iv (4 : Int32), iv (2 : Int32), iv (12 : Int32), iv lw, .unset] [(.int ((lw + ((1 : Int32) <<< ((12 : Int32) &&& 31))) - (1 : Int32)))] t → Steps p.tables e below S0 t := by
    intro tX kX
    refine pre2 _ ?_
    show own_s p e below s₁ m 10 #[iv p0, iv (4 : Int32), iv (2 : Int32), iv (12 : Int32), .unset, .unset] [(.int lw)] _
    refine XS.istore X0.here hx rfl (hb hby d25_10) rfl (l' := #[iv p0, iv (4 : Int32), iv (2 : Int32), iv (12 : Int32), iv lw, .unset]) rfl ?_
    show own_s p e below s₁ m 12 #[iv p0, iv (4 : Int32), iv (2 : Int32), iv (12 : Int32), iv lw, .unset] [] _
    refine XS.iload X0.here hx rfl (hb hby d25_12) rfl ?_
    show own_s p e below s₁ m 14 #[iv p0, iv (4 : Int32), iv (2 : Int32), iv (12 : Int32), iv lw, .unset] [(.int lw)] _
    refine XS.iconst X0.here hx rfl (hb hby d25_14) ?_
    show own_s p e below s₁ m 15 #[iv p0, iv (4 : Int32), iv (2 : Int32), iv (12 : Int32), iv lw, .unset] [(.int (1 : Int32)), (.int lw)] _
    refine XS.iloadN X0.here hx rfl (hb hby d25_15) rfl ?_
    show own_s p e below s₁ m 16 #[iv p0, iv (4 : Int32), iv (2 : Int32), iv (12 : Int32), iv lw, .unset] [(.int (12 : Int32)), (.int (1 : Int32)), (.int lw)] _
    refine XS.ishl X0.here hx rfl (hb hby d25_16) rfl ?_
    show own_s p e below s₁ m 17 #[iv p0, iv (4 : Int32), iv (2 : Int32), iv (12 : Int32), iv lw, .unset] [(.int ((1 : Int32) <<< ((12 : Int32) &&& 31))), (.int lw)] _
    refine XS.iadd X0.here hx rfl (hb hby d25_17) rfl ?_
    show own_s p e below s₁ m 18 #[iv p0, iv (4 : Int32), iv (2 : Int32), iv (12 : Int32), iv lw, .unset] [(.int (lw + ((1 : Int32) <<< ((12 : Int32) &&& 31))))] _
    refine XS.iconst X0.here hx rfl (hb hby d25_18) ?_
    show own_s p e below s₁ m 19 #[iv p0, iv (4 : Int32), iv (2 : Int32), iv (12 : Int32), iv lw, .unset] [(.int (1 : Int32)), (.int (lw + ((1 : Int32) <<< ((12 : Int32) &&& 31))))] _
    refine XS.isub X0.here hx rfl (hb hby d25_19) rfl ?_
    exact kX
  obtain ⟨hg, hhg⟩ : ∃ z : Int32, z = ((lw + ((1 : Int32) <<< ((12 : Int32) &&& 31))) - (1 : Int32)) := ⟨_, rfl⟩
  rw [← hhg] at pre3
  have hI : hg.toInt = p0.toInt * 4096 + 4095 := by
    rw [hhg]
    have d3 := c_iadd lw ((1 : Int32) <<< ((12 : Int32) &&& 31))
    have d4 : ((1 : Int32) <<< ((12 : Int32) &&& 31)).toInt = 4096 := by decide
    have d5 := rng32 (lw + ((1 : Int32) <<< ((12 : Int32) &&& 31)))
    have d6 := c_isub (lw + ((1 : Int32) <<< ((12 : Int32) &&& 31))) 1
    have d7 : (1 : Int32).toInt = 1 := rfl
    have d8 := rng32 ((lw + ((1 : Int32) <<< ((12 : Int32) &&& 31))) - 1)
    omega
  have pre4 : ∀ t, own_s p e below s₁ m 25 #[iv p0, iv (4 : Int32), iv (2 : Int32), iv (12 : Int32), iv lw, iv hg] [(.int (4 : Int32)), (.int hg)] t → Steps p.tables e below S0 t := by
    intro tX kX
    refine pre3 _ ?_
    show own_s p e below s₁ m 20 #[iv p0, iv (4 : Int32), iv (2 : Int32), iv (12 : Int32), iv lw, .unset] [(.int hg)] _
    refine XS.istore X0.here hx rfl (hb hby d25_20) rfl (l' := #[iv p0, iv (4 : Int32), iv (2 : Int32), iv (12 : Int32), iv lw, iv hg]) rfl ?_
    show own_s p e below s₁ m 22 #[iv p0, iv (4 : Int32), iv (2 : Int32), iv (12 : Int32), iv lw, iv hg] [] _
    refine XS.iload X0.here hx rfl (hb hby d25_22) rfl ?_
    show own_s p e below s₁ m 24 #[iv p0, iv (4 : Int32), iv (2 : Int32), iv (12 : Int32), iv lw, iv hg] [(.int hg)] _
    refine XS.iloadN X0.here hx rfl (hb hby d25_24) rfl ?_
    exact kX
  obtain ⟨_, _, ⟨T5, L5, k5, n5⟩, -, X5, ⟨Lc5, hQ5, l5, y5, z5⟩, st5⟩ := Jvm.LawKit.callS X0 hx (y := (⟨"com/example/weaverbird/weaverbird/model/xml/Utf8DecoderTakePinLaw", "minOf", "(I)I"⟩ : MethodName)) hown (mvT hZ (hw _ (List.mem_of_getElem? (i := 55) rfl))) (mvT hZ (hw _ (List.mem_of_getElem? (i := 56) rfl))) (mvT hZ (hw _ (List.mem_of_getElem? (i := 2) rfl))) (mvT hZ (hw _ (List.mem_of_getElem? (i := 57) rfl))) (by decide) (backOf (W := 1) (rm13 l Z a0 hw []   h0 n0 Z0 ) hZ (hw _ (List.mem_of_getElem? (i := 57) rfl)) (hw _ (List.mem_of_getElem? (i := 2) rfl)) (by decide) (by decide)) (g := (mkF m 25 #[iv p0, iv (4 : Int32), iv (2 : Int32), iv (12 : Int32), iv lw, iv hg] [(.int (4 : Int32)), (.int hg)])) rfl (by rw [hml]; rfl) (argsL := [(.int (4 : Int32))]) (rest := [(.int hg)]) (lenOf pd25_0 rfl) rfl (by show 2 * 0 + _ ≤ _; exact Nat.le_of_eq rfl) (hb hby d25_25) (fun _ _ => ⟨rfl, e0, (by decide : 0 + 0 ≤ _), (by decide : 0 + 0 ≤ _)⟩)
  dsimp only [Pt.U, Pt.locs, Pt.cells, Pt.slots] at X5 l5 y5 z5 st5 hQ5
  subst l5 y5 z5
  obtain ⟨rfl, Nq5, e5⟩ := hQ5
  have N5 := Fr.app N0 Nq5
  obtain ⟨LL6, X6, N6⟩ : ∃ LL, Stand p l e ({ frames := 1, cells := 0, slots := 0, locals := 15 } : Room) s m #[(.int p0), (.int (4 : Int32)), (.int (2 : Int32))] below meth c T5 LL 0 0 ∧ Fr n0 LL := ⟨_, X5, N5⟩
  have pre7 : ∀ t, own_s p e below T5 m 28 #[iv p0, iv (4 : Int32), iv (2 : Int32), iv (12 : Int32), iv lw, iv hg] [(.int (65536 : Int32)), (.int hg)] t → Steps p.tables e below S0 t := fun tX kX => pre4 _ (st5 _ kX)
  by_cases hc8 : hg < (65536 : Int32)
  · skip
    have ihc8 : (hg).toInt < (65536 : Int) := Int32.lt_iff_toInt_lt.mp hc8
    have pre9 : ∀ t, own_s p e below T5 m 57 #[iv p0, iv (4 : Int32), iv (2 : Int32), iv (12 : Int32), iv lw, iv hg] [(.int (0 : Int32))] t → Steps p.tables e below S0 t := by
      intro tX kX
      refine pre7 _ ?_
      show own_s p e below T5 m 28 #[iv p0, iv (4 : Int32), iv (2 : Int32), iv (12 : Int32), iv lw, iv hg] [(.int (65536 : Int32)), (.int hg)] _
      refine XS.icmpYes X6.here hx rfl (pc0 := 28) (pc' := 56) rfl (hb hby d25_28) rfl (tlt hc8).1 (by decide) (by decide) ?_
      show own_s p e below T5 m 56 #[iv p0, iv (4 : Int32), iv (2 : Int32), iv (12 : Int32), iv lw, iv hg] [] _
      refine XS.iconst X6.here hx rfl (hb hby d25_56) ?_
      exact kX
    subst hS0
    obtain ⟨fs, hr, hrun, hended, hW, hsame⟩ := X6.leave (v := (some (.int (0 : Int32)))) (fun h => by rw [Bd.returns] at h; cases h)
    refine ⟨_, _, pre9 _ (retN X6 hx (t := .boolean) Bd.returns (by simp) (hb hby d25_57) hr), hrun, hended, _, _, rfl, ?_, ⟨_, rfl⟩, hW, hsame.mono (by decide) (by decide)⟩
    show Q25 Z p0 h0 n0 (some (.int (0 : Int32))) T5.heap _
    exact ⟨Or.inr (⟨rfl, by omega⟩), N6, e5⟩
  · skip
    have ihc8 : ¬ ((hg).toInt < (65536 : Int)) := fun q => hc8 (Int32.lt_iff_toInt_lt.mpr q)
    have pre10 : ∀ t, own_s p e below T5 m 35 #[iv p0, iv (4 : Int32), iv (2 : Int32), iv (12 : Int32), iv lw, iv hg] [(.int (1114111 : Int32)), (.int lw)] t → Steps p.tables e below S0 t := by
      intro tX kX
      refine pre7 _ ?_
      show own_s p e below T5 m 28 #[iv p0, iv (4 : Int32), iv (2 : Int32), iv (12 : Int32), iv lw, iv hg] [(.int (65536 : Int32)), (.int hg)] _
      refine XS.icmpNo X6.here hx rfl (hb hby d25_28) rfl (flt hc8).1 ?_
      show own_s p e below T5 m 31 #[iv p0, iv (4 : Int32), iv (2 : Int32), iv (12 : Int32), iv lw, iv hg] [] _
      refine XS.iload X6.here hx rfl (hb hby d25_31) rfl ?_
      show own_s p e below T5 m 33 #[iv p0, iv (4 : Int32), iv (2 : Int32), iv (12 : Int32), iv lw, iv hg] [(.int lw)] _
      refine X6.ldcInt hx hown (mvT hZ (hw _ (List.mem_of_getElem? (i := 59) rfl))) (g := (mkF m 33 #[iv p0, iv (4 : Int32), iv (2 : Int32), iv (12 : Int32), iv lw, iv hg] [(.int lw)])) rfl (hb hby d25_33) _ ?_
      exact kX
    by_cases hc11 : (1114111 : Int32) < lw
    · skip
      have ihc11 : (1114111 : Int) < (lw).toInt := Int32.lt_iff_toInt_lt.mp hc11
      have pre12 : ∀ t, own_s p e below T5 m 57 #[iv p0, iv (4 : Int32), iv (2 : Int32), iv (12 : Int32), iv lw, iv hg] [(.int (0 : Int32))] t → Steps p.tables e below S0 t := by
        intro tX kX
        refine pre10 _ ?_
        show own_s p e below T5 m 35 #[iv p0, iv (4 : Int32), iv (2 : Int32), iv (12 : Int32), iv lw, iv hg] [(.int (1114111 : Int32)), (.int lw)] _
        refine XS.icmpYes X6.here hx rfl (pc0 := 35) (pc' := 56) rfl (hb hby d25_35) rfl (tlt hc11).2.2.1 (by decide) (by decide) ?_
        show own_s p e below T5 m 56 #[iv p0, iv (4 : Int32), iv (2 : Int32), iv (12 : Int32), iv lw, iv hg] [] _
        refine XS.iconst X6.here hx rfl (hb hby d25_56) ?_
        exact kX
      subst hS0
      obtain ⟨fs, hr, hrun, hended, hW, hsame⟩ := X6.leave (v := (some (.int (0 : Int32)))) (fun h => by rw [Bd.returns] at h; cases h)
      refine ⟨_, _, pre12 _ (retN X6 hx (t := .boolean) Bd.returns (by simp) (hb hby d25_57) hr), hrun, hended, _, _, rfl, ?_, ⟨_, rfl⟩, hW, hsame.mono (by decide) (by decide)⟩
      show Q25 Z p0 h0 n0 (some (.int (0 : Int32))) T5.heap _
      exact ⟨Or.inr (⟨rfl, by omega⟩), N6, e5⟩
    · skip
      have ihc11 : ¬ ((1114111 : Int) < (lw).toInt) := fun q => hc11 (Int32.lt_iff_toInt_lt.mpr q)
      have pre13 : ∀ t, own_s p e below T5 m 42 #[iv p0, iv (4 : Int32), iv (2 : Int32), iv (12 : Int32), iv lw, iv hg] [(.int (55296 : Int32)), (.int lw)] t → Steps p.tables e below S0 t := by
        intro tX kX
        refine pre10 _ ?_
        show own_s p e below T5 m 35 #[iv p0, iv (4 : Int32), iv (2 : Int32), iv (12 : Int32), iv lw, iv hg] [(.int (1114111 : Int32)), (.int lw)] _
        refine XS.icmpNo X6.here hx rfl (hb hby d25_35) rfl (flt hc11).2.2.1 ?_
        show own_s p e below T5 m 38 #[iv p0, iv (4 : Int32), iv (2 : Int32), iv (12 : Int32), iv lw, iv hg] [] _
        refine XS.iload X6.here hx rfl (hb hby d25_38) rfl ?_
        show own_s p e below T5 m 40 #[iv p0, iv (4 : Int32), iv (2 : Int32), iv (12 : Int32), iv lw, iv hg] [(.int lw)] _
        refine X6.ldcInt hx hown (mvT hZ (hw _ (List.mem_of_getElem? (i := 60) rfl))) (g := (mkF m 40 #[iv p0, iv (4 : Int32), iv (2 : Int32), iv (12 : Int32), iv lw, iv hg] [(.int lw)])) rfl (hb hby d25_40) _ ?_
        exact kX
      by_cases hc14 : lw < (55296 : Int32)
      · skip
        have ihc14 : (lw).toInt < (55296 : Int) := Int32.lt_iff_toInt_lt.mp hc14
        have pre15 : ∀ t, own_s p e below T5 m 57 #[iv p0, iv (4 : Int32), iv (2 : Int32), iv (12 : Int32), iv lw, iv hg] [(.int (1 : Int32))] t → Steps p.tables e below S0 t := by
          intro tX kX
          refine pre13 _ ?_
          show own_s p e below T5 m 42 #[iv p0, iv (4 : Int32), iv (2 : Int32), iv (12 : Int32), iv lw, iv hg] [(.int (55296 : Int32)), (.int lw)] _
          refine XS.icmpYes X6.here hx rfl (pc0 := 42) (pc' := 52) rfl (hb hby d25_42) rfl (tlt hc14).1 (by decide) (by decide) ?_
          show own_s p e below T5 m 52 #[iv p0, iv (4 : Int32), iv (2 : Int32), iv (12 : Int32), iv lw, iv hg] [] _
          refine XS.iconst X6.here hx rfl (hb hby d25_52) ?_
          show own_s p e below T5 m 53 #[iv p0, iv (4 : Int32), iv (2 : Int32), iv (12 : Int32), iv lw, iv hg] [(.int (1 : Int32))] _
          refine XS.goto X6.here hx rfl (pc0 := 53) (pc' := 57) rfl (hb hby d25_53) (by decide) (by decide) ?_
          exact kX
        subst hS0
        obtain ⟨fs, hr, hrun, hended, hW, hsame⟩ := X6.leave (v := (some (.int (1 : Int32)))) (fun h => by rw [Bd.returns] at h; cases h)
        refine ⟨_, _, pre15 _ (retN X6 hx (t := .boolean) Bd.returns (by simp) (hb hby d25_57) hr), hrun, hended, _, _, rfl, ?_, ⟨_, rfl⟩, hW, hsame.mono (by decide) (by decide)⟩
        show Q25 Z p0 h0 n0 (some (.int (1 : Int32))) T5.heap _
        exact ⟨Or.inl ⟨rfl, by omega⟩, N6, e5⟩
      · skip
        have ihc14 : ¬ ((lw).toInt < (55296 : Int)) := fun q => hc14 (Int32.lt_iff_toInt_lt.mpr q)
        have pre16 : ∀ t, own_s p e below T5 m 57 #[iv p0, iv (4 : Int32), iv (2 : Int32), iv (12 : Int32), iv lw, iv hg] [(.int (1 : Int32))] t → Steps p.tables e below S0 t := by
          intro tX kX
          refine pre13 _ ?_
          show own_s p e below T5 m 42 #[iv p0, iv (4 : Int32), iv (2 : Int32), iv (12 : Int32), iv lw, iv hg] [(.int (55296 : Int32)), (.int lw)] _
          refine XS.icmpNo X6.here hx rfl (hb hby d25_42) rfl (flt hc14).1 ?_
          show own_s p e below T5 m 45 #[iv p0, iv (4 : Int32), iv (2 : Int32), iv (12 : Int32), iv lw, iv hg] [] _
          refine XS.iload X6.here hx rfl (hb hby d25_45) rfl ?_
          show own_s p e below T5 m 47 #[iv p0, iv (4 : Int32), iv (2 : Int32), iv (12 : Int32), iv lw, iv hg] [(.int hg)] _
          refine X6.ldcInt hx hown (mvT hZ (hw _ (List.mem_of_getElem? (i := 64) rfl))) (g := (mkF m 47 #[iv p0, iv (4 : Int32), iv (2 : Int32), iv (12 : Int32), iv lw, iv hg] [(.int hg)])) rfl (hb hby d25_47) _ ?_
          show own_s p e below T5 m 49 #[iv p0, iv (4 : Int32), iv (2 : Int32), iv (12 : Int32), iv lw, iv hg] [(.int (57343 : Int32)), (.int hg)] _
          refine XS.icmpNo X6.here hx rfl (hb hby d25_49) rfl (tlt (show (57343 : Int32) < hg from (Int32.lt_iff_toInt_lt.mpr (by omega : (57343 : Int) < (hg).toInt)))).2.2.2 ?_
          show own_s p e below T5 m 52 #[iv p0, iv (4 : Int32), iv (2 : Int32), iv (12 : Int32), iv lw, iv hg] [] _
          refine XS.iconst X6.here hx rfl (hb hby d25_52) ?_
          show own_s p e below T5 m 53 #[iv p0, iv (4 : Int32), iv (2 : Int32), iv (12 : Int32), iv lw, iv hg] [(.int (1 : Int32))] _
          refine XS.goto X6.here hx rfl (pc0 := 53) (pc' := 57) rfl (hb hby d25_53) (by decide) (by decide) ?_
          exact kX
        subst hS0
        obtain ⟨fs, hr, hrun, hended, hW, hsame⟩ := X6.leave (v := (some (.int (1 : Int32)))) (fun h => by rw [Bd.returns] at h; cases h)
        refine ⟨_, _, pre16 _ (retN X6 hx (t := .boolean) Bd.returns (by simp) (hb hby d25_57) hr), hrun, hended, _, _, rfl, ?_, ⟨_, rfl⟩, hW, hsame.mono (by decide) (by decide)⟩
        show Q25 Z p0 h0 n0 (some (.int (1 : Int32))) T5.heap _
        exact ⟨Or.inl ⟨rfl, by omega⟩, N6, e5⟩
theorem d26_0 : decode method_10_code 0 = .ok (.bipush 6, 2) := by decide +kernel
theorem d26_2 : decode method_10_code 2 = .ok (.iload_n 1, 1) := by decide +kernel
theorem d26_3 : decode method_10_code 3 = .ok (.iload_n 2, 1) := by decide +kernel
theorem d26_4 : decode method_10_code 4 = .ok (.isub, 1) := by decide +kernel
theorem d26_5 : decode method_10_code 5 = .ok (.imul, 1) := by decide +kernel
theorem d26_6 : decode method_10_code 6 = .ok (.istore_n 3, 1) := by decide +kernel
theorem d26_7 : decode method_10_code 7 = .ok (.iload_n 0, 1) := by decide +kernel
theorem d26_8 : decode method_10_code 8 = .ok (.iload_n 3, 1) := by decide +kernel
theorem d26_9 : decode method_10_code 9 = .ok (.ishl, 1) := by decide +kernel
theorem d26_10 : decode method_10_code 10 = .ok (.istore 4, 2) := by decide +kernel
theorem d26_12 : decode method_10_code 12 = .ok (.iload 4, 2) := by decide +kernel
theorem d26_14 : decode method_10_code 14 = .ok (.iconst 1, 1) := by decide +kernel
theorem d26_15 : decode method_10_code 15 = .ok (.iload_n 3, 1) := by decide +kernel
theorem d26_16 : decode method_10_code 16 = .ok (.ishl, 1) := by decide +kernel
theorem d26_17 : decode method_10_code 17 = .ok (.iadd, 1) := by decide +kernel
theorem d26_18 : decode method_10_code 18 = .ok (.iconst 1, 1) := by decide +kernel
theorem d26_19 : decode method_10_code 19 = .ok (.isub, 1) := by decide +kernel
theorem d26_20 : decode method_10_code 20 = .ok (.istore 5, 2) := by decide +kernel
theorem d26_22 : decode method_10_code 22 = .ok (.iload 5, 2) := by decide +kernel
theorem d26_24 : decode method_10_code 24 = .ok (.iload_n 1, 1) := by decide +kernel
theorem d26_25 : decode method_10_code 25 = .ok (.invokestatic 50, 3) := by decide +kernel
theorem d26_28 : decode method_10_code 28 = .ok (.if_icmp .lt 28, 3) := by decide +kernel
theorem d26_31 : decode method_10_code 31 = .ok (.iload 4, 2) := by decide +kernel
theorem d26_33 : decode method_10_code 33 = .ok (.ldc 53, 2) := by decide +kernel
theorem d26_35 : decode method_10_code 35 = .ok (.if_icmp .gt 21, 3) := by decide +kernel
theorem d26_38 : decode method_10_code 38 = .ok (.iload 4, 2) := by decide +kernel
theorem d26_40 : decode method_10_code 40 = .ok (.ldc 54, 2) := by decide +kernel
theorem d26_42 : decode method_10_code 42 = .ok (.if_icmp .lt 10, 3) := by decide +kernel
theorem d26_45 : decode method_10_code 45 = .ok (.iload 5, 2) := by decide +kernel
theorem d26_47 : decode method_10_code 47 = .ok (.ldc 55, 2) := by decide +kernel
theorem d26_49 : decode method_10_code 49 = .ok (.if_icmp .le 7, 3) := by decide +kernel
theorem d26_52 : decode method_10_code 52 = .ok (.iconst 1, 1) := by decide +kernel
theorem d26_53 : decode method_10_code 53 = .ok (.goto 4, 3) := by decide +kernel
theorem d26_56 : decode method_10_code 56 = .ok (.iconst 0, 1) := by decide +kernel
theorem d26_57 : decode method_10_code 57 = .ok (.ireturn, 1) := by decide +kernel
theorem pn_26 : plainName "com/example/weaverbird/weaverbird/model/xml/Utf8DecoderTakePinLaw" = true := by first | (simp [plainName, overriddenIn]; done) | decide +kernel
theorem pd26_0 : parseMethodDescriptor "(I)I" = some ⟨[.int], some .int⟩ := by decide +kernel
theorem ef_26 (m : MethodId) (p0 : Int32) : entryFrame m #[(.int p0), (.int (3 : Int32)), (.int (3 : Int32))] 6 = mkF m 0 #[iv p0, iv (3 : Int32), iv (3 : Int32), .unset, .unset, .unset] [] := by first | (simp [entryFrame, mkF, argsToLocals, Value.category]; done) | rfl
def Q26 (Z : State) (p0 : Int32) (h0 : Heap) (n0 : Nat) (v : Option Value) (h : Heap) (L : List Loc) : Prop := ((v = some (.int 1) ∧ ((2048 ≤ p0.toInt * 1 + 0 ∧ p0.toInt * 1 ≤ 1114111 ∧ ¬ (55296 ≤ p0.toInt * 1 ∧ p0.toInt * 1 + 0 ≤ 57343)))) ∨ (v = some (.int 0) ∧ (¬ (2048 ≤ p0.toInt * 1 + 0 ∧ p0.toInt * 1 ≤ 1114111 ∧ ¬ (55296 ≤ p0.toInt * 1 ∧ p0.toInt * 1 + 0 ≤ 57343))))) ∧ Fr n0 L ∧ h = h0
set_option maxRecDepth 65536 in
set_option maxHeartbeats 40000000 in
theorem rm26 (l : Launch) (Z : State) (a0 : Array Value) (hw : ∀ d ∈ tables_1, d.before a0 Z = true) (ws : List Jvm.Cond) (p0 : Int32) (h0 : Heap) (n0 : Nat) (Z0 : n0 ≤ h0.size) (hp0 : 0 ≤ p0.toInt) (hp1 : p0.toInt * 1 < 536870912) :
    MetFree l (⟨"com/example/weaverbird/weaverbird/model/xml/Utf8DecoderTakePinLaw", "feasible", "(III)Z"⟩ : MethodName) (head1 (Jvm.Cond.code (⟨"com/example/weaverbird/weaverbird/model/xml/Utf8DecoderTakePinLaw", "feasible", "(III)Z"⟩ : MethodName) method_10_code 6 (some .boolean) :: ws) ({ frames := 1, cells := 0, slots := 0, locals := 15 } : Room)) (fun aX UX => aX = #[(.int p0), (.int (3 : Int32)), (.int (3 : Int32))] ∧ Z.Warmed39 UX.vm ∧ UX.heap = h0) (fun _ _ _ _ _ => True) (fun _ UX oX UY => ∃ vX LX, oX = .returned vX ∧ Q26 Z p0 h0 n0 vX UY.heap LX ∧ FrameEnd UX oX UY LX ({ frames := 1, cells := 0, slots := 0, locals := 15 } : Room).cells ({ frames := 1, cells := 0, slots := 0, locals := 15 } : Room).slots) := by
  refine MetFree.of_bodySF (plainFor_of_name pn_26) hisR ?_
  intro p e s m args below meth c s₁ Bd hml0 hPX hKX
  obtain ⟨rfl, hZ, hh⟩ := hPX
  have hx := Bd.exec
  have hby := Bd.bytes
  have hml : c.maxLocals = 6 := hml0
  have hown : s.vm.findClass "com/example/weaverbird/weaverbird/model/xml/Utf8DecoderTakePinLaw" = some m.cls := findClass_of_methodNamed Bd.named
  have hnm := (name_of_methodNamed Bd.named Bd.method).1
  have X0 : Stand p l e ({ frames := 1, cells := 0, slots := 0, locals := 15 } : Room) s m #[(.int p0), (.int (3 : Int32)), (.int (3 : Int32))] below meth c s₁ [] 0 0 := Stand.of_body Bd
  have e0 : s₁.heap = h0 := by rw [← hh, Bd.state]; rfl
  have N0 := Fr.nil n0
  have pre0 : ∀ t, Steps p.tables e below (s₁.setTop (mkF m 0 #[iv p0, iv (3 : Int32), iv (3 : Int32), .unset, .unset, .unset] [])) t → Steps p.tables e below (s₁.setTop (entryFrame m #[(.int p0), (.int (3 : Int32)), (.int (3 : Int32))] 6)) t := fun t k => castTop (ef_26 m p0) k
  obtain ⟨S0, hS0⟩ : ∃ z, z = (s₁.setTop (entryFrame m #[(.int p0), (.int (3 : Int32)), (.int (3 : Int32))] 6)) := ⟨_, rfl⟩
  rw [← hS0] at pre0
  have pre1 : ∀ t, own_s p e below s₁ m 6 #[iv p0, iv (3 : Int32), iv (3 : Int32), .unset, .unset, .unset] [(.int ((6 : Int32) * ((3 : Int32) - (3 : Int32))))] t → Steps p.tables e below S0 t := by
    intro tX kX
    refine pre0 _ ?_
    show own_s p e below s₁ m 0 #[iv p0, iv (3 : Int32), iv (3 : Int32), .unset, .unset, .unset] [] _
    refine XS.bipush X0.here hx rfl (hb hby d26_0) ?_
    show own_s p e below s₁ m 2 #[iv p0, iv (3 : Int32), iv (3 : Int32), .unset, .unset, .unset] [(.int (6 : Int32))] _
    refine XS.iloadN X0.here hx rfl (hb hby d26_2) rfl ?_
    show own_s p e below s₁ m 3 #[iv p0, iv (3 : Int32), iv (3 : Int32), .unset, .unset, .unset] [(.int (3 : Int32)), (.int (6 : Int32))] _
    refine XS.iloadN X0.here hx rfl (hb hby d26_3) rfl ?_
    show own_s p e below s₁ m 4 #[iv p0, iv (3 : Int32), iv (3 : Int32), .unset, .unset, .unset] [(.int (3 : Int32)), (.int (3 : Int32)), (.int (6 : Int32))] _
    refine XS.isub X0.here hx rfl (hb hby d26_4) rfl ?_
    show own_s p e below s₁ m 5 #[iv p0, iv (3 : Int32), iv (3 : Int32), .unset, .unset, .unset] [(.int ((3 : Int32) - (3 : Int32))), (.int (6 : Int32))] _
    refine XS.imul X0.here hx rfl (hb hby d26_5) rfl ?_
    exact kX
  rw [show ((6 : Int32) * ((3 : Int32) - (3 : Int32))) = (0 : Int32) from by decide] at pre1
  have pre2 : ∀ t, own_s p e below s₁ m 10 #[iv p0, iv (3 : Int32), iv (3 : Int32), iv (0 : Int32), .unset, .unset] [(.int (p0 <<< ((0 : Int32) &&& 31)))] t → Steps p.tables e below S0 t := by
    intro tX kX
    refine pre1 _ ?_
    show own_s p e below s₁ m 6 #[iv p0, iv (3 : Int32), iv (3 : Int32), .unset, .unset, .unset] [(.int (0 : Int32))] _
    refine XS.istoreN X0.here hx rfl (hb hby d26_6) rfl (l' := #[iv p0, iv (3 : Int32), iv (3 : Int32), iv (0 : Int32), .unset, .unset]) rfl ?_
    show own_s p e below s₁ m 7 #[iv p0, iv (3 : Int32), iv (3 : Int32), iv (0 : Int32), .unset, .unset] [] _
    refine XS.iloadN X0.here hx rfl (hb hby d26_7) rfl ?_
    show own_s p e below s₁ m 8 #[iv p0, iv (3 : Int32), iv (3 : Int32), iv (0 : Int32), .unset, .unset] [(.int p0)] _
    refine XS.iloadN X0.here hx rfl (hb hby d26_8) rfl ?_
    show own_s p e below s₁ m 9 #[iv p0, iv (3 : Int32), iv (3 : Int32), iv (0 : Int32), .unset, .unset] [(.int (0 : Int32)), (.int p0)] _
    refine XS.ishl X0.here hx rfl (hb hby d26_9) rfl ?_
    exact kX
  obtain ⟨lw, hlw⟩ : ∃ z : Int32, z = (p0 <<< ((0 : Int32) &&& 31)) := ⟨_, rfl⟩
  rw [← hlw] at pre2
  have lI : lw.toInt = p0.toInt * 1 := by rw [hlw]; have d1 := c_ishl p0 0 0 (by decide); have d2 := rng32 (p0 <<< ((0 : Int32) &&& 31)); omega
  have pre3 : ∀ t, own_s p e below s₁ m 20 #[iv p0, iv (3 : Int32), iv (3 : Int32), iv (0 : Int32), iv lw, .unset] [(.int ((lw + ((1 : Int32) <<< ((0 : Int32) &&& 31))) - (1 : Int32)))] t → Steps p.tables e below S0 t := by
    intro tX kX
    refine pre2 _ ?_
    show own_s p e below s₁ m 10 #[iv p0, iv (3 : Int32), iv (3 : Int32), iv (0 : Int32), .unset, .unset] [(.int lw)] _
    refine XS.istore X0.here hx rfl (hb hby d26_10) rfl (l' := #[iv p0, iv (3 : Int32), iv (3 : Int32), iv (0 : Int32), iv lw, .unset]) rfl ?_
    show own_s p e below s₁ m 12 #[iv p0, iv (3 : Int32), iv (3 : Int32), iv (0 : Int32), iv lw, .unset] [] _
    refine XS.iload X0.here hx rfl (hb hby d26_12) rfl ?_
    show own_s p e below s₁ m 14 #[iv p0, iv (3 : Int32), iv (3 : Int32), iv (0 : Int32), iv lw, .unset] [(.int lw)] _
    refine XS.iconst X0.here hx rfl (hb hby d26_14) ?_
    show own_s p e below s₁ m 15 #[iv p0, iv (3 : Int32), iv (3 : Int32), iv (0 : Int32), iv lw, .unset] [(.int (1 : Int32)), (.int lw)] _
    refine XS.iloadN X0.here hx rfl (hb hby d26_15) rfl ?_
    show own_s p e below s₁ m 16 #[iv p0, iv (3 : Int32), iv (3 : Int32), iv (0 : Int32), iv lw, .unset] [(.int (0 : Int32)), (.int (1 : Int32)), (.int lw)] _
    refine XS.ishl X0.here hx rfl (hb hby d26_16) rfl ?_
    show own_s p e below s₁ m 17 #[iv p0, iv (3 : Int32), iv (3 : Int32), iv (0 : Int32), iv lw, .unset] [(.int ((1 : Int32) <<< ((0 : Int32) &&& 31))), (.int lw)] _
    refine XS.iadd X0.here hx rfl (hb hby d26_17) rfl ?_
    show own_s p e below s₁ m 18 #[iv p0, iv (3 : Int32), iv (3 : Int32), iv (0 : Int32), iv lw, .unset] [(.int (lw + ((1 : Int32) <<< ((0 : Int32) &&& 31))))] _
    refine XS.iconst X0.here hx rfl (hb hby d26_18) ?_
    show own_s p e below s₁ m 19 #[iv p0, iv (3 : Int32), iv (3 : Int32), iv (0 : Int32), iv lw, .unset] [(.int (1 : Int32)), (.int (lw + ((1 : Int32) <<< ((0 : Int32) &&& 31))))] _
    refine XS.isub X0.here hx rfl (hb hby d26_19) rfl ?_
    exact kX
  obtain ⟨hg, hhg⟩ : ∃ z : Int32, z = ((lw + ((1 : Int32) <<< ((0 : Int32) &&& 31))) - (1 : Int32)) := ⟨_, rfl⟩
  rw [← hhg] at pre3
  have hI : hg.toInt = p0.toInt * 1 + 0 := by
    rw [hhg]
    have d3 := c_iadd lw ((1 : Int32) <<< ((0 : Int32) &&& 31))
    have d4 : ((1 : Int32) <<< ((0 : Int32) &&& 31)).toInt = 1 := by decide
    have d5 := rng32 (lw + ((1 : Int32) <<< ((0 : Int32) &&& 31)))
    have d6 := c_isub (lw + ((1 : Int32) <<< ((0 : Int32) &&& 31))) 1
    have d7 : (1 : Int32).toInt = 1 := rfl
    have d8 := rng32 ((lw + ((1 : Int32) <<< ((0 : Int32) &&& 31))) - 1)
    omega
  have pre4 : ∀ t, own_s p e below s₁ m 25 #[iv p0, iv (3 : Int32), iv (3 : Int32), iv (0 : Int32), iv lw, iv hg] [(.int (3 : Int32)), (.int hg)] t → Steps p.tables e below S0 t := by
    intro tX kX
    refine pre3 _ ?_
    show own_s p e below s₁ m 20 #[iv p0, iv (3 : Int32), iv (3 : Int32), iv (0 : Int32), iv lw, .unset] [(.int hg)] _
    refine XS.istore X0.here hx rfl (hb hby d26_20) rfl (l' := #[iv p0, iv (3 : Int32), iv (3 : Int32), iv (0 : Int32), iv lw, iv hg]) rfl ?_
    show own_s p e below s₁ m 22 #[iv p0, iv (3 : Int32), iv (3 : Int32), iv (0 : Int32), iv lw, iv hg] [] _
    refine XS.iload X0.here hx rfl (hb hby d26_22) rfl ?_
    show own_s p e below s₁ m 24 #[iv p0, iv (3 : Int32), iv (3 : Int32), iv (0 : Int32), iv lw, iv hg] [(.int hg)] _
    refine XS.iloadN X0.here hx rfl (hb hby d26_24) rfl ?_
    exact kX
  obtain ⟨_, _, ⟨T5, L5, k5, n5⟩, -, X5, ⟨Lc5, hQ5, l5, y5, z5⟩, st5⟩ := Jvm.LawKit.callS X0 hx (y := (⟨"com/example/weaverbird/weaverbird/model/xml/Utf8DecoderTakePinLaw", "minOf", "(I)I"⟩ : MethodName)) hown (mvT hZ (hw _ (List.mem_of_getElem? (i := 55) rfl))) (mvT hZ (hw _ (List.mem_of_getElem? (i := 56) rfl))) (mvT hZ (hw _ (List.mem_of_getElem? (i := 2) rfl))) (mvT hZ (hw _ (List.mem_of_getElem? (i := 57) rfl))) (by decide) (backOf (W := 1) (rm12 l Z a0 hw []   h0 n0 Z0 ) hZ (hw _ (List.mem_of_getElem? (i := 57) rfl)) (hw _ (List.mem_of_getElem? (i := 2) rfl)) (by decide) (by decide)) (g := (mkF m 25 #[iv p0, iv (3 : Int32), iv (3 : Int32), iv (0 : Int32), iv lw, iv hg] [(.int (3 : Int32)), (.int hg)])) rfl (by rw [hml]; rfl) (argsL := [(.int (3 : Int32))]) (rest := [(.int hg)]) (lenOf pd26_0 rfl) rfl (by show 2 * 0 + _ ≤ _; exact Nat.le_of_eq rfl) (hb hby d26_25) (fun _ _ => ⟨rfl, e0, (by decide : 0 + 0 ≤ _), (by decide : 0 + 0 ≤ _)⟩)
  dsimp only [Pt.U, Pt.locs, Pt.cells, Pt.slots] at X5 l5 y5 z5 st5 hQ5
  subst l5 y5 z5
  obtain ⟨rfl, Nq5, e5⟩ := hQ5
  have N5 := Fr.app N0 Nq5
  obtain ⟨LL6, X6, N6⟩ : ∃ LL, Stand p l e ({ frames := 1, cells := 0, slots := 0, locals := 15 } : Room) s m #[(.int p0), (.int (3 : Int32)), (.int (3 : Int32))] below meth c T5 LL 0 0 ∧ Fr n0 LL := ⟨_, X5, N5⟩
  have pre7 : ∀ t, own_s p e below T5 m 28 #[iv p0, iv (3 : Int32), iv (3 : Int32), iv (0 : Int32), iv lw, iv hg] [(.int (2048 : Int32)), (.int hg)] t → Steps p.tables e below S0 t := fun tX kX => pre4 _ (st5 _ kX)
  by_cases hc8 : hg < (2048 : Int32)
  · skip
    have ihc8 : (hg).toInt < (2048 : Int) := Int32.lt_iff_toInt_lt.mp hc8
    have pre9 : ∀ t, own_s p e below T5 m 57 #[iv p0, iv (3 : Int32), iv (3 : Int32), iv (0 : Int32), iv lw, iv hg] [(.int (0 : Int32))] t → Steps p.tables e below S0 t := by
      intro tX kX
      refine pre7 _ ?_
      show own_s p e below T5 m 28 #[iv p0, iv (3 : Int32), iv (3 : Int32), iv (0 : Int32), iv lw, iv hg] [(.int (2048 : Int32)), (.int hg)] _
      refine XS.icmpYes X6.here hx rfl (pc0 := 28) (pc' := 56) rfl (hb hby d26_28) rfl (tlt hc8).1 (by decide) (by decide) ?_
      show own_s p e below T5 m 56 #[iv p0, iv (3 : Int32), iv (3 : Int32), iv (0 : Int32), iv lw, iv hg] [] _
      refine XS.iconst X6.here hx rfl (hb hby d26_56) ?_
      exact kX
    subst hS0
    obtain ⟨fs, hr, hrun, hended, hW, hsame⟩ := X6.leave (v := (some (.int (0 : Int32)))) (fun h => by rw [Bd.returns] at h; cases h)
    refine ⟨_, _, pre9 _ (retN X6 hx (t := .boolean) Bd.returns (by simp) (hb hby d26_57) hr), hrun, hended, _, _, rfl, ?_, ⟨_, rfl⟩, hW, hsame.mono (by decide) (by decide)⟩
    show Q26 Z p0 h0 n0 (some (.int (0 : Int32))) T5.heap _
    exact ⟨Or.inr (⟨rfl, by omega⟩), N6, e5⟩
  · skip
    have ihc8 : ¬ ((hg).toInt < (2048 : Int)) := fun q => hc8 (Int32.lt_iff_toInt_lt.mpr q)
    have pre10 : ∀ t, own_s p e below T5 m 35 #[iv p0, iv (3 : Int32), iv (3 : Int32), iv (0 : Int32), iv lw, iv hg] [(.int (1114111 : Int32)), (.int lw)] t → Steps p.tables e below S0 t := by
      intro tX kX
      refine pre7 _ ?_
      show own_s p e below T5 m 28 #[iv p0, iv (3 : Int32), iv (3 : Int32), iv (0 : Int32), iv lw, iv hg] [(.int (2048 : Int32)), (.int hg)] _
      refine XS.icmpNo X6.here hx rfl (hb hby d26_28) rfl (flt hc8).1 ?_
      show own_s p e below T5 m 31 #[iv p0, iv (3 : Int32), iv (3 : Int32), iv (0 : Int32), iv lw, iv hg] [] _
      refine XS.iload X6.here hx rfl (hb hby d26_31) rfl ?_
      show own_s p e below T5 m 33 #[iv p0, iv (3 : Int32), iv (3 : Int32), iv (0 : Int32), iv lw, iv hg] [(.int lw)] _
      refine X6.ldcInt hx hown (mvT hZ (hw _ (List.mem_of_getElem? (i := 59) rfl))) (g := (mkF m 33 #[iv p0, iv (3 : Int32), iv (3 : Int32), iv (0 : Int32), iv lw, iv hg] [(.int lw)])) rfl (hb hby d26_33) _ ?_
      exact kX
    by_cases hc11 : (1114111 : Int32) < lw
    · skip
      have ihc11 : (1114111 : Int) < (lw).toInt := Int32.lt_iff_toInt_lt.mp hc11
      have pre12 : ∀ t, own_s p e below T5 m 57 #[iv p0, iv (3 : Int32), iv (3 : Int32), iv (0 : Int32), iv lw, iv hg] [(.int (0 : Int32))] t → Steps p.tables e below S0 t := by
        intro tX kX
        refine pre10 _ ?_
        show own_s p e below T5 m 35 #[iv p0, iv (3 : Int32), iv (3 : Int32), iv (0 : Int32), iv lw, iv hg] [(.int (1114111 : Int32)), (.int lw)] _
        refine XS.icmpYes X6.here hx rfl (pc0 := 35) (pc' := 56) rfl (hb hby d26_35) rfl (tlt hc11).2.2.1 (by decide) (by decide) ?_
        show own_s p e below T5 m 56 #[iv p0, iv (3 : Int32), iv (3 : Int32), iv (0 : Int32), iv lw, iv hg] [] _
        refine XS.iconst X6.here hx rfl (hb hby d26_56) ?_
        exact kX
      subst hS0
      obtain ⟨fs, hr, hrun, hended, hW, hsame⟩ := X6.leave (v := (some (.int (0 : Int32)))) (fun h => by rw [Bd.returns] at h; cases h)
      refine ⟨_, _, pre12 _ (retN X6 hx (t := .boolean) Bd.returns (by simp) (hb hby d26_57) hr), hrun, hended, _, _, rfl, ?_, ⟨_, rfl⟩, hW, hsame.mono (by decide) (by decide)⟩
      show Q26 Z p0 h0 n0 (some (.int (0 : Int32))) T5.heap _
      exact ⟨Or.inr (⟨rfl, by omega⟩), N6, e5⟩
    · skip
      have ihc11 : ¬ ((1114111 : Int) < (lw).toInt) := fun q => hc11 (Int32.lt_iff_toInt_lt.mpr q)
      have pre13 : ∀ t, own_s p e below T5 m 42 #[iv p0, iv (3 : Int32), iv (3 : Int32), iv (0 : Int32), iv lw, iv hg] [(.int (55296 : Int32)), (.int lw)] t → Steps p.tables e below S0 t := by
        intro tX kX
        refine pre10 _ ?_
        show own_s p e below T5 m 35 #[iv p0, iv (3 : Int32), iv (3 : Int32), iv (0 : Int32), iv lw, iv hg] [(.int (1114111 : Int32)), (.int lw)] _
        refine XS.icmpNo X6.here hx rfl (hb hby d26_35) rfl (flt hc11).2.2.1 ?_
        show own_s p e below T5 m 38 #[iv p0, iv (3 : Int32), iv (3 : Int32), iv (0 : Int32), iv lw, iv hg] [] _
        refine XS.iload X6.here hx rfl (hb hby d26_38) rfl ?_
        show own_s p e below T5 m 40 #[iv p0, iv (3 : Int32), iv (3 : Int32), iv (0 : Int32), iv lw, iv hg] [(.int lw)] _
        refine X6.ldcInt hx hown (mvT hZ (hw _ (List.mem_of_getElem? (i := 60) rfl))) (g := (mkF m 40 #[iv p0, iv (3 : Int32), iv (3 : Int32), iv (0 : Int32), iv lw, iv hg] [(.int lw)])) rfl (hb hby d26_40) _ ?_
        exact kX
      by_cases hc14 : lw < (55296 : Int32)
      · skip
        have ihc14 : (lw).toInt < (55296 : Int) := Int32.lt_iff_toInt_lt.mp hc14
        have pre15 : ∀ t, own_s p e below T5 m 57 #[iv p0, iv (3 : Int32), iv (3 : Int32), iv (0 : Int32), iv lw, iv hg] [(.int (1 : Int32))] t → Steps p.tables e below S0 t := by
          intro tX kX
          refine pre13 _ ?_
          show own_s p e below T5 m 42 #[iv p0, iv (3 : Int32), iv (3 : Int32), iv (0 : Int32), iv lw, iv hg] [(.int (55296 : Int32)), (.int lw)] _
          refine XS.icmpYes X6.here hx rfl (pc0 := 42) (pc' := 52) rfl (hb hby d26_42) rfl (tlt hc14).1 (by decide) (by decide) ?_
          show own_s p e below T5 m 52 #[iv p0, iv (3 : Int32), iv (3 : Int32), iv (0 : Int32), iv lw, iv hg] [] _
          refine XS.iconst X6.here hx rfl (hb hby d26_52) ?_
          show own_s p e below T5 m 53 #[iv p0, iv (3 : Int32), iv (3 : Int32), iv (0 : Int32), iv lw, iv hg] [(.int (1 : Int32))] _
          refine XS.goto X6.here hx rfl (pc0 := 53) (pc' := 57) rfl (hb hby d26_53) (by decide) (by decide) ?_
          exact kX
        subst hS0
        obtain ⟨fs, hr, hrun, hended, hW, hsame⟩ := X6.leave (v := (some (.int (1 : Int32)))) (fun h => by rw [Bd.returns] at h; cases h)
        refine ⟨_, _, pre15 _ (retN X6 hx (t := .boolean) Bd.returns (by simp) (hb hby d26_57) hr), hrun, hended, _, _, rfl, ?_, ⟨_, rfl⟩, hW, hsame.mono (by decide) (by decide)⟩
        show Q26 Z p0 h0 n0 (some (.int (1 : Int32))) T5.heap _
        exact ⟨Or.inl ⟨rfl, by omega⟩, N6, e5⟩
      · skip
        have ihc14 : ¬ ((lw).toInt < (55296 : Int)) := fun q => hc14 (Int32.lt_iff_toInt_lt.mpr q)
        have pre16 : ∀ t, own_s p e below T5 m 49 #[iv p0, iv (3 : Int32), iv (3 : Int32), iv (0 : Int32), iv lw, iv hg] [(.int (57343 : Int32)), (.int hg)] t → Steps p.tables e below S0 t := by
          intro tX kX
          refine pre13 _ ?_
          show own_s p e below T5 m 42 #[iv p0, iv (3 : Int32), iv (3 : Int32), iv (0 : Int32), iv lw, iv hg] [(.int (55296 : Int32)), (.int lw)] _
          refine XS.icmpNo X6.here hx rfl (hb hby d26_42) rfl (flt hc14).1 ?_
          show own_s p e below T5 m 45 #[iv p0, iv (3 : Int32), iv (3 : Int32), iv (0 : Int32), iv lw, iv hg] [] _
          refine XS.iload X6.here hx rfl (hb hby d26_45) rfl ?_
          show own_s p e below T5 m 47 #[iv p0, iv (3 : Int32), iv (3 : Int32), iv (0 : Int32), iv lw, iv hg] [(.int hg)] _
          refine X6.ldcInt hx hown (mvT hZ (hw _ (List.mem_of_getElem? (i := 64) rfl))) (g := (mkF m 47 #[iv p0, iv (3 : Int32), iv (3 : Int32), iv (0 : Int32), iv lw, iv hg] [(.int hg)])) rfl (hb hby d26_47) _ ?_
          exact kX
        by_cases hc17 : (57343 : Int32) < hg
        · skip
          have ihc17 : (57343 : Int) < (hg).toInt := Int32.lt_iff_toInt_lt.mp hc17
          have pre18 : ∀ t, own_s p e below T5 m 57 #[iv p0, iv (3 : Int32), iv (3 : Int32), iv (0 : Int32), iv lw, iv hg] [(.int (1 : Int32))] t → Steps p.tables e below S0 t := by
            intro tX kX
            refine pre16 _ ?_
            show own_s p e below T5 m 49 #[iv p0, iv (3 : Int32), iv (3 : Int32), iv (0 : Int32), iv lw, iv hg] [(.int (57343 : Int32)), (.int hg)] _
            refine XS.icmpNo X6.here hx rfl (hb hby d26_49) rfl (tlt hc17).2.2.2 ?_
            show own_s p e below T5 m 52 #[iv p0, iv (3 : Int32), iv (3 : Int32), iv (0 : Int32), iv lw, iv hg] [] _
            refine XS.iconst X6.here hx rfl (hb hby d26_52) ?_
            show own_s p e below T5 m 53 #[iv p0, iv (3 : Int32), iv (3 : Int32), iv (0 : Int32), iv lw, iv hg] [(.int (1 : Int32))] _
            refine XS.goto X6.here hx rfl (pc0 := 53) (pc' := 57) rfl (hb hby d26_53) (by decide) (by decide) ?_
            exact kX
          subst hS0
          obtain ⟨fs, hr, hrun, hended, hW, hsame⟩ := X6.leave (v := (some (.int (1 : Int32)))) (fun h => by rw [Bd.returns] at h; cases h)
          refine ⟨_, _, pre18 _ (retN X6 hx (t := .boolean) Bd.returns (by simp) (hb hby d26_57) hr), hrun, hended, _, _, rfl, ?_, ⟨_, rfl⟩, hW, hsame.mono (by decide) (by decide)⟩
          show Q26 Z p0 h0 n0 (some (.int (1 : Int32))) T5.heap _
          exact ⟨Or.inl ⟨rfl, by omega⟩, N6, e5⟩
        · skip
          have ihc17 : ¬ ((57343 : Int) < (hg).toInt) := fun q => hc17 (Int32.lt_iff_toInt_lt.mpr q)
          have pre19 : ∀ t, own_s p e below T5 m 57 #[iv p0, iv (3 : Int32), iv (3 : Int32), iv (0 : Int32), iv lw, iv hg] [(.int (0 : Int32))] t → Steps p.tables e below S0 t := by
            intro tX kX
            refine pre16 _ ?_
            show own_s p e below T5 m 49 #[iv p0, iv (3 : Int32), iv (3 : Int32), iv (0 : Int32), iv lw, iv hg] [(.int (57343 : Int32)), (.int hg)] _
            refine XS.icmpYes X6.here hx rfl (pc0 := 49) (pc' := 56) rfl (hb hby d26_49) rfl (flt hc17).2.2.2 (by decide) (by decide) ?_
            show own_s p e below T5 m 56 #[iv p0, iv (3 : Int32), iv (3 : Int32), iv (0 : Int32), iv lw, iv hg] [] _
            refine XS.iconst X6.here hx rfl (hb hby d26_56) ?_
            exact kX
          subst hS0
          obtain ⟨fs, hr, hrun, hended, hW, hsame⟩ := X6.leave (v := (some (.int (0 : Int32)))) (fun h => by rw [Bd.returns] at h; cases h)
          refine ⟨_, _, pre19 _ (retN X6 hx (t := .boolean) Bd.returns (by simp) (hb hby d26_57) hr), hrun, hended, _, _, rfl, ?_, ⟨_, rfl⟩, hW, hsame.mono (by decide) (by decide)⟩
          show Q26 Z p0 h0 n0 (some (.int (0 : Int32))) T5.heap _
          exact ⟨Or.inr (⟨rfl, by omega⟩), N6, e5⟩
theorem d27_0 : decode method_10_code 0 = .ok (.bipush 6, 2) := by decide +kernel
theorem d27_2 : decode method_10_code 2 = .ok (.iload_n 1, 1) := by decide +kernel
theorem d27_3 : decode method_10_code 3 = .ok (.iload_n 2, 1) := by decide +kernel
theorem d27_4 : decode method_10_code 4 = .ok (.isub, 1) := by decide +kernel
theorem d27_5 : decode method_10_code 5 = .ok (.imul, 1) := by decide +kernel
theorem d27_6 : decode method_10_code 6 = .ok (.istore_n 3, 1) := by decide +kernel
theorem d27_7 : decode method_10_code 7 = .ok (.iload_n 0, 1) := by decide +kernel
theorem d27_8 : decode method_10_code 8 = .ok (.iload_n 3, 1) := by decide +kernel
theorem d27_9 : decode method_10_code 9 = .ok (.ishl, 1) := by decide +kernel
theorem d27_10 : decode method_10_code 10 = .ok (.istore 4, 2) := by decide +kernel
theorem d27_12 : decode method_10_code 12 = .ok (.iload 4, 2) := by decide +kernel
theorem d27_14 : decode method_10_code 14 = .ok (.iconst 1, 1) := by decide +kernel
theorem d27_15 : decode method_10_code 15 = .ok (.iload_n 3, 1) := by decide +kernel
theorem d27_16 : decode method_10_code 16 = .ok (.ishl, 1) := by decide +kernel
theorem d27_17 : decode method_10_code 17 = .ok (.iadd, 1) := by decide +kernel
theorem d27_18 : decode method_10_code 18 = .ok (.iconst 1, 1) := by decide +kernel
theorem d27_19 : decode method_10_code 19 = .ok (.isub, 1) := by decide +kernel
theorem d27_20 : decode method_10_code 20 = .ok (.istore 5, 2) := by decide +kernel
theorem d27_22 : decode method_10_code 22 = .ok (.iload 5, 2) := by decide +kernel
theorem d27_24 : decode method_10_code 24 = .ok (.iload_n 1, 1) := by decide +kernel
theorem d27_25 : decode method_10_code 25 = .ok (.invokestatic 50, 3) := by decide +kernel
theorem d27_28 : decode method_10_code 28 = .ok (.if_icmp .lt 28, 3) := by decide +kernel
theorem d27_31 : decode method_10_code 31 = .ok (.iload 4, 2) := by decide +kernel
theorem d27_33 : decode method_10_code 33 = .ok (.ldc 53, 2) := by decide +kernel
theorem d27_35 : decode method_10_code 35 = .ok (.if_icmp .gt 21, 3) := by decide +kernel
theorem d27_38 : decode method_10_code 38 = .ok (.iload 4, 2) := by decide +kernel
theorem d27_40 : decode method_10_code 40 = .ok (.ldc 54, 2) := by decide +kernel
theorem d27_42 : decode method_10_code 42 = .ok (.if_icmp .lt 10, 3) := by decide +kernel
theorem d27_45 : decode method_10_code 45 = .ok (.iload 5, 2) := by decide +kernel
theorem d27_47 : decode method_10_code 47 = .ok (.ldc 55, 2) := by decide +kernel
theorem d27_49 : decode method_10_code 49 = .ok (.if_icmp .le 7, 3) := by decide +kernel
theorem d27_52 : decode method_10_code 52 = .ok (.iconst 1, 1) := by decide +kernel
theorem d27_53 : decode method_10_code 53 = .ok (.goto 4, 3) := by decide +kernel
theorem d27_56 : decode method_10_code 56 = .ok (.iconst 0, 1) := by decide +kernel
theorem d27_57 : decode method_10_code 57 = .ok (.ireturn, 1) := by decide +kernel
theorem pn_27 : plainName "com/example/weaverbird/weaverbird/model/xml/Utf8DecoderTakePinLaw" = true := by first | (simp [plainName, overriddenIn]; done) | decide +kernel
theorem pd27_0 : parseMethodDescriptor "(I)I" = some ⟨[.int], some .int⟩ := by decide +kernel
theorem ef_27 (m : MethodId) (p0 : Int32) : entryFrame m #[(.int p0), (.int (4 : Int32)), (.int (3 : Int32))] 6 = mkF m 0 #[iv p0, iv (4 : Int32), iv (3 : Int32), .unset, .unset, .unset] [] := by first | (simp [entryFrame, mkF, argsToLocals, Value.category]; done) | rfl
def Q27 (Z : State) (p0 : Int32) (h0 : Heap) (n0 : Nat) (v : Option Value) (h : Heap) (L : List Loc) : Prop := ((v = some (.int 1) ∧ ((65536 ≤ p0.toInt * 64 + 63 ∧ p0.toInt * 64 ≤ 1114111 ∧ ¬ (55296 ≤ p0.toInt * 64 ∧ p0.toInt * 64 + 63 ≤ 57343)))) ∨ (v = some (.int 0) ∧ (¬ (65536 ≤ p0.toInt * 64 + 63 ∧ p0.toInt * 64 ≤ 1114111 ∧ ¬ (55296 ≤ p0.toInt * 64 ∧ p0.toInt * 64 + 63 ≤ 57343))))) ∧ Fr n0 L ∧ h = h0
set_option maxRecDepth 65536 in
set_option maxHeartbeats 40000000 in
theorem rm27 (l : Launch) (Z : State) (a0 : Array Value) (hw : ∀ d ∈ tables_1, d.before a0 Z = true) (ws : List Jvm.Cond) (p0 : Int32) (h0 : Heap) (n0 : Nat) (Z0 : n0 ≤ h0.size) (hp0 : 0 ≤ p0.toInt) (hp1 : p0.toInt * 64 < 536870912) :
    MetFree l (⟨"com/example/weaverbird/weaverbird/model/xml/Utf8DecoderTakePinLaw", "feasible", "(III)Z"⟩ : MethodName) (head1 (Jvm.Cond.code (⟨"com/example/weaverbird/weaverbird/model/xml/Utf8DecoderTakePinLaw", "feasible", "(III)Z"⟩ : MethodName) method_10_code 6 (some .boolean) :: ws) ({ frames := 1, cells := 0, slots := 0, locals := 15 } : Room)) (fun aX UX => aX = #[(.int p0), (.int (4 : Int32)), (.int (3 : Int32))] ∧ Z.Warmed39 UX.vm ∧ UX.heap = h0) (fun _ _ _ _ _ => True) (fun _ UX oX UY => ∃ vX LX, oX = .returned vX ∧ Q27 Z p0 h0 n0 vX UY.heap LX ∧ FrameEnd UX oX UY LX ({ frames := 1, cells := 0, slots := 0, locals := 15 } : Room).cells ({ frames := 1, cells := 0, slots := 0, locals := 15 } : Room).slots) := by
  refine MetFree.of_bodySF (plainFor_of_name pn_27) hisR ?_
  intro p e s m args below meth c s₁ Bd hml0 hPX hKX
  obtain ⟨rfl, hZ, hh⟩ := hPX
  have hx := Bd.exec
  have hby := Bd.bytes
  have hml : c.maxLocals = 6 := hml0
  have hown : s.vm.findClass "com/example/weaverbird/weaverbird/model/xml/Utf8DecoderTakePinLaw" = some m.cls := findClass_of_methodNamed Bd.named
  have hnm := (name_of_methodNamed Bd.named Bd.method).1
  have X0 : Stand p l e ({ frames := 1, cells := 0, slots := 0, locals := 15 } : Room) s m #[(.int p0), (.int (4 : Int32)), (.int (3 : Int32))] below meth c s₁ [] 0 0 := Stand.of_body Bd
  have e0 : s₁.heap = h0 := by rw [← hh, Bd.state]; rfl
  have N0 := Fr.nil n0
  have pre0 : ∀ t, Steps p.tables e below (s₁.setTop (mkF m 0 #[iv p0, iv (4 : Int32), iv (3 : Int32), .unset, .unset, .unset] [])) t → Steps p.tables e below (s₁.setTop (entryFrame m #[(.int p0), (.int (4 : Int32)), (.int (3 : Int32))] 6)) t := fun t k => castTop (ef_27 m p0) k
  obtain ⟨S0, hS0⟩ : ∃ z, z = (s₁.setTop (entryFrame m #[(.int p0), (.int (4 : Int32)), (.int (3 : Int32))] 6)) := ⟨_, rfl⟩
  rw [← hS0] at pre0
  have pre1 : ∀ t, own_s p e below s₁ m 6 #[iv p0, iv (4 : Int32), iv (3 : Int32), .unset, .unset, .unset] [(.int ((6 : Int32) * ((4 : Int32) - (3 : Int32))))] t → Steps p.tables e below S0 t := by
    intro tX kX
    refine pre0 _ ?_
    show own_s p e below s₁ m 0 #[iv p0, iv (4 : Int32), iv (3 : Int32), .unset, .unset, .unset] [] _
    refine XS.bipush X0.here hx rfl (hb hby d27_0) ?_
    show own_s p e below s₁ m 2 #[iv p0, iv (4 : Int32), iv (3 : Int32), .unset, .unset, .unset] [(.int (6 : Int32))] _
    refine XS.iloadN X0.here hx rfl (hb hby d27_2) rfl ?_
    show own_s p e below s₁ m 3 #[iv p0, iv (4 : Int32), iv (3 : Int32), .unset, .unset, .unset] [(.int (4 : Int32)), (.int (6 : Int32))] _
    refine XS.iloadN X0.here hx rfl (hb hby d27_3) rfl ?_
    show own_s p e below s₁ m 4 #[iv p0, iv (4 : Int32), iv (3 : Int32), .unset, .unset, .unset] [(.int (3 : Int32)), (.int (4 : Int32)), (.int (6 : Int32))] _
    refine XS.isub X0.here hx rfl (hb hby d27_4) rfl ?_
    show own_s p e below s₁ m 5 #[iv p0, iv (4 : Int32), iv (3 : Int32), .unset, .unset, .unset] [(.int ((4 : Int32) - (3 : Int32))), (.int (6 : Int32))] _
    refine XS.imul X0.here hx rfl (hb hby d27_5) rfl ?_
    exact kX
  rw [show ((6 : Int32) * ((4 : Int32) - (3 : Int32))) = (6 : Int32) from by decide] at pre1
  have pre2 : ∀ t, own_s p e below s₁ m 10 #[iv p0, iv (4 : Int32), iv (3 : Int32), iv (6 : Int32), .unset, .unset] [(.int (p0 <<< ((6 : Int32) &&& 31)))] t → Steps p.tables e below S0 t := by
    intro tX kX
    refine pre1 _ ?_
    show own_s p e below s₁ m 6 #[iv p0, iv (4 : Int32), iv (3 : Int32), .unset, .unset, .unset] [(.int (6 : Int32))] _
    refine XS.istoreN X0.here hx rfl (hb hby d27_6) rfl (l' := #[iv p0, iv (4 : Int32), iv (3 : Int32), iv (6 : Int32), .unset, .unset]) rfl ?_
    show own_s p e below s₁ m 7 #[iv p0, iv (4 : Int32), iv (3 : Int32), iv (6 : Int32), .unset, .unset] [] _
    refine XS.iloadN X0.here hx rfl (hb hby d27_7) rfl ?_
    show own_s p e below s₁ m 8 #[iv p0, iv (4 : Int32), iv (3 : Int32), iv (6 : Int32), .unset, .unset] [(.int p0)] _
    refine XS.iloadN X0.here hx rfl (hb hby d27_8) rfl ?_
    show own_s p e below s₁ m 9 #[iv p0, iv (4 : Int32), iv (3 : Int32), iv (6 : Int32), .unset, .unset] [(.int (6 : Int32)), (.int p0)] _
    refine XS.ishl X0.here hx rfl (hb hby d27_9) rfl ?_
    exact kX
  obtain ⟨lw, hlw⟩ : ∃ z : Int32, z = (p0 <<< ((6 : Int32) &&& 31)) := ⟨_, rfl⟩
  rw [← hlw] at pre2
  have lI : lw.toInt = p0.toInt * 64 := by rw [hlw]; have d1 := c_ishl p0 6 6 (by decide); have d2 := rng32 (p0 <<< ((6 : Int32) &&& 31)); omega
  have pre3 : ∀ t, own_s p e below s₁ m 20 #[iv p0, iv (4 : Int32), iv (3 : Int32), iv (6 : Int32), iv lw, .unset] [(.int ((lw + ((1 : Int32) <<< ((6 : Int32) &&& 31))) - (1 : Int32)))] t → Steps p.tables e below S0 t := by
    intro tX kX
    refine pre2 _ ?_
    show own_s p e below s₁ m 10 #[iv p0, iv (4 : Int32), iv (3 : Int32), iv (6 : Int32), .unset, .unset] [(.int lw)] _
    refine XS.istore X0.here hx rfl (hb hby d27_10) rfl (l' := #[iv p0, iv (4 : Int32), iv (3 : Int32), iv (6 : Int32), iv lw, .unset]) rfl ?_
    show own_s p e below s₁ m 12 #[iv p0, iv (4 : Int32), iv (3 : Int32), iv (6 : Int32), iv lw, .unset] [] _
    refine XS.iload X0.here hx rfl (hb hby d27_12) rfl ?_
    show own_s p e below s₁ m 14 #[iv p0, iv (4 : Int32), iv (3 : Int32), iv (6 : Int32), iv lw, .unset] [(.int lw)] _
    refine XS.iconst X0.here hx rfl (hb hby d27_14) ?_
    show own_s p e below s₁ m 15 #[iv p0, iv (4 : Int32), iv (3 : Int32), iv (6 : Int32), iv lw, .unset] [(.int (1 : Int32)), (.int lw)] _
    refine XS.iloadN X0.here hx rfl (hb hby d27_15) rfl ?_
    show own_s p e below s₁ m 16 #[iv p0, iv (4 : Int32), iv (3 : Int32), iv (6 : Int32), iv lw, .unset] [(.int (6 : Int32)), (.int (1 : Int32)), (.int lw)] _
    refine XS.ishl X0.here hx rfl (hb hby d27_16) rfl ?_
    show own_s p e below s₁ m 17 #[iv p0, iv (4 : Int32), iv (3 : Int32), iv (6 : Int32), iv lw, .unset] [(.int ((1 : Int32) <<< ((6 : Int32) &&& 31))), (.int lw)] _
    refine XS.iadd X0.here hx rfl (hb hby d27_17) rfl ?_
    show own_s p e below s₁ m 18 #[iv p0, iv (4 : Int32), iv (3 : Int32), iv (6 : Int32), iv lw, .unset] [(.int (lw + ((1 : Int32) <<< ((6 : Int32) &&& 31))))] _
    refine XS.iconst X0.here hx rfl (hb hby d27_18) ?_
    show own_s p e below s₁ m 19 #[iv p0, iv (4 : Int32), iv (3 : Int32), iv (6 : Int32), iv lw, .unset] [(.int (1 : Int32)), (.int (lw + ((1 : Int32) <<< ((6 : Int32) &&& 31))))] _
    refine XS.isub X0.here hx rfl (hb hby d27_19) rfl ?_
    exact kX
  obtain ⟨hg, hhg⟩ : ∃ z : Int32, z = ((lw + ((1 : Int32) <<< ((6 : Int32) &&& 31))) - (1 : Int32)) := ⟨_, rfl⟩
  rw [← hhg] at pre3
  have hI : hg.toInt = p0.toInt * 64 + 63 := by
    rw [hhg]
    have d3 := c_iadd lw ((1 : Int32) <<< ((6 : Int32) &&& 31))
    have d4 : ((1 : Int32) <<< ((6 : Int32) &&& 31)).toInt = 64 := by decide
    have d5 := rng32 (lw + ((1 : Int32) <<< ((6 : Int32) &&& 31)))
    have d6 := c_isub (lw + ((1 : Int32) <<< ((6 : Int32) &&& 31))) 1
    have d7 : (1 : Int32).toInt = 1 := rfl
    have d8 := rng32 ((lw + ((1 : Int32) <<< ((6 : Int32) &&& 31))) - 1)
    omega
  have pre4 : ∀ t, own_s p e below s₁ m 25 #[iv p0, iv (4 : Int32), iv (3 : Int32), iv (6 : Int32), iv lw, iv hg] [(.int (4 : Int32)), (.int hg)] t → Steps p.tables e below S0 t := by
    intro tX kX
    refine pre3 _ ?_
    show own_s p e below s₁ m 20 #[iv p0, iv (4 : Int32), iv (3 : Int32), iv (6 : Int32), iv lw, .unset] [(.int hg)] _
    refine XS.istore X0.here hx rfl (hb hby d27_20) rfl (l' := #[iv p0, iv (4 : Int32), iv (3 : Int32), iv (6 : Int32), iv lw, iv hg]) rfl ?_
    show own_s p e below s₁ m 22 #[iv p0, iv (4 : Int32), iv (3 : Int32), iv (6 : Int32), iv lw, iv hg] [] _
    refine XS.iload X0.here hx rfl (hb hby d27_22) rfl ?_
    show own_s p e below s₁ m 24 #[iv p0, iv (4 : Int32), iv (3 : Int32), iv (6 : Int32), iv lw, iv hg] [(.int hg)] _
    refine XS.iloadN X0.here hx rfl (hb hby d27_24) rfl ?_
    exact kX
  obtain ⟨_, _, ⟨T5, L5, k5, n5⟩, -, X5, ⟨Lc5, hQ5, l5, y5, z5⟩, st5⟩ := Jvm.LawKit.callS X0 hx (y := (⟨"com/example/weaverbird/weaverbird/model/xml/Utf8DecoderTakePinLaw", "minOf", "(I)I"⟩ : MethodName)) hown (mvT hZ (hw _ (List.mem_of_getElem? (i := 55) rfl))) (mvT hZ (hw _ (List.mem_of_getElem? (i := 56) rfl))) (mvT hZ (hw _ (List.mem_of_getElem? (i := 2) rfl))) (mvT hZ (hw _ (List.mem_of_getElem? (i := 57) rfl))) (by decide) (backOf (W := 1) (rm13 l Z a0 hw []   h0 n0 Z0 ) hZ (hw _ (List.mem_of_getElem? (i := 57) rfl)) (hw _ (List.mem_of_getElem? (i := 2) rfl)) (by decide) (by decide)) (g := (mkF m 25 #[iv p0, iv (4 : Int32), iv (3 : Int32), iv (6 : Int32), iv lw, iv hg] [(.int (4 : Int32)), (.int hg)])) rfl (by rw [hml]; rfl) (argsL := [(.int (4 : Int32))]) (rest := [(.int hg)]) (lenOf pd27_0 rfl) rfl (by show 2 * 0 + _ ≤ _; exact Nat.le_of_eq rfl) (hb hby d27_25) (fun _ _ => ⟨rfl, e0, (by decide : 0 + 0 ≤ _), (by decide : 0 + 0 ≤ _)⟩)
  dsimp only [Pt.U, Pt.locs, Pt.cells, Pt.slots] at X5 l5 y5 z5 st5 hQ5
  subst l5 y5 z5
  obtain ⟨rfl, Nq5, e5⟩ := hQ5
  have N5 := Fr.app N0 Nq5
  obtain ⟨LL6, X6, N6⟩ : ∃ LL, Stand p l e ({ frames := 1, cells := 0, slots := 0, locals := 15 } : Room) s m #[(.int p0), (.int (4 : Int32)), (.int (3 : Int32))] below meth c T5 LL 0 0 ∧ Fr n0 LL := ⟨_, X5, N5⟩
  have pre7 : ∀ t, own_s p e below T5 m 28 #[iv p0, iv (4 : Int32), iv (3 : Int32), iv (6 : Int32), iv lw, iv hg] [(.int (65536 : Int32)), (.int hg)] t → Steps p.tables e below S0 t := fun tX kX => pre4 _ (st5 _ kX)
  by_cases hc8 : hg < (65536 : Int32)
  · skip
    have ihc8 : (hg).toInt < (65536 : Int) := Int32.lt_iff_toInt_lt.mp hc8
    have pre9 : ∀ t, own_s p e below T5 m 57 #[iv p0, iv (4 : Int32), iv (3 : Int32), iv (6 : Int32), iv lw, iv hg] [(.int (0 : Int32))] t → Steps p.tables e below S0 t := by
      intro tX kX
      refine pre7 _ ?_
      show own_s p e below T5 m 28 #[iv p0, iv (4 : Int32), iv (3 : Int32), iv (6 : Int32), iv lw, iv hg] [(.int (65536 : Int32)), (.int hg)] _
      refine XS.icmpYes X6.here hx rfl (pc0 := 28) (pc' := 56) rfl (hb hby d27_28) rfl (tlt hc8).1 (by decide) (by decide) ?_
      show own_s p e below T5 m 56 #[iv p0, iv (4 : Int32), iv (3 : Int32), iv (6 : Int32), iv lw, iv hg] [] _
      refine XS.iconst X6.here hx rfl (hb hby d27_56) ?_
      exact kX
    subst hS0
    obtain ⟨fs, hr, hrun, hended, hW, hsame⟩ := X6.leave (v := (some (.int (0 : Int32)))) (fun h => by rw [Bd.returns] at h; cases h)
    refine ⟨_, _, pre9 _ (retN X6 hx (t := .boolean) Bd.returns (by simp) (hb hby d27_57) hr), hrun, hended, _, _, rfl, ?_, ⟨_, rfl⟩, hW, hsame.mono (by decide) (by decide)⟩
    show Q27 Z p0 h0 n0 (some (.int (0 : Int32))) T5.heap _
    exact ⟨Or.inr (⟨rfl, by omega⟩), N6, e5⟩
  · skip
    have ihc8 : ¬ ((hg).toInt < (65536 : Int)) := fun q => hc8 (Int32.lt_iff_toInt_lt.mpr q)
    have pre10 : ∀ t, own_s p e below T5 m 35 #[iv p0, iv (4 : Int32), iv (3 : Int32), iv (6 : Int32), iv lw, iv hg] [(.int (1114111 : Int32)), (.int lw)] t → Steps p.tables e below S0 t := by
      intro tX kX
      refine pre7 _ ?_
      show own_s p e below T5 m 28 #[iv p0, iv (4 : Int32), iv (3 : Int32), iv (6 : Int32), iv lw, iv hg] [(.int (65536 : Int32)), (.int hg)] _
      refine XS.icmpNo X6.here hx rfl (hb hby d27_28) rfl (flt hc8).1 ?_
      show own_s p e below T5 m 31 #[iv p0, iv (4 : Int32), iv (3 : Int32), iv (6 : Int32), iv lw, iv hg] [] _
      refine XS.iload X6.here hx rfl (hb hby d27_31) rfl ?_
      show own_s p e below T5 m 33 #[iv p0, iv (4 : Int32), iv (3 : Int32), iv (6 : Int32), iv lw, iv hg] [(.int lw)] _
      refine X6.ldcInt hx hown (mvT hZ (hw _ (List.mem_of_getElem? (i := 59) rfl))) (g := (mkF m 33 #[iv p0, iv (4 : Int32), iv (3 : Int32), iv (6 : Int32), iv lw, iv hg] [(.int lw)])) rfl (hb hby d27_33) _ ?_
      exact kX
    by_cases hc11 : (1114111 : Int32) < lw
    · skip
      have ihc11 : (1114111 : Int) < (lw).toInt := Int32.lt_iff_toInt_lt.mp hc11
      have pre12 : ∀ t, own_s p e below T5 m 57 #[iv p0, iv (4 : Int32), iv (3 : Int32), iv (6 : Int32), iv lw, iv hg] [(.int (0 : Int32))] t → Steps p.tables e below S0 t := by
        intro tX kX
        refine pre10 _ ?_
        show own_s p e below T5 m 35 #[iv p0, iv (4 : Int32), iv (3 : Int32), iv (6 : Int32), iv lw, iv hg] [(.int (1114111 : Int32)), (.int lw)] _
        refine XS.icmpYes X6.here hx rfl (pc0 := 35) (pc' := 56) rfl (hb hby d27_35) rfl (tlt hc11).2.2.1 (by decide) (by decide) ?_
        show own_s p e below T5 m 56 #[iv p0, iv (4 : Int32), iv (3 : Int32), iv (6 : Int32), iv lw, iv hg] [] _
        refine XS.iconst X6.here hx rfl (hb hby d27_56) ?_
        exact kX
      subst hS0
      obtain ⟨fs, hr, hrun, hended, hW, hsame⟩ := X6.leave (v := (some (.int (0 : Int32)))) (fun h => by rw [Bd.returns] at h; cases h)
      refine ⟨_, _, pre12 _ (retN X6 hx (t := .boolean) Bd.returns (by simp) (hb hby d27_57) hr), hrun, hended, _, _, rfl, ?_, ⟨_, rfl⟩, hW, hsame.mono (by decide) (by decide)⟩
      show Q27 Z p0 h0 n0 (some (.int (0 : Int32))) T5.heap _
      exact ⟨Or.inr (⟨rfl, by omega⟩), N6, e5⟩
    · skip
      have ihc11 : ¬ ((1114111 : Int) < (lw).toInt) := fun q => hc11 (Int32.lt_iff_toInt_lt.mpr q)
      have pre13 : ∀ t, own_s p e below T5 m 42 #[iv p0, iv (4 : Int32), iv (3 : Int32), iv (6 : Int32), iv lw, iv hg] [(.int (55296 : Int32)), (.int lw)] t → Steps p.tables e below S0 t := by
        intro tX kX
        refine pre10 _ ?_
        show own_s p e below T5 m 35 #[iv p0, iv (4 : Int32), iv (3 : Int32), iv (6 : Int32), iv lw, iv hg] [(.int (1114111 : Int32)), (.int lw)] _
        refine XS.icmpNo X6.here hx rfl (hb hby d27_35) rfl (flt hc11).2.2.1 ?_
        show own_s p e below T5 m 38 #[iv p0, iv (4 : Int32), iv (3 : Int32), iv (6 : Int32), iv lw, iv hg] [] _
        refine XS.iload X6.here hx rfl (hb hby d27_38) rfl ?_
        show own_s p e below T5 m 40 #[iv p0, iv (4 : Int32), iv (3 : Int32), iv (6 : Int32), iv lw, iv hg] [(.int lw)] _
        refine X6.ldcInt hx hown (mvT hZ (hw _ (List.mem_of_getElem? (i := 60) rfl))) (g := (mkF m 40 #[iv p0, iv (4 : Int32), iv (3 : Int32), iv (6 : Int32), iv lw, iv hg] [(.int lw)])) rfl (hb hby d27_40) _ ?_
        exact kX
      by_cases hc14 : lw < (55296 : Int32)
      · skip
        have ihc14 : (lw).toInt < (55296 : Int) := Int32.lt_iff_toInt_lt.mp hc14
        have pre15 : ∀ t, own_s p e below T5 m 57 #[iv p0, iv (4 : Int32), iv (3 : Int32), iv (6 : Int32), iv lw, iv hg] [(.int (1 : Int32))] t → Steps p.tables e below S0 t := by
          intro tX kX
          refine pre13 _ ?_
          show own_s p e below T5 m 42 #[iv p0, iv (4 : Int32), iv (3 : Int32), iv (6 : Int32), iv lw, iv hg] [(.int (55296 : Int32)), (.int lw)] _
          refine XS.icmpYes X6.here hx rfl (pc0 := 42) (pc' := 52) rfl (hb hby d27_42) rfl (tlt hc14).1 (by decide) (by decide) ?_
          show own_s p e below T5 m 52 #[iv p0, iv (4 : Int32), iv (3 : Int32), iv (6 : Int32), iv lw, iv hg] [] _
          refine XS.iconst X6.here hx rfl (hb hby d27_52) ?_
          show own_s p e below T5 m 53 #[iv p0, iv (4 : Int32), iv (3 : Int32), iv (6 : Int32), iv lw, iv hg] [(.int (1 : Int32))] _
          refine XS.goto X6.here hx rfl (pc0 := 53) (pc' := 57) rfl (hb hby d27_53) (by decide) (by decide) ?_
          exact kX
        subst hS0
        obtain ⟨fs, hr, hrun, hended, hW, hsame⟩ := X6.leave (v := (some (.int (1 : Int32)))) (fun h => by rw [Bd.returns] at h; cases h)
        refine ⟨_, _, pre15 _ (retN X6 hx (t := .boolean) Bd.returns (by simp) (hb hby d27_57) hr), hrun, hended, _, _, rfl, ?_, ⟨_, rfl⟩, hW, hsame.mono (by decide) (by decide)⟩
        show Q27 Z p0 h0 n0 (some (.int (1 : Int32))) T5.heap _
        exact ⟨Or.inl ⟨rfl, by omega⟩, N6, e5⟩
      · skip
        have ihc14 : ¬ ((lw).toInt < (55296 : Int)) := fun q => hc14 (Int32.lt_iff_toInt_lt.mpr q)
        have pre16 : ∀ t, own_s p e below T5 m 57 #[iv p0, iv (4 : Int32), iv (3 : Int32), iv (6 : Int32), iv lw, iv hg] [(.int (1 : Int32))] t → Steps p.tables e below S0 t := by
          intro tX kX
          refine pre13 _ ?_
          show own_s p e below T5 m 42 #[iv p0, iv (4 : Int32), iv (3 : Int32), iv (6 : Int32), iv lw, iv hg] [(.int (55296 : Int32)), (.int lw)] _
          refine XS.icmpNo X6.here hx rfl (hb hby d27_42) rfl (flt hc14).1 ?_
          show own_s p e below T5 m 45 #[iv p0, iv (4 : Int32), iv (3 : Int32), iv (6 : Int32), iv lw, iv hg] [] _
          refine XS.iload X6.here hx rfl (hb hby d27_45) rfl ?_
          show own_s p e below T5 m 47 #[iv p0, iv (4 : Int32), iv (3 : Int32), iv (6 : Int32), iv lw, iv hg] [(.int hg)] _
          refine X6.ldcInt hx hown (mvT hZ (hw _ (List.mem_of_getElem? (i := 64) rfl))) (g := (mkF m 47 #[iv p0, iv (4 : Int32), iv (3 : Int32), iv (6 : Int32), iv lw, iv hg] [(.int hg)])) rfl (hb hby d27_47) _ ?_
          show own_s p e below T5 m 49 #[iv p0, iv (4 : Int32), iv (3 : Int32), iv (6 : Int32), iv lw, iv hg] [(.int (57343 : Int32)), (.int hg)] _
          refine XS.icmpNo X6.here hx rfl (hb hby d27_49) rfl (tlt (show (57343 : Int32) < hg from (Int32.lt_iff_toInt_lt.mpr (by omega : (57343 : Int) < (hg).toInt)))).2.2.2 ?_
          show own_s p e below T5 m 52 #[iv p0, iv (4 : Int32), iv (3 : Int32), iv (6 : Int32), iv lw, iv hg] [] _
          refine XS.iconst X6.here hx rfl (hb hby d27_52) ?_
          show own_s p e below T5 m 53 #[iv p0, iv (4 : Int32), iv (3 : Int32), iv (6 : Int32), iv lw, iv hg] [(.int (1 : Int32))] _
          refine XS.goto X6.here hx rfl (pc0 := 53) (pc' := 57) rfl (hb hby d27_53) (by decide) (by decide) ?_
          exact kX
        subst hS0
        obtain ⟨fs, hr, hrun, hended, hW, hsame⟩ := X6.leave (v := (some (.int (1 : Int32)))) (fun h => by rw [Bd.returns] at h; cases h)
        refine ⟨_, _, pre16 _ (retN X6 hx (t := .boolean) Bd.returns (by simp) (hb hby d27_57) hr), hrun, hended, _, _, rfl, ?_, ⟨_, rfl⟩, hW, hsame.mono (by decide) (by decide)⟩
        show Q27 Z p0 h0 n0 (some (.int (1 : Int32))) T5.heap _
        exact ⟨Or.inl ⟨rfl, by omega⟩, N6, e5⟩
theorem d28_0 : decode method_10_code 0 = .ok (.bipush 6, 2) := by decide +kernel
theorem d28_2 : decode method_10_code 2 = .ok (.iload_n 1, 1) := by decide +kernel
theorem d28_3 : decode method_10_code 3 = .ok (.iload_n 2, 1) := by decide +kernel
theorem d28_4 : decode method_10_code 4 = .ok (.isub, 1) := by decide +kernel
theorem d28_5 : decode method_10_code 5 = .ok (.imul, 1) := by decide +kernel
theorem d28_6 : decode method_10_code 6 = .ok (.istore_n 3, 1) := by decide +kernel
theorem d28_7 : decode method_10_code 7 = .ok (.iload_n 0, 1) := by decide +kernel
theorem d28_8 : decode method_10_code 8 = .ok (.iload_n 3, 1) := by decide +kernel
theorem d28_9 : decode method_10_code 9 = .ok (.ishl, 1) := by decide +kernel
theorem d28_10 : decode method_10_code 10 = .ok (.istore 4, 2) := by decide +kernel
theorem d28_12 : decode method_10_code 12 = .ok (.iload 4, 2) := by decide +kernel
theorem d28_14 : decode method_10_code 14 = .ok (.iconst 1, 1) := by decide +kernel
theorem d28_15 : decode method_10_code 15 = .ok (.iload_n 3, 1) := by decide +kernel
theorem d28_16 : decode method_10_code 16 = .ok (.ishl, 1) := by decide +kernel
theorem d28_17 : decode method_10_code 17 = .ok (.iadd, 1) := by decide +kernel
theorem d28_18 : decode method_10_code 18 = .ok (.iconst 1, 1) := by decide +kernel
theorem d28_19 : decode method_10_code 19 = .ok (.isub, 1) := by decide +kernel
theorem d28_20 : decode method_10_code 20 = .ok (.istore 5, 2) := by decide +kernel
theorem d28_22 : decode method_10_code 22 = .ok (.iload 5, 2) := by decide +kernel
theorem d28_24 : decode method_10_code 24 = .ok (.iload_n 1, 1) := by decide +kernel
theorem d28_25 : decode method_10_code 25 = .ok (.invokestatic 50, 3) := by decide +kernel
theorem d28_28 : decode method_10_code 28 = .ok (.if_icmp .lt 28, 3) := by decide +kernel
theorem d28_31 : decode method_10_code 31 = .ok (.iload 4, 2) := by decide +kernel
theorem d28_33 : decode method_10_code 33 = .ok (.ldc 53, 2) := by decide +kernel
theorem d28_35 : decode method_10_code 35 = .ok (.if_icmp .gt 21, 3) := by decide +kernel
theorem d28_38 : decode method_10_code 38 = .ok (.iload 4, 2) := by decide +kernel
theorem d28_40 : decode method_10_code 40 = .ok (.ldc 54, 2) := by decide +kernel
theorem d28_42 : decode method_10_code 42 = .ok (.if_icmp .lt 10, 3) := by decide +kernel
theorem d28_45 : decode method_10_code 45 = .ok (.iload 5, 2) := by decide +kernel
theorem d28_47 : decode method_10_code 47 = .ok (.ldc 55, 2) := by decide +kernel
theorem d28_49 : decode method_10_code 49 = .ok (.if_icmp .le 7, 3) := by decide +kernel
theorem d28_52 : decode method_10_code 52 = .ok (.iconst 1, 1) := by decide +kernel
theorem d28_53 : decode method_10_code 53 = .ok (.goto 4, 3) := by decide +kernel
theorem d28_56 : decode method_10_code 56 = .ok (.iconst 0, 1) := by decide +kernel
theorem d28_57 : decode method_10_code 57 = .ok (.ireturn, 1) := by decide +kernel
theorem pn_28 : plainName "com/example/weaverbird/weaverbird/model/xml/Utf8DecoderTakePinLaw" = true := by first | (simp [plainName, overriddenIn]; done) | decide +kernel
theorem pd28_0 : parseMethodDescriptor "(I)I" = some ⟨[.int], some .int⟩ := by decide +kernel
theorem ef_28 (m : MethodId) (p0 : Int32) : entryFrame m #[(.int p0), (.int (4 : Int32)), (.int (4 : Int32))] 6 = mkF m 0 #[iv p0, iv (4 : Int32), iv (4 : Int32), .unset, .unset, .unset] [] := by first | (simp [entryFrame, mkF, argsToLocals, Value.category]; done) | rfl
def Q28 (Z : State) (p0 : Int32) (h0 : Heap) (n0 : Nat) (v : Option Value) (h : Heap) (L : List Loc) : Prop := ((v = some (.int 1) ∧ ((65536 ≤ p0.toInt * 1 + 0 ∧ p0.toInt * 1 ≤ 1114111 ∧ ¬ (55296 ≤ p0.toInt * 1 ∧ p0.toInt * 1 + 0 ≤ 57343)))) ∨ (v = some (.int 0) ∧ (¬ (65536 ≤ p0.toInt * 1 + 0 ∧ p0.toInt * 1 ≤ 1114111 ∧ ¬ (55296 ≤ p0.toInt * 1 ∧ p0.toInt * 1 + 0 ≤ 57343))))) ∧ Fr n0 L ∧ h = h0
set_option maxRecDepth 65536 in
set_option maxHeartbeats 40000000 in
theorem rm28 (l : Launch) (Z : State) (a0 : Array Value) (hw : ∀ d ∈ tables_1, d.before a0 Z = true) (ws : List Jvm.Cond) (p0 : Int32) (h0 : Heap) (n0 : Nat) (Z0 : n0 ≤ h0.size) (hp0 : 0 ≤ p0.toInt) (hp1 : p0.toInt * 1 < 536870912) :
    MetFree l (⟨"com/example/weaverbird/weaverbird/model/xml/Utf8DecoderTakePinLaw", "feasible", "(III)Z"⟩ : MethodName) (head1 (Jvm.Cond.code (⟨"com/example/weaverbird/weaverbird/model/xml/Utf8DecoderTakePinLaw", "feasible", "(III)Z"⟩ : MethodName) method_10_code 6 (some .boolean) :: ws) ({ frames := 1, cells := 0, slots := 0, locals := 15 } : Room)) (fun aX UX => aX = #[(.int p0), (.int (4 : Int32)), (.int (4 : Int32))] ∧ Z.Warmed39 UX.vm ∧ UX.heap = h0) (fun _ _ _ _ _ => True) (fun _ UX oX UY => ∃ vX LX, oX = .returned vX ∧ Q28 Z p0 h0 n0 vX UY.heap LX ∧ FrameEnd UX oX UY LX ({ frames := 1, cells := 0, slots := 0, locals := 15 } : Room).cells ({ frames := 1, cells := 0, slots := 0, locals := 15 } : Room).slots) := by
  refine MetFree.of_bodySF (plainFor_of_name pn_28) hisR ?_
  intro p e s m args below meth c s₁ Bd hml0 hPX hKX
  obtain ⟨rfl, hZ, hh⟩ := hPX
  have hx := Bd.exec
  have hby := Bd.bytes
  have hml : c.maxLocals = 6 := hml0
  have hown : s.vm.findClass "com/example/weaverbird/weaverbird/model/xml/Utf8DecoderTakePinLaw" = some m.cls := findClass_of_methodNamed Bd.named
  have hnm := (name_of_methodNamed Bd.named Bd.method).1
  have X0 : Stand p l e ({ frames := 1, cells := 0, slots := 0, locals := 15 } : Room) s m #[(.int p0), (.int (4 : Int32)), (.int (4 : Int32))] below meth c s₁ [] 0 0 := Stand.of_body Bd
  have e0 : s₁.heap = h0 := by rw [← hh, Bd.state]; rfl
  have N0 := Fr.nil n0
  have pre0 : ∀ t, Steps p.tables e below (s₁.setTop (mkF m 0 #[iv p0, iv (4 : Int32), iv (4 : Int32), .unset, .unset, .unset] [])) t → Steps p.tables e below (s₁.setTop (entryFrame m #[(.int p0), (.int (4 : Int32)), (.int (4 : Int32))] 6)) t := fun t k => castTop (ef_28 m p0) k
  obtain ⟨S0, hS0⟩ : ∃ z, z = (s₁.setTop (entryFrame m #[(.int p0), (.int (4 : Int32)), (.int (4 : Int32))] 6)) := ⟨_, rfl⟩
  rw [← hS0] at pre0
  have pre1 : ∀ t, own_s p e below s₁ m 6 #[iv p0, iv (4 : Int32), iv (4 : Int32), .unset, .unset, .unset] [(.int ((6 : Int32) * ((4 : Int32) - (4 : Int32))))] t → Steps p.tables e below S0 t := by
    intro tX kX
    refine pre0 _ ?_
    show own_s p e below s₁ m 0 #[iv p0, iv (4 : Int32), iv (4 : Int32), .unset, .unset, .unset] [] _
    refine XS.bipush X0.here hx rfl (hb hby d28_0) ?_
    show own_s p e below s₁ m 2 #[iv p0, iv (4 : Int32), iv (4 : Int32), .unset, .unset, .unset] [(.int (6 : Int32))] _
    refine XS.iloadN X0.here hx rfl (hb hby d28_2) rfl ?_
    show own_s p e below s₁ m 3 #[iv p0, iv (4 : Int32), iv (4 : Int32), .unset, .unset, .unset] [(.int (4 : Int32)), (.int (6 : Int32))] _
    refine XS.iloadN X0.here hx rfl (hb hby d28_3) rfl ?_
    show own_s p e below s₁ m 4 #[iv p0, iv (4 : Int32), iv (4 : Int32), .unset, .unset, .unset] [(.int (4 : Int32)), (.int (4 : Int32)), (.int (6 : Int32))] _
    refine XS.isub X0.here hx rfl (hb hby d28_4) rfl ?_
    show own_s p e below s₁ m 5 #[iv p0, iv (4 : Int32), iv (4 : Int32), .unset, .unset, .unset] [(.int ((4 : Int32) - (4 : Int32))), (.int (6 : Int32))] _
    refine XS.imul X0.here hx rfl (hb hby d28_5) rfl ?_
    exact kX
  rw [show ((6 : Int32) * ((4 : Int32) - (4 : Int32))) = (0 : Int32) from by decide] at pre1
  have pre2 : ∀ t, own_s p e below s₁ m 10 #[iv p0, iv (4 : Int32), iv (4 : Int32), iv (0 : Int32), .unset, .unset] [(.int (p0 <<< ((0 : Int32) &&& 31)))] t → Steps p.tables e below S0 t := by
    intro tX kX
    refine pre1 _ ?_
    show own_s p e below s₁ m 6 #[iv p0, iv (4 : Int32), iv (4 : Int32), .unset, .unset, .unset] [(.int (0 : Int32))] _
    refine XS.istoreN X0.here hx rfl (hb hby d28_6) rfl (l' := #[iv p0, iv (4 : Int32), iv (4 : Int32), iv (0 : Int32), .unset, .unset]) rfl ?_
    show own_s p e below s₁ m 7 #[iv p0, iv (4 : Int32), iv (4 : Int32), iv (0 : Int32), .unset, .unset] [] _
    refine XS.iloadN X0.here hx rfl (hb hby d28_7) rfl ?_
    show own_s p e below s₁ m 8 #[iv p0, iv (4 : Int32), iv (4 : Int32), iv (0 : Int32), .unset, .unset] [(.int p0)] _
    refine XS.iloadN X0.here hx rfl (hb hby d28_8) rfl ?_
    show own_s p e below s₁ m 9 #[iv p0, iv (4 : Int32), iv (4 : Int32), iv (0 : Int32), .unset, .unset] [(.int (0 : Int32)), (.int p0)] _
    refine XS.ishl X0.here hx rfl (hb hby d28_9) rfl ?_
    exact kX
  obtain ⟨lw, hlw⟩ : ∃ z : Int32, z = (p0 <<< ((0 : Int32) &&& 31)) := ⟨_, rfl⟩
  rw [← hlw] at pre2
  have lI : lw.toInt = p0.toInt * 1 := by rw [hlw]; have d1 := c_ishl p0 0 0 (by decide); have d2 := rng32 (p0 <<< ((0 : Int32) &&& 31)); omega
  have pre3 : ∀ t, own_s p e below s₁ m 20 #[iv p0, iv (4 : Int32), iv (4 : Int32), iv (0 : Int32), iv lw, .unset] [(.int ((lw + ((1 : Int32) <<< ((0 : Int32) &&& 31))) - (1 : Int32)))] t → Steps p.tables e below S0 t := by
    intro tX kX
    refine pre2 _ ?_
    show own_s p e below s₁ m 10 #[iv p0, iv (4 : Int32), iv (4 : Int32), iv (0 : Int32), .unset, .unset] [(.int lw)] _
    refine XS.istore X0.here hx rfl (hb hby d28_10) rfl (l' := #[iv p0, iv (4 : Int32), iv (4 : Int32), iv (0 : Int32), iv lw, .unset]) rfl ?_
    show own_s p e below s₁ m 12 #[iv p0, iv (4 : Int32), iv (4 : Int32), iv (0 : Int32), iv lw, .unset] [] _
    refine XS.iload X0.here hx rfl (hb hby d28_12) rfl ?_
    show own_s p e below s₁ m 14 #[iv p0, iv (4 : Int32), iv (4 : Int32), iv (0 : Int32), iv lw, .unset] [(.int lw)] _
    refine XS.iconst X0.here hx rfl (hb hby d28_14) ?_
    show own_s p e below s₁ m 15 #[iv p0, iv (4 : Int32), iv (4 : Int32), iv (0 : Int32), iv lw, .unset] [(.int (1 : Int32)), (.int lw)] _
    refine XS.iloadN X0.here hx rfl (hb hby d28_15) rfl ?_
    show own_s p e below s₁ m 16 #[iv p0, iv (4 : Int32), iv (4 : Int32), iv (0 : Int32), iv lw, .unset] [(.int (0 : Int32)), (.int (1 : Int32)), (.int lw)] _
    refine XS.ishl X0.here hx rfl (hb hby d28_16) rfl ?_
    show own_s p e below s₁ m 17 #[iv p0, iv (4 : Int32), iv (4 : Int32), iv (0 : Int32), iv lw, .unset] [(.int ((1 : Int32) <<< ((0 : Int32) &&& 31))), (.int lw)] _
    refine XS.iadd X0.here hx rfl (hb hby d28_17) rfl ?_
    show own_s p e below s₁ m 18 #[iv p0, iv (4 : Int32), iv (4 : Int32), iv (0 : Int32), iv lw, .unset] [(.int (lw + ((1 : Int32) <<< ((0 : Int32) &&& 31))))] _
    refine XS.iconst X0.here hx rfl (hb hby d28_18) ?_
    show own_s p e below s₁ m 19 #[iv p0, iv (4 : Int32), iv (4 : Int32), iv (0 : Int32), iv lw, .unset] [(.int (1 : Int32)), (.int (lw + ((1 : Int32) <<< ((0 : Int32) &&& 31))))] _
    refine XS.isub X0.here hx rfl (hb hby d28_19) rfl ?_
    exact kX
  obtain ⟨hg, hhg⟩ : ∃ z : Int32, z = ((lw + ((1 : Int32) <<< ((0 : Int32) &&& 31))) - (1 : Int32)) := ⟨_, rfl⟩
  rw [← hhg] at pre3
  have hI : hg.toInt = p0.toInt * 1 + 0 := by
    rw [hhg]
    have d3 := c_iadd lw ((1 : Int32) <<< ((0 : Int32) &&& 31))
    have d4 : ((1 : Int32) <<< ((0 : Int32) &&& 31)).toInt = 1 := by decide
    have d5 := rng32 (lw + ((1 : Int32) <<< ((0 : Int32) &&& 31)))
    have d6 := c_isub (lw + ((1 : Int32) <<< ((0 : Int32) &&& 31))) 1
    have d7 : (1 : Int32).toInt = 1 := rfl
    have d8 := rng32 ((lw + ((1 : Int32) <<< ((0 : Int32) &&& 31))) - 1)
    omega
  have pre4 : ∀ t, own_s p e below s₁ m 25 #[iv p0, iv (4 : Int32), iv (4 : Int32), iv (0 : Int32), iv lw, iv hg] [(.int (4 : Int32)), (.int hg)] t → Steps p.tables e below S0 t := by
    intro tX kX
    refine pre3 _ ?_
    show own_s p e below s₁ m 20 #[iv p0, iv (4 : Int32), iv (4 : Int32), iv (0 : Int32), iv lw, .unset] [(.int hg)] _
    refine XS.istore X0.here hx rfl (hb hby d28_20) rfl (l' := #[iv p0, iv (4 : Int32), iv (4 : Int32), iv (0 : Int32), iv lw, iv hg]) rfl ?_
    show own_s p e below s₁ m 22 #[iv p0, iv (4 : Int32), iv (4 : Int32), iv (0 : Int32), iv lw, iv hg] [] _
    refine XS.iload X0.here hx rfl (hb hby d28_22) rfl ?_
    show own_s p e below s₁ m 24 #[iv p0, iv (4 : Int32), iv (4 : Int32), iv (0 : Int32), iv lw, iv hg] [(.int hg)] _
    refine XS.iloadN X0.here hx rfl (hb hby d28_24) rfl ?_
    exact kX
  obtain ⟨_, _, ⟨T5, L5, k5, n5⟩, -, X5, ⟨Lc5, hQ5, l5, y5, z5⟩, st5⟩ := Jvm.LawKit.callS X0 hx (y := (⟨"com/example/weaverbird/weaverbird/model/xml/Utf8DecoderTakePinLaw", "minOf", "(I)I"⟩ : MethodName)) hown (mvT hZ (hw _ (List.mem_of_getElem? (i := 55) rfl))) (mvT hZ (hw _ (List.mem_of_getElem? (i := 56) rfl))) (mvT hZ (hw _ (List.mem_of_getElem? (i := 2) rfl))) (mvT hZ (hw _ (List.mem_of_getElem? (i := 57) rfl))) (by decide) (backOf (W := 1) (rm13 l Z a0 hw []   h0 n0 Z0 ) hZ (hw _ (List.mem_of_getElem? (i := 57) rfl)) (hw _ (List.mem_of_getElem? (i := 2) rfl)) (by decide) (by decide)) (g := (mkF m 25 #[iv p0, iv (4 : Int32), iv (4 : Int32), iv (0 : Int32), iv lw, iv hg] [(.int (4 : Int32)), (.int hg)])) rfl (by rw [hml]; rfl) (argsL := [(.int (4 : Int32))]) (rest := [(.int hg)]) (lenOf pd28_0 rfl) rfl (by show 2 * 0 + _ ≤ _; exact Nat.le_of_eq rfl) (hb hby d28_25) (fun _ _ => ⟨rfl, e0, (by decide : 0 + 0 ≤ _), (by decide : 0 + 0 ≤ _)⟩)
  dsimp only [Pt.U, Pt.locs, Pt.cells, Pt.slots] at X5 l5 y5 z5 st5 hQ5
  subst l5 y5 z5
  obtain ⟨rfl, Nq5, e5⟩ := hQ5
  have N5 := Fr.app N0 Nq5
  obtain ⟨LL6, X6, N6⟩ : ∃ LL, Stand p l e ({ frames := 1, cells := 0, slots := 0, locals := 15 } : Room) s m #[(.int p0), (.int (4 : Int32)), (.int (4 : Int32))] below meth c T5 LL 0 0 ∧ Fr n0 LL := ⟨_, X5, N5⟩
  have pre7 : ∀ t, own_s p e below T5 m 28 #[iv p0, iv (4 : Int32), iv (4 : Int32), iv (0 : Int32), iv lw, iv hg] [(.int (65536 : Int32)), (.int hg)] t → Steps p.tables e below S0 t := fun tX kX => pre4 _ (st5 _ kX)
  by_cases hc8 : hg < (65536 : Int32)
  · skip
    have ihc8 : (hg).toInt < (65536 : Int) := Int32.lt_iff_toInt_lt.mp hc8
    have pre9 : ∀ t, own_s p e below T5 m 57 #[iv p0, iv (4 : Int32), iv (4 : Int32), iv (0 : Int32), iv lw, iv hg] [(.int (0 : Int32))] t → Steps p.tables e below S0 t := by
      intro tX kX
      refine pre7 _ ?_
      show own_s p e below T5 m 28 #[iv p0, iv (4 : Int32), iv (4 : Int32), iv (0 : Int32), iv lw, iv hg] [(.int (65536 : Int32)), (.int hg)] _
      refine XS.icmpYes X6.here hx rfl (pc0 := 28) (pc' := 56) rfl (hb hby d28_28) rfl (tlt hc8).1 (by decide) (by decide) ?_
      show own_s p e below T5 m 56 #[iv p0, iv (4 : Int32), iv (4 : Int32), iv (0 : Int32), iv lw, iv hg] [] _
      refine XS.iconst X6.here hx rfl (hb hby d28_56) ?_
      exact kX
    subst hS0
    obtain ⟨fs, hr, hrun, hended, hW, hsame⟩ := X6.leave (v := (some (.int (0 : Int32)))) (fun h => by rw [Bd.returns] at h; cases h)
    refine ⟨_, _, pre9 _ (retN X6 hx (t := .boolean) Bd.returns (by simp) (hb hby d28_57) hr), hrun, hended, _, _, rfl, ?_, ⟨_, rfl⟩, hW, hsame.mono (by decide) (by decide)⟩
    show Q28 Z p0 h0 n0 (some (.int (0 : Int32))) T5.heap _
    exact ⟨Or.inr (⟨rfl, by omega⟩), N6, e5⟩
  · skip
    have ihc8 : ¬ ((hg).toInt < (65536 : Int)) := fun q => hc8 (Int32.lt_iff_toInt_lt.mpr q)
    have pre10 : ∀ t, own_s p e below T5 m 35 #[iv p0, iv (4 : Int32), iv (4 : Int32), iv (0 : Int32), iv lw, iv hg] [(.int (1114111 : Int32)), (.int lw)] t → Steps p.tables e below S0 t := by
      intro tX kX
      refine pre7 _ ?_
      show own_s p e below T5 m 28 #[iv p0, iv (4 : Int32), iv (4 : Int32), iv (0 : Int32), iv lw, iv hg] [(.int (65536 : Int32)), (.int hg)] _
      refine XS.icmpNo X6.here hx rfl (hb hby d28_28) rfl (flt hc8).1 ?_
      show own_s p e below T5 m 31 #[iv p0, iv (4 : Int32), iv (4 : Int32), iv (0 : Int32), iv lw, iv hg] [] _
      refine XS.iload X6.here hx rfl (hb hby d28_31) rfl ?_
      show own_s p e below T5 m 33 #[iv p0, iv (4 : Int32), iv (4 : Int32), iv (0 : Int32), iv lw, iv hg] [(.int lw)] _
      refine X6.ldcInt hx hown (mvT hZ (hw _ (List.mem_of_getElem? (i := 59) rfl))) (g := (mkF m 33 #[iv p0, iv (4 : Int32), iv (4 : Int32), iv (0 : Int32), iv lw, iv hg] [(.int lw)])) rfl (hb hby d28_33) _ ?_
      exact kX
    by_cases hc11 : (1114111 : Int32) < lw
    · skip
      have ihc11 : (1114111 : Int) < (lw).toInt := Int32.lt_iff_toInt_lt.mp hc11
      have pre12 : ∀ t, own_s p e below T5 m 57 #[iv p0, iv (4 : Int32), iv (4 : Int32), iv (0 : Int32), iv lw, iv hg] [(.int (0 : Int32))] t → Steps p.tables e below S0 t := by
        intro tX kX
        refine pre10 _ ?_
        show own_s p e below T5 m 35 #[iv p0, iv (4 : Int32), iv (4 : Int32), iv (0 : Int32), iv lw, iv hg] [(.int (1114111 : Int32)), (.int lw)] _
        refine XS.icmpYes X6.here hx rfl (pc0 := 35) (pc' := 56) rfl (hb hby d28_35) rfl (tlt hc11).2.2.1 (by decide) (by decide) ?_
        show own_s p e below T5 m 56 #[iv p0, iv (4 : Int32), iv (4 : Int32), iv (0 : Int32), iv lw, iv hg] [] _
        refine XS.iconst X6.here hx rfl (hb hby d28_56) ?_
        exact kX
      subst hS0
      obtain ⟨fs, hr, hrun, hended, hW, hsame⟩ := X6.leave (v := (some (.int (0 : Int32)))) (fun h => by rw [Bd.returns] at h; cases h)
      refine ⟨_, _, pre12 _ (retN X6 hx (t := .boolean) Bd.returns (by simp) (hb hby d28_57) hr), hrun, hended, _, _, rfl, ?_, ⟨_, rfl⟩, hW, hsame.mono (by decide) (by decide)⟩
      show Q28 Z p0 h0 n0 (some (.int (0 : Int32))) T5.heap _
      exact ⟨Or.inr (⟨rfl, by omega⟩), N6, e5⟩
    · skip
      have ihc11 : ¬ ((1114111 : Int) < (lw).toInt) := fun q => hc11 (Int32.lt_iff_toInt_lt.mpr q)
      have pre13 : ∀ t, own_s p e below T5 m 42 #[iv p0, iv (4 : Int32), iv (4 : Int32), iv (0 : Int32), iv lw, iv hg] [(.int (55296 : Int32)), (.int lw)] t → Steps p.tables e below S0 t := by
        intro tX kX
        refine pre10 _ ?_
        show own_s p e below T5 m 35 #[iv p0, iv (4 : Int32), iv (4 : Int32), iv (0 : Int32), iv lw, iv hg] [(.int (1114111 : Int32)), (.int lw)] _
        refine XS.icmpNo X6.here hx rfl (hb hby d28_35) rfl (flt hc11).2.2.1 ?_
        show own_s p e below T5 m 38 #[iv p0, iv (4 : Int32), iv (4 : Int32), iv (0 : Int32), iv lw, iv hg] [] _
        refine XS.iload X6.here hx rfl (hb hby d28_38) rfl ?_
        show own_s p e below T5 m 40 #[iv p0, iv (4 : Int32), iv (4 : Int32), iv (0 : Int32), iv lw, iv hg] [(.int lw)] _
        refine X6.ldcInt hx hown (mvT hZ (hw _ (List.mem_of_getElem? (i := 60) rfl))) (g := (mkF m 40 #[iv p0, iv (4 : Int32), iv (4 : Int32), iv (0 : Int32), iv lw, iv hg] [(.int lw)])) rfl (hb hby d28_40) _ ?_
        exact kX
      by_cases hc14 : lw < (55296 : Int32)
      · skip
        have ihc14 : (lw).toInt < (55296 : Int) := Int32.lt_iff_toInt_lt.mp hc14
        have pre15 : ∀ t, own_s p e below T5 m 57 #[iv p0, iv (4 : Int32), iv (4 : Int32), iv (0 : Int32), iv lw, iv hg] [(.int (1 : Int32))] t → Steps p.tables e below S0 t := by
          intro tX kX
          refine pre13 _ ?_
          show own_s p e below T5 m 42 #[iv p0, iv (4 : Int32), iv (4 : Int32), iv (0 : Int32), iv lw, iv hg] [(.int (55296 : Int32)), (.int lw)] _
          refine XS.icmpYes X6.here hx rfl (pc0 := 42) (pc' := 52) rfl (hb hby d28_42) rfl (tlt hc14).1 (by decide) (by decide) ?_
          show own_s p e below T5 m 52 #[iv p0, iv (4 : Int32), iv (4 : Int32), iv (0 : Int32), iv lw, iv hg] [] _
          refine XS.iconst X6.here hx rfl (hb hby d28_52) ?_
          show own_s p e below T5 m 53 #[iv p0, iv (4 : Int32), iv (4 : Int32), iv (0 : Int32), iv lw, iv hg] [(.int (1 : Int32))] _
          refine XS.goto X6.here hx rfl (pc0 := 53) (pc' := 57) rfl (hb hby d28_53) (by decide) (by decide) ?_
          exact kX
        subst hS0
        obtain ⟨fs, hr, hrun, hended, hW, hsame⟩ := X6.leave (v := (some (.int (1 : Int32)))) (fun h => by rw [Bd.returns] at h; cases h)
        refine ⟨_, _, pre15 _ (retN X6 hx (t := .boolean) Bd.returns (by simp) (hb hby d28_57) hr), hrun, hended, _, _, rfl, ?_, ⟨_, rfl⟩, hW, hsame.mono (by decide) (by decide)⟩
        show Q28 Z p0 h0 n0 (some (.int (1 : Int32))) T5.heap _
        exact ⟨Or.inl ⟨rfl, by omega⟩, N6, e5⟩
      · skip
        have ihc14 : ¬ ((lw).toInt < (55296 : Int)) := fun q => hc14 (Int32.lt_iff_toInt_lt.mpr q)
        have pre16 : ∀ t, own_s p e below T5 m 57 #[iv p0, iv (4 : Int32), iv (4 : Int32), iv (0 : Int32), iv lw, iv hg] [(.int (1 : Int32))] t → Steps p.tables e below S0 t := by
          intro tX kX
          refine pre13 _ ?_
          show own_s p e below T5 m 42 #[iv p0, iv (4 : Int32), iv (4 : Int32), iv (0 : Int32), iv lw, iv hg] [(.int (55296 : Int32)), (.int lw)] _
          refine XS.icmpNo X6.here hx rfl (hb hby d28_42) rfl (flt hc14).1 ?_
          show own_s p e below T5 m 45 #[iv p0, iv (4 : Int32), iv (4 : Int32), iv (0 : Int32), iv lw, iv hg] [] _
          refine XS.iload X6.here hx rfl (hb hby d28_45) rfl ?_
          show own_s p e below T5 m 47 #[iv p0, iv (4 : Int32), iv (4 : Int32), iv (0 : Int32), iv lw, iv hg] [(.int hg)] _
          refine X6.ldcInt hx hown (mvT hZ (hw _ (List.mem_of_getElem? (i := 64) rfl))) (g := (mkF m 47 #[iv p0, iv (4 : Int32), iv (4 : Int32), iv (0 : Int32), iv lw, iv hg] [(.int hg)])) rfl (hb hby d28_47) _ ?_
          show own_s p e below T5 m 49 #[iv p0, iv (4 : Int32), iv (4 : Int32), iv (0 : Int32), iv lw, iv hg] [(.int (57343 : Int32)), (.int hg)] _
          refine XS.icmpNo X6.here hx rfl (hb hby d28_49) rfl (tlt (show (57343 : Int32) < hg from (Int32.lt_iff_toInt_lt.mpr (by omega : (57343 : Int) < (hg).toInt)))).2.2.2 ?_
          show own_s p e below T5 m 52 #[iv p0, iv (4 : Int32), iv (4 : Int32), iv (0 : Int32), iv lw, iv hg] [] _
          refine XS.iconst X6.here hx rfl (hb hby d28_52) ?_
          show own_s p e below T5 m 53 #[iv p0, iv (4 : Int32), iv (4 : Int32), iv (0 : Int32), iv lw, iv hg] [(.int (1 : Int32))] _
          refine XS.goto X6.here hx rfl (pc0 := 53) (pc' := 57) rfl (hb hby d28_53) (by decide) (by decide) ?_
          exact kX
        subst hS0
        obtain ⟨fs, hr, hrun, hended, hW, hsame⟩ := X6.leave (v := (some (.int (1 : Int32)))) (fun h => by rw [Bd.returns] at h; cases h)
        refine ⟨_, _, pre16 _ (retN X6 hx (t := .boolean) Bd.returns (by simp) (hb hby d28_57) hr), hrun, hended, _, _, rfl, ?_, ⟨_, rfl⟩, hW, hsame.mono (by decide) (by decide)⟩
        show Q28 Z p0 h0 n0 (some (.int (1 : Int32))) T5.heap _
        exact ⟨Or.inl ⟨rfl, by omega⟩, N6, e5⟩
theorem d14_0 : decode method_3_code 0 = .ok (.iload_n 0, 1) := by decide +kernel
theorem d14_1 : decode method_3_code 1 = .ok (.bipush 8, 2) := by decide +kernel
theorem d14_3 : decode method_3_code 3 = .ok (.ishr, 1) := by decide +kernel
theorem d14_4 : decode method_3_code 4 = .ok (.iconst 1, 1) := by decide +kernel
theorem d14_5 : decode method_3_code 5 = .ok (.iand, 1) := by decide +kernel
theorem d14_6 : decode method_3_code 6 = .ok (.ifCond .eq 14, 3) := by decide +kernel
theorem d14_9 : decode method_3_code 9 = .ok (.sipush 128, 3) := by decide +kernel
theorem d14_12 : decode method_3_code 12 = .ok (.iload_n 0, 1) := by decide +kernel
theorem d14_13 : decode method_3_code 13 = .ok (.bipush 63, 2) := by decide +kernel
theorem d14_15 : decode method_3_code 15 = .ok (.iand, 1) := by decide +kernel
theorem d14_16 : decode method_3_code 16 = .ok (.ior, 1) := by decide +kernel
theorem d14_17 : decode method_3_code 17 = .ok (.goto 8, 3) := by decide +kernel
theorem d14_20 : decode method_3_code 20 = .ok (.iload_n 0, 1) := by decide +kernel
theorem d14_21 : decode method_3_code 21 = .ok (.sipush 255, 3) := by decide +kernel
theorem d14_24 : decode method_3_code 24 = .ok (.iand, 1) := by decide +kernel
theorem d14_25 : decode method_3_code 25 = .ok (.ireturn, 1) := by decide +kernel
theorem pn_14 : plainName "com/example/weaverbird/weaverbird/model/xml/Utf8DecoderTakePinLaw" = true := by first | (simp [plainName, overriddenIn]; done) | decide +kernel
theorem ef_14 (m : MethodId) (p0 : Int32) : entryFrame m #[(.int p0)] 1 = mkF m 0 #[iv p0] [] := by first | (simp [entryFrame, mkF, argsToLocals, Value.category]; done) | rfl
def Q14 (Z : State) (p0 : Int32) (h0 : Heap) (n0 : Nat) (v : Option Value) (h : Heap) (L : List Loc) : Prop := (∃ v' : Int32, v = some (.int v') ∧ (0 ≤ v'.toInt ∧ v'.toInt ≤ 255)) ∧ Fr n0 L ∧ h = h0
set_option maxRecDepth 65536 in
set_option maxHeartbeats 40000000 in
theorem rm14 (l : Launch) (Z : State) (a0 : Array Value) (hw : ∀ d ∈ tables_1, d.before a0 Z = true) (ws : List Jvm.Cond) (p0 : Int32) (h0 : Heap) (n0 : Nat) (Z0 : n0 ≤ h0.size)  :
    MetFree l (⟨"com/example/weaverbird/weaverbird/model/xml/Utf8DecoderTakePinLaw", "unit", "(I)I"⟩ : MethodName) (head1 (Jvm.Cond.code (⟨"com/example/weaverbird/weaverbird/model/xml/Utf8DecoderTakePinLaw", "unit", "(I)I"⟩ : MethodName) method_3_code 1 (some .int) :: ws) ({ frames := 0, cells := 0, slots := 0, locals := 0 } : Room)) (fun aX UX => aX = #[(.int p0)] ∧ Z.Warmed39 UX.vm ∧ UX.heap = h0) (fun _ _ _ _ _ => True) (fun _ UX oX UY => ∃ vX LX, oX = .returned vX ∧ Q14 Z p0 h0 n0 vX UY.heap LX ∧ FrameEnd UX oX UY LX ({ frames := 0, cells := 0, slots := 0, locals := 0 } : Room).cells ({ frames := 0, cells := 0, slots := 0, locals := 0 } : Room).slots) := by
  refine MetFree.of_bodySF (plainFor_of_name pn_14) hisR ?_
  intro p e s m args below meth c s₁ Bd hml0 hPX hKX
  obtain ⟨rfl, hZ, hh⟩ := hPX
  have hx := Bd.exec
  have hby := Bd.bytes
  have hml : c.maxLocals = 1 := hml0
  have hown : s.vm.findClass "com/example/weaverbird/weaverbird/model/xml/Utf8DecoderTakePinLaw" = some m.cls := findClass_of_methodNamed Bd.named
  have hnm := (name_of_methodNamed Bd.named Bd.method).1
  have X0 : Stand p l e ({ frames := 0, cells := 0, slots := 0, locals := 0 } : Room) s m #[(.int p0)] below meth c s₁ [] 0 0 := Stand.of_body Bd
  have e0 : s₁.heap = h0 := by rw [← hh, Bd.state]; rfl
  have N0 := Fr.nil n0
  have pre0 : ∀ t, Steps p.tables e below (s₁.setTop (mkF m 0 #[iv p0] [])) t → Steps p.tables e below (s₁.setTop (entryFrame m #[(.int p0)] 1)) t := fun t k => castTop (ef_14 m p0) k
  obtain ⟨S0, hS0⟩ : ∃ z, z = (s₁.setTop (entryFrame m #[(.int p0)] 1)) := ⟨_, rfl⟩
  rw [← hS0] at pre0
  have pre1 : ∀ t, own_s p e below s₁ m 6 #[iv p0] [(.int ((p0 >>> ((8 : Int32) &&& 31)) &&& (1 : Int32)))] t → Steps p.tables e below S0 t := by
    intro tX kX
    refine pre0 _ ?_
    show own_s p e below s₁ m 0 #[iv p0] [] _
    refine XS.iloadN X0.here hx rfl (hb hby d14_0) rfl ?_
    show own_s p e below s₁ m 1 #[iv p0] [(.int p0)] _
    refine XS.bipush X0.here hx rfl (hb hby d14_1) ?_
    show own_s p e below s₁ m 3 #[iv p0] [(.int (8 : Int32)), (.int p0)] _
    refine XS.ishr X0.here hx rfl (hb hby d14_3) rfl ?_
    show own_s p e below s₁ m 4 #[iv p0] [(.int (p0 >>> ((8 : Int32) &&& 31)))] _
    refine XS.iconst X0.here hx rfl (hb hby d14_4) ?_
    show own_s p e below s₁ m 5 #[iv p0] [(.int (1 : Int32)), (.int (p0 >>> ((8 : Int32) &&& 31)))] _
    refine XS.iand X0.here hx rfl (hb hby d14_5) rfl ?_
    exact kX
  by_cases hc2 : ((p0 >>> ((8 : Int32) &&& 31)) &&& (1 : Int32)) = (0 : Int32)
  · skip
    have pre3 : ∀ t, own_s p e below s₁ m 25 #[iv p0] [(.int (p0 &&& (255 : Int32)))] t → Steps p.tables e below S0 t := by
      intro tX kX
      refine pre1 _ ?_
      show own_s p e below s₁ m 6 #[iv p0] [(.int ((p0 >>> ((8 : Int32) &&& 31)) &&& (1 : Int32)))] _
      refine XS.ifYes X0.here hx rfl (pc0 := 6) (pc' := 20) rfl (hb hby d14_6) rfl ((if0 _ _).trans (teq hc2).1) (by decide) (by decide) ?_
      show own_s p e below s₁ m 20 #[iv p0] [] _
      refine XS.iloadN X0.here hx rfl (hb hby d14_20) rfl ?_
      show own_s p e below s₁ m 21 #[iv p0] [(.int p0)] _
      refine XS.sipush X0.here hx rfl (hb hby d14_21) ?_
      show own_s p e below s₁ m 24 #[iv p0] [(.int (255 : Int32)), (.int p0)] _
      refine XS.iand X0.here hx rfl (hb hby d14_24) rfl ?_
      exact kX
    subst hS0
    obtain ⟨fs, hr, hrun, hended, hW, hsame⟩ := X0.leave (v := (some (.int (p0 &&& (255 : Int32))))) (fun h => by rw [Bd.returns] at h; cases h)
    refine ⟨_, _, pre3 _ (retI X0 hx Bd.returns (hb hby d14_25) hr), hrun, hended, _, _, rfl, ?_, ⟨_, rfl⟩, hW, hsame.mono (by decide) (by decide)⟩
    show Q14 Z p0 h0 n0 (some (.int (p0 &&& (255 : Int32)))) s₁.heap _
    exact ⟨⟨_, rfl, by have := c_mask p0 255 8 (by decide) (by decide); omega⟩, N0, e0⟩
  · skip
    have pre4 : ∀ t, own_s p e below s₁ m 25 #[iv p0] [(.int ((128 : Int32) ||| (p0 &&& (63 : Int32))))] t → Steps p.tables e below S0 t := by
      intro tX kX
      refine pre1 _ ?_
      show own_s p e below s₁ m 6 #[iv p0] [(.int ((p0 >>> ((8 : Int32) &&& 31)) &&& (1 : Int32)))] _
      refine XS.ifNo X0.here hx rfl (hb hby d14_6) rfl ((if0 _ _).trans (feq hc2).1) ?_
      show own_s p e below s₁ m 9 #[iv p0] [] _
      refine XS.sipush X0.here hx rfl (hb hby d14_9) ?_
      show own_s p e below s₁ m 12 #[iv p0] [(.int (128 : Int32))] _
      refine XS.iloadN X0.here hx rfl (hb hby d14_12) rfl ?_
      show own_s p e below s₁ m 13 #[iv p0] [(.int p0), (.int (128 : Int32))] _
      refine XS.bipush X0.here hx rfl (hb hby d14_13) ?_
      show own_s p e below s₁ m 15 #[iv p0] [(.int (63 : Int32)), (.int p0), (.int (128 : Int32))] _
      refine XS.iand X0.here hx rfl (hb hby d14_15) rfl ?_
      show own_s p e below s₁ m 16 #[iv p0] [(.int (p0 &&& (63 : Int32))), (.int (128 : Int32))] _
      refine XS.ior X0.here hx rfl (hb hby d14_16) rfl ?_
      show own_s p e below s₁ m 17 #[iv p0] [(.int ((128 : Int32) ||| (p0 &&& (63 : Int32))))] _
      refine XS.goto X0.here hx rfl (pc0 := 17) (pc' := 25) rfl (hb hby d14_17) (by decide) (by decide) ?_
      exact kX
    subst hS0
    obtain ⟨fs, hr, hrun, hended, hW, hsame⟩ := X0.leave (v := (some (.int ((128 : Int32) ||| (p0 &&& (63 : Int32)))))) (fun h => by rw [Bd.returns] at h; cases h)
    refine ⟨_, _, pre4 _ (retI X0 hx Bd.returns (hb hby d14_25) hr), hrun, hended, _, _, rfl, ?_, ⟨_, rfl⟩, hW, hsame.mono (by decide) (by decide)⟩
    show Q14 Z p0 h0 n0 (some (.int ((128 : Int32) ||| (p0 &&& (63 : Int32))))) s₁.heap _
    exact ⟨⟨_, rfl, by have := own_cpl p0 63 (by decide); omega⟩, N0, e0⟩
theorem d15_0 : decode method_5_code 0 = .ok (.aload_n 0, 1) := by decide +kernel
theorem d15_1 : decode method_5_code 1 = .ok (.iload_n 1, 1) := by decide +kernel
theorem d15_2 : decode method_5_code 2 = .ok (.invokevirtual 16, 3) := by decide +kernel
theorem d15_5 : decode method_5_code 5 = .ok (.istore_n 2, 1) := by decide +kernel
theorem d15_6 : decode method_5_code 6 = .ok (.iload_n 1, 1) := by decide +kernel
theorem d15_7 : decode method_5_code 7 = .ok (.invokestatic 19, 3) := by decide +kernel
theorem d15_10 : decode method_5_code 10 = .ok (.istore_n 3, 1) := by decide +kernel
theorem d15_11 : decode method_5_code 11 = .ok (.iload_n 3, 1) := by decide +kernel
theorem d15_12 : decode method_5_code 12 = .ok (.iconst 1, 1) := by decide +kernel
theorem d15_13 : decode method_5_code 13 = .ok (.if_icmp .ne 30, 3) := by decide +kernel
theorem d15_16 : decode method_5_code 16 = .ok (.iload_n 2, 1) := by decide +kernel
theorem d15_17 : decode method_5_code 17 = .ok (.iload_n 1, 1) := by decide +kernel
theorem d15_18 : decode method_5_code 18 = .ok (.if_icmp .ne 23, 3) := by decide +kernel
theorem d15_21 : decode method_5_code 21 = .ok (.aload_n 0, 1) := by decide +kernel
theorem d15_22 : decode method_5_code 22 = .ok (.invokevirtual 38, 3) := by decide +kernel
theorem d15_25 : decode method_5_code 25 = .ok (.iconst 1, 1) := by decide +kernel
theorem d15_26 : decode method_5_code 26 = .ok (.if_icmp .ne 15, 3) := by decide +kernel
theorem d15_29 : decode method_5_code 29 = .ok (.aload_n 0, 1) := by decide +kernel
theorem d15_30 : decode method_5_code 30 = .ok (.invokevirtual 42, 3) := by decide +kernel
theorem d15_33 : decode method_5_code 33 = .ok (.iconst 1, 1) := by decide +kernel
theorem d15_34 : decode method_5_code 34 = .ok (.if_icmp .ne 7, 3) := by decide +kernel
theorem d15_37 : decode method_5_code 37 = .ok (.iconst 1, 1) := by decide +kernel
theorem d15_38 : decode method_5_code 38 = .ok (.goto 4, 3) := by decide +kernel
theorem d15_42 : decode method_5_code 42 = .ok (.ireturn, 1) := by decide +kernel
theorem d15_43 : decode method_5_code 43 = .ok (.iload_n 3, 1) := by decide +kernel
theorem d15_44 : decode method_5_code 44 = .ok (.ifCond .eq 16, 3) := by decide +kernel
theorem d15_47 : decode method_5_code 47 = .ok (.iload_n 1, 1) := by decide +kernel
theorem d15_48 : decode method_5_code 48 = .ok (.iload_n 3, 1) := by decide +kernel
theorem d15_49 : decode method_5_code 49 = .ok (.invokestatic 26, 3) := by decide +kernel
theorem d15_52 : decode method_5_code 52 = .ok (.iload_n 3, 1) := by decide +kernel
theorem d15_53 : decode method_5_code 53 = .ok (.iconst 1, 1) := by decide +kernel
theorem d15_54 : decode method_5_code 54 = .ok (.invokestatic 30, 3) := by decide +kernel
theorem d15_57 : decode method_5_code 57 = .ok (.ifCond .ne 31, 3) := by decide +kernel
theorem d15_60 : decode method_5_code 60 = .ok (.iload_n 2, 1) := by decide +kernel
theorem d15_61 : decode method_5_code 61 = .ok (.bipush (-3), 2) := by decide +kernel
theorem d15_63 : decode method_5_code 63 = .ok (.if_icmp .ne 23, 3) := by decide +kernel
theorem d15_66 : decode method_5_code 66 = .ok (.aload_n 0, 1) := by decide +kernel
theorem d15_67 : decode method_5_code 67 = .ok (.invokevirtual 38, 3) := by decide +kernel
theorem d15_70 : decode method_5_code 70 = .ok (.iconst 1, 1) := by decide +kernel
theorem d15_71 : decode method_5_code 71 = .ok (.if_icmp .ne 15, 3) := by decide +kernel
theorem d15_74 : decode method_5_code 74 = .ok (.aload_n 0, 1) := by decide +kernel
theorem d15_75 : decode method_5_code 75 = .ok (.invokevirtual 42, 3) := by decide +kernel
theorem d15_78 : decode method_5_code 78 = .ok (.iconst 1, 1) := by decide +kernel
theorem d15_79 : decode method_5_code 79 = .ok (.if_icmp .ne 7, 3) := by decide +kernel
theorem d15_82 : decode method_5_code 82 = .ok (.iconst 1, 1) := by decide +kernel
theorem d15_83 : decode method_5_code 83 = .ok (.goto 4, 3) := by decide +kernel
theorem d15_87 : decode method_5_code 87 = .ok (.ireturn, 1) := by decide +kernel
theorem d15_88 : decode method_5_code 88 = .ok (.iload_n 2, 1) := by decide +kernel
theorem d15_89 : decode method_5_code 89 = .ok (.iconst (-1), 1) := by decide +kernel
theorem d15_90 : decode method_5_code 90 = .ok (.if_icmp .ne 23, 3) := by decide +kernel
theorem d15_93 : decode method_5_code 93 = .ok (.aload_n 0, 1) := by decide +kernel
theorem d15_94 : decode method_5_code 94 = .ok (.invokevirtual 38, 3) := by decide +kernel
theorem d15_97 : decode method_5_code 97 = .ok (.iload_n 3, 1) := by decide +kernel
theorem d15_98 : decode method_5_code 98 = .ok (.if_icmp .ne 15, 3) := by decide +kernel
theorem d15_101 : decode method_5_code 101 = .ok (.aload_n 0, 1) := by decide +kernel
theorem d15_102 : decode method_5_code 102 = .ok (.invokevirtual 42, 3) := by decide +kernel
theorem d15_105 : decode method_5_code 105 = .ok (.iconst 1, 1) := by decide +kernel
theorem d15_106 : decode method_5_code 106 = .ok (.if_icmp .ne 7, 3) := by decide +kernel
theorem d15_109 : decode method_5_code 109 = .ok (.iconst 1, 1) := by decide +kernel
theorem d15_110 : decode method_5_code 110 = .ok (.goto 4, 3) := by decide +kernel
theorem d15_114 : decode method_5_code 114 = .ok (.ireturn, 1) := by decide +kernel
theorem pn_15 : plainName "com/example/weaverbird/weaverbird/model/xml/Utf8DecoderTakePinLaw" = true := by first | (simp [plainName, overriddenIn]; done) | decide +kernel
theorem pd15_0 : parseMethodDescriptor "(I)I" = some ⟨[.int], some .int⟩ := by decide +kernel
theorem pd15_1 : parseMethodDescriptor "()I" = some ⟨[], some .int⟩ := by decide +kernel
theorem pd15_2 : parseMethodDescriptor "(II)I" = some ⟨[.int, .int], some .int⟩ := by decide +kernel
theorem pd15_3 : parseMethodDescriptor "(III)Z" = some ⟨[.int, .int, .int], some .boolean⟩ := by decide +kernel
theorem ef_15 (m : MethodId) (a : Addr) (p1 : Int32) : entryFrame m #[(.ref a), (.int p1)] 4 = mkF m 0 #[rv a, iv p1, .unset, .unset] [] := by first | (simp [entryFrame, mkF, argsToLocals, Value.category]; done) | rfl
def Q15 (Z : State) (a : Addr) (p1 : Int32) (pa : Int32) (le : Int32) (ta : Int32) (lo : Int32) (hi : Int32) (re : Int32) (h0 : Heap) (n0 : Nat) (v : Option Value) (h : Heap) (L : List Loc) : Prop := v = some (.int 1) ∧ Fr n0 L
set_option maxRecDepth 65536 in
set_option maxHeartbeats 40000000 in
theorem rm15 (l : Launch) (Z : State) (a0 : Array Value) (hw : ∀ d ∈ tables_1, d.before a0 Z = true) (ws : List Jvm.Cond) (a : Addr) (p1 : Int32) (pa : Int32) (le : Int32) (ta : Int32) (lo : Int32) (hi : Int32) (re : Int32) (h0 : Heap) (n0 : Nat) (Z0 : n0 ≤ h0.size) (E_a : Exa Z h0 a "com/example/weaverbird/weaverbird/model/xml/Utf8Decoder") (F_pa : Fld Z h0 a "com/example/weaverbird/weaverbird/model/xml/Utf8Decoder" "partial" "I" (.int pa)) (F_le : Fld Z h0 a "com/example/weaverbird/weaverbird/model/xml/Utf8Decoder" "length" "I" (.int le)) (F_ta : Fld Z h0 a "com/example/weaverbird/weaverbird/model/xml/Utf8Decoder" "taken" "I" (.int ta)) (F_lo : Fld Z h0 a "com/example/weaverbird/weaverbird/model/xml/Utf8Decoder" "low" "I" (.int lo)) (F_hi : Fld Z h0 a "com/example/weaverbird/weaverbird/model/xml/Utf8Decoder" "high" "I" (.int hi)) (F_re : Fld Z h0 a "com/example/weaverbird/weaverbird/model/xml/Utf8Decoder" "reading" "Z" (.int re)) (g_a : n0 ≤ a) (hre : re = 0) (hx0 : 0 ≤ p1.toInt) (hx1 : p1.toInt ≤ 255) :
    MetFree l (⟨"com/example/weaverbird/weaverbird/model/xml/Utf8DecoderTakePinLaw", "after", "(Lcom/example/weaverbird/weaverbird/model/xml/Utf8Decoder;I)Z"⟩ : MethodName) (head1 (Jvm.Cond.code (⟨"com/example/weaverbird/weaverbird/model/xml/Utf8DecoderTakePinLaw", "after", "(Lcom/example/weaverbird/weaverbird/model/xml/Utf8Decoder;I)Z"⟩ : MethodName) method_5_code 4 (some .boolean) :: ws) ({ frames := 2, cells := 0, slots := 0, locals := 40 } : Room)) (fun aX UX => aX = #[(.ref a), (.int p1)] ∧ Z.Warmed39 UX.vm ∧ UX.heap = h0) (fun _ _ _ _ _ => True) (fun _ UX oX UY => ∃ vX LX, oX = .returned vX ∧ Q15 Z a p1 pa le ta lo hi re h0 n0 vX UY.heap LX ∧ FrameEnd UX oX UY LX ({ frames := 2, cells := 0, slots := 0, locals := 40 } : Room).cells ({ frames := 2, cells := 0, slots := 0, locals := 40 } : Room).slots) := by
  refine MetFree.of_bodySF (plainFor_of_name pn_15) hisR ?_
  intro p e s m args below meth c s₁ Bd hml0 hPX hKX
  obtain ⟨rfl, hZ, hh⟩ := hPX
  have hx := Bd.exec
  have hby := Bd.bytes
  have hml : c.maxLocals = 4 := hml0
  have hown : s.vm.findClass "com/example/weaverbird/weaverbird/model/xml/Utf8DecoderTakePinLaw" = some m.cls := findClass_of_methodNamed Bd.named
  have hnm := (name_of_methodNamed Bd.named Bd.method).1
  have X0 : Stand p l e ({ frames := 2, cells := 0, slots := 0, locals := 40 } : Room) s m #[(.ref a), (.int p1)] below meth c s₁ [] 0 0 := Stand.of_body Bd
  have e0 : s₁.heap = h0 := by rw [← hh, Bd.state]; rfl
  have N0 := Fr.nil n0
  have pre0 : ∀ t, Steps p.tables e below (s₁.setTop (mkF m 0 #[rv a, iv p1, .unset, .unset] [])) t → Steps p.tables e below (s₁.setTop (entryFrame m #[(.ref a), (.int p1)] 4)) t := fun t k => castTop (ef_15 m a p1) k
  obtain ⟨S0, hS0⟩ : ∃ z, z = (s₁.setTop (entryFrame m #[(.ref a), (.int p1)] 4)) := ⟨_, rfl⟩
  rw [← hS0] at pre0
  have pre1 : ∀ t, own_s p e below s₁ m 2 #[rv a, iv p1, .unset, .unset] [(.int p1), (.ref a)] t → Steps p.tables e below S0 t := by
    intro tX kX
    refine pre0 _ ?_
    show own_s p e below s₁ m 0 #[rv a, iv p1, .unset, .unset] [] _
    refine XS.aloadN X0.here hx rfl (hb hby d15_0) rfl rfl ?_
    show own_s p e below s₁ m 1 #[rv a, iv p1, .unset, .unset] [(.ref a)] _
    refine XS.iloadN X0.here hx rfl (hb hby d15_1) rfl ?_
    exact kX
  obtain ⟨cq2, kq2, q2a, q2b, q2c⟩ := isOf hZ e0 E_a
  obtain ⟨_, _, ⟨T2, L2, k2, n2⟩, -, X2, ⟨Lc2, hQ2, l2, y2, z2⟩, st2⟩ := X0.virtualBack hx (y := (⟨"com/example/weaverbird/weaverbird/model/xml/Utf8Decoder", "take", "(I)I"⟩ : MethodName)) (z := (⟨"com/example/weaverbird/weaverbird/model/xml/Utf8Decoder", "take", "(I)I"⟩ : MethodName)) hown (mvT hZ (hw _ (List.mem_of_getElem? (i := 13) rfl))) (mvT hZ (hw _ (List.mem_of_getElem? (i := 14) rfl))) (notFace_of_selects (args := #[]) (mvT hZ (hw _ (List.mem_of_getElem? (i := 16) rfl)))) (mvT hZ (hw _ (List.mem_of_getElem? (i := 16) rfl))) (mvT hZ (hw _ (List.mem_of_getElem? (i := 15) rfl))) (by decide) (backOf (W := 0) (rm2 l Z a0 hw [] a p1 pa le ta lo hi re h0 n0 Z0 E_a F_pa F_le F_ta F_lo F_hi F_re g_a hre (by omega) (by omega)) hZ (hw _ (List.mem_of_getElem? (i := 17) rfl)) (hw _ (List.mem_of_getElem? (i := 6) rfl)) (by decide) (by decide)) q2a q2c (g := (mkF m 2 #[rv a, iv p1, .unset, .unset] [(.int p1), (.ref a)])) rfl (by rw [hml]; rfl) (Steps.refl _) (argsL := [(.int p1)]) (rest := []) (lenOf pd15_0 rfl) rfl (by show 2 * 0 + _ ≤ _; exact Nat.le_of_eq rfl) (hb hby d15_2) (fun _ _ => ⟨rfl, e0, (by decide : 0 + 0 ≤ _), (by decide : 0 + 0 ≤ _)⟩)
  dsimp only [Pt.U, Pt.locs, Pt.cells, Pt.slots] at X2 l2 y2 z2 st2 hQ2
  subst l2 y2 z2
  obtain ⟨v2, pa2, le2, ta2, lo2, hi2, re2, rfl, Nq2, Kq2, fE2, f2_pa, f2_le, f2_ta, f2_lo, f2_hi, f2_re, R2⟩ := hQ2
  unfold own_T0 at R2
  have N2 := Fr.app N0 Nq2
  have e2 : T2.heap = T2.heap := rfl
  have Z2 : n0 ≤ T2.heap.size := Nat.le_trans Z0 Kq2.1
  obtain ⟨LL3, X3, N3⟩ : ∃ LL, Stand p l e ({ frames := 2, cells := 0, slots := 0, locals := 40 } : Room) s m #[(.ref a), (.int p1)] below meth c T2 LL 0 0 ∧ Fr n0 LL := ⟨_, X2, N2⟩
  have pre4 : ∀ t, own_s p e below T2 m 5 #[rv a, iv p1, .unset, .unset] [(.int v2)] t → Steps p.tables e below S0 t := fun tX kX => pre1 _ (st2.trans kX)
  have pre5 : ∀ t, own_s p e below T2 m 7 #[rv a, iv p1, iv v2, .unset] [(.int p1)] t → Steps p.tables e below S0 t := by
    intro tX kX
    refine pre4 _ ?_
    show own_s p e below T2 m 5 #[rv a, iv p1, .unset, .unset] [(.int v2)] _
    refine XS.istoreN X3.here hx rfl (hb hby d15_5) rfl (l' := #[rv a, iv p1, iv v2, .unset]) rfl ?_
    show own_s p e below T2 m 6 #[rv a, iv p1, iv v2, .unset] [] _
    refine XS.iloadN X3.here hx rfl (hb hby d15_6) rfl ?_
    exact kX
  obtain ⟨_, _, ⟨T6, L6, k6, n6⟩, -, X6, ⟨Lc6, hQ6, l6, y6, z6⟩, st6⟩ := Jvm.LawKit.callS X3 hx (y := (⟨"com/example/weaverbird/weaverbird/model/xml/Utf8DecoderTakePinLaw", "leadLen", "(I)I"⟩ : MethodName)) hown (mvT hZ (hw _ (List.mem_of_getElem? (i := 30) rfl))) (mvT hZ (hw _ (List.mem_of_getElem? (i := 31) rfl))) (mvT hZ (hw _ (List.mem_of_getElem? (i := 2) rfl))) (mvT hZ (hw _ (List.mem_of_getElem? (i := 32) rfl))) (by decide) (backOf (W := 0) (rm6 l Z a0 hw [] p1  T2.heap n0 Z2 (by omega) (by omega)) hZ (hw _ (List.mem_of_getElem? (i := 32) rfl)) (hw _ (List.mem_of_getElem? (i := 2) rfl)) (by decide) (by decide)) (g := (mkF m 7 #[rv a, iv p1, iv v2, .unset] [(.int p1)])) rfl (by rw [hml]; rfl) (argsL := [(.int p1)]) (rest := []) (lenOf pd15_0 rfl) rfl (by show 2 * 0 + _ ≤ _; exact Nat.le_of_eq rfl) (hb hby d15_7) (fun _ _ => ⟨rfl, e2, (by decide : 0 + 0 ≤ _), (by decide : 0 + 0 ≤ _)⟩)
  dsimp only [Pt.U, Pt.locs, Pt.cells, Pt.slots] at X6 l6 y6 z6 st6 hQ6
  subst l6 y6 z6
  obtain ⟨D6, Nq6, e6⟩ := hQ6
  have N6 := Fr.app N3 Nq6
  rcases D6 with ⟨rfl, B6⟩ | ⟨rfl, B6⟩ | ⟨rfl, B6⟩ | ⟨rfl, B6⟩ | ⟨rfl, B6⟩
  · skip
    obtain ⟨LL7, X7, N7⟩ : ∃ LL, Stand p l e ({ frames := 2, cells := 0, slots := 0, locals := 40 } : Room) s m #[(.ref a), (.int p1)] below meth c T6 LL 0 0 ∧ Fr n0 LL := ⟨_, X6, N6⟩
    have pre8 : ∀ t, own_s p e below T6 m 10 #[rv a, iv p1, iv v2, .unset] [(.int (1 : Int32))] t → Steps p.tables e below S0 t := fun tX kX => pre5 _ (st6 _ kX)
    have pre9 : ∀ t, own_s p e below T6 m 22 #[rv a, iv p1, iv v2, iv (1 : Int32)] [(.ref a)] t → Steps p.tables e below S0 t := by
      intro tX kX
      refine pre8 _ ?_
      show own_s p e below T6 m 10 #[rv a, iv p1, iv v2, .unset] [(.int (1 : Int32))] _
      refine XS.istoreN X7.here hx rfl (hb hby d15_10) rfl (l' := #[rv a, iv p1, iv v2, iv (1 : Int32)]) rfl ?_
      show own_s p e below T6 m 11 #[rv a, iv p1, iv v2, iv (1 : Int32)] [] _
      refine XS.iloadN X7.here hx rfl (hb hby d15_11) rfl ?_
      show own_s p e below T6 m 12 #[rv a, iv p1, iv v2, iv (1 : Int32)] [(.int (1 : Int32))] _
      refine XS.iconst X7.here hx rfl (hb hby d15_12) ?_
      show own_s p e below T6 m 13 #[rv a, iv p1, iv v2, iv (1 : Int32)] [(.int (1 : Int32)), (.int (1 : Int32))] _
      refine XS.icmpNo X7.here hx rfl (hb hby d15_13) rfl (teq (by decide : (1 : Int32) = (1 : Int32))).2 ?_
      show own_s p e below T6 m 16 #[rv a, iv p1, iv v2, iv (1 : Int32)] [] _
      refine XS.iloadN X7.here hx rfl (hb hby d15_16) rfl ?_
      show own_s p e below T6 m 17 #[rv a, iv p1, iv v2, iv (1 : Int32)] [(.int v2)] _
      refine XS.iloadN X7.here hx rfl (hb hby d15_17) rfl ?_
      show own_s p e below T6 m 18 #[rv a, iv p1, iv v2, iv (1 : Int32)] [(.int p1), (.int v2)] _
      refine XS.icmpNo X7.here hx rfl (hb hby d15_18) rfl (teq (own_eqI (show (v2).toInt = (p1).toInt from (by omega : (v2).toInt = (p1).toInt)))).2 ?_
      show own_s p e below T6 m 21 #[rv a, iv p1, iv v2, iv (1 : Int32)] [] _
      refine XS.aloadN X7.here hx rfl (hb hby d15_21) rfl rfl ?_
      exact kX
    obtain ⟨cq10, kq10, q10a, q10b, q10c⟩ := isOf hZ e6 fE2
    obtain ⟨_, _, ⟨T10, L10, k10, n10⟩, -, X10, ⟨Lc10, hQ10, l10, y10, z10⟩, st10⟩ := X7.virtualBack hx (y := (⟨"com/example/weaverbird/weaverbird/model/xml/Utf8Decoder", "length", "()I"⟩ : MethodName)) (z := (⟨"com/example/weaverbird/weaverbird/model/xml/Utf8Decoder", "length", "()I"⟩ : MethodName)) hown (mvT hZ (hw _ (List.mem_of_getElem? (i := 36) rfl))) (mvT hZ (hw _ (List.mem_of_getElem? (i := 37) rfl))) (notFace_of_selects (args := #[]) (mvT hZ (hw _ (List.mem_of_getElem? (i := 39) rfl)))) (mvT hZ (hw _ (List.mem_of_getElem? (i := 39) rfl))) (mvT hZ (hw _ (List.mem_of_getElem? (i := 38) rfl))) (by decide) (backOf (W := 0) (rm4 l Z a0 hw [] a le2 T2.heap n0 Z2 f2_le) hZ (hw _ (List.mem_of_getElem? (i := 40) rfl)) (hw _ (List.mem_of_getElem? (i := 6) rfl)) (by decide) (by decide)) q10a q10c (g := (mkF m 22 #[rv a, iv p1, iv v2, iv (1 : Int32)] [(.ref a)])) rfl (by rw [hml]; rfl) (Steps.refl _) (argsL := []) (rest := []) (lenOf pd15_1 rfl) rfl (by show 2 * 0 + _ ≤ _; exact Nat.le_of_eq rfl) (hb hby d15_22) (fun _ _ => ⟨rfl, e6, (by decide : 0 + 0 ≤ _), (by decide : 0 + 0 ≤ _)⟩)
    dsimp only [Pt.U, Pt.locs, Pt.cells, Pt.slots] at X10 l10 y10 z10 st10 hQ10
    subst l10 y10 z10
    obtain ⟨rfl, Nq10, e10⟩ := hQ10
    have N10 := Fr.app N7 Nq10
    obtain ⟨LL11, X11, N11⟩ : ∃ LL, Stand p l e ({ frames := 2, cells := 0, slots := 0, locals := 40 } : Room) s m #[(.ref a), (.int p1)] below meth c T10 LL 0 0 ∧ Fr n0 LL := ⟨_, X10, N10⟩
    have pre12 : ∀ t, own_s p e below T10 m 25 #[rv a, iv p1, iv v2, iv (1 : Int32)] [(.int le2)] t → Steps p.tables e below S0 t := fun tX kX => pre9 _ (st10.trans kX)
    have pre13 : ∀ t, own_s p e below T10 m 30 #[rv a, iv p1, iv v2, iv (1 : Int32)] [(.ref a)] t → Steps p.tables e below S0 t := by
      intro tX kX
      refine pre12 _ ?_
      show own_s p e below T10 m 25 #[rv a, iv p1, iv v2, iv (1 : Int32)] [(.int le2)] _
      refine XS.iconst X11.here hx rfl (hb hby d15_25) ?_
      show own_s p e below T10 m 26 #[rv a, iv p1, iv v2, iv (1 : Int32)] [(.int (1 : Int32)), (.int le2)] _
      refine XS.icmpNo X11.here hx rfl (hb hby d15_26) rfl (teq (own_eqI (show (le2).toInt = ((1 : Int32)).toInt from (by omega : (le2).toInt = (1 : Int))))).2 ?_
      show own_s p e below T10 m 29 #[rv a, iv p1, iv v2, iv (1 : Int32)] [] _
      refine XS.aloadN X11.here hx rfl (hb hby d15_29) rfl rfl ?_
      exact kX
    obtain ⟨cq14, kq14, q14a, q14b, q14c⟩ := isOf hZ e10 fE2
    obtain ⟨_, _, ⟨T14, L14, k14, n14⟩, -, X14, ⟨Lc14, hQ14, l14, y14, z14⟩, st14⟩ := X11.virtualBack hx (y := (⟨"com/example/weaverbird/weaverbird/model/xml/Utf8Decoder", "taken", "()I"⟩ : MethodName)) (z := (⟨"com/example/weaverbird/weaverbird/model/xml/Utf8Decoder", "taken", "()I"⟩ : MethodName)) hown (mvT hZ (hw _ (List.mem_of_getElem? (i := 41) rfl))) (mvT hZ (hw _ (List.mem_of_getElem? (i := 42) rfl))) (notFace_of_selects (args := #[]) (mvT hZ (hw _ (List.mem_of_getElem? (i := 44) rfl)))) (mvT hZ (hw _ (List.mem_of_getElem? (i := 44) rfl))) (mvT hZ (hw _ (List.mem_of_getElem? (i := 43) rfl))) (by decide) (backOf (W := 0) (rm5 l Z a0 hw [] a ta2 T2.heap n0 Z2 f2_ta) hZ (hw _ (List.mem_of_getElem? (i := 45) rfl)) (hw _ (List.mem_of_getElem? (i := 6) rfl)) (by decide) (by decide)) q14a q14c (g := (mkF m 30 #[rv a, iv p1, iv v2, iv (1 : Int32)] [(.ref a)])) rfl (by rw [hml]; rfl) (Steps.refl _) (argsL := []) (rest := []) (lenOf pd15_1 rfl) rfl (by show 2 * 0 + _ ≤ _; exact Nat.le_of_eq rfl) (hb hby d15_30) (fun _ _ => ⟨rfl, e10, (by decide : 0 + 0 ≤ _), (by decide : 0 + 0 ≤ _)⟩)
    dsimp only [Pt.U, Pt.locs, Pt.cells, Pt.slots] at X14 l14 y14 z14 st14 hQ14
    subst l14 y14 z14
    obtain ⟨rfl, Nq14, e14⟩ := hQ14
    have N14 := Fr.app N11 Nq14
    obtain ⟨LL15, X15, N15⟩ : ∃ LL, Stand p l e ({ frames := 2, cells := 0, slots := 0, locals := 40 } : Room) s m #[(.ref a), (.int p1)] below meth c T14 LL 0 0 ∧ Fr n0 LL := ⟨_, X14, N14⟩
    have pre16 : ∀ t, own_s p e below T14 m 33 #[rv a, iv p1, iv v2, iv (1 : Int32)] [(.int ta2)] t → Steps p.tables e below S0 t := fun tX kX => pre13 _ (st14.trans kX)
    have pre17 : ∀ t, own_s p e below T14 m 42 #[rv a, iv p1, iv v2, iv (1 : Int32)] [(.int (1 : Int32))] t → Steps p.tables e below S0 t := by
      intro tX kX
      refine pre16 _ ?_
      show own_s p e below T14 m 33 #[rv a, iv p1, iv v2, iv (1 : Int32)] [(.int ta2)] _
      refine XS.iconst X15.here hx rfl (hb hby d15_33) ?_
      show own_s p e below T14 m 34 #[rv a, iv p1, iv v2, iv (1 : Int32)] [(.int (1 : Int32)), (.int ta2)] _
      refine XS.icmpNo X15.here hx rfl (hb hby d15_34) rfl (teq (own_eqI (show (ta2).toInt = ((1 : Int32)).toInt from (by omega : (ta2).toInt = (1 : Int))))).2 ?_
      show own_s p e below T14 m 37 #[rv a, iv p1, iv v2, iv (1 : Int32)] [] _
      refine XS.iconst X15.here hx rfl (hb hby d15_37) ?_
      show own_s p e below T14 m 38 #[rv a, iv p1, iv v2, iv (1 : Int32)] [(.int (1 : Int32))] _
      refine XS.goto X15.here hx rfl (pc0 := 38) (pc' := 42) rfl (hb hby d15_38) (by decide) (by decide) ?_
      exact kX
    subst hS0
    obtain ⟨fs, hr, hrun, hended, hW, hsame⟩ := X15.leave (v := (some (.int (1 : Int32)))) (fun h => by rw [Bd.returns] at h; cases h)
    refine ⟨_, _, pre17 _ (retN X15 hx (t := .boolean) Bd.returns (by simp) (hb hby d15_42) hr), hrun, hended, _, _, rfl, ?_, ⟨_, rfl⟩, hW, hsame.mono (by decide) (by decide)⟩
    show Q15 Z a p1 pa le ta lo hi re h0 n0 (some (.int (1 : Int32))) T14.heap _
    exact ⟨rfl, N15⟩
  · skip
    obtain ⟨LL18, X18, N18⟩ : ∃ LL, Stand p l e ({ frames := 2, cells := 0, slots := 0, locals := 40 } : Room) s m #[(.ref a), (.int p1)] below meth c T6 LL 0 0 ∧ Fr n0 LL := ⟨_, X6, N6⟩
    have pre19 : ∀ t, own_s p e below T6 m 10 #[rv a, iv p1, iv v2, .unset] [(.int (2 : Int32))] t → Steps p.tables e below S0 t := fun tX kX => pre5 _ (st6 _ kX)
    have pre20 : ∀ t, own_s p e below T6 m 49 #[rv a, iv p1, iv v2, iv (2 : Int32)] [(.int (2 : Int32)), (.int p1)] t → Steps p.tables e below S0 t := by
      intro tX kX
      refine pre19 _ ?_
      show own_s p e below T6 m 10 #[rv a, iv p1, iv v2, .unset] [(.int (2 : Int32))] _
      refine XS.istoreN X18.here hx rfl (hb hby d15_10) rfl (l' := #[rv a, iv p1, iv v2, iv (2 : Int32)]) rfl ?_
      show own_s p e below T6 m 11 #[rv a, iv p1, iv v2, iv (2 : Int32)] [] _
      refine XS.iloadN X18.here hx rfl (hb hby d15_11) rfl ?_
      show own_s p e below T6 m 12 #[rv a, iv p1, iv v2, iv (2 : Int32)] [(.int (2 : Int32))] _
      refine XS.iconst X18.here hx rfl (hb hby d15_12) ?_
      show own_s p e below T6 m 13 #[rv a, iv p1, iv v2, iv (2 : Int32)] [(.int (1 : Int32)), (.int (2 : Int32))] _
      refine XS.icmpYes X18.here hx rfl (pc0 := 13) (pc' := 43) rfl (hb hby d15_13) rfl (feq (by decide : ¬ ((2 : Int32) = (1 : Int32)))).2 (by decide) (by decide) ?_
      show own_s p e below T6 m 43 #[rv a, iv p1, iv v2, iv (2 : Int32)] [] _
      refine XS.iloadN X18.here hx rfl (hb hby d15_43) rfl ?_
      show own_s p e below T6 m 44 #[rv a, iv p1, iv v2, iv (2 : Int32)] [(.int (2 : Int32))] _
      refine XS.ifNo X18.here hx rfl (hb hby d15_44) rfl ((if0 _ _).trans (feq (by decide : ¬ ((2 : Int32) = (0 : Int32)))).1) ?_
      show own_s p e below T6 m 47 #[rv a, iv p1, iv v2, iv (2 : Int32)] [] _
      refine XS.iloadN X18.here hx rfl (hb hby d15_47) rfl ?_
      show own_s p e below T6 m 48 #[rv a, iv p1, iv v2, iv (2 : Int32)] [(.int p1)] _
      refine XS.iloadN X18.here hx rfl (hb hby d15_48) rfl ?_
      exact kX
    obtain ⟨_, _, ⟨T21, L21, k21, n21⟩, -, X21, ⟨Lc21, hQ21, l21, y21, z21⟩, st21⟩ := Jvm.LawKit.callS X18 hx (y := (⟨"com/example/weaverbird/weaverbird/model/xml/Utf8DecoderTakePinLaw", "leadBits", "(II)I"⟩ : MethodName)) hown (mvT hZ (hw _ (List.mem_of_getElem? (i := 49) rfl))) (mvT hZ (hw _ (List.mem_of_getElem? (i := 50) rfl))) (mvT hZ (hw _ (List.mem_of_getElem? (i := 2) rfl))) (mvT hZ (hw _ (List.mem_of_getElem? (i := 51) rfl))) (by decide) (backOf (W := 0) (rm8 l Z a0 hw [] p1  T2.heap n0 Z2 ) hZ (hw _ (List.mem_of_getElem? (i := 51) rfl)) (hw _ (List.mem_of_getElem? (i := 2) rfl)) (by decide) (by decide)) (g := (mkF m 49 #[rv a, iv p1, iv v2, iv (2 : Int32)] [(.int (2 : Int32)), (.int p1)])) rfl (by rw [hml]; rfl) (argsL := [(.int p1), (.int (2 : Int32))]) (rest := []) (lenOf pd15_2 rfl) rfl (by show 2 * 0 + _ ≤ _; exact Nat.le_of_eq rfl) (hb hby d15_49) (fun _ _ => ⟨rfl, e6, (by decide : 0 + 0 ≤ _), (by decide : 0 + 0 ≤ _)⟩)
    dsimp only [Pt.U, Pt.locs, Pt.cells, Pt.slots] at X21 l21 y21 z21 st21 hQ21
    subst l21 y21 z21
    obtain ⟨⟨v21, rfl, B21⟩, Nq21, e21⟩ := hQ21
    have N21 := Fr.app N18 Nq21
    obtain ⟨LL22, X22, N22⟩ : ∃ LL, Stand p l e ({ frames := 2, cells := 0, slots := 0, locals := 40 } : Room) s m #[(.ref a), (.int p1)] below meth c T21 LL 0 0 ∧ Fr n0 LL := ⟨_, X21, N21⟩
    have pre23 : ∀ t, own_s p e below T21 m 52 #[rv a, iv p1, iv v2, iv (2 : Int32)] [(.int v21)] t → Steps p.tables e below S0 t := fun tX kX => pre20 _ (st21 _ kX)
    have pre24 : ∀ t, own_s p e below T21 m 54 #[rv a, iv p1, iv v2, iv (2 : Int32)] [(.int (1 : Int32)), (.int (2 : Int32)), (.int v21)] t → Steps p.tables e below S0 t := by
      intro tX kX
      refine pre23 _ ?_
      show own_s p e below T21 m 52 #[rv a, iv p1, iv v2, iv (2 : Int32)] [(.int v21)] _
      refine XS.iloadN X22.here hx rfl (hb hby d15_52) rfl ?_
      show own_s p e below T21 m 53 #[rv a, iv p1, iv v2, iv (2 : Int32)] [(.int (2 : Int32)), (.int v21)] _
      refine XS.iconst X22.here hx rfl (hb hby d15_53) ?_
      exact kX
    obtain ⟨_, _, ⟨T25, L25, k25, n25⟩, -, X25, ⟨Lc25, hQ25, l25, y25, z25⟩, st25⟩ := Jvm.LawKit.callS X22 hx (y := (⟨"com/example/weaverbird/weaverbird/model/xml/Utf8DecoderTakePinLaw", "feasible", "(III)Z"⟩ : MethodName)) hown (mvT hZ (hw _ (List.mem_of_getElem? (i := 52) rfl))) (mvT hZ (hw _ (List.mem_of_getElem? (i := 53) rfl))) (mvT hZ (hw _ (List.mem_of_getElem? (i := 2) rfl))) (mvT hZ (hw _ (List.mem_of_getElem? (i := 54) rfl))) (by decide) (backOf (W := 0) (rm20 l Z a0 hw [] v21  T2.heap n0 Z2 (by omega) (by omega)) hZ (hw _ (List.mem_of_getElem? (i := 54) rfl)) (hw _ (List.mem_of_getElem? (i := 2) rfl)) (by decide) (by decide)) (g := (mkF m 54 #[rv a, iv p1, iv v2, iv (2 : Int32)] [(.int (1 : Int32)), (.int (2 : Int32)), (.int v21)])) rfl (by rw [hml]; rfl) (argsL := [(.int v21), (.int (2 : Int32)), (.int (1 : Int32))]) (rest := []) (lenOf pd15_3 rfl) rfl (by show 2 * 0 + _ ≤ _; exact Nat.le_of_eq rfl) (hb hby d15_54) (fun _ _ => ⟨rfl, e21, (by decide : 0 + 0 ≤ _), (by decide : 0 + 0 ≤ _)⟩)
    dsimp only [Pt.U, Pt.locs, Pt.cells, Pt.slots] at X25 l25 y25 z25 st25 hQ25
    subst l25 y25 z25
    obtain ⟨D25, Nq25, e25⟩ := hQ25
    have N25 := Fr.app N22 Nq25
    rcases D25 with ⟨rfl, B25⟩ | ⟨rfl, B25⟩
    · skip
      obtain ⟨LL26, X26, N26⟩ : ∃ LL, Stand p l e ({ frames := 2, cells := 0, slots := 0, locals := 40 } : Room) s m #[(.ref a), (.int p1)] below meth c T25 LL 0 0 ∧ Fr n0 LL := ⟨_, X25, N25⟩
      have pre27 : ∀ t, own_s p e below T25 m 57 #[rv a, iv p1, iv v2, iv (2 : Int32)] [(.int (1 : Int32))] t → Steps p.tables e below S0 t := fun tX kX => pre24 _ (st25 _ kX)
      have pre28 : ∀ t, own_s p e below T25 m 94 #[rv a, iv p1, iv v2, iv (2 : Int32)] [(.ref a)] t → Steps p.tables e below S0 t := by
        intro tX kX
        refine pre27 _ ?_
        show own_s p e below T25 m 57 #[rv a, iv p1, iv v2, iv (2 : Int32)] [(.int (1 : Int32))] _
        refine XS.ifYes X26.here hx rfl (pc0 := 57) (pc' := 88) rfl (hb hby d15_57) rfl ((if0 _ _).trans (feq (by decide : ¬ ((1 : Int32) = (0 : Int32)))).2) (by decide) (by decide) ?_
        show own_s p e below T25 m 88 #[rv a, iv p1, iv v2, iv (2 : Int32)] [] _
        refine XS.iloadN X26.here hx rfl (hb hby d15_88) rfl ?_
        show own_s p e below T25 m 89 #[rv a, iv p1, iv v2, iv (2 : Int32)] [(.int v2)] _
        refine XS.iconst X26.here hx rfl (hb hby d15_89) ?_
        show own_s p e below T25 m 90 #[rv a, iv p1, iv v2, iv (2 : Int32)] [(.int (-1 : Int32)), (.int v2)] _
        refine XS.icmpNo X26.here hx rfl (hb hby d15_90) rfl (teq (own_eqI (show (v2).toInt = ((-1 : Int32)).toInt from (by omega : (v2).toInt = (-1 : Int))))).2 ?_
        show own_s p e below T25 m 93 #[rv a, iv p1, iv v2, iv (2 : Int32)] [] _
        refine XS.aloadN X26.here hx rfl (hb hby d15_93) rfl rfl ?_
        exact kX
      obtain ⟨cq29, kq29, q29a, q29b, q29c⟩ := isOf hZ e25 fE2
      obtain ⟨_, _, ⟨T29, L29, k29, n29⟩, -, X29, ⟨Lc29, hQ29, l29, y29, z29⟩, st29⟩ := X26.virtualBack hx (y := (⟨"com/example/weaverbird/weaverbird/model/xml/Utf8Decoder", "length", "()I"⟩ : MethodName)) (z := (⟨"com/example/weaverbird/weaverbird/model/xml/Utf8Decoder", "length", "()I"⟩ : MethodName)) hown (mvT hZ (hw _ (List.mem_of_getElem? (i := 36) rfl))) (mvT hZ (hw _ (List.mem_of_getElem? (i := 37) rfl))) (notFace_of_selects (args := #[]) (mvT hZ (hw _ (List.mem_of_getElem? (i := 39) rfl)))) (mvT hZ (hw _ (List.mem_of_getElem? (i := 39) rfl))) (mvT hZ (hw _ (List.mem_of_getElem? (i := 38) rfl))) (by decide) (backOf (W := 0) (rm4 l Z a0 hw [] a le2 T2.heap n0 Z2 f2_le) hZ (hw _ (List.mem_of_getElem? (i := 40) rfl)) (hw _ (List.mem_of_getElem? (i := 6) rfl)) (by decide) (by decide)) q29a q29c (g := (mkF m 94 #[rv a, iv p1, iv v2, iv (2 : Int32)] [(.ref a)])) rfl (by rw [hml]; rfl) (Steps.refl _) (argsL := []) (rest := []) (lenOf pd15_1 rfl) rfl (by show 2 * 0 + _ ≤ _; exact Nat.le_of_eq rfl) (hb hby d15_94) (fun _ _ => ⟨rfl, e25, (by decide : 0 + 0 ≤ _), (by decide : 0 + 0 ≤ _)⟩)
      dsimp only [Pt.U, Pt.locs, Pt.cells, Pt.slots] at X29 l29 y29 z29 st29 hQ29
      subst l29 y29 z29
      obtain ⟨rfl, Nq29, e29⟩ := hQ29
      have N29 := Fr.app N26 Nq29
      obtain ⟨LL30, X30, N30⟩ : ∃ LL, Stand p l e ({ frames := 2, cells := 0, slots := 0, locals := 40 } : Room) s m #[(.ref a), (.int p1)] below meth c T29 LL 0 0 ∧ Fr n0 LL := ⟨_, X29, N29⟩
      have pre31 : ∀ t, own_s p e below T29 m 97 #[rv a, iv p1, iv v2, iv (2 : Int32)] [(.int le2)] t → Steps p.tables e below S0 t := fun tX kX => pre28 _ (st29.trans kX)
      have pre32 : ∀ t, own_s p e below T29 m 102 #[rv a, iv p1, iv v2, iv (2 : Int32)] [(.ref a)] t → Steps p.tables e below S0 t := by
        intro tX kX
        refine pre31 _ ?_
        show own_s p e below T29 m 97 #[rv a, iv p1, iv v2, iv (2 : Int32)] [(.int le2)] _
        refine XS.iloadN X30.here hx rfl (hb hby d15_97) rfl ?_
        show own_s p e below T29 m 98 #[rv a, iv p1, iv v2, iv (2 : Int32)] [(.int (2 : Int32)), (.int le2)] _
        refine XS.icmpNo X30.here hx rfl (hb hby d15_98) rfl (teq (own_eqI (show (le2).toInt = ((2 : Int32)).toInt from (by omega : (le2).toInt = (2 : Int))))).2 ?_
        show own_s p e below T29 m 101 #[rv a, iv p1, iv v2, iv (2 : Int32)] [] _
        refine XS.aloadN X30.here hx rfl (hb hby d15_101) rfl rfl ?_
        exact kX
      obtain ⟨cq33, kq33, q33a, q33b, q33c⟩ := isOf hZ e29 fE2
      obtain ⟨_, _, ⟨T33, L33, k33, n33⟩, -, X33, ⟨Lc33, hQ33, l33, y33, z33⟩, st33⟩ := X30.virtualBack hx (y := (⟨"com/example/weaverbird/weaverbird/model/xml/Utf8Decoder", "taken", "()I"⟩ : MethodName)) (z := (⟨"com/example/weaverbird/weaverbird/model/xml/Utf8Decoder", "taken", "()I"⟩ : MethodName)) hown (mvT hZ (hw _ (List.mem_of_getElem? (i := 41) rfl))) (mvT hZ (hw _ (List.mem_of_getElem? (i := 42) rfl))) (notFace_of_selects (args := #[]) (mvT hZ (hw _ (List.mem_of_getElem? (i := 44) rfl)))) (mvT hZ (hw _ (List.mem_of_getElem? (i := 44) rfl))) (mvT hZ (hw _ (List.mem_of_getElem? (i := 43) rfl))) (by decide) (backOf (W := 0) (rm5 l Z a0 hw [] a ta2 T2.heap n0 Z2 f2_ta) hZ (hw _ (List.mem_of_getElem? (i := 45) rfl)) (hw _ (List.mem_of_getElem? (i := 6) rfl)) (by decide) (by decide)) q33a q33c (g := (mkF m 102 #[rv a, iv p1, iv v2, iv (2 : Int32)] [(.ref a)])) rfl (by rw [hml]; rfl) (Steps.refl _) (argsL := []) (rest := []) (lenOf pd15_1 rfl) rfl (by show 2 * 0 + _ ≤ _; exact Nat.le_of_eq rfl) (hb hby d15_102) (fun _ _ => ⟨rfl, e29, (by decide : 0 + 0 ≤ _), (by decide : 0 + 0 ≤ _)⟩)
      dsimp only [Pt.U, Pt.locs, Pt.cells, Pt.slots] at X33 l33 y33 z33 st33 hQ33
      subst l33 y33 z33
      obtain ⟨rfl, Nq33, e33⟩ := hQ33
      have N33 := Fr.app N30 Nq33
      obtain ⟨LL34, X34, N34⟩ : ∃ LL, Stand p l e ({ frames := 2, cells := 0, slots := 0, locals := 40 } : Room) s m #[(.ref a), (.int p1)] below meth c T33 LL 0 0 ∧ Fr n0 LL := ⟨_, X33, N33⟩
      have pre35 : ∀ t, own_s p e below T33 m 105 #[rv a, iv p1, iv v2, iv (2 : Int32)] [(.int ta2)] t → Steps p.tables e below S0 t := fun tX kX => pre32 _ (st33.trans kX)
      have pre36 : ∀ t, own_s p e below T33 m 114 #[rv a, iv p1, iv v2, iv (2 : Int32)] [(.int (1 : Int32))] t → Steps p.tables e below S0 t := by
        intro tX kX
        refine pre35 _ ?_
        show own_s p e below T33 m 105 #[rv a, iv p1, iv v2, iv (2 : Int32)] [(.int ta2)] _
        refine XS.iconst X34.here hx rfl (hb hby d15_105) ?_
        show own_s p e below T33 m 106 #[rv a, iv p1, iv v2, iv (2 : Int32)] [(.int (1 : Int32)), (.int ta2)] _
        refine XS.icmpNo X34.here hx rfl (hb hby d15_106) rfl (teq (own_eqI (show (ta2).toInt = ((1 : Int32)).toInt from (by omega : (ta2).toInt = (1 : Int))))).2 ?_
        show own_s p e below T33 m 109 #[rv a, iv p1, iv v2, iv (2 : Int32)] [] _
        refine XS.iconst X34.here hx rfl (hb hby d15_109) ?_
        show own_s p e below T33 m 110 #[rv a, iv p1, iv v2, iv (2 : Int32)] [(.int (1 : Int32))] _
        refine XS.goto X34.here hx rfl (pc0 := 110) (pc' := 114) rfl (hb hby d15_110) (by decide) (by decide) ?_
        exact kX
      subst hS0
      obtain ⟨fs, hr, hrun, hended, hW, hsame⟩ := X34.leave (v := (some (.int (1 : Int32)))) (fun h => by rw [Bd.returns] at h; cases h)
      refine ⟨_, _, pre36 _ (retN X34 hx (t := .boolean) Bd.returns (by simp) (hb hby d15_114) hr), hrun, hended, _, _, rfl, ?_, ⟨_, rfl⟩, hW, hsame.mono (by decide) (by decide)⟩
      show Q15 Z a p1 pa le ta lo hi re h0 n0 (some (.int (1 : Int32))) T33.heap _
      exact ⟨rfl, N34⟩
    · skip
      obtain ⟨LL37, X37, N37⟩ : ∃ LL, Stand p l e ({ frames := 2, cells := 0, slots := 0, locals := 40 } : Room) s m #[(.ref a), (.int p1)] below meth c T25 LL 0 0 ∧ Fr n0 LL := ⟨_, X25, N25⟩
      have pre38 : ∀ t, own_s p e below T25 m 57 #[rv a, iv p1, iv v2, iv (2 : Int32)] [(.int (0 : Int32))] t → Steps p.tables e below S0 t := fun tX kX => pre24 _ (st25 _ kX)
      have pre39 : ∀ t, own_s p e below T25 m 67 #[rv a, iv p1, iv v2, iv (2 : Int32)] [(.ref a)] t → Steps p.tables e below S0 t := by
        intro tX kX
        refine pre38 _ ?_
        show own_s p e below T25 m 57 #[rv a, iv p1, iv v2, iv (2 : Int32)] [(.int (0 : Int32))] _
        refine XS.ifNo X37.here hx rfl (hb hby d15_57) rfl ((if0 _ _).trans (teq (by decide : (0 : Int32) = (0 : Int32))).2) ?_
        show own_s p e below T25 m 60 #[rv a, iv p1, iv v2, iv (2 : Int32)] [] _
        refine XS.iloadN X37.here hx rfl (hb hby d15_60) rfl ?_
        show own_s p e below T25 m 61 #[rv a, iv p1, iv v2, iv (2 : Int32)] [(.int v2)] _
        refine XS.bipush X37.here hx rfl (hb hby d15_61) ?_
        show own_s p e below T25 m 63 #[rv a, iv p1, iv v2, iv (2 : Int32)] [(.int (-3 : Int32)), (.int v2)] _
        refine XS.icmpNo X37.here hx rfl (hb hby d15_63) rfl (teq (own_eqI (show (v2).toInt = ((-3 : Int32)).toInt from (by omega : (v2).toInt = (-3 : Int))))).2 ?_
        show own_s p e below T25 m 66 #[rv a, iv p1, iv v2, iv (2 : Int32)] [] _
        refine XS.aloadN X37.here hx rfl (hb hby d15_66) rfl rfl ?_
        exact kX
      obtain ⟨cq40, kq40, q40a, q40b, q40c⟩ := isOf hZ e25 fE2
      obtain ⟨_, _, ⟨T40, L40, k40, n40⟩, -, X40, ⟨Lc40, hQ40, l40, y40, z40⟩, st40⟩ := X37.virtualBack hx (y := (⟨"com/example/weaverbird/weaverbird/model/xml/Utf8Decoder", "length", "()I"⟩ : MethodName)) (z := (⟨"com/example/weaverbird/weaverbird/model/xml/Utf8Decoder", "length", "()I"⟩ : MethodName)) hown (mvT hZ (hw _ (List.mem_of_getElem? (i := 36) rfl))) (mvT hZ (hw _ (List.mem_of_getElem? (i := 37) rfl))) (notFace_of_selects (args := #[]) (mvT hZ (hw _ (List.mem_of_getElem? (i := 39) rfl)))) (mvT hZ (hw _ (List.mem_of_getElem? (i := 39) rfl))) (mvT hZ (hw _ (List.mem_of_getElem? (i := 38) rfl))) (by decide) (backOf (W := 0) (rm4 l Z a0 hw [] a le2 T2.heap n0 Z2 f2_le) hZ (hw _ (List.mem_of_getElem? (i := 40) rfl)) (hw _ (List.mem_of_getElem? (i := 6) rfl)) (by decide) (by decide)) q40a q40c (g := (mkF m 67 #[rv a, iv p1, iv v2, iv (2 : Int32)] [(.ref a)])) rfl (by rw [hml]; rfl) (Steps.refl _) (argsL := []) (rest := []) (lenOf pd15_1 rfl) rfl (by show 2 * 0 + _ ≤ _; exact Nat.le_of_eq rfl) (hb hby d15_67) (fun _ _ => ⟨rfl, e25, (by decide : 0 + 0 ≤ _), (by decide : 0 + 0 ≤ _)⟩)
      dsimp only [Pt.U, Pt.locs, Pt.cells, Pt.slots] at X40 l40 y40 z40 st40 hQ40
      subst l40 y40 z40
      obtain ⟨rfl, Nq40, e40⟩ := hQ40
      have N40 := Fr.app N37 Nq40
      obtain ⟨LL41, X41, N41⟩ : ∃ LL, Stand p l e ({ frames := 2, cells := 0, slots := 0, locals := 40 } : Room) s m #[(.ref a), (.int p1)] below meth c T40 LL 0 0 ∧ Fr n0 LL := ⟨_, X40, N40⟩
      have pre42 : ∀ t, own_s p e below T40 m 70 #[rv a, iv p1, iv v2, iv (2 : Int32)] [(.int le2)] t → Steps p.tables e below S0 t := fun tX kX => pre39 _ (st40.trans kX)
      have pre43 : ∀ t, own_s p e below T40 m 75 #[rv a, iv p1, iv v2, iv (2 : Int32)] [(.ref a)] t → Steps p.tables e below S0 t := by
        intro tX kX
        refine pre42 _ ?_
        show own_s p e below T40 m 70 #[rv a, iv p1, iv v2, iv (2 : Int32)] [(.int le2)] _
        refine XS.iconst X41.here hx rfl (hb hby d15_70) ?_
        show own_s p e below T40 m 71 #[rv a, iv p1, iv v2, iv (2 : Int32)] [(.int (1 : Int32)), (.int le2)] _
        refine XS.icmpNo X41.here hx rfl (hb hby d15_71) rfl (teq (own_eqI (show (le2).toInt = ((1 : Int32)).toInt from (by omega : (le2).toInt = (1 : Int))))).2 ?_
        show own_s p e below T40 m 74 #[rv a, iv p1, iv v2, iv (2 : Int32)] [] _
        refine XS.aloadN X41.here hx rfl (hb hby d15_74) rfl rfl ?_
        exact kX
      obtain ⟨cq44, kq44, q44a, q44b, q44c⟩ := isOf hZ e40 fE2
      obtain ⟨_, _, ⟨T44, L44, k44, n44⟩, -, X44, ⟨Lc44, hQ44, l44, y44, z44⟩, st44⟩ := X41.virtualBack hx (y := (⟨"com/example/weaverbird/weaverbird/model/xml/Utf8Decoder", "taken", "()I"⟩ : MethodName)) (z := (⟨"com/example/weaverbird/weaverbird/model/xml/Utf8Decoder", "taken", "()I"⟩ : MethodName)) hown (mvT hZ (hw _ (List.mem_of_getElem? (i := 41) rfl))) (mvT hZ (hw _ (List.mem_of_getElem? (i := 42) rfl))) (notFace_of_selects (args := #[]) (mvT hZ (hw _ (List.mem_of_getElem? (i := 44) rfl)))) (mvT hZ (hw _ (List.mem_of_getElem? (i := 44) rfl))) (mvT hZ (hw _ (List.mem_of_getElem? (i := 43) rfl))) (by decide) (backOf (W := 0) (rm5 l Z a0 hw [] a ta2 T2.heap n0 Z2 f2_ta) hZ (hw _ (List.mem_of_getElem? (i := 45) rfl)) (hw _ (List.mem_of_getElem? (i := 6) rfl)) (by decide) (by decide)) q44a q44c (g := (mkF m 75 #[rv a, iv p1, iv v2, iv (2 : Int32)] [(.ref a)])) rfl (by rw [hml]; rfl) (Steps.refl _) (argsL := []) (rest := []) (lenOf pd15_1 rfl) rfl (by show 2 * 0 + _ ≤ _; exact Nat.le_of_eq rfl) (hb hby d15_75) (fun _ _ => ⟨rfl, e40, (by decide : 0 + 0 ≤ _), (by decide : 0 + 0 ≤ _)⟩)
      dsimp only [Pt.U, Pt.locs, Pt.cells, Pt.slots] at X44 l44 y44 z44 st44 hQ44
      subst l44 y44 z44
      obtain ⟨rfl, Nq44, e44⟩ := hQ44
      have N44 := Fr.app N41 Nq44
      obtain ⟨LL45, X45, N45⟩ : ∃ LL, Stand p l e ({ frames := 2, cells := 0, slots := 0, locals := 40 } : Room) s m #[(.ref a), (.int p1)] below meth c T44 LL 0 0 ∧ Fr n0 LL := ⟨_, X44, N44⟩
      have pre46 : ∀ t, own_s p e below T44 m 78 #[rv a, iv p1, iv v2, iv (2 : Int32)] [(.int ta2)] t → Steps p.tables e below S0 t := fun tX kX => pre43 _ (st44.trans kX)
      have pre47 : ∀ t, own_s p e below T44 m 87 #[rv a, iv p1, iv v2, iv (2 : Int32)] [(.int (1 : Int32))] t → Steps p.tables e below S0 t := by
        intro tX kX
        refine pre46 _ ?_
        show own_s p e below T44 m 78 #[rv a, iv p1, iv v2, iv (2 : Int32)] [(.int ta2)] _
        refine XS.iconst X45.here hx rfl (hb hby d15_78) ?_
        show own_s p e below T44 m 79 #[rv a, iv p1, iv v2, iv (2 : Int32)] [(.int (1 : Int32)), (.int ta2)] _
        refine XS.icmpNo X45.here hx rfl (hb hby d15_79) rfl (teq (own_eqI (show (ta2).toInt = ((1 : Int32)).toInt from (by omega : (ta2).toInt = (1 : Int))))).2 ?_
        show own_s p e below T44 m 82 #[rv a, iv p1, iv v2, iv (2 : Int32)] [] _
        refine XS.iconst X45.here hx rfl (hb hby d15_82) ?_
        show own_s p e below T44 m 83 #[rv a, iv p1, iv v2, iv (2 : Int32)] [(.int (1 : Int32))] _
        refine XS.goto X45.here hx rfl (pc0 := 83) (pc' := 87) rfl (hb hby d15_83) (by decide) (by decide) ?_
        exact kX
      subst hS0
      obtain ⟨fs, hr, hrun, hended, hW, hsame⟩ := X45.leave (v := (some (.int (1 : Int32)))) (fun h => by rw [Bd.returns] at h; cases h)
      refine ⟨_, _, pre47 _ (retN X45 hx (t := .boolean) Bd.returns (by simp) (hb hby d15_87) hr), hrun, hended, _, _, rfl, ?_, ⟨_, rfl⟩, hW, hsame.mono (by decide) (by decide)⟩
      show Q15 Z a p1 pa le ta lo hi re h0 n0 (some (.int (1 : Int32))) T44.heap _
      exact ⟨rfl, N45⟩
  · skip
    obtain ⟨LL48, X48, N48⟩ : ∃ LL, Stand p l e ({ frames := 2, cells := 0, slots := 0, locals := 40 } : Room) s m #[(.ref a), (.int p1)] below meth c T6 LL 0 0 ∧ Fr n0 LL := ⟨_, X6, N6⟩
    have pre49 : ∀ t, own_s p e below T6 m 10 #[rv a, iv p1, iv v2, .unset] [(.int (3 : Int32))] t → Steps p.tables e below S0 t := fun tX kX => pre5 _ (st6 _ kX)
    have pre50 : ∀ t, own_s p e below T6 m 49 #[rv a, iv p1, iv v2, iv (3 : Int32)] [(.int (3 : Int32)), (.int p1)] t → Steps p.tables e below S0 t := by
      intro tX kX
      refine pre49 _ ?_
      show own_s p e below T6 m 10 #[rv a, iv p1, iv v2, .unset] [(.int (3 : Int32))] _
      refine XS.istoreN X48.here hx rfl (hb hby d15_10) rfl (l' := #[rv a, iv p1, iv v2, iv (3 : Int32)]) rfl ?_
      show own_s p e below T6 m 11 #[rv a, iv p1, iv v2, iv (3 : Int32)] [] _
      refine XS.iloadN X48.here hx rfl (hb hby d15_11) rfl ?_
      show own_s p e below T6 m 12 #[rv a, iv p1, iv v2, iv (3 : Int32)] [(.int (3 : Int32))] _
      refine XS.iconst X48.here hx rfl (hb hby d15_12) ?_
      show own_s p e below T6 m 13 #[rv a, iv p1, iv v2, iv (3 : Int32)] [(.int (1 : Int32)), (.int (3 : Int32))] _
      refine XS.icmpYes X48.here hx rfl (pc0 := 13) (pc' := 43) rfl (hb hby d15_13) rfl (feq (by decide : ¬ ((3 : Int32) = (1 : Int32)))).2 (by decide) (by decide) ?_
      show own_s p e below T6 m 43 #[rv a, iv p1, iv v2, iv (3 : Int32)] [] _
      refine XS.iloadN X48.here hx rfl (hb hby d15_43) rfl ?_
      show own_s p e below T6 m 44 #[rv a, iv p1, iv v2, iv (3 : Int32)] [(.int (3 : Int32))] _
      refine XS.ifNo X48.here hx rfl (hb hby d15_44) rfl ((if0 _ _).trans (feq (by decide : ¬ ((3 : Int32) = (0 : Int32)))).1) ?_
      show own_s p e below T6 m 47 #[rv a, iv p1, iv v2, iv (3 : Int32)] [] _
      refine XS.iloadN X48.here hx rfl (hb hby d15_47) rfl ?_
      show own_s p e below T6 m 48 #[rv a, iv p1, iv v2, iv (3 : Int32)] [(.int p1)] _
      refine XS.iloadN X48.here hx rfl (hb hby d15_48) rfl ?_
      exact kX
    obtain ⟨_, _, ⟨T51, L51, k51, n51⟩, -, X51, ⟨Lc51, hQ51, l51, y51, z51⟩, st51⟩ := Jvm.LawKit.callS X48 hx (y := (⟨"com/example/weaverbird/weaverbird/model/xml/Utf8DecoderTakePinLaw", "leadBits", "(II)I"⟩ : MethodName)) hown (mvT hZ (hw _ (List.mem_of_getElem? (i := 49) rfl))) (mvT hZ (hw _ (List.mem_of_getElem? (i := 50) rfl))) (mvT hZ (hw _ (List.mem_of_getElem? (i := 2) rfl))) (mvT hZ (hw _ (List.mem_of_getElem? (i := 51) rfl))) (by decide) (backOf (W := 0) (rm9 l Z a0 hw [] p1  T2.heap n0 Z2 ) hZ (hw _ (List.mem_of_getElem? (i := 51) rfl)) (hw _ (List.mem_of_getElem? (i := 2) rfl)) (by decide) (by decide)) (g := (mkF m 49 #[rv a, iv p1, iv v2, iv (3 : Int32)] [(.int (3 : Int32)), (.int p1)])) rfl (by rw [hml]; rfl) (argsL := [(.int p1), (.int (3 : Int32))]) (rest := []) (lenOf pd15_2 rfl) rfl (by show 2 * 0 + _ ≤ _; exact Nat.le_of_eq rfl) (hb hby d15_49) (fun _ _ => ⟨rfl, e6, (by decide : 0 + 0 ≤ _), (by decide : 0 + 0 ≤ _)⟩)
    dsimp only [Pt.U, Pt.locs, Pt.cells, Pt.slots] at X51 l51 y51 z51 st51 hQ51
    subst l51 y51 z51
    obtain ⟨⟨v51, rfl, B51⟩, Nq51, e51⟩ := hQ51
    have N51 := Fr.app N48 Nq51
    obtain ⟨LL52, X52, N52⟩ : ∃ LL, Stand p l e ({ frames := 2, cells := 0, slots := 0, locals := 40 } : Room) s m #[(.ref a), (.int p1)] below meth c T51 LL 0 0 ∧ Fr n0 LL := ⟨_, X51, N51⟩
    have pre53 : ∀ t, own_s p e below T51 m 52 #[rv a, iv p1, iv v2, iv (3 : Int32)] [(.int v51)] t → Steps p.tables e below S0 t := fun tX kX => pre50 _ (st51 _ kX)
    have pre54 : ∀ t, own_s p e below T51 m 54 #[rv a, iv p1, iv v2, iv (3 : Int32)] [(.int (1 : Int32)), (.int (3 : Int32)), (.int v51)] t → Steps p.tables e below S0 t := by
      intro tX kX
      refine pre53 _ ?_
      show own_s p e below T51 m 52 #[rv a, iv p1, iv v2, iv (3 : Int32)] [(.int v51)] _
      refine XS.iloadN X52.here hx rfl (hb hby d15_52) rfl ?_
      show own_s p e below T51 m 53 #[rv a, iv p1, iv v2, iv (3 : Int32)] [(.int (3 : Int32)), (.int v51)] _
      refine XS.iconst X52.here hx rfl (hb hby d15_53) ?_
      exact kX
    obtain ⟨_, _, ⟨T55, L55, k55, n55⟩, -, X55, ⟨Lc55, hQ55, l55, y55, z55⟩, st55⟩ := Jvm.LawKit.callS X52 hx (y := (⟨"com/example/weaverbird/weaverbird/model/xml/Utf8DecoderTakePinLaw", "feasible", "(III)Z"⟩ : MethodName)) hown (mvT hZ (hw _ (List.mem_of_getElem? (i := 52) rfl))) (mvT hZ (hw _ (List.mem_of_getElem? (i := 53) rfl))) (mvT hZ (hw _ (List.mem_of_getElem? (i := 2) rfl))) (mvT hZ (hw _ (List.mem_of_getElem? (i := 54) rfl))) (by decide) (backOf (W := 0) (rm21 l Z a0 hw [] v51  T2.heap n0 Z2 (by omega) (by omega)) hZ (hw _ (List.mem_of_getElem? (i := 54) rfl)) (hw _ (List.mem_of_getElem? (i := 2) rfl)) (by decide) (by decide)) (g := (mkF m 54 #[rv a, iv p1, iv v2, iv (3 : Int32)] [(.int (1 : Int32)), (.int (3 : Int32)), (.int v51)])) rfl (by rw [hml]; rfl) (argsL := [(.int v51), (.int (3 : Int32)), (.int (1 : Int32))]) (rest := []) (lenOf pd15_3 rfl) rfl (by show 2 * 0 + _ ≤ _; exact Nat.le_of_eq rfl) (hb hby d15_54) (fun _ _ => ⟨rfl, e51, (by decide : 0 + 0 ≤ _), (by decide : 0 + 0 ≤ _)⟩)
    dsimp only [Pt.U, Pt.locs, Pt.cells, Pt.slots] at X55 l55 y55 z55 st55 hQ55
    subst l55 y55 z55
    obtain ⟨D55, Nq55, e55⟩ := hQ55
    have N55 := Fr.app N52 Nq55
    rcases D55 with ⟨rfl, B55⟩ | ⟨rfl, B55⟩
    · skip
      obtain ⟨LL56, X56, N56⟩ : ∃ LL, Stand p l e ({ frames := 2, cells := 0, slots := 0, locals := 40 } : Room) s m #[(.ref a), (.int p1)] below meth c T55 LL 0 0 ∧ Fr n0 LL := ⟨_, X55, N55⟩
      have pre57 : ∀ t, own_s p e below T55 m 57 #[rv a, iv p1, iv v2, iv (3 : Int32)] [(.int (1 : Int32))] t → Steps p.tables e below S0 t := fun tX kX => pre54 _ (st55 _ kX)
      have pre58 : ∀ t, own_s p e below T55 m 94 #[rv a, iv p1, iv v2, iv (3 : Int32)] [(.ref a)] t → Steps p.tables e below S0 t := by
        intro tX kX
        refine pre57 _ ?_
        show own_s p e below T55 m 57 #[rv a, iv p1, iv v2, iv (3 : Int32)] [(.int (1 : Int32))] _
        refine XS.ifYes X56.here hx rfl (pc0 := 57) (pc' := 88) rfl (hb hby d15_57) rfl ((if0 _ _).trans (feq (by decide : ¬ ((1 : Int32) = (0 : Int32)))).2) (by decide) (by decide) ?_
        show own_s p e below T55 m 88 #[rv a, iv p1, iv v2, iv (3 : Int32)] [] _
        refine XS.iloadN X56.here hx rfl (hb hby d15_88) rfl ?_
        show own_s p e below T55 m 89 #[rv a, iv p1, iv v2, iv (3 : Int32)] [(.int v2)] _
        refine XS.iconst X56.here hx rfl (hb hby d15_89) ?_
        show own_s p e below T55 m 90 #[rv a, iv p1, iv v2, iv (3 : Int32)] [(.int (-1 : Int32)), (.int v2)] _
        refine XS.icmpNo X56.here hx rfl (hb hby d15_90) rfl (teq (own_eqI (show (v2).toInt = ((-1 : Int32)).toInt from (by omega : (v2).toInt = (-1 : Int))))).2 ?_
        show own_s p e below T55 m 93 #[rv a, iv p1, iv v2, iv (3 : Int32)] [] _
        refine XS.aloadN X56.here hx rfl (hb hby d15_93) rfl rfl ?_
        exact kX
      obtain ⟨cq59, kq59, q59a, q59b, q59c⟩ := isOf hZ e55 fE2
      obtain ⟨_, _, ⟨T59, L59, k59, n59⟩, -, X59, ⟨Lc59, hQ59, l59, y59, z59⟩, st59⟩ := X56.virtualBack hx (y := (⟨"com/example/weaverbird/weaverbird/model/xml/Utf8Decoder", "length", "()I"⟩ : MethodName)) (z := (⟨"com/example/weaverbird/weaverbird/model/xml/Utf8Decoder", "length", "()I"⟩ : MethodName)) hown (mvT hZ (hw _ (List.mem_of_getElem? (i := 36) rfl))) (mvT hZ (hw _ (List.mem_of_getElem? (i := 37) rfl))) (notFace_of_selects (args := #[]) (mvT hZ (hw _ (List.mem_of_getElem? (i := 39) rfl)))) (mvT hZ (hw _ (List.mem_of_getElem? (i := 39) rfl))) (mvT hZ (hw _ (List.mem_of_getElem? (i := 38) rfl))) (by decide) (backOf (W := 0) (rm4 l Z a0 hw [] a le2 T2.heap n0 Z2 f2_le) hZ (hw _ (List.mem_of_getElem? (i := 40) rfl)) (hw _ (List.mem_of_getElem? (i := 6) rfl)) (by decide) (by decide)) q59a q59c (g := (mkF m 94 #[rv a, iv p1, iv v2, iv (3 : Int32)] [(.ref a)])) rfl (by rw [hml]; rfl) (Steps.refl _) (argsL := []) (rest := []) (lenOf pd15_1 rfl) rfl (by show 2 * 0 + _ ≤ _; exact Nat.le_of_eq rfl) (hb hby d15_94) (fun _ _ => ⟨rfl, e55, (by decide : 0 + 0 ≤ _), (by decide : 0 + 0 ≤ _)⟩)
      dsimp only [Pt.U, Pt.locs, Pt.cells, Pt.slots] at X59 l59 y59 z59 st59 hQ59
      subst l59 y59 z59
      obtain ⟨rfl, Nq59, e59⟩ := hQ59
      have N59 := Fr.app N56 Nq59
      obtain ⟨LL60, X60, N60⟩ : ∃ LL, Stand p l e ({ frames := 2, cells := 0, slots := 0, locals := 40 } : Room) s m #[(.ref a), (.int p1)] below meth c T59 LL 0 0 ∧ Fr n0 LL := ⟨_, X59, N59⟩
      have pre61 : ∀ t, own_s p e below T59 m 97 #[rv a, iv p1, iv v2, iv (3 : Int32)] [(.int le2)] t → Steps p.tables e below S0 t := fun tX kX => pre58 _ (st59.trans kX)
      have pre62 : ∀ t, own_s p e below T59 m 102 #[rv a, iv p1, iv v2, iv (3 : Int32)] [(.ref a)] t → Steps p.tables e below S0 t := by
        intro tX kX
        refine pre61 _ ?_
        show own_s p e below T59 m 97 #[rv a, iv p1, iv v2, iv (3 : Int32)] [(.int le2)] _
        refine XS.iloadN X60.here hx rfl (hb hby d15_97) rfl ?_
        show own_s p e below T59 m 98 #[rv a, iv p1, iv v2, iv (3 : Int32)] [(.int (3 : Int32)), (.int le2)] _
        refine XS.icmpNo X60.here hx rfl (hb hby d15_98) rfl (teq (own_eqI (show (le2).toInt = ((3 : Int32)).toInt from (by omega : (le2).toInt = (3 : Int))))).2 ?_
        show own_s p e below T59 m 101 #[rv a, iv p1, iv v2, iv (3 : Int32)] [] _
        refine XS.aloadN X60.here hx rfl (hb hby d15_101) rfl rfl ?_
        exact kX
      obtain ⟨cq63, kq63, q63a, q63b, q63c⟩ := isOf hZ e59 fE2
      obtain ⟨_, _, ⟨T63, L63, k63, n63⟩, -, X63, ⟨Lc63, hQ63, l63, y63, z63⟩, st63⟩ := X60.virtualBack hx (y := (⟨"com/example/weaverbird/weaverbird/model/xml/Utf8Decoder", "taken", "()I"⟩ : MethodName)) (z := (⟨"com/example/weaverbird/weaverbird/model/xml/Utf8Decoder", "taken", "()I"⟩ : MethodName)) hown (mvT hZ (hw _ (List.mem_of_getElem? (i := 41) rfl))) (mvT hZ (hw _ (List.mem_of_getElem? (i := 42) rfl))) (notFace_of_selects (args := #[]) (mvT hZ (hw _ (List.mem_of_getElem? (i := 44) rfl)))) (mvT hZ (hw _ (List.mem_of_getElem? (i := 44) rfl))) (mvT hZ (hw _ (List.mem_of_getElem? (i := 43) rfl))) (by decide) (backOf (W := 0) (rm5 l Z a0 hw [] a ta2 T2.heap n0 Z2 f2_ta) hZ (hw _ (List.mem_of_getElem? (i := 45) rfl)) (hw _ (List.mem_of_getElem? (i := 6) rfl)) (by decide) (by decide)) q63a q63c (g := (mkF m 102 #[rv a, iv p1, iv v2, iv (3 : Int32)] [(.ref a)])) rfl (by rw [hml]; rfl) (Steps.refl _) (argsL := []) (rest := []) (lenOf pd15_1 rfl) rfl (by show 2 * 0 + _ ≤ _; exact Nat.le_of_eq rfl) (hb hby d15_102) (fun _ _ => ⟨rfl, e59, (by decide : 0 + 0 ≤ _), (by decide : 0 + 0 ≤ _)⟩)
      dsimp only [Pt.U, Pt.locs, Pt.cells, Pt.slots] at X63 l63 y63 z63 st63 hQ63
      subst l63 y63 z63
      obtain ⟨rfl, Nq63, e63⟩ := hQ63
      have N63 := Fr.app N60 Nq63
      obtain ⟨LL64, X64, N64⟩ : ∃ LL, Stand p l e ({ frames := 2, cells := 0, slots := 0, locals := 40 } : Room) s m #[(.ref a), (.int p1)] below meth c T63 LL 0 0 ∧ Fr n0 LL := ⟨_, X63, N63⟩
      have pre65 : ∀ t, own_s p e below T63 m 105 #[rv a, iv p1, iv v2, iv (3 : Int32)] [(.int ta2)] t → Steps p.tables e below S0 t := fun tX kX => pre62 _ (st63.trans kX)
      have pre66 : ∀ t, own_s p e below T63 m 114 #[rv a, iv p1, iv v2, iv (3 : Int32)] [(.int (1 : Int32))] t → Steps p.tables e below S0 t := by
        intro tX kX
        refine pre65 _ ?_
        show own_s p e below T63 m 105 #[rv a, iv p1, iv v2, iv (3 : Int32)] [(.int ta2)] _
        refine XS.iconst X64.here hx rfl (hb hby d15_105) ?_
        show own_s p e below T63 m 106 #[rv a, iv p1, iv v2, iv (3 : Int32)] [(.int (1 : Int32)), (.int ta2)] _
        refine XS.icmpNo X64.here hx rfl (hb hby d15_106) rfl (teq (own_eqI (show (ta2).toInt = ((1 : Int32)).toInt from (by omega : (ta2).toInt = (1 : Int))))).2 ?_
        show own_s p e below T63 m 109 #[rv a, iv p1, iv v2, iv (3 : Int32)] [] _
        refine XS.iconst X64.here hx rfl (hb hby d15_109) ?_
        show own_s p e below T63 m 110 #[rv a, iv p1, iv v2, iv (3 : Int32)] [(.int (1 : Int32))] _
        refine XS.goto X64.here hx rfl (pc0 := 110) (pc' := 114) rfl (hb hby d15_110) (by decide) (by decide) ?_
        exact kX
      subst hS0
      obtain ⟨fs, hr, hrun, hended, hW, hsame⟩ := X64.leave (v := (some (.int (1 : Int32)))) (fun h => by rw [Bd.returns] at h; cases h)
      refine ⟨_, _, pre66 _ (retN X64 hx (t := .boolean) Bd.returns (by simp) (hb hby d15_114) hr), hrun, hended, _, _, rfl, ?_, ⟨_, rfl⟩, hW, hsame.mono (by decide) (by decide)⟩
      show Q15 Z a p1 pa le ta lo hi re h0 n0 (some (.int (1 : Int32))) T63.heap _
      exact ⟨rfl, N64⟩
    · skip
      obtain ⟨LL67, X67, N67⟩ : ∃ LL, Stand p l e ({ frames := 2, cells := 0, slots := 0, locals := 40 } : Room) s m #[(.ref a), (.int p1)] below meth c T55 LL 0 0 ∧ Fr n0 LL := ⟨_, X55, N55⟩
      have pre68 : ∀ t, own_s p e below T55 m 57 #[rv a, iv p1, iv v2, iv (3 : Int32)] [(.int (0 : Int32))] t → Steps p.tables e below S0 t := fun tX kX => pre54 _ (st55 _ kX)
      have pre69 : ∀ t, own_s p e below T55 m 67 #[rv a, iv p1, iv v2, iv (3 : Int32)] [(.ref a)] t → Steps p.tables e below S0 t := by
        intro tX kX
        refine pre68 _ ?_
        show own_s p e below T55 m 57 #[rv a, iv p1, iv v2, iv (3 : Int32)] [(.int (0 : Int32))] _
        refine XS.ifNo X67.here hx rfl (hb hby d15_57) rfl ((if0 _ _).trans (teq (by decide : (0 : Int32) = (0 : Int32))).2) ?_
        show own_s p e below T55 m 60 #[rv a, iv p1, iv v2, iv (3 : Int32)] [] _
        refine XS.iloadN X67.here hx rfl (hb hby d15_60) rfl ?_
        show own_s p e below T55 m 61 #[rv a, iv p1, iv v2, iv (3 : Int32)] [(.int v2)] _
        refine XS.bipush X67.here hx rfl (hb hby d15_61) ?_
        show own_s p e below T55 m 63 #[rv a, iv p1, iv v2, iv (3 : Int32)] [(.int (-3 : Int32)), (.int v2)] _
        refine XS.icmpNo X67.here hx rfl (hb hby d15_63) rfl (teq (own_eqI (show (v2).toInt = ((-3 : Int32)).toInt from (by omega : (v2).toInt = (-3 : Int))))).2 ?_
        show own_s p e below T55 m 66 #[rv a, iv p1, iv v2, iv (3 : Int32)] [] _
        refine XS.aloadN X67.here hx rfl (hb hby d15_66) rfl rfl ?_
        exact kX
      obtain ⟨cq70, kq70, q70a, q70b, q70c⟩ := isOf hZ e55 fE2
      obtain ⟨_, _, ⟨T70, L70, k70, n70⟩, -, X70, ⟨Lc70, hQ70, l70, y70, z70⟩, st70⟩ := X67.virtualBack hx (y := (⟨"com/example/weaverbird/weaverbird/model/xml/Utf8Decoder", "length", "()I"⟩ : MethodName)) (z := (⟨"com/example/weaverbird/weaverbird/model/xml/Utf8Decoder", "length", "()I"⟩ : MethodName)) hown (mvT hZ (hw _ (List.mem_of_getElem? (i := 36) rfl))) (mvT hZ (hw _ (List.mem_of_getElem? (i := 37) rfl))) (notFace_of_selects (args := #[]) (mvT hZ (hw _ (List.mem_of_getElem? (i := 39) rfl)))) (mvT hZ (hw _ (List.mem_of_getElem? (i := 39) rfl))) (mvT hZ (hw _ (List.mem_of_getElem? (i := 38) rfl))) (by decide) (backOf (W := 0) (rm4 l Z a0 hw [] a le2 T2.heap n0 Z2 f2_le) hZ (hw _ (List.mem_of_getElem? (i := 40) rfl)) (hw _ (List.mem_of_getElem? (i := 6) rfl)) (by decide) (by decide)) q70a q70c (g := (mkF m 67 #[rv a, iv p1, iv v2, iv (3 : Int32)] [(.ref a)])) rfl (by rw [hml]; rfl) (Steps.refl _) (argsL := []) (rest := []) (lenOf pd15_1 rfl) rfl (by show 2 * 0 + _ ≤ _; exact Nat.le_of_eq rfl) (hb hby d15_67) (fun _ _ => ⟨rfl, e55, (by decide : 0 + 0 ≤ _), (by decide : 0 + 0 ≤ _)⟩)
      dsimp only [Pt.U, Pt.locs, Pt.cells, Pt.slots] at X70 l70 y70 z70 st70 hQ70
      subst l70 y70 z70
      obtain ⟨rfl, Nq70, e70⟩ := hQ70
      have N70 := Fr.app N67 Nq70
      obtain ⟨LL71, X71, N71⟩ : ∃ LL, Stand p l e ({ frames := 2, cells := 0, slots := 0, locals := 40 } : Room) s m #[(.ref a), (.int p1)] below meth c T70 LL 0 0 ∧ Fr n0 LL := ⟨_, X70, N70⟩
      have pre72 : ∀ t, own_s p e below T70 m 70 #[rv a, iv p1, iv v2, iv (3 : Int32)] [(.int le2)] t → Steps p.tables e below S0 t := fun tX kX => pre69 _ (st70.trans kX)
      have pre73 : ∀ t, own_s p e below T70 m 75 #[rv a, iv p1, iv v2, iv (3 : Int32)] [(.ref a)] t → Steps p.tables e below S0 t := by
        intro tX kX
        refine pre72 _ ?_
        show own_s p e below T70 m 70 #[rv a, iv p1, iv v2, iv (3 : Int32)] [(.int le2)] _
        refine XS.iconst X71.here hx rfl (hb hby d15_70) ?_
        show own_s p e below T70 m 71 #[rv a, iv p1, iv v2, iv (3 : Int32)] [(.int (1 : Int32)), (.int le2)] _
        refine XS.icmpNo X71.here hx rfl (hb hby d15_71) rfl (teq (own_eqI (show (le2).toInt = ((1 : Int32)).toInt from (by omega : (le2).toInt = (1 : Int))))).2 ?_
        show own_s p e below T70 m 74 #[rv a, iv p1, iv v2, iv (3 : Int32)] [] _
        refine XS.aloadN X71.here hx rfl (hb hby d15_74) rfl rfl ?_
        exact kX
      obtain ⟨cq74, kq74, q74a, q74b, q74c⟩ := isOf hZ e70 fE2
      obtain ⟨_, _, ⟨T74, L74, k74, n74⟩, -, X74, ⟨Lc74, hQ74, l74, y74, z74⟩, st74⟩ := X71.virtualBack hx (y := (⟨"com/example/weaverbird/weaverbird/model/xml/Utf8Decoder", "taken", "()I"⟩ : MethodName)) (z := (⟨"com/example/weaverbird/weaverbird/model/xml/Utf8Decoder", "taken", "()I"⟩ : MethodName)) hown (mvT hZ (hw _ (List.mem_of_getElem? (i := 41) rfl))) (mvT hZ (hw _ (List.mem_of_getElem? (i := 42) rfl))) (notFace_of_selects (args := #[]) (mvT hZ (hw _ (List.mem_of_getElem? (i := 44) rfl)))) (mvT hZ (hw _ (List.mem_of_getElem? (i := 44) rfl))) (mvT hZ (hw _ (List.mem_of_getElem? (i := 43) rfl))) (by decide) (backOf (W := 0) (rm5 l Z a0 hw [] a ta2 T2.heap n0 Z2 f2_ta) hZ (hw _ (List.mem_of_getElem? (i := 45) rfl)) (hw _ (List.mem_of_getElem? (i := 6) rfl)) (by decide) (by decide)) q74a q74c (g := (mkF m 75 #[rv a, iv p1, iv v2, iv (3 : Int32)] [(.ref a)])) rfl (by rw [hml]; rfl) (Steps.refl _) (argsL := []) (rest := []) (lenOf pd15_1 rfl) rfl (by show 2 * 0 + _ ≤ _; exact Nat.le_of_eq rfl) (hb hby d15_75) (fun _ _ => ⟨rfl, e70, (by decide : 0 + 0 ≤ _), (by decide : 0 + 0 ≤ _)⟩)
      dsimp only [Pt.U, Pt.locs, Pt.cells, Pt.slots] at X74 l74 y74 z74 st74 hQ74
      subst l74 y74 z74
      obtain ⟨rfl, Nq74, e74⟩ := hQ74
      have N74 := Fr.app N71 Nq74
      obtain ⟨LL75, X75, N75⟩ : ∃ LL, Stand p l e ({ frames := 2, cells := 0, slots := 0, locals := 40 } : Room) s m #[(.ref a), (.int p1)] below meth c T74 LL 0 0 ∧ Fr n0 LL := ⟨_, X74, N74⟩
      have pre76 : ∀ t, own_s p e below T74 m 78 #[rv a, iv p1, iv v2, iv (3 : Int32)] [(.int ta2)] t → Steps p.tables e below S0 t := fun tX kX => pre73 _ (st74.trans kX)
      have pre77 : ∀ t, own_s p e below T74 m 87 #[rv a, iv p1, iv v2, iv (3 : Int32)] [(.int (1 : Int32))] t → Steps p.tables e below S0 t := by
        intro tX kX
        refine pre76 _ ?_
        show own_s p e below T74 m 78 #[rv a, iv p1, iv v2, iv (3 : Int32)] [(.int ta2)] _
        refine XS.iconst X75.here hx rfl (hb hby d15_78) ?_
        show own_s p e below T74 m 79 #[rv a, iv p1, iv v2, iv (3 : Int32)] [(.int (1 : Int32)), (.int ta2)] _
        refine XS.icmpNo X75.here hx rfl (hb hby d15_79) rfl (teq (own_eqI (show (ta2).toInt = ((1 : Int32)).toInt from (by omega : (ta2).toInt = (1 : Int))))).2 ?_
        show own_s p e below T74 m 82 #[rv a, iv p1, iv v2, iv (3 : Int32)] [] _
        refine XS.iconst X75.here hx rfl (hb hby d15_82) ?_
        show own_s p e below T74 m 83 #[rv a, iv p1, iv v2, iv (3 : Int32)] [(.int (1 : Int32))] _
        refine XS.goto X75.here hx rfl (pc0 := 83) (pc' := 87) rfl (hb hby d15_83) (by decide) (by decide) ?_
        exact kX
      subst hS0
      obtain ⟨fs, hr, hrun, hended, hW, hsame⟩ := X75.leave (v := (some (.int (1 : Int32)))) (fun h => by rw [Bd.returns] at h; cases h)
      refine ⟨_, _, pre77 _ (retN X75 hx (t := .boolean) Bd.returns (by simp) (hb hby d15_87) hr), hrun, hended, _, _, rfl, ?_, ⟨_, rfl⟩, hW, hsame.mono (by decide) (by decide)⟩
      show Q15 Z a p1 pa le ta lo hi re h0 n0 (some (.int (1 : Int32))) T74.heap _
      exact ⟨rfl, N75⟩
  · skip
    obtain ⟨LL78, X78, N78⟩ : ∃ LL, Stand p l e ({ frames := 2, cells := 0, slots := 0, locals := 40 } : Room) s m #[(.ref a), (.int p1)] below meth c T6 LL 0 0 ∧ Fr n0 LL := ⟨_, X6, N6⟩
    have pre79 : ∀ t, own_s p e below T6 m 10 #[rv a, iv p1, iv v2, .unset] [(.int (4 : Int32))] t → Steps p.tables e below S0 t := fun tX kX => pre5 _ (st6 _ kX)
    have pre80 : ∀ t, own_s p e below T6 m 49 #[rv a, iv p1, iv v2, iv (4 : Int32)] [(.int (4 : Int32)), (.int p1)] t → Steps p.tables e below S0 t := by
      intro tX kX
      refine pre79 _ ?_
      show own_s p e below T6 m 10 #[rv a, iv p1, iv v2, .unset] [(.int (4 : Int32))] _
      refine XS.istoreN X78.here hx rfl (hb hby d15_10) rfl (l' := #[rv a, iv p1, iv v2, iv (4 : Int32)]) rfl ?_
      show own_s p e below T6 m 11 #[rv a, iv p1, iv v2, iv (4 : Int32)] [] _
      refine XS.iloadN X78.here hx rfl (hb hby d15_11) rfl ?_
      show own_s p e below T6 m 12 #[rv a, iv p1, iv v2, iv (4 : Int32)] [(.int (4 : Int32))] _
      refine XS.iconst X78.here hx rfl (hb hby d15_12) ?_
      show own_s p e below T6 m 13 #[rv a, iv p1, iv v2, iv (4 : Int32)] [(.int (1 : Int32)), (.int (4 : Int32))] _
      refine XS.icmpYes X78.here hx rfl (pc0 := 13) (pc' := 43) rfl (hb hby d15_13) rfl (feq (by decide : ¬ ((4 : Int32) = (1 : Int32)))).2 (by decide) (by decide) ?_
      show own_s p e below T6 m 43 #[rv a, iv p1, iv v2, iv (4 : Int32)] [] _
      refine XS.iloadN X78.here hx rfl (hb hby d15_43) rfl ?_
      show own_s p e below T6 m 44 #[rv a, iv p1, iv v2, iv (4 : Int32)] [(.int (4 : Int32))] _
      refine XS.ifNo X78.here hx rfl (hb hby d15_44) rfl ((if0 _ _).trans (feq (by decide : ¬ ((4 : Int32) = (0 : Int32)))).1) ?_
      show own_s p e below T6 m 47 #[rv a, iv p1, iv v2, iv (4 : Int32)] [] _
      refine XS.iloadN X78.here hx rfl (hb hby d15_47) rfl ?_
      show own_s p e below T6 m 48 #[rv a, iv p1, iv v2, iv (4 : Int32)] [(.int p1)] _
      refine XS.iloadN X78.here hx rfl (hb hby d15_48) rfl ?_
      exact kX
    obtain ⟨_, _, ⟨T81, L81, k81, n81⟩, -, X81, ⟨Lc81, hQ81, l81, y81, z81⟩, st81⟩ := Jvm.LawKit.callS X78 hx (y := (⟨"com/example/weaverbird/weaverbird/model/xml/Utf8DecoderTakePinLaw", "leadBits", "(II)I"⟩ : MethodName)) hown (mvT hZ (hw _ (List.mem_of_getElem? (i := 49) rfl))) (mvT hZ (hw _ (List.mem_of_getElem? (i := 50) rfl))) (mvT hZ (hw _ (List.mem_of_getElem? (i := 2) rfl))) (mvT hZ (hw _ (List.mem_of_getElem? (i := 51) rfl))) (by decide) (backOf (W := 0) (rm10 l Z a0 hw [] p1  T2.heap n0 Z2 ) hZ (hw _ (List.mem_of_getElem? (i := 51) rfl)) (hw _ (List.mem_of_getElem? (i := 2) rfl)) (by decide) (by decide)) (g := (mkF m 49 #[rv a, iv p1, iv v2, iv (4 : Int32)] [(.int (4 : Int32)), (.int p1)])) rfl (by rw [hml]; rfl) (argsL := [(.int p1), (.int (4 : Int32))]) (rest := []) (lenOf pd15_2 rfl) rfl (by show 2 * 0 + _ ≤ _; exact Nat.le_of_eq rfl) (hb hby d15_49) (fun _ _ => ⟨rfl, e6, (by decide : 0 + 0 ≤ _), (by decide : 0 + 0 ≤ _)⟩)
    dsimp only [Pt.U, Pt.locs, Pt.cells, Pt.slots] at X81 l81 y81 z81 st81 hQ81
    subst l81 y81 z81
    obtain ⟨⟨v81, rfl, B81⟩, Nq81, e81⟩ := hQ81
    have N81 := Fr.app N78 Nq81
    obtain ⟨LL82, X82, N82⟩ : ∃ LL, Stand p l e ({ frames := 2, cells := 0, slots := 0, locals := 40 } : Room) s m #[(.ref a), (.int p1)] below meth c T81 LL 0 0 ∧ Fr n0 LL := ⟨_, X81, N81⟩
    have pre83 : ∀ t, own_s p e below T81 m 52 #[rv a, iv p1, iv v2, iv (4 : Int32)] [(.int v81)] t → Steps p.tables e below S0 t := fun tX kX => pre80 _ (st81 _ kX)
    have pre84 : ∀ t, own_s p e below T81 m 54 #[rv a, iv p1, iv v2, iv (4 : Int32)] [(.int (1 : Int32)), (.int (4 : Int32)), (.int v81)] t → Steps p.tables e below S0 t := by
      intro tX kX
      refine pre83 _ ?_
      show own_s p e below T81 m 52 #[rv a, iv p1, iv v2, iv (4 : Int32)] [(.int v81)] _
      refine XS.iloadN X82.here hx rfl (hb hby d15_52) rfl ?_
      show own_s p e below T81 m 53 #[rv a, iv p1, iv v2, iv (4 : Int32)] [(.int (4 : Int32)), (.int v81)] _
      refine XS.iconst X82.here hx rfl (hb hby d15_53) ?_
      exact kX
    obtain ⟨_, _, ⟨T85, L85, k85, n85⟩, -, X85, ⟨Lc85, hQ85, l85, y85, z85⟩, st85⟩ := Jvm.LawKit.callS X82 hx (y := (⟨"com/example/weaverbird/weaverbird/model/xml/Utf8DecoderTakePinLaw", "feasible", "(III)Z"⟩ : MethodName)) hown (mvT hZ (hw _ (List.mem_of_getElem? (i := 52) rfl))) (mvT hZ (hw _ (List.mem_of_getElem? (i := 53) rfl))) (mvT hZ (hw _ (List.mem_of_getElem? (i := 2) rfl))) (mvT hZ (hw _ (List.mem_of_getElem? (i := 54) rfl))) (by decide) (backOf (W := 0) (rm22 l Z a0 hw [] v81  T2.heap n0 Z2 (by omega) (by omega)) hZ (hw _ (List.mem_of_getElem? (i := 54) rfl)) (hw _ (List.mem_of_getElem? (i := 2) rfl)) (by decide) (by decide)) (g := (mkF m 54 #[rv a, iv p1, iv v2, iv (4 : Int32)] [(.int (1 : Int32)), (.int (4 : Int32)), (.int v81)])) rfl (by rw [hml]; rfl) (argsL := [(.int v81), (.int (4 : Int32)), (.int (1 : Int32))]) (rest := []) (lenOf pd15_3 rfl) rfl (by show 2 * 0 + _ ≤ _; exact Nat.le_of_eq rfl) (hb hby d15_54) (fun _ _ => ⟨rfl, e81, (by decide : 0 + 0 ≤ _), (by decide : 0 + 0 ≤ _)⟩)
    dsimp only [Pt.U, Pt.locs, Pt.cells, Pt.slots] at X85 l85 y85 z85 st85 hQ85
    subst l85 y85 z85
    obtain ⟨D85, Nq85, e85⟩ := hQ85
    have N85 := Fr.app N82 Nq85
    rcases D85 with ⟨rfl, B85⟩ | ⟨rfl, B85⟩
    · skip
      obtain ⟨LL86, X86, N86⟩ : ∃ LL, Stand p l e ({ frames := 2, cells := 0, slots := 0, locals := 40 } : Room) s m #[(.ref a), (.int p1)] below meth c T85 LL 0 0 ∧ Fr n0 LL := ⟨_, X85, N85⟩
      have pre87 : ∀ t, own_s p e below T85 m 57 #[rv a, iv p1, iv v2, iv (4 : Int32)] [(.int (1 : Int32))] t → Steps p.tables e below S0 t := fun tX kX => pre84 _ (st85 _ kX)
      have pre88 : ∀ t, own_s p e below T85 m 94 #[rv a, iv p1, iv v2, iv (4 : Int32)] [(.ref a)] t → Steps p.tables e below S0 t := by
        intro tX kX
        refine pre87 _ ?_
        show own_s p e below T85 m 57 #[rv a, iv p1, iv v2, iv (4 : Int32)] [(.int (1 : Int32))] _
        refine XS.ifYes X86.here hx rfl (pc0 := 57) (pc' := 88) rfl (hb hby d15_57) rfl ((if0 _ _).trans (feq (by decide : ¬ ((1 : Int32) = (0 : Int32)))).2) (by decide) (by decide) ?_
        show own_s p e below T85 m 88 #[rv a, iv p1, iv v2, iv (4 : Int32)] [] _
        refine XS.iloadN X86.here hx rfl (hb hby d15_88) rfl ?_
        show own_s p e below T85 m 89 #[rv a, iv p1, iv v2, iv (4 : Int32)] [(.int v2)] _
        refine XS.iconst X86.here hx rfl (hb hby d15_89) ?_
        show own_s p e below T85 m 90 #[rv a, iv p1, iv v2, iv (4 : Int32)] [(.int (-1 : Int32)), (.int v2)] _
        refine XS.icmpNo X86.here hx rfl (hb hby d15_90) rfl (teq (own_eqI (show (v2).toInt = ((-1 : Int32)).toInt from (by omega : (v2).toInt = (-1 : Int))))).2 ?_
        show own_s p e below T85 m 93 #[rv a, iv p1, iv v2, iv (4 : Int32)] [] _
        refine XS.aloadN X86.here hx rfl (hb hby d15_93) rfl rfl ?_
        exact kX
      obtain ⟨cq89, kq89, q89a, q89b, q89c⟩ := isOf hZ e85 fE2
      obtain ⟨_, _, ⟨T89, L89, k89, n89⟩, -, X89, ⟨Lc89, hQ89, l89, y89, z89⟩, st89⟩ := X86.virtualBack hx (y := (⟨"com/example/weaverbird/weaverbird/model/xml/Utf8Decoder", "length", "()I"⟩ : MethodName)) (z := (⟨"com/example/weaverbird/weaverbird/model/xml/Utf8Decoder", "length", "()I"⟩ : MethodName)) hown (mvT hZ (hw _ (List.mem_of_getElem? (i := 36) rfl))) (mvT hZ (hw _ (List.mem_of_getElem? (i := 37) rfl))) (notFace_of_selects (args := #[]) (mvT hZ (hw _ (List.mem_of_getElem? (i := 39) rfl)))) (mvT hZ (hw _ (List.mem_of_getElem? (i := 39) rfl))) (mvT hZ (hw _ (List.mem_of_getElem? (i := 38) rfl))) (by decide) (backOf (W := 0) (rm4 l Z a0 hw [] a le2 T2.heap n0 Z2 f2_le) hZ (hw _ (List.mem_of_getElem? (i := 40) rfl)) (hw _ (List.mem_of_getElem? (i := 6) rfl)) (by decide) (by decide)) q89a q89c (g := (mkF m 94 #[rv a, iv p1, iv v2, iv (4 : Int32)] [(.ref a)])) rfl (by rw [hml]; rfl) (Steps.refl _) (argsL := []) (rest := []) (lenOf pd15_1 rfl) rfl (by show 2 * 0 + _ ≤ _; exact Nat.le_of_eq rfl) (hb hby d15_94) (fun _ _ => ⟨rfl, e85, (by decide : 0 + 0 ≤ _), (by decide : 0 + 0 ≤ _)⟩)
      dsimp only [Pt.U, Pt.locs, Pt.cells, Pt.slots] at X89 l89 y89 z89 st89 hQ89
      subst l89 y89 z89
      obtain ⟨rfl, Nq89, e89⟩ := hQ89
      have N89 := Fr.app N86 Nq89
      obtain ⟨LL90, X90, N90⟩ : ∃ LL, Stand p l e ({ frames := 2, cells := 0, slots := 0, locals := 40 } : Room) s m #[(.ref a), (.int p1)] below meth c T89 LL 0 0 ∧ Fr n0 LL := ⟨_, X89, N89⟩
      have pre91 : ∀ t, own_s p e below T89 m 97 #[rv a, iv p1, iv v2, iv (4 : Int32)] [(.int le2)] t → Steps p.tables e below S0 t := fun tX kX => pre88 _ (st89.trans kX)
      have pre92 : ∀ t, own_s p e below T89 m 102 #[rv a, iv p1, iv v2, iv (4 : Int32)] [(.ref a)] t → Steps p.tables e below S0 t := by
        intro tX kX
        refine pre91 _ ?_
        show own_s p e below T89 m 97 #[rv a, iv p1, iv v2, iv (4 : Int32)] [(.int le2)] _
        refine XS.iloadN X90.here hx rfl (hb hby d15_97) rfl ?_
        show own_s p e below T89 m 98 #[rv a, iv p1, iv v2, iv (4 : Int32)] [(.int (4 : Int32)), (.int le2)] _
        refine XS.icmpNo X90.here hx rfl (hb hby d15_98) rfl (teq (own_eqI (show (le2).toInt = ((4 : Int32)).toInt from (by omega : (le2).toInt = (4 : Int))))).2 ?_
        show own_s p e below T89 m 101 #[rv a, iv p1, iv v2, iv (4 : Int32)] [] _
        refine XS.aloadN X90.here hx rfl (hb hby d15_101) rfl rfl ?_
        exact kX
      obtain ⟨cq93, kq93, q93a, q93b, q93c⟩ := isOf hZ e89 fE2
      obtain ⟨_, _, ⟨T93, L93, k93, n93⟩, -, X93, ⟨Lc93, hQ93, l93, y93, z93⟩, st93⟩ := X90.virtualBack hx (y := (⟨"com/example/weaverbird/weaverbird/model/xml/Utf8Decoder", "taken", "()I"⟩ : MethodName)) (z := (⟨"com/example/weaverbird/weaverbird/model/xml/Utf8Decoder", "taken", "()I"⟩ : MethodName)) hown (mvT hZ (hw _ (List.mem_of_getElem? (i := 41) rfl))) (mvT hZ (hw _ (List.mem_of_getElem? (i := 42) rfl))) (notFace_of_selects (args := #[]) (mvT hZ (hw _ (List.mem_of_getElem? (i := 44) rfl)))) (mvT hZ (hw _ (List.mem_of_getElem? (i := 44) rfl))) (mvT hZ (hw _ (List.mem_of_getElem? (i := 43) rfl))) (by decide) (backOf (W := 0) (rm5 l Z a0 hw [] a ta2 T2.heap n0 Z2 f2_ta) hZ (hw _ (List.mem_of_getElem? (i := 45) rfl)) (hw _ (List.mem_of_getElem? (i := 6) rfl)) (by decide) (by decide)) q93a q93c (g := (mkF m 102 #[rv a, iv p1, iv v2, iv (4 : Int32)] [(.ref a)])) rfl (by rw [hml]; rfl) (Steps.refl _) (argsL := []) (rest := []) (lenOf pd15_1 rfl) rfl (by show 2 * 0 + _ ≤ _; exact Nat.le_of_eq rfl) (hb hby d15_102) (fun _ _ => ⟨rfl, e89, (by decide : 0 + 0 ≤ _), (by decide : 0 + 0 ≤ _)⟩)
      dsimp only [Pt.U, Pt.locs, Pt.cells, Pt.slots] at X93 l93 y93 z93 st93 hQ93
      subst l93 y93 z93
      obtain ⟨rfl, Nq93, e93⟩ := hQ93
      have N93 := Fr.app N90 Nq93
      obtain ⟨LL94, X94, N94⟩ : ∃ LL, Stand p l e ({ frames := 2, cells := 0, slots := 0, locals := 40 } : Room) s m #[(.ref a), (.int p1)] below meth c T93 LL 0 0 ∧ Fr n0 LL := ⟨_, X93, N93⟩
      have pre95 : ∀ t, own_s p e below T93 m 105 #[rv a, iv p1, iv v2, iv (4 : Int32)] [(.int ta2)] t → Steps p.tables e below S0 t := fun tX kX => pre92 _ (st93.trans kX)
      have pre96 : ∀ t, own_s p e below T93 m 114 #[rv a, iv p1, iv v2, iv (4 : Int32)] [(.int (1 : Int32))] t → Steps p.tables e below S0 t := by
        intro tX kX
        refine pre95 _ ?_
        show own_s p e below T93 m 105 #[rv a, iv p1, iv v2, iv (4 : Int32)] [(.int ta2)] _
        refine XS.iconst X94.here hx rfl (hb hby d15_105) ?_
        show own_s p e below T93 m 106 #[rv a, iv p1, iv v2, iv (4 : Int32)] [(.int (1 : Int32)), (.int ta2)] _
        refine XS.icmpNo X94.here hx rfl (hb hby d15_106) rfl (teq (own_eqI (show (ta2).toInt = ((1 : Int32)).toInt from (by omega : (ta2).toInt = (1 : Int))))).2 ?_
        show own_s p e below T93 m 109 #[rv a, iv p1, iv v2, iv (4 : Int32)] [] _
        refine XS.iconst X94.here hx rfl (hb hby d15_109) ?_
        show own_s p e below T93 m 110 #[rv a, iv p1, iv v2, iv (4 : Int32)] [(.int (1 : Int32))] _
        refine XS.goto X94.here hx rfl (pc0 := 110) (pc' := 114) rfl (hb hby d15_110) (by decide) (by decide) ?_
        exact kX
      subst hS0
      obtain ⟨fs, hr, hrun, hended, hW, hsame⟩ := X94.leave (v := (some (.int (1 : Int32)))) (fun h => by rw [Bd.returns] at h; cases h)
      refine ⟨_, _, pre96 _ (retN X94 hx (t := .boolean) Bd.returns (by simp) (hb hby d15_114) hr), hrun, hended, _, _, rfl, ?_, ⟨_, rfl⟩, hW, hsame.mono (by decide) (by decide)⟩
      show Q15 Z a p1 pa le ta lo hi re h0 n0 (some (.int (1 : Int32))) T93.heap _
      exact ⟨rfl, N94⟩
    · skip
      obtain ⟨LL97, X97, N97⟩ : ∃ LL, Stand p l e ({ frames := 2, cells := 0, slots := 0, locals := 40 } : Room) s m #[(.ref a), (.int p1)] below meth c T85 LL 0 0 ∧ Fr n0 LL := ⟨_, X85, N85⟩
      have pre98 : ∀ t, own_s p e below T85 m 57 #[rv a, iv p1, iv v2, iv (4 : Int32)] [(.int (0 : Int32))] t → Steps p.tables e below S0 t := fun tX kX => pre84 _ (st85 _ kX)
      have pre99 : ∀ t, own_s p e below T85 m 67 #[rv a, iv p1, iv v2, iv (4 : Int32)] [(.ref a)] t → Steps p.tables e below S0 t := by
        intro tX kX
        refine pre98 _ ?_
        show own_s p e below T85 m 57 #[rv a, iv p1, iv v2, iv (4 : Int32)] [(.int (0 : Int32))] _
        refine XS.ifNo X97.here hx rfl (hb hby d15_57) rfl ((if0 _ _).trans (teq (by decide : (0 : Int32) = (0 : Int32))).2) ?_
        show own_s p e below T85 m 60 #[rv a, iv p1, iv v2, iv (4 : Int32)] [] _
        refine XS.iloadN X97.here hx rfl (hb hby d15_60) rfl ?_
        show own_s p e below T85 m 61 #[rv a, iv p1, iv v2, iv (4 : Int32)] [(.int v2)] _
        refine XS.bipush X97.here hx rfl (hb hby d15_61) ?_
        show own_s p e below T85 m 63 #[rv a, iv p1, iv v2, iv (4 : Int32)] [(.int (-3 : Int32)), (.int v2)] _
        refine XS.icmpNo X97.here hx rfl (hb hby d15_63) rfl (teq (own_eqI (show (v2).toInt = ((-3 : Int32)).toInt from (by omega : (v2).toInt = (-3 : Int))))).2 ?_
        show own_s p e below T85 m 66 #[rv a, iv p1, iv v2, iv (4 : Int32)] [] _
        refine XS.aloadN X97.here hx rfl (hb hby d15_66) rfl rfl ?_
        exact kX
      obtain ⟨cq100, kq100, q100a, q100b, q100c⟩ := isOf hZ e85 fE2
      obtain ⟨_, _, ⟨T100, L100, k100, n100⟩, -, X100, ⟨Lc100, hQ100, l100, y100, z100⟩, st100⟩ := X97.virtualBack hx (y := (⟨"com/example/weaverbird/weaverbird/model/xml/Utf8Decoder", "length", "()I"⟩ : MethodName)) (z := (⟨"com/example/weaverbird/weaverbird/model/xml/Utf8Decoder", "length", "()I"⟩ : MethodName)) hown (mvT hZ (hw _ (List.mem_of_getElem? (i := 36) rfl))) (mvT hZ (hw _ (List.mem_of_getElem? (i := 37) rfl))) (notFace_of_selects (args := #[]) (mvT hZ (hw _ (List.mem_of_getElem? (i := 39) rfl)))) (mvT hZ (hw _ (List.mem_of_getElem? (i := 39) rfl))) (mvT hZ (hw _ (List.mem_of_getElem? (i := 38) rfl))) (by decide) (backOf (W := 0) (rm4 l Z a0 hw [] a le2 T2.heap n0 Z2 f2_le) hZ (hw _ (List.mem_of_getElem? (i := 40) rfl)) (hw _ (List.mem_of_getElem? (i := 6) rfl)) (by decide) (by decide)) q100a q100c (g := (mkF m 67 #[rv a, iv p1, iv v2, iv (4 : Int32)] [(.ref a)])) rfl (by rw [hml]; rfl) (Steps.refl _) (argsL := []) (rest := []) (lenOf pd15_1 rfl) rfl (by show 2 * 0 + _ ≤ _; exact Nat.le_of_eq rfl) (hb hby d15_67) (fun _ _ => ⟨rfl, e85, (by decide : 0 + 0 ≤ _), (by decide : 0 + 0 ≤ _)⟩)
      dsimp only [Pt.U, Pt.locs, Pt.cells, Pt.slots] at X100 l100 y100 z100 st100 hQ100
      subst l100 y100 z100
      obtain ⟨rfl, Nq100, e100⟩ := hQ100
      have N100 := Fr.app N97 Nq100
      obtain ⟨LL101, X101, N101⟩ : ∃ LL, Stand p l e ({ frames := 2, cells := 0, slots := 0, locals := 40 } : Room) s m #[(.ref a), (.int p1)] below meth c T100 LL 0 0 ∧ Fr n0 LL := ⟨_, X100, N100⟩
      have pre102 : ∀ t, own_s p e below T100 m 70 #[rv a, iv p1, iv v2, iv (4 : Int32)] [(.int le2)] t → Steps p.tables e below S0 t := fun tX kX => pre99 _ (st100.trans kX)
      have pre103 : ∀ t, own_s p e below T100 m 75 #[rv a, iv p1, iv v2, iv (4 : Int32)] [(.ref a)] t → Steps p.tables e below S0 t := by
        intro tX kX
        refine pre102 _ ?_
        show own_s p e below T100 m 70 #[rv a, iv p1, iv v2, iv (4 : Int32)] [(.int le2)] _
        refine XS.iconst X101.here hx rfl (hb hby d15_70) ?_
        show own_s p e below T100 m 71 #[rv a, iv p1, iv v2, iv (4 : Int32)] [(.int (1 : Int32)), (.int le2)] _
        refine XS.icmpNo X101.here hx rfl (hb hby d15_71) rfl (teq (own_eqI (show (le2).toInt = ((1 : Int32)).toInt from (by omega : (le2).toInt = (1 : Int))))).2 ?_
        show own_s p e below T100 m 74 #[rv a, iv p1, iv v2, iv (4 : Int32)] [] _
        refine XS.aloadN X101.here hx rfl (hb hby d15_74) rfl rfl ?_
        exact kX
      obtain ⟨cq104, kq104, q104a, q104b, q104c⟩ := isOf hZ e100 fE2
      obtain ⟨_, _, ⟨T104, L104, k104, n104⟩, -, X104, ⟨Lc104, hQ104, l104, y104, z104⟩, st104⟩ := X101.virtualBack hx (y := (⟨"com/example/weaverbird/weaverbird/model/xml/Utf8Decoder", "taken", "()I"⟩ : MethodName)) (z := (⟨"com/example/weaverbird/weaverbird/model/xml/Utf8Decoder", "taken", "()I"⟩ : MethodName)) hown (mvT hZ (hw _ (List.mem_of_getElem? (i := 41) rfl))) (mvT hZ (hw _ (List.mem_of_getElem? (i := 42) rfl))) (notFace_of_selects (args := #[]) (mvT hZ (hw _ (List.mem_of_getElem? (i := 44) rfl)))) (mvT hZ (hw _ (List.mem_of_getElem? (i := 44) rfl))) (mvT hZ (hw _ (List.mem_of_getElem? (i := 43) rfl))) (by decide) (backOf (W := 0) (rm5 l Z a0 hw [] a ta2 T2.heap n0 Z2 f2_ta) hZ (hw _ (List.mem_of_getElem? (i := 45) rfl)) (hw _ (List.mem_of_getElem? (i := 6) rfl)) (by decide) (by decide)) q104a q104c (g := (mkF m 75 #[rv a, iv p1, iv v2, iv (4 : Int32)] [(.ref a)])) rfl (by rw [hml]; rfl) (Steps.refl _) (argsL := []) (rest := []) (lenOf pd15_1 rfl) rfl (by show 2 * 0 + _ ≤ _; exact Nat.le_of_eq rfl) (hb hby d15_75) (fun _ _ => ⟨rfl, e100, (by decide : 0 + 0 ≤ _), (by decide : 0 + 0 ≤ _)⟩)
      dsimp only [Pt.U, Pt.locs, Pt.cells, Pt.slots] at X104 l104 y104 z104 st104 hQ104
      subst l104 y104 z104
      obtain ⟨rfl, Nq104, e104⟩ := hQ104
      have N104 := Fr.app N101 Nq104
      obtain ⟨LL105, X105, N105⟩ : ∃ LL, Stand p l e ({ frames := 2, cells := 0, slots := 0, locals := 40 } : Room) s m #[(.ref a), (.int p1)] below meth c T104 LL 0 0 ∧ Fr n0 LL := ⟨_, X104, N104⟩
      have pre106 : ∀ t, own_s p e below T104 m 78 #[rv a, iv p1, iv v2, iv (4 : Int32)] [(.int ta2)] t → Steps p.tables e below S0 t := fun tX kX => pre103 _ (st104.trans kX)
      have pre107 : ∀ t, own_s p e below T104 m 87 #[rv a, iv p1, iv v2, iv (4 : Int32)] [(.int (1 : Int32))] t → Steps p.tables e below S0 t := by
        intro tX kX
        refine pre106 _ ?_
        show own_s p e below T104 m 78 #[rv a, iv p1, iv v2, iv (4 : Int32)] [(.int ta2)] _
        refine XS.iconst X105.here hx rfl (hb hby d15_78) ?_
        show own_s p e below T104 m 79 #[rv a, iv p1, iv v2, iv (4 : Int32)] [(.int (1 : Int32)), (.int ta2)] _
        refine XS.icmpNo X105.here hx rfl (hb hby d15_79) rfl (teq (own_eqI (show (ta2).toInt = ((1 : Int32)).toInt from (by omega : (ta2).toInt = (1 : Int))))).2 ?_
        show own_s p e below T104 m 82 #[rv a, iv p1, iv v2, iv (4 : Int32)] [] _
        refine XS.iconst X105.here hx rfl (hb hby d15_82) ?_
        show own_s p e below T104 m 83 #[rv a, iv p1, iv v2, iv (4 : Int32)] [(.int (1 : Int32))] _
        refine XS.goto X105.here hx rfl (pc0 := 83) (pc' := 87) rfl (hb hby d15_83) (by decide) (by decide) ?_
        exact kX
      subst hS0
      obtain ⟨fs, hr, hrun, hended, hW, hsame⟩ := X105.leave (v := (some (.int (1 : Int32)))) (fun h => by rw [Bd.returns] at h; cases h)
      refine ⟨_, _, pre107 _ (retN X105 hx (t := .boolean) Bd.returns (by simp) (hb hby d15_87) hr), hrun, hended, _, _, rfl, ?_, ⟨_, rfl⟩, hW, hsame.mono (by decide) (by decide)⟩
      show Q15 Z a p1 pa le ta lo hi re h0 n0 (some (.int (1 : Int32))) T104.heap _
      exact ⟨rfl, N105⟩
  · skip
    obtain ⟨LL108, X108, N108⟩ : ∃ LL, Stand p l e ({ frames := 2, cells := 0, slots := 0, locals := 40 } : Room) s m #[(.ref a), (.int p1)] below meth c T6 LL 0 0 ∧ Fr n0 LL := ⟨_, X6, N6⟩
    have pre109 : ∀ t, own_s p e below T6 m 10 #[rv a, iv p1, iv v2, .unset] [(.int (0 : Int32))] t → Steps p.tables e below S0 t := fun tX kX => pre5 _ (st6 _ kX)
    have pre110 : ∀ t, own_s p e below T6 m 67 #[rv a, iv p1, iv v2, iv (0 : Int32)] [(.ref a)] t → Steps p.tables e below S0 t := by
      intro tX kX
      refine pre109 _ ?_
      show own_s p e below T6 m 10 #[rv a, iv p1, iv v2, .unset] [(.int (0 : Int32))] _
      refine XS.istoreN X108.here hx rfl (hb hby d15_10) rfl (l' := #[rv a, iv p1, iv v2, iv (0 : Int32)]) rfl ?_
      show own_s p e below T6 m 11 #[rv a, iv p1, iv v2, iv (0 : Int32)] [] _
      refine XS.iloadN X108.here hx rfl (hb hby d15_11) rfl ?_
      show own_s p e below T6 m 12 #[rv a, iv p1, iv v2, iv (0 : Int32)] [(.int (0 : Int32))] _
      refine XS.iconst X108.here hx rfl (hb hby d15_12) ?_
      show own_s p e below T6 m 13 #[rv a, iv p1, iv v2, iv (0 : Int32)] [(.int (1 : Int32)), (.int (0 : Int32))] _
      refine XS.icmpYes X108.here hx rfl (pc0 := 13) (pc' := 43) rfl (hb hby d15_13) rfl (feq (by decide : ¬ ((0 : Int32) = (1 : Int32)))).2 (by decide) (by decide) ?_
      show own_s p e below T6 m 43 #[rv a, iv p1, iv v2, iv (0 : Int32)] [] _
      refine XS.iloadN X108.here hx rfl (hb hby d15_43) rfl ?_
      show own_s p e below T6 m 44 #[rv a, iv p1, iv v2, iv (0 : Int32)] [(.int (0 : Int32))] _
      refine XS.ifYes X108.here hx rfl (pc0 := 44) (pc' := 60) rfl (hb hby d15_44) rfl ((if0 _ _).trans (teq (by decide : (0 : Int32) = (0 : Int32))).1) (by decide) (by decide) ?_
      show own_s p e below T6 m 60 #[rv a, iv p1, iv v2, iv (0 : Int32)] [] _
      refine XS.iloadN X108.here hx rfl (hb hby d15_60) rfl ?_
      show own_s p e below T6 m 61 #[rv a, iv p1, iv v2, iv (0 : Int32)] [(.int v2)] _
      refine XS.bipush X108.here hx rfl (hb hby d15_61) ?_
      show own_s p e below T6 m 63 #[rv a, iv p1, iv v2, iv (0 : Int32)] [(.int (-3 : Int32)), (.int v2)] _
      refine XS.icmpNo X108.here hx rfl (hb hby d15_63) rfl (teq (own_eqI (show (v2).toInt = ((-3 : Int32)).toInt from (by omega : (v2).toInt = (-3 : Int))))).2 ?_
      show own_s p e below T6 m 66 #[rv a, iv p1, iv v2, iv (0 : Int32)] [] _
      refine XS.aloadN X108.here hx rfl (hb hby d15_66) rfl rfl ?_
      exact kX
    obtain ⟨cq111, kq111, q111a, q111b, q111c⟩ := isOf hZ e6 fE2
    obtain ⟨_, _, ⟨T111, L111, k111, n111⟩, -, X111, ⟨Lc111, hQ111, l111, y111, z111⟩, st111⟩ := X108.virtualBack hx (y := (⟨"com/example/weaverbird/weaverbird/model/xml/Utf8Decoder", "length", "()I"⟩ : MethodName)) (z := (⟨"com/example/weaverbird/weaverbird/model/xml/Utf8Decoder", "length", "()I"⟩ : MethodName)) hown (mvT hZ (hw _ (List.mem_of_getElem? (i := 36) rfl))) (mvT hZ (hw _ (List.mem_of_getElem? (i := 37) rfl))) (notFace_of_selects (args := #[]) (mvT hZ (hw _ (List.mem_of_getElem? (i := 39) rfl)))) (mvT hZ (hw _ (List.mem_of_getElem? (i := 39) rfl))) (mvT hZ (hw _ (List.mem_of_getElem? (i := 38) rfl))) (by decide) (backOf (W := 0) (rm4 l Z a0 hw [] a le2 T2.heap n0 Z2 f2_le) hZ (hw _ (List.mem_of_getElem? (i := 40) rfl)) (hw _ (List.mem_of_getElem? (i := 6) rfl)) (by decide) (by decide)) q111a q111c (g := (mkF m 67 #[rv a, iv p1, iv v2, iv (0 : Int32)] [(.ref a)])) rfl (by rw [hml]; rfl) (Steps.refl _) (argsL := []) (rest := []) (lenOf pd15_1 rfl) rfl (by show 2 * 0 + _ ≤ _; exact Nat.le_of_eq rfl) (hb hby d15_67) (fun _ _ => ⟨rfl, e6, (by decide : 0 + 0 ≤ _), (by decide : 0 + 0 ≤ _)⟩)
    dsimp only [Pt.U, Pt.locs, Pt.cells, Pt.slots] at X111 l111 y111 z111 st111 hQ111
    subst l111 y111 z111
    obtain ⟨rfl, Nq111, e111⟩ := hQ111
    have N111 := Fr.app N108 Nq111
    obtain ⟨LL112, X112, N112⟩ : ∃ LL, Stand p l e ({ frames := 2, cells := 0, slots := 0, locals := 40 } : Room) s m #[(.ref a), (.int p1)] below meth c T111 LL 0 0 ∧ Fr n0 LL := ⟨_, X111, N111⟩
    have pre113 : ∀ t, own_s p e below T111 m 70 #[rv a, iv p1, iv v2, iv (0 : Int32)] [(.int le2)] t → Steps p.tables e below S0 t := fun tX kX => pre110 _ (st111.trans kX)
    have pre114 : ∀ t, own_s p e below T111 m 75 #[rv a, iv p1, iv v2, iv (0 : Int32)] [(.ref a)] t → Steps p.tables e below S0 t := by
      intro tX kX
      refine pre113 _ ?_
      show own_s p e below T111 m 70 #[rv a, iv p1, iv v2, iv (0 : Int32)] [(.int le2)] _
      refine XS.iconst X112.here hx rfl (hb hby d15_70) ?_
      show own_s p e below T111 m 71 #[rv a, iv p1, iv v2, iv (0 : Int32)] [(.int (1 : Int32)), (.int le2)] _
      refine XS.icmpNo X112.here hx rfl (hb hby d15_71) rfl (teq (own_eqI (show (le2).toInt = ((1 : Int32)).toInt from (by omega : (le2).toInt = (1 : Int))))).2 ?_
      show own_s p e below T111 m 74 #[rv a, iv p1, iv v2, iv (0 : Int32)] [] _
      refine XS.aloadN X112.here hx rfl (hb hby d15_74) rfl rfl ?_
      exact kX
    obtain ⟨cq115, kq115, q115a, q115b, q115c⟩ := isOf hZ e111 fE2
    obtain ⟨_, _, ⟨T115, L115, k115, n115⟩, -, X115, ⟨Lc115, hQ115, l115, y115, z115⟩, st115⟩ := X112.virtualBack hx (y := (⟨"com/example/weaverbird/weaverbird/model/xml/Utf8Decoder", "taken", "()I"⟩ : MethodName)) (z := (⟨"com/example/weaverbird/weaverbird/model/xml/Utf8Decoder", "taken", "()I"⟩ : MethodName)) hown (mvT hZ (hw _ (List.mem_of_getElem? (i := 41) rfl))) (mvT hZ (hw _ (List.mem_of_getElem? (i := 42) rfl))) (notFace_of_selects (args := #[]) (mvT hZ (hw _ (List.mem_of_getElem? (i := 44) rfl)))) (mvT hZ (hw _ (List.mem_of_getElem? (i := 44) rfl))) (mvT hZ (hw _ (List.mem_of_getElem? (i := 43) rfl))) (by decide) (backOf (W := 0) (rm5 l Z a0 hw [] a ta2 T2.heap n0 Z2 f2_ta) hZ (hw _ (List.mem_of_getElem? (i := 45) rfl)) (hw _ (List.mem_of_getElem? (i := 6) rfl)) (by decide) (by decide)) q115a q115c (g := (mkF m 75 #[rv a, iv p1, iv v2, iv (0 : Int32)] [(.ref a)])) rfl (by rw [hml]; rfl) (Steps.refl _) (argsL := []) (rest := []) (lenOf pd15_1 rfl) rfl (by show 2 * 0 + _ ≤ _; exact Nat.le_of_eq rfl) (hb hby d15_75) (fun _ _ => ⟨rfl, e111, (by decide : 0 + 0 ≤ _), (by decide : 0 + 0 ≤ _)⟩)
    dsimp only [Pt.U, Pt.locs, Pt.cells, Pt.slots] at X115 l115 y115 z115 st115 hQ115
    subst l115 y115 z115
    obtain ⟨rfl, Nq115, e115⟩ := hQ115
    have N115 := Fr.app N112 Nq115
    obtain ⟨LL116, X116, N116⟩ : ∃ LL, Stand p l e ({ frames := 2, cells := 0, slots := 0, locals := 40 } : Room) s m #[(.ref a), (.int p1)] below meth c T115 LL 0 0 ∧ Fr n0 LL := ⟨_, X115, N115⟩
    have pre117 : ∀ t, own_s p e below T115 m 78 #[rv a, iv p1, iv v2, iv (0 : Int32)] [(.int ta2)] t → Steps p.tables e below S0 t := fun tX kX => pre114 _ (st115.trans kX)
    have pre118 : ∀ t, own_s p e below T115 m 87 #[rv a, iv p1, iv v2, iv (0 : Int32)] [(.int (1 : Int32))] t → Steps p.tables e below S0 t := by
      intro tX kX
      refine pre117 _ ?_
      show own_s p e below T115 m 78 #[rv a, iv p1, iv v2, iv (0 : Int32)] [(.int ta2)] _
      refine XS.iconst X116.here hx rfl (hb hby d15_78) ?_
      show own_s p e below T115 m 79 #[rv a, iv p1, iv v2, iv (0 : Int32)] [(.int (1 : Int32)), (.int ta2)] _
      refine XS.icmpNo X116.here hx rfl (hb hby d15_79) rfl (teq (own_eqI (show (ta2).toInt = ((1 : Int32)).toInt from (by omega : (ta2).toInt = (1 : Int))))).2 ?_
      show own_s p e below T115 m 82 #[rv a, iv p1, iv v2, iv (0 : Int32)] [] _
      refine XS.iconst X116.here hx rfl (hb hby d15_82) ?_
      show own_s p e below T115 m 83 #[rv a, iv p1, iv v2, iv (0 : Int32)] [(.int (1 : Int32))] _
      refine XS.goto X116.here hx rfl (pc0 := 83) (pc' := 87) rfl (hb hby d15_83) (by decide) (by decide) ?_
      exact kX
    subst hS0
    obtain ⟨fs, hr, hrun, hended, hW, hsame⟩ := X116.leave (v := (some (.int (1 : Int32)))) (fun h => by rw [Bd.returns] at h; cases h)
    refine ⟨_, _, pre118 _ (retN X116 hx (t := .boolean) Bd.returns (by simp) (hb hby d15_87) hr), hrun, hended, _, _, rfl, ?_, ⟨_, rfl⟩, hW, hsame.mono (by decide) (by decide)⟩
    show Q15 Z a p1 pa le ta lo hi re h0 n0 (some (.int (1 : Int32))) T115.heap _
    exact ⟨rfl, N116⟩
theorem d16_0 : decode method_4_code 0 = .ok (.iload_n 1, 1) := by decide +kernel
theorem d16_1 : decode method_4_code 1 = .ok (.iload_n 2, 1) := by decide +kernel
theorem d16_2 : decode method_4_code 2 = .ok (.if_icmp .ne 33, 3) := by decide +kernel
theorem d16_5 : decode method_4_code 5 = .ok (.aload_n 0, 1) := by decide +kernel
theorem d16_6 : decode method_4_code 6 = .ok (.invokevirtual 38, 3) := by decide +kernel
theorem d16_9 : decode method_4_code 9 = .ok (.iload_n 3, 1) := by decide +kernel
theorem d16_10 : decode method_4_code 10 = .ok (.if_icmp .ne 25, 3) := by decide +kernel
theorem d16_13 : decode method_4_code 13 = .ok (.aload_n 0, 1) := by decide +kernel
theorem d16_14 : decode method_4_code 14 = .ok (.invokevirtual 42, 3) := by decide +kernel
theorem d16_17 : decode method_4_code 17 = .ok (.iload 4, 2) := by decide +kernel
theorem d16_19 : decode method_4_code 19 = .ok (.if_icmp .ne 16, 3) := by decide +kernel
theorem d16_22 : decode method_4_code 22 = .ok (.aload_n 0, 1) := by decide +kernel
theorem d16_23 : decode method_4_code 23 = .ok (.iload 5, 2) := by decide +kernel
theorem d16_25 : decode method_4_code 25 = .ok (.invokestatic 45, 3) := by decide +kernel
theorem d16_28 : decode method_4_code 28 = .ok (.ifCond .eq 7, 3) := by decide +kernel
theorem d16_31 : decode method_4_code 31 = .ok (.iconst 1, 1) := by decide +kernel
theorem d16_32 : decode method_4_code 32 = .ok (.goto 4, 3) := by decide +kernel
theorem d16_36 : decode method_4_code 36 = .ok (.ireturn, 1) := by decide +kernel
theorem pn_16 : plainName "com/example/weaverbird/weaverbird/model/xml/Utf8DecoderTakePinLaw" = true := by first | (simp [plainName, overriddenIn]; done) | decide +kernel
theorem pd16_0 : parseMethodDescriptor "()I" = some ⟨[], some .int⟩ := by decide +kernel
theorem pd16_1 : parseMethodDescriptor "(Lcom/example/weaverbird/weaverbird/model/xml/Utf8Decoder;I)Z" = some ⟨[(.object "com/example/weaverbird/weaverbird/model/xml/Utf8Decoder"), .int], some .boolean⟩ := by decide +kernel
theorem ef_16 (m : MethodId) (a : Addr) (p1 : Int32) (p2 : Int32) (p3 : Int32) (p4 : Int32) (p5 : Int32) : entryFrame m #[(.ref a), (.int p1), (.int p2), (.int p3), (.int p4), (.int p5)] 6 = mkF m 0 #[rv a, iv p1, iv p2, iv p3, iv p4, iv p5] [] := by first | (simp [entryFrame, mkF, argsToLocals, Value.category]; done) | rfl
def Q16 (Z : State) (a : Addr) (p1 : Int32) (p2 : Int32) (p3 : Int32) (p4 : Int32) (p5 : Int32) (pa : Int32) (le : Int32) (ta : Int32) (lo : Int32) (hi : Int32) (re : Int32) (h0 : Heap) (n0 : Nat) (v : Option Value) (h : Heap) (L : List Loc) : Prop := v = some (.int 1) ∧ Fr n0 L
set_option maxRecDepth 65536 in
set_option maxHeartbeats 40000000 in
theorem rm16 (l : Launch) (Z : State) (a0 : Array Value) (hw : ∀ d ∈ tables_1, d.before a0 Z = true) (ws : List Jvm.Cond) (a : Addr) (p1 : Int32) (p2 : Int32) (p3 : Int32) (p4 : Int32) (p5 : Int32) (pa : Int32) (le : Int32) (ta : Int32) (lo : Int32) (hi : Int32) (re : Int32) (h0 : Heap) (n0 : Nat) (Z0 : n0 ≤ h0.size) (E_a : Exa Z h0 a "com/example/weaverbird/weaverbird/model/xml/Utf8Decoder") (F_pa : Fld Z h0 a "com/example/weaverbird/weaverbird/model/xml/Utf8Decoder" "partial" "I" (.int pa)) (F_le : Fld Z h0 a "com/example/weaverbird/weaverbird/model/xml/Utf8Decoder" "length" "I" (.int le)) (F_ta : Fld Z h0 a "com/example/weaverbird/weaverbird/model/xml/Utf8Decoder" "taken" "I" (.int ta)) (F_lo : Fld Z h0 a "com/example/weaverbird/weaverbird/model/xml/Utf8Decoder" "low" "I" (.int lo)) (F_hi : Fld Z h0 a "com/example/weaverbird/weaverbird/model/xml/Utf8Decoder" "high" "I" (.int hi)) (F_re : Fld Z h0 a "com/example/weaverbird/weaverbird/model/xml/Utf8Decoder" "reading" "Z" (.int re)) (g_a : n0 ≤ a) (hre : re = 0) (hr : p1 = p2) (hl : le = p3) (ht : ta = p4) (hx0 : 0 ≤ p5.toInt) (hx1 : p5.toInt ≤ 255) :
    MetFree l (⟨"com/example/weaverbird/weaverbird/model/xml/Utf8DecoderTakePinLaw", "ended", "(Lcom/example/weaverbird/weaverbird/model/xml/Utf8Decoder;IIIII)Z"⟩ : MethodName) (head1 (Jvm.Cond.code (⟨"com/example/weaverbird/weaverbird/model/xml/Utf8DecoderTakePinLaw", "ended", "(Lcom/example/weaverbird/weaverbird/model/xml/Utf8Decoder;IIIII)Z"⟩ : MethodName) method_4_code 6 (some .boolean) :: ws) ({ frames := 3, cells := 0, slots := 0, locals := 70 } : Room)) (fun aX UX => aX = #[(.ref a), (.int p1), (.int p2), (.int p3), (.int p4), (.int p5)] ∧ Z.Warmed39 UX.vm ∧ UX.heap = h0) (fun _ _ _ _ _ => True) (fun _ UX oX UY => ∃ vX LX, oX = .returned vX ∧ Q16 Z a p1 p2 p3 p4 p5 pa le ta lo hi re h0 n0 vX UY.heap LX ∧ FrameEnd UX oX UY LX ({ frames := 3, cells := 0, slots := 0, locals := 70 } : Room).cells ({ frames := 3, cells := 0, slots := 0, locals := 70 } : Room).slots) := by
  refine MetFree.of_bodySF (plainFor_of_name pn_16) hisR ?_
  intro p e s m args below meth c s₁ Bd hml0 hPX hKX
  obtain ⟨rfl, hZ, hh⟩ := hPX
  have hx := Bd.exec
  have hby := Bd.bytes
  have hml : c.maxLocals = 6 := hml0
  have hown : s.vm.findClass "com/example/weaverbird/weaverbird/model/xml/Utf8DecoderTakePinLaw" = some m.cls := findClass_of_methodNamed Bd.named
  have hnm := (name_of_methodNamed Bd.named Bd.method).1
  have X0 : Stand p l e ({ frames := 3, cells := 0, slots := 0, locals := 70 } : Room) s m #[(.ref a), (.int p1), (.int p2), (.int p3), (.int p4), (.int p5)] below meth c s₁ [] 0 0 := Stand.of_body Bd
  have e0 : s₁.heap = h0 := by rw [← hh, Bd.state]; rfl
  have N0 := Fr.nil n0
  have pre0 : ∀ t, Steps p.tables e below (s₁.setTop (mkF m 0 #[rv a, iv p1, iv p2, iv p3, iv p4, iv p5] [])) t → Steps p.tables e below (s₁.setTop (entryFrame m #[(.ref a), (.int p1), (.int p2), (.int p3), (.int p4), (.int p5)] 6)) t := fun t k => castTop (ef_16 m a p1 p2 p3 p4 p5) k
  obtain ⟨S0, hS0⟩ : ∃ z, z = (s₁.setTop (entryFrame m #[(.ref a), (.int p1), (.int p2), (.int p3), (.int p4), (.int p5)] 6)) := ⟨_, rfl⟩
  rw [← hS0] at pre0
  have pre1 : ∀ t, own_s p e below s₁ m 6 #[rv a, iv p1, iv p2, iv p3, iv p4, iv p5] [(.ref a)] t → Steps p.tables e below S0 t := by
    intro tX kX
    refine pre0 _ ?_
    show own_s p e below s₁ m 0 #[rv a, iv p1, iv p2, iv p3, iv p4, iv p5] [] _
    refine XS.iloadN X0.here hx rfl (hb hby d16_0) rfl ?_
    show own_s p e below s₁ m 1 #[rv a, iv p1, iv p2, iv p3, iv p4, iv p5] [(.int p1)] _
    refine XS.iloadN X0.here hx rfl (hb hby d16_1) rfl ?_
    show own_s p e below s₁ m 2 #[rv a, iv p1, iv p2, iv p3, iv p4, iv p5] [(.int p2), (.int p1)] _
    refine XS.icmpNo X0.here hx rfl (hb hby d16_2) rfl (teq hr).2 ?_
    show own_s p e below s₁ m 5 #[rv a, iv p1, iv p2, iv p3, iv p4, iv p5] [] _
    refine XS.aloadN X0.here hx rfl (hb hby d16_5) rfl rfl ?_
    exact kX
  obtain ⟨cq2, kq2, q2a, q2b, q2c⟩ := isOf hZ e0 E_a
  obtain ⟨_, _, ⟨T2, L2, k2, n2⟩, -, X2, ⟨Lc2, hQ2, l2, y2, z2⟩, st2⟩ := X0.virtualBack hx (y := (⟨"com/example/weaverbird/weaverbird/model/xml/Utf8Decoder", "length", "()I"⟩ : MethodName)) (z := (⟨"com/example/weaverbird/weaverbird/model/xml/Utf8Decoder", "length", "()I"⟩ : MethodName)) hown (mvT hZ (hw _ (List.mem_of_getElem? (i := 36) rfl))) (mvT hZ (hw _ (List.mem_of_getElem? (i := 37) rfl))) (notFace_of_selects (args := #[]) (mvT hZ (hw _ (List.mem_of_getElem? (i := 39) rfl)))) (mvT hZ (hw _ (List.mem_of_getElem? (i := 39) rfl))) (mvT hZ (hw _ (List.mem_of_getElem? (i := 38) rfl))) (by decide) (backOf (W := 0) (rm4 l Z a0 hw [] a le h0 n0 Z0 F_le) hZ (hw _ (List.mem_of_getElem? (i := 40) rfl)) (hw _ (List.mem_of_getElem? (i := 6) rfl)) (by decide) (by decide)) q2a q2c (g := (mkF m 6 #[rv a, iv p1, iv p2, iv p3, iv p4, iv p5] [(.ref a)])) rfl (by rw [hml]; rfl) (Steps.refl _) (argsL := []) (rest := []) (lenOf pd16_0 rfl) rfl (by show 2 * 0 + _ ≤ _; exact Nat.le_of_eq rfl) (hb hby d16_6) (fun _ _ => ⟨rfl, e0, (by decide : 0 + 0 ≤ _), (by decide : 0 + 0 ≤ _)⟩)
  dsimp only [Pt.U, Pt.locs, Pt.cells, Pt.slots] at X2 l2 y2 z2 st2 hQ2
  subst l2 y2 z2
  obtain ⟨rfl, Nq2, e2⟩ := hQ2
  have N2 := Fr.app N0 Nq2
  obtain ⟨LL3, X3, N3⟩ : ∃ LL, Stand p l e ({ frames := 3, cells := 0, slots := 0, locals := 70 } : Room) s m #[(.ref a), (.int p1), (.int p2), (.int p3), (.int p4), (.int p5)] below meth c T2 LL 0 0 ∧ Fr n0 LL := ⟨_, X2, N2⟩
  have pre4 : ∀ t, own_s p e below T2 m 9 #[rv a, iv p1, iv p2, iv p3, iv p4, iv p5] [(.int le)] t → Steps p.tables e below S0 t := fun tX kX => pre1 _ (st2.trans kX)
  have pre5 : ∀ t, own_s p e below T2 m 14 #[rv a, iv p1, iv p2, iv p3, iv p4, iv p5] [(.ref a)] t → Steps p.tables e below S0 t := by
    intro tX kX
    refine pre4 _ ?_
    show own_s p e below T2 m 9 #[rv a, iv p1, iv p2, iv p3, iv p4, iv p5] [(.int le)] _
    refine XS.iloadN X3.here hx rfl (hb hby d16_9) rfl ?_
    show own_s p e below T2 m 10 #[rv a, iv p1, iv p2, iv p3, iv p4, iv p5] [(.int p3), (.int le)] _
    refine XS.icmpNo X3.here hx rfl (hb hby d16_10) rfl (teq hl).2 ?_
    show own_s p e below T2 m 13 #[rv a, iv p1, iv p2, iv p3, iv p4, iv p5] [] _
    refine XS.aloadN X3.here hx rfl (hb hby d16_13) rfl rfl ?_
    exact kX
  obtain ⟨cq6, kq6, q6a, q6b, q6c⟩ := isOf hZ e2 E_a
  obtain ⟨_, _, ⟨T6, L6, k6, n6⟩, -, X6, ⟨Lc6, hQ6, l6, y6, z6⟩, st6⟩ := X3.virtualBack hx (y := (⟨"com/example/weaverbird/weaverbird/model/xml/Utf8Decoder", "taken", "()I"⟩ : MethodName)) (z := (⟨"com/example/weaverbird/weaverbird/model/xml/Utf8Decoder", "taken", "()I"⟩ : MethodName)) hown (mvT hZ (hw _ (List.mem_of_getElem? (i := 41) rfl))) (mvT hZ (hw _ (List.mem_of_getElem? (i := 42) rfl))) (notFace_of_selects (args := #[]) (mvT hZ (hw _ (List.mem_of_getElem? (i := 44) rfl)))) (mvT hZ (hw _ (List.mem_of_getElem? (i := 44) rfl))) (mvT hZ (hw _ (List.mem_of_getElem? (i := 43) rfl))) (by decide) (backOf (W := 0) (rm5 l Z a0 hw [] a ta h0 n0 Z0 F_ta) hZ (hw _ (List.mem_of_getElem? (i := 45) rfl)) (hw _ (List.mem_of_getElem? (i := 6) rfl)) (by decide) (by decide)) q6a q6c (g := (mkF m 14 #[rv a, iv p1, iv p2, iv p3, iv p4, iv p5] [(.ref a)])) rfl (by rw [hml]; rfl) (Steps.refl _) (argsL := []) (rest := []) (lenOf pd16_0 rfl) rfl (by show 2 * 0 + _ ≤ _; exact Nat.le_of_eq rfl) (hb hby d16_14) (fun _ _ => ⟨rfl, e2, (by decide : 0 + 0 ≤ _), (by decide : 0 + 0 ≤ _)⟩)
  dsimp only [Pt.U, Pt.locs, Pt.cells, Pt.slots] at X6 l6 y6 z6 st6 hQ6
  subst l6 y6 z6
  obtain ⟨rfl, Nq6, e6⟩ := hQ6
  have N6 := Fr.app N3 Nq6
  obtain ⟨LL7, X7, N7⟩ : ∃ LL, Stand p l e ({ frames := 3, cells := 0, slots := 0, locals := 70 } : Room) s m #[(.ref a), (.int p1), (.int p2), (.int p3), (.int p4), (.int p5)] below meth c T6 LL 0 0 ∧ Fr n0 LL := ⟨_, X6, N6⟩
  have pre8 : ∀ t, own_s p e below T6 m 17 #[rv a, iv p1, iv p2, iv p3, iv p4, iv p5] [(.int ta)] t → Steps p.tables e below S0 t := fun tX kX => pre5 _ (st6.trans kX)
  have pre9 : ∀ t, own_s p e below T6 m 25 #[rv a, iv p1, iv p2, iv p3, iv p4, iv p5] [(.int p5), (.ref a)] t → Steps p.tables e below S0 t := by
    intro tX kX
    refine pre8 _ ?_
    show own_s p e below T6 m 17 #[rv a, iv p1, iv p2, iv p3, iv p4, iv p5] [(.int ta)] _
    refine XS.iload X7.here hx rfl (hb hby d16_17) rfl ?_
    show own_s p e below T6 m 19 #[rv a, iv p1, iv p2, iv p3, iv p4, iv p5] [(.int p4), (.int ta)] _
    refine XS.icmpNo X7.here hx rfl (hb hby d16_19) rfl (teq ht).2 ?_
    show own_s p e below T6 m 22 #[rv a, iv p1, iv p2, iv p3, iv p4, iv p5] [] _
    refine XS.aloadN X7.here hx rfl (hb hby d16_22) rfl rfl ?_
    show own_s p e below T6 m 23 #[rv a, iv p1, iv p2, iv p3, iv p4, iv p5] [(.ref a)] _
    refine XS.iload X7.here hx rfl (hb hby d16_23) rfl ?_
    exact kX
  obtain ⟨_, _, ⟨T10, L10, k10, n10⟩, -, X10, ⟨Lc10, hQ10, l10, y10, z10⟩, st10⟩ := Jvm.LawKit.callS X7 hx (y := (⟨"com/example/weaverbird/weaverbird/model/xml/Utf8DecoderTakePinLaw", "after", "(Lcom/example/weaverbird/weaverbird/model/xml/Utf8Decoder;I)Z"⟩ : MethodName)) hown (mvT hZ (hw _ (List.mem_of_getElem? (i := 46) rfl))) (mvT hZ (hw _ (List.mem_of_getElem? (i := 47) rfl))) (mvT hZ (hw _ (List.mem_of_getElem? (i := 2) rfl))) (mvT hZ (hw _ (List.mem_of_getElem? (i := 48) rfl))) (by decide) (backOf (W := 0) (rm15 l Z a0 hw [] a p5 pa le ta lo hi re h0 n0 Z0 E_a F_pa F_le F_ta F_lo F_hi F_re g_a hre hx0 hx1) hZ (hw _ (List.mem_of_getElem? (i := 48) rfl)) (hw _ (List.mem_of_getElem? (i := 2) rfl)) (by decide) (by decide)) (g := (mkF m 25 #[rv a, iv p1, iv p2, iv p3, iv p4, iv p5] [(.int p5), (.ref a)])) rfl (by rw [hml]; rfl) (argsL := [(.ref a), (.int p5)]) (rest := []) (lenOf pd16_1 rfl) rfl (by show 2 * 0 + _ ≤ _; exact Nat.le_of_eq rfl) (hb hby d16_25) (fun _ _ => ⟨rfl, e6, (by decide : 0 + 0 ≤ _), (by decide : 0 + 0 ≤ _)⟩)
  dsimp only [Pt.U, Pt.locs, Pt.cells, Pt.slots] at X10 l10 y10 z10 st10 hQ10
  subst l10 y10 z10
  obtain ⟨rfl, Nq10⟩ := hQ10
  have N10 := Fr.app N7 Nq10
  have e10 : T10.heap = T10.heap := rfl
  obtain ⟨LL11, X11, N11⟩ : ∃ LL, Stand p l e ({ frames := 3, cells := 0, slots := 0, locals := 70 } : Room) s m #[(.ref a), (.int p1), (.int p2), (.int p3), (.int p4), (.int p5)] below meth c T10 LL 0 0 ∧ Fr n0 LL := ⟨_, X10, N10⟩
  have pre12 : ∀ t, own_s p e below T10 m 28 #[rv a, iv p1, iv p2, iv p3, iv p4, iv p5] [(.int (1 : Int32))] t → Steps p.tables e below S0 t := fun tX kX => pre9 _ (st10 _ kX)
  have pre13 : ∀ t, own_s p e below T10 m 36 #[rv a, iv p1, iv p2, iv p3, iv p4, iv p5] [(.int (1 : Int32))] t → Steps p.tables e below S0 t := by
    intro tX kX
    refine pre12 _ ?_
    show own_s p e below T10 m 28 #[rv a, iv p1, iv p2, iv p3, iv p4, iv p5] [(.int (1 : Int32))] _
    refine XS.ifNo X11.here hx rfl (hb hby d16_28) rfl ((if0 _ _).trans (feq (by decide : ¬ ((1 : Int32) = (0 : Int32)))).1) ?_
    show own_s p e below T10 m 31 #[rv a, iv p1, iv p2, iv p3, iv p4, iv p5] [] _
    refine XS.iconst X11.here hx rfl (hb hby d16_31) ?_
    show own_s p e below T10 m 32 #[rv a, iv p1, iv p2, iv p3, iv p4, iv p5] [(.int (1 : Int32))] _
    refine XS.goto X11.here hx rfl (pc0 := 32) (pc' := 36) rfl (hb hby d16_32) (by decide) (by decide) ?_
    exact kX
  subst hS0
  obtain ⟨fs, hr, hrun, hended, hW, hsame⟩ := X11.leave (v := (some (.int (1 : Int32)))) (fun h => by rw [Bd.returns] at h; cases h)
  refine ⟨_, _, pre13 _ (retN X11 hx (t := .boolean) Bd.returns (by simp) (hb hby d16_36) hr), hrun, hended, _, _, rfl, ?_, ⟨_, rfl⟩, hW, hsame.mono (by decide) (by decide)⟩
  show Q16 Z a p1 p2 p3 p4 p5 pa le ta lo hi re h0 n0 (some (.int (1 : Int32))) T10.heap _
  exact ⟨rfl, N11⟩
theorem pn_0 : plainName "com/example/weaverbird/weaverbird/model/xml/Utf8DecoderTakePinLaw" = true := by first | (simp [plainName, overriddenIn]; done) | decide +kernel
theorem pd0_0 : parseMethodDescriptor "(I)I" = some ⟨[.int], some .int⟩ := by decide +kernel
theorem pd0_1 : parseMethodDescriptor "()V" = some ⟨[], none⟩ := by decide +kernel
theorem pd0_2 : parseMethodDescriptor "(Lcom/example/weaverbird/weaverbird/model/xml/Utf8Decoder;IIIII)Z" = some ⟨[(.object "com/example/weaverbird/weaverbird/model/xml/Utf8Decoder"), .int, .int, .int, .int, .int], some .boolean⟩ := by decide +kernel
theorem pd0_3 : parseMethodDescriptor "(II)I" = some ⟨[.int, .int], some .int⟩ := by decide +kernel
theorem pd0_4 : parseMethodDescriptor "(III)Z" = some ⟨[.int, .int, .int], some .boolean⟩ := by decide +kernel
theorem pd0_5 : parseMethodDescriptor "(I)Z" = some ⟨[.int], some .boolean⟩ := by decide +kernel
theorem ef_0 (m : MethodId) (i0 : Int32) (i1 : Int32) (i2 : Int32) (i3 : Int32) (i4 : Int32) : entryFrame m #[(.int i0), (.int i1), (.int i2), (.int i3), (.int i4)] maxLocals = mkF m 0 #[iv i0, iv i1, iv i2, iv i3, iv i4, .unset, .unset, .unset, .unset, .unset, .unset, .unset, .unset, .unset, .unset, .unset, .unset, .unset, .unset, .unset] [] := by first | (simp [entryFrame, mkF, argsToLocals, Value.category, maxLocals]; done) | rfl
def Q0 (Z : State) (i0 : Int32) (i1 : Int32) (i2 : Int32) (i3 : Int32) (i4 : Int32) (h0 : Heap) (n0 : Nat) (v : Option Value) (h : Heap) (L : List Loc) : Prop := v = some (.int 1) ∧ Fr n0 L
set_option maxRecDepth 65536 in
set_option maxHeartbeats 40000000 in
theorem rm0 (l : Launch) (Z : State) (a0 : Array Value) (hw : ∀ d ∈ tables_1, d.before a0 Z = true) (ws : List Jvm.Cond) (i0 : Int32) (i1 : Int32) (i2 : Int32) (i3 : Int32) (i4 : Int32) (h0 : Heap) (n0 : Nat) (Z0 : n0 ≤ h0.size)  :
    MetFree l x (head1 (Jvm.Cond.code x code maxLocals ret :: ws) room_1) (fun aX UX => aX = #[(.int i0), (.int i1), (.int i2), (.int i3), (.int i4)] ∧ Z.Warmed39 UX.vm ∧ UX.heap = h0) (fun _ _ _ _ _ => True) (fun _ UX oX UY => ∃ vX LX, oX = .returned vX ∧ Q0 Z i0 i1 i2 i3 i4 h0 n0 vX UY.heap LX ∧ FrameEnd UX oX UY LX 1 6) := by
  refine MetFree.of_bodySF (plainFor_of_name pn_0) hisR ?_
  intro p e s m args below meth c s₁ Bd hml0 hPX hKX
  obtain ⟨rfl, hZ, hh⟩ := hPX
  have hx := Bd.exec
  have hby := Bd.bytes
  have hml : c.maxLocals = 20 := hml0
  have hown : s.vm.findClass "com/example/weaverbird/weaverbird/model/xml/Utf8DecoderTakePinLaw" = some m.cls := findClass_of_methodNamed Bd.named
  have hnm := (name_of_methodNamed Bd.named Bd.method).1
  have X0 : Stand p l e room_1 s m #[(.int i0), (.int i1), (.int i2), (.int i3), (.int i4)] below meth c s₁ [] 0 0 := Stand.of_body Bd
  have e0 : s₁.heap = h0 := by rw [← hh, Bd.state]; rfl
  have N0 := Fr.nil n0
  have pre0 : ∀ t, Steps p.tables e below (s₁.setTop (mkF m 0 #[iv i0, iv i1, iv i2, iv i3, iv i4, .unset, .unset, .unset, .unset, .unset, .unset, .unset, .unset, .unset, .unset, .unset, .unset, .unset, .unset, .unset] [])) t → Steps p.tables e below (s₁.setTop (entryFrame m #[(.int i0), (.int i1), (.int i2), (.int i3), (.int i4)] maxLocals)) t := fun t k => castTop (ef_0 m i0 i1 i2 i3 i4) k
  obtain ⟨S0, hS0⟩ : ∃ z, z = (s₁.setTop (entryFrame m #[(.int i0), (.int i1), (.int i2), (.int i3), (.int i4)] maxLocals)) := ⟨_, rfl⟩
  rw [← hS0] at pre0
  have pre1 : ∀ t, own_s p e below s₁ m 5 #[iv i0, iv i1, iv i2, iv i3, iv i4, .unset, .unset, .unset, .unset, .unset, .unset, .unset, .unset, .unset, .unset, .unset, .unset, .unset, .unset, .unset] [(.int (i0 &&& (255 : Int32)))] t → Steps p.tables e below S0 t := by
    intro tX kX
    refine pre0 _ ?_
    show own_s p e below s₁ m 0 #[iv i0, iv i1, iv i2, iv i3, iv i4, .unset, .unset, .unset, .unset, .unset, .unset, .unset, .unset, .unset, .unset, .unset, .unset, .unset, .unset, .unset] [] _
    refine XS.iloadN X0.here hx rfl (hb hby at_0) rfl ?_
    show own_s p e below s₁ m 1 #[iv i0, iv i1, iv i2, iv i3, iv i4, .unset, .unset, .unset, .unset, .unset, .unset, .unset, .unset, .unset, .unset, .unset, .unset, .unset, .unset, .unset] [(.int i0)] _
    refine XS.sipush X0.here hx rfl (hb hby at_1) ?_
    show own_s p e below s₁ m 4 #[iv i0, iv i1, iv i2, iv i3, iv i4, .unset, .unset, .unset, .unset, .unset, .unset, .unset, .unset, .unset, .unset, .unset, .unset, .unset, .unset, .unset] [(.int (255 : Int32)), (.int i0)] _
    refine XS.iand X0.here hx rfl (hb hby at_4) rfl ?_
    exact kX
  obtain ⟨b0, hb0⟩ : ∃ z : Int32, z = (i0 &&& (255 : Int32)) := ⟨_, rfl⟩
  rw [← hb0] at pre1
  have ib0 := c_mask i0 255 8 (by decide) (by decide)
  rw [← hb0] at ib0
  have pre2 : ∀ t, own_s p e below s₁ m 8 #[iv i0, iv i1, iv i2, iv i3, iv i4, iv b0, .unset, .unset, .unset, .unset, .unset, .unset, .unset, .unset, .unset, .unset, .unset, .unset, .unset, .unset] [(.int i1)] t → Steps p.tables e below S0 t := by
    intro tX kX
    refine pre1 _ ?_
    show own_s p e below s₁ m 5 #[iv i0, iv i1, iv i2, iv i3, iv i4, .unset, .unset, .unset, .unset, .unset, .unset, .unset, .unset, .unset, .unset, .unset, .unset, .unset, .unset, .unset] [(.int b0)] _
    refine XS.istore X0.here hx rfl (hb hby at_5) rfl (l' := #[iv i0, iv i1, iv i2, iv i3, iv i4, iv b0, .unset, .unset, .unset, .unset, .unset, .unset, .unset, .unset, .unset, .unset, .unset, .unset, .unset, .unset]) rfl ?_
    show own_s p e below s₁ m 7 #[iv i0, iv i1, iv i2, iv i3, iv i4, iv b0, .unset, .unset, .unset, .unset, .unset, .unset, .unset, .unset, .unset, .unset, .unset, .unset, .unset, .unset] [] _
    refine XS.iloadN X0.here hx rfl (hb hby at_7) rfl ?_
    exact kX
  obtain ⟨_, _, ⟨T3, L3, k3, n3⟩, -, X3, ⟨Lc3, hQ3, l3, y3, z3⟩, st3⟩ := Jvm.LawKit.callS X0 hx (y := (⟨"com/example/weaverbird/weaverbird/model/xml/Utf8DecoderTakePinLaw", "unit", "(I)I"⟩ : MethodName)) hown (mvT hZ (hw _ (List.mem_of_getElem? (i := 0) rfl))) (mvT hZ (hw _ (List.mem_of_getElem? (i := 1) rfl))) (mvT hZ (hw _ (List.mem_of_getElem? (i := 2) rfl))) (mvT hZ (hw _ (List.mem_of_getElem? (i := 3) rfl))) (by decide) (backOf (W := 0) (rm14 l Z a0 hw [] i1  h0 n0 Z0 ) hZ (hw _ (List.mem_of_getElem? (i := 3) rfl)) (hw _ (List.mem_of_getElem? (i := 2) rfl)) (by decide) (by decide)) (g := (mkF m 8 #[iv i0, iv i1, iv i2, iv i3, iv i4, iv b0, .unset, .unset, .unset, .unset, .unset, .unset, .unset, .unset, .unset, .unset, .unset, .unset, .unset, .unset] [(.int i1)])) rfl (by rw [hml]; rfl) (argsL := [(.int i1)]) (rest := []) (lenOf pd0_0 rfl) rfl (by show 2 * 0 + _ ≤ _; exact Nat.le_of_eq rfl) (hb hby at_8) (fun _ _ => ⟨rfl, e0, (by decide : 0 + 0 ≤ _), (by decide : 0 + 0 ≤ _)⟩)
  dsimp only [Pt.U, Pt.locs, Pt.cells, Pt.slots] at X3 l3 y3 z3 st3 hQ3
  subst l3 y3 z3
  obtain ⟨⟨v3, rfl, B3⟩, Nq3, e3⟩ := hQ3
  have N3 := Fr.app N0 Nq3
  obtain ⟨LL4, X4, N4⟩ : ∃ LL, Stand p l e room_1 s m #[(.int i0), (.int i1), (.int i2), (.int i3), (.int i4)] below meth c T3 LL 0 0 ∧ Fr n0 LL := ⟨_, X3, N3⟩
  have pre5 : ∀ t, own_s p e below T3 m 11 #[iv i0, iv i1, iv i2, iv i3, iv i4, iv b0, .unset, .unset, .unset, .unset, .unset, .unset, .unset, .unset, .unset, .unset, .unset, .unset, .unset, .unset] [(.int v3)] t → Steps p.tables e below S0 t := fun tX kX => pre2 _ (st3 _ kX)
  have pre6 : ∀ t, own_s p e below T3 m 14 #[iv i0, iv i1, iv i2, iv i3, iv i4, iv b0, iv v3, .unset, .unset, .unset, .unset, .unset, .unset, .unset, .unset, .unset, .unset, .unset, .unset, .unset] [(.int i2)] t → Steps p.tables e below S0 t := by
    intro tX kX
    refine pre5 _ ?_
    show own_s p e below T3 m 11 #[iv i0, iv i1, iv i2, iv i3, iv i4, iv b0, .unset, .unset, .unset, .unset, .unset, .unset, .unset, .unset, .unset, .unset, .unset, .unset, .unset, .unset] [(.int v3)] _
    refine XS.istore X4.here hx rfl (hb hby at_11) rfl (l' := #[iv i0, iv i1, iv i2, iv i3, iv i4, iv b0, iv v3, .unset, .unset, .unset, .unset, .unset, .unset, .unset, .unset, .unset, .unset, .unset, .unset, .unset]) rfl ?_
    show own_s p e below T3 m 13 #[iv i0, iv i1, iv i2, iv i3, iv i4, iv b0, iv v3, .unset, .unset, .unset, .unset, .unset, .unset, .unset, .unset, .unset, .unset, .unset, .unset, .unset] [] _
    refine XS.iloadN X4.here hx rfl (hb hby at_13) rfl ?_
    exact kX
  obtain ⟨_, _, ⟨T7, L7, k7, n7⟩, -, X7, ⟨Lc7, hQ7, l7, y7, z7⟩, st7⟩ := Jvm.LawKit.callS X4 hx (y := (⟨"com/example/weaverbird/weaverbird/model/xml/Utf8DecoderTakePinLaw", "unit", "(I)I"⟩ : MethodName)) hown (mvT hZ (hw _ (List.mem_of_getElem? (i := 0) rfl))) (mvT hZ (hw _ (List.mem_of_getElem? (i := 1) rfl))) (mvT hZ (hw _ (List.mem_of_getElem? (i := 2) rfl))) (mvT hZ (hw _ (List.mem_of_getElem? (i := 3) rfl))) (by decide) (backOf (W := 0) (rm14 l Z a0 hw [] i2  h0 n0 Z0 ) hZ (hw _ (List.mem_of_getElem? (i := 3) rfl)) (hw _ (List.mem_of_getElem? (i := 2) rfl)) (by decide) (by decide)) (g := (mkF m 14 #[iv i0, iv i1, iv i2, iv i3, iv i4, iv b0, iv v3, .unset, .unset, .unset, .unset, .unset, .unset, .unset, .unset, .unset, .unset, .unset, .unset, .unset] [(.int i2)])) rfl (by rw [hml]; rfl) (argsL := [(.int i2)]) (rest := []) (lenOf pd0_0 rfl) rfl (by show 2 * 0 + _ ≤ _; exact Nat.le_of_eq rfl) (hb hby at_14) (fun _ _ => ⟨rfl, e3, (by decide : 0 + 0 ≤ _), (by decide : 0 + 0 ≤ _)⟩)
  dsimp only [Pt.U, Pt.locs, Pt.cells, Pt.slots] at X7 l7 y7 z7 st7 hQ7
  subst l7 y7 z7
  obtain ⟨⟨v7, rfl, B7⟩, Nq7, e7⟩ := hQ7
  have N7 := Fr.app N4 Nq7
  obtain ⟨LL8, X8, N8⟩ : ∃ LL, Stand p l e room_1 s m #[(.int i0), (.int i1), (.int i2), (.int i3), (.int i4)] below meth c T7 LL 0 0 ∧ Fr n0 LL := ⟨_, X7, N7⟩
  have pre9 : ∀ t, own_s p e below T7 m 17 #[iv i0, iv i1, iv i2, iv i3, iv i4, iv b0, iv v3, .unset, .unset, .unset, .unset, .unset, .unset, .unset, .unset, .unset, .unset, .unset, .unset, .unset] [(.int v7)] t → Steps p.tables e below S0 t := fun tX kX => pre6 _ (st7 _ kX)
  have pre10 : ∀ t, own_s p e below T7 m 20 #[iv i0, iv i1, iv i2, iv i3, iv i4, iv b0, iv v3, iv v7, .unset, .unset, .unset, .unset, .unset, .unset, .unset, .unset, .unset, .unset, .unset, .unset] [(.int i3)] t → Steps p.tables e below S0 t := by
    intro tX kX
    refine pre9 _ ?_
    show own_s p e below T7 m 17 #[iv i0, iv i1, iv i2, iv i3, iv i4, iv b0, iv v3, .unset, .unset, .unset, .unset, .unset, .unset, .unset, .unset, .unset, .unset, .unset, .unset, .unset] [(.int v7)] _
    refine XS.istore X8.here hx rfl (hb hby at_17) rfl (l' := #[iv i0, iv i1, iv i2, iv i3, iv i4, iv b0, iv v3, iv v7, .unset, .unset, .unset, .unset, .unset, .unset, .unset, .unset, .unset, .unset, .unset, .unset]) rfl ?_
    show own_s p e below T7 m 19 #[iv i0, iv i1, iv i2, iv i3, iv i4, iv b0, iv v3, iv v7, .unset, .unset, .unset, .unset, .unset, .unset, .unset, .unset, .unset, .unset, .unset, .unset] [] _
    refine XS.iloadN X8.here hx rfl (hb hby at_19) rfl ?_
    exact kX
  obtain ⟨_, _, ⟨T11, L11, k11, n11⟩, -, X11, ⟨Lc11, hQ11, l11, y11, z11⟩, st11⟩ := Jvm.LawKit.callS X8 hx (y := (⟨"com/example/weaverbird/weaverbird/model/xml/Utf8DecoderTakePinLaw", "unit", "(I)I"⟩ : MethodName)) hown (mvT hZ (hw _ (List.mem_of_getElem? (i := 0) rfl))) (mvT hZ (hw _ (List.mem_of_getElem? (i := 1) rfl))) (mvT hZ (hw _ (List.mem_of_getElem? (i := 2) rfl))) (mvT hZ (hw _ (List.mem_of_getElem? (i := 3) rfl))) (by decide) (backOf (W := 0) (rm14 l Z a0 hw [] i3  h0 n0 Z0 ) hZ (hw _ (List.mem_of_getElem? (i := 3) rfl)) (hw _ (List.mem_of_getElem? (i := 2) rfl)) (by decide) (by decide)) (g := (mkF m 20 #[iv i0, iv i1, iv i2, iv i3, iv i4, iv b0, iv v3, iv v7, .unset, .unset, .unset, .unset, .unset, .unset, .unset, .unset, .unset, .unset, .unset, .unset] [(.int i3)])) rfl (by rw [hml]; rfl) (argsL := [(.int i3)]) (rest := []) (lenOf pd0_0 rfl) rfl (by show 2 * 0 + _ ≤ _; exact Nat.le_of_eq rfl) (hb hby at_20) (fun _ _ => ⟨rfl, e7, (by decide : 0 + 0 ≤ _), (by decide : 0 + 0 ≤ _)⟩)
  dsimp only [Pt.U, Pt.locs, Pt.cells, Pt.slots] at X11 l11 y11 z11 st11 hQ11
  subst l11 y11 z11
  obtain ⟨⟨v11, rfl, B11⟩, Nq11, e11⟩ := hQ11
  have N11 := Fr.app N8 Nq11
  obtain ⟨LL12, X12, N12⟩ : ∃ LL, Stand p l e room_1 s m #[(.int i0), (.int i1), (.int i2), (.int i3), (.int i4)] below meth c T11 LL 0 0 ∧ Fr n0 LL := ⟨_, X11, N11⟩
  have pre13 : ∀ t, own_s p e below T11 m 23 #[iv i0, iv i1, iv i2, iv i3, iv i4, iv b0, iv v3, iv v7, .unset, .unset, .unset, .unset, .unset, .unset, .unset, .unset, .unset, .unset, .unset, .unset] [(.int v11)] t → Steps p.tables e below S0 t := fun tX kX => pre10 _ (st11 _ kX)
  have pre14 : ∀ t, own_s p e below T11 m 31 #[iv i0, iv i1, iv i2, iv i3, iv i4, iv b0, iv v3, iv v7, iv v11, .unset, .unset, .unset, .unset, .unset, .unset, .unset, .unset, .unset, .unset, .unset] [(.int (i4 &&& (255 : Int32)))] t → Steps p.tables e below S0 t := by
    intro tX kX
    refine pre13 _ ?_
    show own_s p e below T11 m 23 #[iv i0, iv i1, iv i2, iv i3, iv i4, iv b0, iv v3, iv v7, .unset, .unset, .unset, .unset, .unset, .unset, .unset, .unset, .unset, .unset, .unset, .unset] [(.int v11)] _
    refine XS.istore X12.here hx rfl (hb hby at_23) rfl (l' := #[iv i0, iv i1, iv i2, iv i3, iv i4, iv b0, iv v3, iv v7, iv v11, .unset, .unset, .unset, .unset, .unset, .unset, .unset, .unset, .unset, .unset, .unset]) rfl ?_
    show own_s p e below T11 m 25 #[iv i0, iv i1, iv i2, iv i3, iv i4, iv b0, iv v3, iv v7, iv v11, .unset, .unset, .unset, .unset, .unset, .unset, .unset, .unset, .unset, .unset, .unset] [] _
    refine XS.iload X12.here hx rfl (hb hby at_25) rfl ?_
    show own_s p e below T11 m 27 #[iv i0, iv i1, iv i2, iv i3, iv i4, iv b0, iv v3, iv v7, iv v11, .unset, .unset, .unset, .unset, .unset, .unset, .unset, .unset, .unset, .unset, .unset] [(.int i4)] _
    refine XS.sipush X12.here hx rfl (hb hby at_27) ?_
    show own_s p e below T11 m 30 #[iv i0, iv i1, iv i2, iv i3, iv i4, iv b0, iv v3, iv v7, iv v11, .unset, .unset, .unset, .unset, .unset, .unset, .unset, .unset, .unset, .unset, .unset] [(.int (255 : Int32)), (.int i4)] _
    refine XS.iand X12.here hx rfl (hb hby at_30) rfl ?_
    exact kX
  obtain ⟨b4, hb4⟩ : ∃ z : Int32, z = (i4 &&& (255 : Int32)) := ⟨_, rfl⟩
  rw [← hb4] at pre14
  have ib4 := c_mask i4 255 8 (by decide) (by decide)
  rw [← hb4] at ib4
  have pre15 : ∀ t, own_s p e below T11 m 33 #[iv i0, iv i1, iv i2, iv i3, iv i4, iv b0, iv v3, iv v7, iv v11, iv b4, .unset, .unset, .unset, .unset, .unset, .unset, .unset, .unset, .unset, .unset] [] t → Steps p.tables e below S0 t := by
    intro tX kX
    refine pre14 _ ?_
    show own_s p e below T11 m 31 #[iv i0, iv i1, iv i2, iv i3, iv i4, iv b0, iv v3, iv v7, iv v11, .unset, .unset, .unset, .unset, .unset, .unset, .unset, .unset, .unset, .unset, .unset] [(.int b4)] _
    refine XS.istore X12.here hx rfl (hb hby at_31) rfl (l' := #[iv i0, iv i1, iv i2, iv i3, iv i4, iv b0, iv v3, iv v7, iv v11, iv b4, .unset, .unset, .unset, .unset, .unset, .unset, .unset, .unset, .unset, .unset]) rfl ?_
    exact kX
  obtain ⟨T16, h16, X16, e16, E16, A16, D16, -, st16⟩ := newO X12 hx hZ hown (hw _ (List.mem_of_getElem? (i := 4) rfl)) (hw _ (List.mem_of_getElem? (i := 5) rfl)) (hw _ (List.mem_of_getElem? (i := 6) rfl)) e11 (g := (mkF m 33 #[iv i0, iv i1, iv i2, iv i3, iv i4, iv b0, iv v3, iv v7, iv v11, iv b4, .unset, .unset, .unset, .unset, .unset, .unset, .unset, .unset, .unset, .unset] [])) rfl (hb hby at_33) (by decide) (by decide)
  obtain ⟨b16, g16⟩ : ∃ z, z = h0.size := ⟨_, rfl⟩
  rw [← g16] at A16 D16 st16
  have g_b16 : n0 ≤ b16 := Nat.le_trans Z0 (Nat.le_of_eq g16.symm)
  have pre17 : ∀ t, own_s p e below T16 m 36 #[iv i0, iv i1, iv i2, iv i3, iv i4, iv b0, iv v3, iv v7, iv v11, iv b4, .unset, .unset, .unset, .unset, .unset, .unset, .unset, .unset, .unset, .unset] [(.ref b16)] t → Steps p.tables e below S0 t := fun tX kX => pre15 _ (st16 _ kX)
  have Z18 : n0 ≤ h16.size := Nat.le_trans Z0 E16.1
  have f19_E : Exa Z h16 b16 "com/example/weaverbird/weaverbird/model/xml/Utf8Decoder" := A16
  have f20_F : Fld Z h16 b16 "com/example/weaverbird/weaverbird/model/xml/Utf8Decoder" "reading" "Z" (.int (0 : Int32)) := D16 (Or.inl (hw _ (List.mem_of_getElem? (i := 19) rfl))) (ty := .boolean) (by decide)
  have f21_F : Fld Z h16 b16 "com/example/weaverbird/weaverbird/model/xml/Utf8Decoder" "length" "I" (.int (0 : Int32)) := D16 (Or.inl (hw _ (List.mem_of_getElem? (i := 21) rfl))) (ty := .int) (by decide)
  have f22_F : Fld Z h16 b16 "com/example/weaverbird/weaverbird/model/xml/Utf8Decoder" "taken" "I" (.int (0 : Int32)) := D16 (Or.inl (hw _ (List.mem_of_getElem? (i := 23) rfl))) (ty := .int) (by decide)
  have f23_F : Fld Z h16 b16 "com/example/weaverbird/weaverbird/model/xml/Utf8Decoder" "partial" "I" (.int (0 : Int32)) := D16 (Or.inl (hw _ (List.mem_of_getElem? (i := 25) rfl))) (ty := .int) (by decide)
  have f24_F : Fld Z h16 b16 "com/example/weaverbird/weaverbird/model/xml/Utf8Decoder" "low" "I" (.int (0 : Int32)) := D16 (Or.inl (hw _ (List.mem_of_getElem? (i := 27) rfl))) (ty := .int) (by decide)
  have f25_F : Fld Z h16 b16 "com/example/weaverbird/weaverbird/model/xml/Utf8Decoder" "high" "I" (.int (0 : Int32)) := D16 (Or.inl (hw _ (List.mem_of_getElem? (i := 29) rfl))) (ty := .int) (by decide)
  have pre26 : ∀ t, own_s p e below T16 m 37 #[iv i0, iv i1, iv i2, iv i3, iv i4, iv b0, iv v3, iv v7, iv v11, iv b4, .unset, .unset, .unset, .unset, .unset, .unset, .unset, .unset, .unset, .unset] [(.ref b16), (.ref b16)] t → Steps p.tables e below S0 t := by
    intro tX kX
    refine pre17 _ ?_
    show own_s p e below T16 m 36 #[iv i0, iv i1, iv i2, iv i3, iv i4, iv b0, iv v3, iv v7, iv v11, iv b4, .unset, .unset, .unset, .unset, .unset, .unset, .unset, .unset, .unset, .unset] [(.ref b16)] _
    refine XS.dup X16.here hx rfl (hb hby at_36) rfl rfl ?_
    exact kX
  obtain ⟨_, _, ⟨T27, L27, k27, n27⟩, -, X27, ⟨Lc27, hQ27, l27, y27, z27⟩, st27⟩ := X16.specialBack hx (y := (⟨"com/example/weaverbird/weaverbird/model/xml/Utf8Decoder", "<init>", "()V"⟩ : MethodName)) rfl hown (mvT hZ (hw _ (List.mem_of_getElem? (i := 7) rfl))) (mvT hZ (hw _ (List.mem_of_getElem? (i := 8) rfl))) (mvT hZ (hw _ (List.mem_of_getElem? (i := 9) rfl))) (by decide) (backOf (W := 1) (rm1 l Z a0 hw [] b16  h16 n0 Z18 ) hZ (hw _ (List.mem_of_getElem? (i := 9) rfl)) (hw _ (List.mem_of_getElem? (i := 6) rfl)) (by decide) (by decide)) (g := (mkF m 37 #[iv i0, iv i1, iv i2, iv i3, iv i4, iv b0, iv v3, iv v7, iv v11, iv b4, .unset, .unset, .unset, .unset, .unset, .unset, .unset, .unset, .unset, .unset] [(.ref b16), (.ref b16)])) rfl (by rw [hml]; rfl) (Steps.refl _) (a := b16) (argsL := []) (rest := [(.ref b16)]) (lenOf pd0_1 rfl) rfl (by show 2 * 0 + _ ≤ _; exact Nat.le_of_eq rfl) (hb hby at_37) (fun _ _ => ⟨rfl, e16, (by decide : 1 + 0 ≤ _), (by decide : 6 + 0 ≤ _)⟩)
  dsimp only [Pt.U, Pt.locs, Pt.cells, Pt.slots] at X27 l27 y27 z27 st27 hQ27
  subst l27 y27 z27
  obtain ⟨rfl, Nq27, e27⟩ := hQ27
  have N27 := Fr.app N12 Nq27
  obtain ⟨LL28, X28, N28⟩ : ∃ LL, Stand p l e room_1 s m #[(.int i0), (.int i1), (.int i2), (.int i3), (.int i4)] below meth c T27 LL 1 6 ∧ Fr n0 LL := ⟨_, X27, N27⟩
  have pre29 : ∀ t, own_s p e below T27 m 40 #[iv i0, iv i1, iv i2, iv i3, iv i4, iv b0, iv v3, iv v7, iv v11, iv b4, .unset, .unset, .unset, .unset, .unset, .unset, .unset, .unset, .unset, .unset] [(.ref b16)] t → Steps p.tables e below S0 t := fun tX kX => pre26 _ (st27.trans kX)
  have pre30 : ∀ t, own_s p e below T27 m 46 #[iv i0, iv i1, iv i2, iv i3, iv i4, iv b0, iv v3, iv v7, iv v11, iv b4, rv b16, .unset, .unset, .unset, .unset, .unset, .unset, .unset, .unset, .unset] [(.int b0), (.ref b16)] t → Steps p.tables e below S0 t := by
    intro tX kX
    refine pre29 _ ?_
    show own_s p e below T27 m 40 #[iv i0, iv i1, iv i2, iv i3, iv i4, iv b0, iv v3, iv v7, iv v11, iv b4, .unset, .unset, .unset, .unset, .unset, .unset, .unset, .unset, .unset, .unset] [(.ref b16)] _
    refine XS.astore X28.here hx rfl (hb hby at_40) rfl rfl (l' := #[iv i0, iv i1, iv i2, iv i3, iv i4, iv b0, iv v3, iv v7, iv v11, iv b4, rv b16, .unset, .unset, .unset, .unset, .unset, .unset, .unset, .unset, .unset]) rfl ?_
    show own_s p e below T27 m 42 #[iv i0, iv i1, iv i2, iv i3, iv i4, iv b0, iv v3, iv v7, iv v11, iv b4, rv b16, .unset, .unset, .unset, .unset, .unset, .unset, .unset, .unset, .unset] [] _
    refine XS.aload X28.here hx rfl (hb hby at_42) rfl rfl ?_
    show own_s p e below T27 m 44 #[iv i0, iv i1, iv i2, iv i3, iv i4, iv b0, iv v3, iv v7, iv v11, iv b4, rv b16, .unset, .unset, .unset, .unset, .unset, .unset, .unset, .unset, .unset] [(.ref b16)] _
    refine XS.iload X28.here hx rfl (hb hby at_44) rfl ?_
    exact kX
  obtain ⟨cq31, kq31, q31a, q31b, q31c⟩ := isOf hZ e27 f19_E
  obtain ⟨_, _, ⟨T31, L31, k31, n31⟩, -, X31, ⟨Lc31, hQ31, l31, y31, z31⟩, st31⟩ := X28.virtualBack hx (y := (⟨"com/example/weaverbird/weaverbird/model/xml/Utf8Decoder", "take", "(I)I"⟩ : MethodName)) (z := (⟨"com/example/weaverbird/weaverbird/model/xml/Utf8Decoder", "take", "(I)I"⟩ : MethodName)) hown (mvT hZ (hw _ (List.mem_of_getElem? (i := 13) rfl))) (mvT hZ (hw _ (List.mem_of_getElem? (i := 14) rfl))) (notFace_of_selects (args := #[]) (mvT hZ (hw _ (List.mem_of_getElem? (i := 16) rfl)))) (mvT hZ (hw _ (List.mem_of_getElem? (i := 16) rfl))) (mvT hZ (hw _ (List.mem_of_getElem? (i := 15) rfl))) (by decide) (backOf (W := 0) (rm2 l Z a0 hw [] b16 b0 (0 : Int32) (0 : Int32) (0 : Int32) (0 : Int32) (0 : Int32) (0 : Int32) h16 n0 Z18 f19_E f23_F f21_F f22_F f24_F f25_F f20_F g_b16 rfl (by omega) (by omega)) hZ (hw _ (List.mem_of_getElem? (i := 17) rfl)) (hw _ (List.mem_of_getElem? (i := 6) rfl)) (by decide) (by decide)) q31a q31c (g := (mkF m 46 #[iv i0, iv i1, iv i2, iv i3, iv i4, iv b0, iv v3, iv v7, iv v11, iv b4, rv b16, .unset, .unset, .unset, .unset, .unset, .unset, .unset, .unset, .unset] [(.int b0), (.ref b16)])) rfl (by rw [hml]; rfl) (Steps.refl _) (argsL := [(.int b0)]) (rest := []) (lenOf pd0_0 rfl) rfl (by show 2 * 0 + _ ≤ _; exact Nat.le_of_eq rfl) (hb hby at_46) (fun _ _ => ⟨rfl, e27, (by decide : 1 + 0 ≤ _), (by decide : 6 + 0 ≤ _)⟩)
  dsimp only [Pt.U, Pt.locs, Pt.cells, Pt.slots] at X31 l31 y31 z31 st31 hQ31
  subst l31 y31 z31
  obtain ⟨v31, pa31, le31, ta31, lo31, hi31, re31, rfl, Nq31, Kq31, fE31, f31_pa, f31_le, f31_ta, f31_lo, f31_hi, f31_re, R31⟩ := hQ31
  unfold own_T0 at R31
  have N31 := Fr.app N28 Nq31
  have e31 : T31.heap = T31.heap := rfl
  have Z31 : n0 ≤ T31.heap.size := Nat.le_trans Z18 Kq31.1
  obtain ⟨LL32, X32, N32⟩ : ∃ LL, Stand p l e room_1 s m #[(.int i0), (.int i1), (.int i2), (.int i3), (.int i4)] below meth c T31 LL 1 6 ∧ Fr n0 LL := ⟨_, X31, N31⟩
  have pre33 : ∀ t, own_s p e below T31 m 49 #[iv i0, iv i1, iv i2, iv i3, iv i4, iv b0, iv v3, iv v7, iv v11, iv b4, rv b16, .unset, .unset, .unset, .unset, .unset, .unset, .unset, .unset, .unset] [(.int v31)] t → Steps p.tables e below S0 t := fun tX kX => pre30 _ (st31.trans kX)
  have pre34 : ∀ t, own_s p e below T31 m 53 #[iv i0, iv i1, iv i2, iv i3, iv i4, iv b0, iv v3, iv v7, iv v11, iv b4, rv b16, iv v31, .unset, .unset, .unset, .unset, .unset, .unset, .unset, .unset] [(.int b0)] t → Steps p.tables e below S0 t := by
    intro tX kX
    refine pre33 _ ?_
    show own_s p e below T31 m 49 #[iv i0, iv i1, iv i2, iv i3, iv i4, iv b0, iv v3, iv v7, iv v11, iv b4, rv b16, .unset, .unset, .unset, .unset, .unset, .unset, .unset, .unset, .unset] [(.int v31)] _
    refine XS.istore X32.here hx rfl (hb hby at_49) rfl (l' := #[iv i0, iv i1, iv i2, iv i3, iv i4, iv b0, iv v3, iv v7, iv v11, iv b4, rv b16, iv v31, .unset, .unset, .unset, .unset, .unset, .unset, .unset, .unset]) rfl ?_
    show own_s p e below T31 m 51 #[iv i0, iv i1, iv i2, iv i3, iv i4, iv b0, iv v3, iv v7, iv v11, iv b4, rv b16, iv v31, .unset, .unset, .unset, .unset, .unset, .unset, .unset, .unset] [] _
    refine XS.iload X32.here hx rfl (hb hby at_51) rfl ?_
    exact kX
  obtain ⟨_, _, ⟨T35, L35, k35, n35⟩, -, X35, ⟨Lc35, hQ35, l35, y35, z35⟩, st35⟩ := Jvm.LawKit.callS X32 hx (y := (⟨"com/example/weaverbird/weaverbird/model/xml/Utf8DecoderTakePinLaw", "leadLen", "(I)I"⟩ : MethodName)) hown (mvT hZ (hw _ (List.mem_of_getElem? (i := 30) rfl))) (mvT hZ (hw _ (List.mem_of_getElem? (i := 31) rfl))) (mvT hZ (hw _ (List.mem_of_getElem? (i := 2) rfl))) (mvT hZ (hw _ (List.mem_of_getElem? (i := 32) rfl))) (by decide) (backOf (W := 0) (rm6 l Z a0 hw [] b0  T31.heap n0 Z31 (by omega) (by omega)) hZ (hw _ (List.mem_of_getElem? (i := 32) rfl)) (hw _ (List.mem_of_getElem? (i := 2) rfl)) (by decide) (by decide)) (g := (mkF m 53 #[iv i0, iv i1, iv i2, iv i3, iv i4, iv b0, iv v3, iv v7, iv v11, iv b4, rv b16, iv v31, .unset, .unset, .unset, .unset, .unset, .unset, .unset, .unset] [(.int b0)])) rfl (by rw [hml]; rfl) (argsL := [(.int b0)]) (rest := []) (lenOf pd0_0 rfl) rfl (by show 2 * 0 + _ ≤ _; exact Nat.le_of_eq rfl) (hb hby at_53) (fun _ _ => ⟨rfl, e31, (by decide : 1 + 0 ≤ _), (by decide : 6 + 0 ≤ _)⟩)
  dsimp only [Pt.U, Pt.locs, Pt.cells, Pt.slots] at X35 l35 y35 z35 st35 hQ35
  subst l35 y35 z35
  obtain ⟨D35, Nq35, e35⟩ := hQ35
  have N35 := Fr.app N32 Nq35
  rcases D35 with ⟨rfl, B35⟩ | ⟨rfl, B35⟩ | ⟨rfl, B35⟩ | ⟨rfl, B35⟩ | ⟨rfl, B35⟩
  · skip
    obtain ⟨LL36, X36, N36⟩ : ∃ LL, Stand p l e room_1 s m #[(.int i0), (.int i1), (.int i2), (.int i3), (.int i4)] below meth c T35 LL 1 6 ∧ Fr n0 LL := ⟨_, X35, N35⟩
    have pre37 : ∀ t, own_s p e below T35 m 56 #[iv i0, iv i1, iv i2, iv i3, iv i4, iv b0, iv v3, iv v7, iv v11, iv b4, rv b16, iv v31, .unset, .unset, .unset, .unset, .unset, .unset, .unset, .unset] [(.int (1 : Int32))] t → Steps p.tables e below S0 t := fun tX kX => pre34 _ (st35 _ kX)
    have pre38 : ∀ t, own_s p e below T35 m 74 #[iv i0, iv i1, iv i2, iv i3, iv i4, iv b0, iv v3, iv v7, iv v11, iv b4, rv b16, iv v31, iv (1 : Int32), .unset, .unset, .unset, .unset, .unset, .unset, .unset] [(.int b4), (.int (1 : Int32)), (.int (1 : Int32)), (.int b0), (.int v31), (.ref b16)] t → Steps p.tables e below S0 t := by
      intro tX kX
      refine pre37 _ ?_
      show own_s p e below T35 m 56 #[iv i0, iv i1, iv i2, iv i3, iv i4, iv b0, iv v3, iv v7, iv v11, iv b4, rv b16, iv v31, .unset, .unset, .unset, .unset, .unset, .unset, .unset, .unset] [(.int (1 : Int32))] _
      refine XS.istore X36.here hx rfl (hb hby at_56) rfl (l' := #[iv i0, iv i1, iv i2, iv i3, iv i4, iv b0, iv v3, iv v7, iv v11, iv b4, rv b16, iv v31, iv (1 : Int32), .unset, .unset, .unset, .unset, .unset, .unset, .unset]) rfl ?_
      show own_s p e below T35 m 58 #[iv i0, iv i1, iv i2, iv i3, iv i4, iv b0, iv v3, iv v7, iv v11, iv b4, rv b16, iv v31, iv (1 : Int32), .unset, .unset, .unset, .unset, .unset, .unset, .unset] [] _
      refine XS.iload X36.here hx rfl (hb hby at_58) rfl ?_
      show own_s p e below T35 m 60 #[iv i0, iv i1, iv i2, iv i3, iv i4, iv b0, iv v3, iv v7, iv v11, iv b4, rv b16, iv v31, iv (1 : Int32), .unset, .unset, .unset, .unset, .unset, .unset, .unset] [(.int (1 : Int32))] _
      refine XS.iconst X36.here hx rfl (hb hby at_60) ?_
      show own_s p e below T35 m 61 #[iv i0, iv i1, iv i2, iv i3, iv i4, iv b0, iv v3, iv v7, iv v11, iv b4, rv b16, iv v31, iv (1 : Int32), .unset, .unset, .unset, .unset, .unset, .unset, .unset] [(.int (1 : Int32)), (.int (1 : Int32))] _
      refine XS.icmpNo X36.here hx rfl (hb hby at_61) rfl (teq (by decide : (1 : Int32) = (1 : Int32))).2 ?_
      show own_s p e below T35 m 64 #[iv i0, iv i1, iv i2, iv i3, iv i4, iv b0, iv v3, iv v7, iv v11, iv b4, rv b16, iv v31, iv (1 : Int32), .unset, .unset, .unset, .unset, .unset, .unset, .unset] [] _
      refine XS.aload X36.here hx rfl (hb hby at_64) rfl rfl ?_
      show own_s p e below T35 m 66 #[iv i0, iv i1, iv i2, iv i3, iv i4, iv b0, iv v3, iv v7, iv v11, iv b4, rv b16, iv v31, iv (1 : Int32), .unset, .unset, .unset, .unset, .unset, .unset, .unset] [(.ref b16)] _
      refine XS.iload X36.here hx rfl (hb hby at_66) rfl ?_
      show own_s p e below T35 m 68 #[iv i0, iv i1, iv i2, iv i3, iv i4, iv b0, iv v3, iv v7, iv v11, iv b4, rv b16, iv v31, iv (1 : Int32), .unset, .unset, .unset, .unset, .unset, .unset, .unset] [(.int v31), (.ref b16)] _
      refine XS.iload X36.here hx rfl (hb hby at_68) rfl ?_
      show own_s p e below T35 m 70 #[iv i0, iv i1, iv i2, iv i3, iv i4, iv b0, iv v3, iv v7, iv v11, iv b4, rv b16, iv v31, iv (1 : Int32), .unset, .unset, .unset, .unset, .unset, .unset, .unset] [(.int b0), (.int v31), (.ref b16)] _
      refine XS.iconst X36.here hx rfl (hb hby at_70) ?_
      show own_s p e below T35 m 71 #[iv i0, iv i1, iv i2, iv i3, iv i4, iv b0, iv v3, iv v7, iv v11, iv b4, rv b16, iv v31, iv (1 : Int32), .unset, .unset, .unset, .unset, .unset, .unset, .unset] [(.int (1 : Int32)), (.int b0), (.int v31), (.ref b16)] _
      refine XS.iconst X36.here hx rfl (hb hby at_71) ?_
      show own_s p e below T35 m 72 #[iv i0, iv i1, iv i2, iv i3, iv i4, iv b0, iv v3, iv v7, iv v11, iv b4, rv b16, iv v31, iv (1 : Int32), .unset, .unset, .unset, .unset, .unset, .unset, .unset] [(.int (1 : Int32)), (.int (1 : Int32)), (.int b0), (.int v31), (.ref b16)] _
      refine XS.iload X36.here hx rfl (hb hby at_72) rfl ?_
      exact kX
    obtain ⟨_, _, ⟨T39, L39, k39, n39⟩, -, X39, ⟨Lc39, hQ39, l39, y39, z39⟩, st39⟩ := Jvm.LawKit.callS X36 hx (y := (⟨"com/example/weaverbird/weaverbird/model/xml/Utf8DecoderTakePinLaw", "ended", "(Lcom/example/weaverbird/weaverbird/model/xml/Utf8Decoder;IIIII)Z"⟩ : MethodName)) hown (mvT hZ (hw _ (List.mem_of_getElem? (i := 33) rfl))) (mvT hZ (hw _ (List.mem_of_getElem? (i := 34) rfl))) (mvT hZ (hw _ (List.mem_of_getElem? (i := 2) rfl))) (mvT hZ (hw _ (List.mem_of_getElem? (i := 35) rfl))) (by decide) (backOf (W := 0) (rm16 l Z a0 hw [] b16 v31 b0 (1 : Int32) (1 : Int32) b4 pa31 le31 ta31 lo31 hi31 re31 T31.heap n0 Z31 fE31 f31_pa f31_le f31_ta f31_lo f31_hi f31_re g_b16 (own_eqI (show (re31).toInt = ((0 : Int32)).toInt from (by omega : (re31).toInt = (0 : Int)))) (own_eqI (show (v31).toInt = (b0).toInt from (by omega : (v31).toInt = (b0).toInt))) (own_eqI (show (le31).toInt = ((1 : Int32)).toInt from (by omega : (le31).toInt = (1 : Int)))) (own_eqI (show (ta31).toInt = ((1 : Int32)).toInt from (by omega : (ta31).toInt = (1 : Int)))) (by omega) (by omega)) hZ (hw _ (List.mem_of_getElem? (i := 35) rfl)) (hw _ (List.mem_of_getElem? (i := 2) rfl)) (by decide) (by decide)) (g := (mkF m 74 #[iv i0, iv i1, iv i2, iv i3, iv i4, iv b0, iv v3, iv v7, iv v11, iv b4, rv b16, iv v31, iv (1 : Int32), .unset, .unset, .unset, .unset, .unset, .unset, .unset] [(.int b4), (.int (1 : Int32)), (.int (1 : Int32)), (.int b0), (.int v31), (.ref b16)])) rfl (by rw [hml]; rfl) (argsL := [(.ref b16), (.int v31), (.int b0), (.int (1 : Int32)), (.int (1 : Int32)), (.int b4)]) (rest := []) (lenOf pd0_2 rfl) rfl (by show 2 * 0 + _ ≤ _; exact Nat.le_of_eq rfl) (hb hby at_74) (fun _ _ => ⟨rfl, e35, (by decide : 1 + 0 ≤ _), (by decide : 6 + 0 ≤ _)⟩)
    dsimp only [Pt.U, Pt.locs, Pt.cells, Pt.slots] at X39 l39 y39 z39 st39 hQ39
    subst l39 y39 z39
    obtain ⟨rfl, Nq39⟩ := hQ39
    have N39 := Fr.app N36 Nq39
    have e39 : T39.heap = T39.heap := rfl
    obtain ⟨LL40, X40, N40⟩ : ∃ LL, Stand p l e room_1 s m #[(.int i0), (.int i1), (.int i2), (.int i3), (.int i4)] below meth c T39 LL 1 6 ∧ Fr n0 LL := ⟨_, X39, N39⟩
    have pre41 : ∀ t, own_s p e below T39 m 77 #[iv i0, iv i1, iv i2, iv i3, iv i4, iv b0, iv v3, iv v7, iv v11, iv b4, rv b16, iv v31, iv (1 : Int32), .unset, .unset, .unset, .unset, .unset, .unset, .unset] [(.int (1 : Int32))] t → Steps p.tables e below S0 t := fun tX kX => pre38 _ (st39 _ kX)
    subst hS0
    obtain ⟨fs, hr, hrun, hended, hW, hsame⟩ := X40.leave (v := (some (.int (1 : Int32)))) (fun h => by rw [Bd.returns] at h; cases h)
    refine ⟨_, _, pre41 _ (retN X40 hx (t := .boolean) Bd.returns (by simp) (hb hby at_77) hr), hrun, hended, _, _, rfl, ?_, ⟨_, rfl⟩, hW, hsame.mono (by decide) (by decide)⟩
    show Q0 Z i0 i1 i2 i3 i4 h0 n0 (some (.int (1 : Int32))) T39.heap _
    exact ⟨rfl, N40⟩
  · skip
    obtain ⟨LL42, X42, N42⟩ : ∃ LL, Stand p l e room_1 s m #[(.int i0), (.int i1), (.int i2), (.int i3), (.int i4)] below meth c T35 LL 1 6 ∧ Fr n0 LL := ⟨_, X35, N35⟩
    have pre43 : ∀ t, own_s p e below T35 m 56 #[iv i0, iv i1, iv i2, iv i3, iv i4, iv b0, iv v3, iv v7, iv v11, iv b4, rv b16, iv v31, .unset, .unset, .unset, .unset, .unset, .unset, .unset, .unset] [(.int (2 : Int32))] t → Steps p.tables e below S0 t := fun tX kX => pre34 _ (st35 _ kX)
    have pre44 : ∀ t, own_s p e below T35 m 87 #[iv i0, iv i1, iv i2, iv i3, iv i4, iv b0, iv v3, iv v7, iv v11, iv b4, rv b16, iv v31, iv (2 : Int32), .unset, .unset, .unset, .unset, .unset, .unset, .unset] [(.int (2 : Int32)), (.int b0)] t → Steps p.tables e below S0 t := by
      intro tX kX
      refine pre43 _ ?_
      show own_s p e below T35 m 56 #[iv i0, iv i1, iv i2, iv i3, iv i4, iv b0, iv v3, iv v7, iv v11, iv b4, rv b16, iv v31, .unset, .unset, .unset, .unset, .unset, .unset, .unset, .unset] [(.int (2 : Int32))] _
      refine XS.istore X42.here hx rfl (hb hby at_56) rfl (l' := #[iv i0, iv i1, iv i2, iv i3, iv i4, iv b0, iv v3, iv v7, iv v11, iv b4, rv b16, iv v31, iv (2 : Int32), .unset, .unset, .unset, .unset, .unset, .unset, .unset]) rfl ?_
      show own_s p e below T35 m 58 #[iv i0, iv i1, iv i2, iv i3, iv i4, iv b0, iv v3, iv v7, iv v11, iv b4, rv b16, iv v31, iv (2 : Int32), .unset, .unset, .unset, .unset, .unset, .unset, .unset] [] _
      refine XS.iload X42.here hx rfl (hb hby at_58) rfl ?_
      show own_s p e below T35 m 60 #[iv i0, iv i1, iv i2, iv i3, iv i4, iv b0, iv v3, iv v7, iv v11, iv b4, rv b16, iv v31, iv (2 : Int32), .unset, .unset, .unset, .unset, .unset, .unset, .unset] [(.int (2 : Int32))] _
      refine XS.iconst X42.here hx rfl (hb hby at_60) ?_
      show own_s p e below T35 m 61 #[iv i0, iv i1, iv i2, iv i3, iv i4, iv b0, iv v3, iv v7, iv v11, iv b4, rv b16, iv v31, iv (2 : Int32), .unset, .unset, .unset, .unset, .unset, .unset, .unset] [(.int (1 : Int32)), (.int (2 : Int32))] _
      refine XS.icmpYes X42.here hx rfl (pc0 := 61) (pc' := 78) rfl (hb hby at_61) rfl (feq (by decide : ¬ ((2 : Int32) = (1 : Int32)))).2 (by decide) (by decide) ?_
      show own_s p e below T35 m 78 #[iv i0, iv i1, iv i2, iv i3, iv i4, iv b0, iv v3, iv v7, iv v11, iv b4, rv b16, iv v31, iv (2 : Int32), .unset, .unset, .unset, .unset, .unset, .unset, .unset] [] _
      refine XS.iload X42.here hx rfl (hb hby at_78) rfl ?_
      show own_s p e below T35 m 80 #[iv i0, iv i1, iv i2, iv i3, iv i4, iv b0, iv v3, iv v7, iv v11, iv b4, rv b16, iv v31, iv (2 : Int32), .unset, .unset, .unset, .unset, .unset, .unset, .unset] [(.int (2 : Int32))] _
      refine XS.ifNo X42.here hx rfl (hb hby at_80) rfl ((if0 _ _).trans (feq (by decide : ¬ ((2 : Int32) = (0 : Int32)))).1) ?_
      show own_s p e below T35 m 83 #[iv i0, iv i1, iv i2, iv i3, iv i4, iv b0, iv v3, iv v7, iv v11, iv b4, rv b16, iv v31, iv (2 : Int32), .unset, .unset, .unset, .unset, .unset, .unset, .unset] [] _
      refine XS.iload X42.here hx rfl (hb hby at_83) rfl ?_
      show own_s p e below T35 m 85 #[iv i0, iv i1, iv i2, iv i3, iv i4, iv b0, iv v3, iv v7, iv v11, iv b4, rv b16, iv v31, iv (2 : Int32), .unset, .unset, .unset, .unset, .unset, .unset, .unset] [(.int b0)] _
      refine XS.iload X42.here hx rfl (hb hby at_85) rfl ?_
      exact kX
    obtain ⟨_, _, ⟨T45, L45, k45, n45⟩, -, X45, ⟨Lc45, hQ45, l45, y45, z45⟩, st45⟩ := Jvm.LawKit.callS X42 hx (y := (⟨"com/example/weaverbird/weaverbird/model/xml/Utf8DecoderTakePinLaw", "leadBits", "(II)I"⟩ : MethodName)) hown (mvT hZ (hw _ (List.mem_of_getElem? (i := 49) rfl))) (mvT hZ (hw _ (List.mem_of_getElem? (i := 50) rfl))) (mvT hZ (hw _ (List.mem_of_getElem? (i := 2) rfl))) (mvT hZ (hw _ (List.mem_of_getElem? (i := 51) rfl))) (by decide) (backOf (W := 0) (rm8 l Z a0 hw [] b0  T31.heap n0 Z31 ) hZ (hw _ (List.mem_of_getElem? (i := 51) rfl)) (hw _ (List.mem_of_getElem? (i := 2) rfl)) (by decide) (by decide)) (g := (mkF m 87 #[iv i0, iv i1, iv i2, iv i3, iv i4, iv b0, iv v3, iv v7, iv v11, iv b4, rv b16, iv v31, iv (2 : Int32), .unset, .unset, .unset, .unset, .unset, .unset, .unset] [(.int (2 : Int32)), (.int b0)])) rfl (by rw [hml]; rfl) (argsL := [(.int b0), (.int (2 : Int32))]) (rest := []) (lenOf pd0_3 rfl) rfl (by show 2 * 0 + _ ≤ _; exact Nat.le_of_eq rfl) (hb hby at_87) (fun _ _ => ⟨rfl, e35, (by decide : 1 + 0 ≤ _), (by decide : 6 + 0 ≤ _)⟩)
    dsimp only [Pt.U, Pt.locs, Pt.cells, Pt.slots] at X45 l45 y45 z45 st45 hQ45
    subst l45 y45 z45
    obtain ⟨⟨v45, rfl, B45⟩, Nq45, e45⟩ := hQ45
    have N45 := Fr.app N42 Nq45
    obtain ⟨LL46, X46, N46⟩ : ∃ LL, Stand p l e room_1 s m #[(.int i0), (.int i1), (.int i2), (.int i3), (.int i4)] below meth c T45 LL 1 6 ∧ Fr n0 LL := ⟨_, X45, N45⟩
    have pre47 : ∀ t, own_s p e below T45 m 90 #[iv i0, iv i1, iv i2, iv i3, iv i4, iv b0, iv v3, iv v7, iv v11, iv b4, rv b16, iv v31, iv (2 : Int32), .unset, .unset, .unset, .unset, .unset, .unset, .unset] [(.int v45)] t → Steps p.tables e below S0 t := fun tX kX => pre44 _ (st45 _ kX)
    have pre48 : ∀ t, own_s p e below T45 m 93 #[iv i0, iv i1, iv i2, iv i3, iv i4, iv b0, iv v3, iv v7, iv v11, iv b4, rv b16, iv v31, iv (2 : Int32), .unset, .unset, .unset, .unset, .unset, .unset, .unset] [(.int (1 : Int32)), (.int (2 : Int32)), (.int v45)] t → Steps p.tables e below S0 t := by
      intro tX kX
      refine pre47 _ ?_
      show own_s p e below T45 m 90 #[iv i0, iv i1, iv i2, iv i3, iv i4, iv b0, iv v3, iv v7, iv v11, iv b4, rv b16, iv v31, iv (2 : Int32), .unset, .unset, .unset, .unset, .unset, .unset, .unset] [(.int v45)] _
      refine XS.iload X46.here hx rfl (hb hby at_90) rfl ?_
      show own_s p e below T45 m 92 #[iv i0, iv i1, iv i2, iv i3, iv i4, iv b0, iv v3, iv v7, iv v11, iv b4, rv b16, iv v31, iv (2 : Int32), .unset, .unset, .unset, .unset, .unset, .unset, .unset] [(.int (2 : Int32)), (.int v45)] _
      refine XS.iconst X46.here hx rfl (hb hby at_92) ?_
      exact kX
    obtain ⟨_, _, ⟨T49, L49, k49, n49⟩, -, X49, ⟨Lc49, hQ49, l49, y49, z49⟩, st49⟩ := Jvm.LawKit.callS X46 hx (y := (⟨"com/example/weaverbird/weaverbird/model/xml/Utf8DecoderTakePinLaw", "feasible", "(III)Z"⟩ : MethodName)) hown (mvT hZ (hw _ (List.mem_of_getElem? (i := 52) rfl))) (mvT hZ (hw _ (List.mem_of_getElem? (i := 53) rfl))) (mvT hZ (hw _ (List.mem_of_getElem? (i := 2) rfl))) (mvT hZ (hw _ (List.mem_of_getElem? (i := 54) rfl))) (by decide) (backOf (W := 0) (rm20 l Z a0 hw [] v45  T31.heap n0 Z31 (by omega) (by omega)) hZ (hw _ (List.mem_of_getElem? (i := 54) rfl)) (hw _ (List.mem_of_getElem? (i := 2) rfl)) (by decide) (by decide)) (g := (mkF m 93 #[iv i0, iv i1, iv i2, iv i3, iv i4, iv b0, iv v3, iv v7, iv v11, iv b4, rv b16, iv v31, iv (2 : Int32), .unset, .unset, .unset, .unset, .unset, .unset, .unset] [(.int (1 : Int32)), (.int (2 : Int32)), (.int v45)])) rfl (by rw [hml]; rfl) (argsL := [(.int v45), (.int (2 : Int32)), (.int (1 : Int32))]) (rest := []) (lenOf pd0_4 rfl) rfl (by show 2 * 0 + _ ≤ _; exact Nat.le_of_eq rfl) (hb hby at_93) (fun _ _ => ⟨rfl, e45, (by decide : 1 + 0 ≤ _), (by decide : 6 + 0 ≤ _)⟩)
    dsimp only [Pt.U, Pt.locs, Pt.cells, Pt.slots] at X49 l49 y49 z49 st49 hQ49
    subst l49 y49 z49
    obtain ⟨D49, Nq49, e49⟩ := hQ49
    have N49 := Fr.app N46 Nq49
    rcases D49 with ⟨rfl, B49⟩ | ⟨rfl, B49⟩
    · skip
      obtain ⟨LL50, X50, N50⟩ : ∃ LL, Stand p l e room_1 s m #[(.int i0), (.int i1), (.int i2), (.int i3), (.int i4)] below meth c T49 LL 1 6 ∧ Fr n0 LL := ⟨_, X49, N49⟩
      have pre51 : ∀ t, own_s p e below T49 m 96 #[iv i0, iv i1, iv i2, iv i3, iv i4, iv b0, iv v3, iv v7, iv v11, iv b4, rv b16, iv v31, iv (2 : Int32), .unset, .unset, .unset, .unset, .unset, .unset, .unset] [(.int (1 : Int32))] t → Steps p.tables e below S0 t := fun tX kX => pre48 _ (st49 _ kX)
      have y52 : v31.toInt = -1 := by omega
      have y53 : le31.toInt = 2 := by omega
      have y54 : ta31.toInt = 1 := by omega
      have y55 : re31.toInt = 1 := by omega
      have y56 : pa31.toInt = b0.toInt - 192 := by omega
      have y57 : lo31.toInt = 128 := by omega
      have y58 : hi31.toInt = 191 := by omega
      clear R31
      have pre59 : ∀ t, own_s p e below T49 m 125 #[iv i0, iv i1, iv i2, iv i3, iv i4, iv b0, iv v3, iv v7, iv v11, iv b4, rv b16, iv v31, iv (2 : Int32), .unset, .unset, .unset, .unset, .unset, .unset, .unset] [(.int (2 : Int32)), (.int b0)] t → Steps p.tables e below S0 t := by
        intro tX kX
        refine pre51 _ ?_
        show own_s p e below T49 m 96 #[iv i0, iv i1, iv i2, iv i3, iv i4, iv b0, iv v3, iv v7, iv v11, iv b4, rv b16, iv v31, iv (2 : Int32), .unset, .unset, .unset, .unset, .unset, .unset, .unset] [(.int (1 : Int32))] _
        refine XS.ifYes X50.here hx rfl (pc0 := 96) (pc' := 113) rfl (hb hby at_96) rfl ((if0 _ _).trans (feq (by decide : ¬ ((1 : Int32) = (0 : Int32)))).2) (by decide) (by decide) ?_
        show own_s p e below T49 m 113 #[iv i0, iv i1, iv i2, iv i3, iv i4, iv b0, iv v3, iv v7, iv v11, iv b4, rv b16, iv v31, iv (2 : Int32), .unset, .unset, .unset, .unset, .unset, .unset, .unset] [] _
        refine XS.iload X50.here hx rfl (hb hby at_113) rfl ?_
        show own_s p e below T49 m 115 #[iv i0, iv i1, iv i2, iv i3, iv i4, iv b0, iv v3, iv v7, iv v11, iv b4, rv b16, iv v31, iv (2 : Int32), .unset, .unset, .unset, .unset, .unset, .unset, .unset] [(.int v31)] _
        refine XS.iconst X50.here hx rfl (hb hby at_115) ?_
        show own_s p e below T49 m 116 #[iv i0, iv i1, iv i2, iv i3, iv i4, iv b0, iv v3, iv v7, iv v11, iv b4, rv b16, iv v31, iv (2 : Int32), .unset, .unset, .unset, .unset, .unset, .unset, .unset] [(.int (-1 : Int32)), (.int v31)] _
        refine XS.icmpYes X50.here hx rfl (pc0 := 116) (pc' := 121) rfl (hb hby at_116) rfl (teq (own_eqI (show (v31).toInt = ((-1 : Int32)).toInt from (by omega : (v31).toInt = (-1 : Int))))).1 (by decide) (by decide) ?_
        show own_s p e below T49 m 121 #[iv i0, iv i1, iv i2, iv i3, iv i4, iv b0, iv v3, iv v7, iv v11, iv b4, rv b16, iv v31, iv (2 : Int32), .unset, .unset, .unset, .unset, .unset, .unset, .unset] [] _
        refine XS.iload X50.here hx rfl (hb hby at_121) rfl ?_
        show own_s p e below T49 m 123 #[iv i0, iv i1, iv i2, iv i3, iv i4, iv b0, iv v3, iv v7, iv v11, iv b4, rv b16, iv v31, iv (2 : Int32), .unset, .unset, .unset, .unset, .unset, .unset, .unset] [(.int b0)] _
        refine XS.iload X50.here hx rfl (hb hby at_123) rfl ?_
        exact kX
      obtain ⟨_, _, ⟨T60, L60, k60, n60⟩, -, X60, ⟨Lc60, hQ60, l60, y60, z60⟩, st60⟩ := Jvm.LawKit.callS X50 hx (y := (⟨"com/example/weaverbird/weaverbird/model/xml/Utf8DecoderTakePinLaw", "leadBits", "(II)I"⟩ : MethodName)) hown (mvT hZ (hw _ (List.mem_of_getElem? (i := 49) rfl))) (mvT hZ (hw _ (List.mem_of_getElem? (i := 50) rfl))) (mvT hZ (hw _ (List.mem_of_getElem? (i := 2) rfl))) (mvT hZ (hw _ (List.mem_of_getElem? (i := 51) rfl))) (by decide) (backOf (W := 0) (rm8 l Z a0 hw [] b0  T31.heap n0 Z31 ) hZ (hw _ (List.mem_of_getElem? (i := 51) rfl)) (hw _ (List.mem_of_getElem? (i := 2) rfl)) (by decide) (by decide)) (g := (mkF m 125 #[iv i0, iv i1, iv i2, iv i3, iv i4, iv b0, iv v3, iv v7, iv v11, iv b4, rv b16, iv v31, iv (2 : Int32), .unset, .unset, .unset, .unset, .unset, .unset, .unset] [(.int (2 : Int32)), (.int b0)])) rfl (by rw [hml]; rfl) (argsL := [(.int b0), (.int (2 : Int32))]) (rest := []) (lenOf pd0_3 rfl) rfl (by show 2 * 0 + _ ≤ _; exact Nat.le_of_eq rfl) (hb hby at_125) (fun _ _ => ⟨rfl, e49, (by decide : 1 + 0 ≤ _), (by decide : 6 + 0 ≤ _)⟩)
      dsimp only [Pt.U, Pt.locs, Pt.cells, Pt.slots] at X60 l60 y60 z60 st60 hQ60
      subst l60 y60 z60
      obtain ⟨⟨v60, rfl, B60⟩, Nq60, e60⟩ := hQ60
      have N60 := Fr.app N50 Nq60
      obtain ⟨LL61, X61, N61⟩ : ∃ LL, Stand p l e room_1 s m #[(.int i0), (.int i1), (.int i2), (.int i3), (.int i4)] below meth c T60 LL 1 6 ∧ Fr n0 LL := ⟨_, X60, N60⟩
      have pre62 : ∀ t, own_s p e below T60 m 128 #[iv i0, iv i1, iv i2, iv i3, iv i4, iv b0, iv v3, iv v7, iv v11, iv b4, rv b16, iv v31, iv (2 : Int32), .unset, .unset, .unset, .unset, .unset, .unset, .unset] [(.int v60)] t → Steps p.tables e below S0 t := fun tX kX => pre59 _ (st60 _ kX)
      have pre63 : ∀ t, own_s p e below T60 m 134 #[iv i0, iv i1, iv i2, iv i3, iv i4, iv b0, iv v3, iv v7, iv v11, iv b4, rv b16, iv v31, iv (2 : Int32), iv v60, .unset, .unset, .unset, .unset, .unset, .unset] [(.int v3), (.ref b16)] t → Steps p.tables e below S0 t := by
        intro tX kX
        refine pre62 _ ?_
        show own_s p e below T60 m 128 #[iv i0, iv i1, iv i2, iv i3, iv i4, iv b0, iv v3, iv v7, iv v11, iv b4, rv b16, iv v31, iv (2 : Int32), .unset, .unset, .unset, .unset, .unset, .unset, .unset] [(.int v60)] _
        refine XS.istore X61.here hx rfl (hb hby at_128) rfl (l' := #[iv i0, iv i1, iv i2, iv i3, iv i4, iv b0, iv v3, iv v7, iv v11, iv b4, rv b16, iv v31, iv (2 : Int32), iv v60, .unset, .unset, .unset, .unset, .unset, .unset]) rfl ?_
        show own_s p e below T60 m 130 #[iv i0, iv i1, iv i2, iv i3, iv i4, iv b0, iv v3, iv v7, iv v11, iv b4, rv b16, iv v31, iv (2 : Int32), iv v60, .unset, .unset, .unset, .unset, .unset, .unset] [] _
        refine XS.aload X61.here hx rfl (hb hby at_130) rfl rfl ?_
        show own_s p e below T60 m 132 #[iv i0, iv i1, iv i2, iv i3, iv i4, iv b0, iv v3, iv v7, iv v11, iv b4, rv b16, iv v31, iv (2 : Int32), iv v60, .unset, .unset, .unset, .unset, .unset, .unset] [(.ref b16)] _
        refine XS.iload X61.here hx rfl (hb hby at_132) rfl ?_
        exact kX
      obtain ⟨cq64, kq64, q64a, q64b, q64c⟩ := isOf hZ e60 fE31
      obtain ⟨_, _, ⟨T64, L64, k64, n64⟩, -, X64, ⟨Lc64, hQ64, l64, y64, z64⟩, st64⟩ := X61.virtualBack hx (y := (⟨"com/example/weaverbird/weaverbird/model/xml/Utf8Decoder", "take", "(I)I"⟩ : MethodName)) (z := (⟨"com/example/weaverbird/weaverbird/model/xml/Utf8Decoder", "take", "(I)I"⟩ : MethodName)) hown (mvT hZ (hw _ (List.mem_of_getElem? (i := 13) rfl))) (mvT hZ (hw _ (List.mem_of_getElem? (i := 14) rfl))) (notFace_of_selects (args := #[]) (mvT hZ (hw _ (List.mem_of_getElem? (i := 16) rfl)))) (mvT hZ (hw _ (List.mem_of_getElem? (i := 16) rfl))) (mvT hZ (hw _ (List.mem_of_getElem? (i := 15) rfl))) (by decide) (backOf (W := 0) (rm3 l Z a0 hw [] b16 v3 pa31 le31 ta31 lo31 hi31 re31 T31.heap n0 Z31 fE31 f31_pa f31_le f31_ta f31_lo f31_hi f31_re g_b16 (own_eqI (show (re31).toInt = (1 : Int32).toInt from (by omega : (re31).toInt = 1))) (by omega) (by omega) (by omega) (by omega) (by omega) (by omega)) hZ (hw _ (List.mem_of_getElem? (i := 17) rfl)) (hw _ (List.mem_of_getElem? (i := 6) rfl)) (by decide) (by decide)) q64a q64c (g := (mkF m 134 #[iv i0, iv i1, iv i2, iv i3, iv i4, iv b0, iv v3, iv v7, iv v11, iv b4, rv b16, iv v31, iv (2 : Int32), iv v60, .unset, .unset, .unset, .unset, .unset, .unset] [(.int v3), (.ref b16)])) rfl (by rw [hml]; rfl) (Steps.refl _) (argsL := [(.int v3)]) (rest := []) (lenOf pd0_0 rfl) rfl (by show 2 * 0 + _ ≤ _; exact Nat.le_of_eq rfl) (hb hby at_134) (fun _ _ => ⟨rfl, e60, (by decide : 1 + 0 ≤ _), (by decide : 6 + 0 ≤ _)⟩)
      dsimp only [Pt.U, Pt.locs, Pt.cells, Pt.slots] at X64 l64 y64 z64 st64 hQ64
      subst l64 y64 z64
      obtain ⟨v64, pa64, le64, ta64, lo64, hi64, re64, rfl, Nq64, Kq64, fE64, f64_pa, f64_le, f64_ta, f64_lo, f64_hi, f64_re, hL64, R64⟩ := hQ64
      have hLi64 := congrArg Int32.toInt hL64
      unfold own_T1 at R64
      have N64 := Fr.app N61 Nq64
      have e64 : T64.heap = T64.heap := rfl
      have Z64 : n0 ≤ T64.heap.size := Nat.le_trans Z31 Kq64.1
      obtain ⟨LL65, X65, N65⟩ : ∃ LL, Stand p l e room_1 s m #[(.int i0), (.int i1), (.int i2), (.int i3), (.int i4)] below meth c T64 LL 1 6 ∧ Fr n0 LL := ⟨_, X64, N64⟩
      have pre66 : ∀ t, own_s p e below T64 m 137 #[iv i0, iv i1, iv i2, iv i3, iv i4, iv b0, iv v3, iv v7, iv v11, iv b4, rv b16, iv v31, iv (2 : Int32), iv v60, .unset, .unset, .unset, .unset, .unset, .unset] [(.int v64)] t → Steps p.tables e below S0 t := fun tX kX => pre63 _ (st64.trans kX)
      have pre67 : ∀ t, own_s p e below T64 m 150 #[iv i0, iv i1, iv i2, iv i3, iv i4, iv b0, iv v3, iv v7, iv v11, iv b4, rv b16, iv v31, iv (2 : Int32), iv v60, iv v64, .unset, .unset, .unset, .unset, .unset] [(.int ((v60 <<< ((6 : Int32) &&& 31)) ||| (v3 &&& (63 : Int32))))] t → Steps p.tables e below S0 t := by
        intro tX kX
        refine pre66 _ ?_
        show own_s p e below T64 m 137 #[iv i0, iv i1, iv i2, iv i3, iv i4, iv b0, iv v3, iv v7, iv v11, iv b4, rv b16, iv v31, iv (2 : Int32), iv v60, .unset, .unset, .unset, .unset, .unset, .unset] [(.int v64)] _
        refine XS.istore X65.here hx rfl (hb hby at_137) rfl (l' := #[iv i0, iv i1, iv i2, iv i3, iv i4, iv b0, iv v3, iv v7, iv v11, iv b4, rv b16, iv v31, iv (2 : Int32), iv v60, iv v64, .unset, .unset, .unset, .unset, .unset]) rfl ?_
        show own_s p e below T64 m 139 #[iv i0, iv i1, iv i2, iv i3, iv i4, iv b0, iv v3, iv v7, iv v11, iv b4, rv b16, iv v31, iv (2 : Int32), iv v60, iv v64, .unset, .unset, .unset, .unset, .unset] [] _
        refine XS.iload X65.here hx rfl (hb hby at_139) rfl ?_
        show own_s p e below T64 m 141 #[iv i0, iv i1, iv i2, iv i3, iv i4, iv b0, iv v3, iv v7, iv v11, iv b4, rv b16, iv v31, iv (2 : Int32), iv v60, iv v64, .unset, .unset, .unset, .unset, .unset] [(.int v60)] _
        refine XS.bipush X65.here hx rfl (hb hby at_141) ?_
        show own_s p e below T64 m 143 #[iv i0, iv i1, iv i2, iv i3, iv i4, iv b0, iv v3, iv v7, iv v11, iv b4, rv b16, iv v31, iv (2 : Int32), iv v60, iv v64, .unset, .unset, .unset, .unset, .unset] [(.int (6 : Int32)), (.int v60)] _
        refine XS.ishl X65.here hx rfl (hb hby at_143) rfl ?_
        show own_s p e below T64 m 144 #[iv i0, iv i1, iv i2, iv i3, iv i4, iv b0, iv v3, iv v7, iv v11, iv b4, rv b16, iv v31, iv (2 : Int32), iv v60, iv v64, .unset, .unset, .unset, .unset, .unset] [(.int (v60 <<< ((6 : Int32) &&& 31)))] _
        refine XS.iload X65.here hx rfl (hb hby at_144) rfl ?_
        show own_s p e below T64 m 146 #[iv i0, iv i1, iv i2, iv i3, iv i4, iv b0, iv v3, iv v7, iv v11, iv b4, rv b16, iv v31, iv (2 : Int32), iv v60, iv v64, .unset, .unset, .unset, .unset, .unset] [(.int v3), (.int (v60 <<< ((6 : Int32) &&& 31)))] _
        refine XS.bipush X65.here hx rfl (hb hby at_146) ?_
        show own_s p e below T64 m 148 #[iv i0, iv i1, iv i2, iv i3, iv i4, iv b0, iv v3, iv v7, iv v11, iv b4, rv b16, iv v31, iv (2 : Int32), iv v60, iv v64, .unset, .unset, .unset, .unset, .unset] [(.int (63 : Int32)), (.int v3), (.int (v60 <<< ((6 : Int32) &&& 31)))] _
        refine XS.iand X65.here hx rfl (hb hby at_148) rfl ?_
        show own_s p e below T64 m 149 #[iv i0, iv i1, iv i2, iv i3, iv i4, iv b0, iv v3, iv v7, iv v11, iv b4, rv b16, iv v31, iv (2 : Int32), iv v60, iv v64, .unset, .unset, .unset, .unset, .unset] [(.int (v3 &&& (63 : Int32))), (.int (v60 <<< ((6 : Int32) &&& 31)))] _
        refine XS.ior X65.here hx rfl (hb hby at_149) rfl ?_
        exact kX
      obtain ⟨q1, hq1⟩ : ∃ z : Int32, z = ((v60 <<< ((6 : Int32) &&& 31)) ||| (v3 &&& (63 : Int32))) := ⟨_, rfl⟩
      rw [← hq1] at pre67
      have iq1 : q1.toInt = v60.toInt * 64 + v3.toInt % 64 := by rw [hq1]; exact own_cat v60 v3 (by omega) (by omega)
      have pre68 : ∀ t, own_s p e below T64 m 154 #[iv i0, iv i1, iv i2, iv i3, iv i4, iv b0, iv v3, iv v7, iv v11, iv b4, rv b16, iv v31, iv (2 : Int32), iv v60, iv v64, iv q1, .unset, .unset, .unset, .unset] [(.int v3)] t → Steps p.tables e below S0 t := by
        intro tX kX
        refine pre67 _ ?_
        show own_s p e below T64 m 150 #[iv i0, iv i1, iv i2, iv i3, iv i4, iv b0, iv v3, iv v7, iv v11, iv b4, rv b16, iv v31, iv (2 : Int32), iv v60, iv v64, .unset, .unset, .unset, .unset, .unset] [(.int q1)] _
        refine XS.istore X65.here hx rfl (hb hby at_150) rfl (l' := #[iv i0, iv i1, iv i2, iv i3, iv i4, iv b0, iv v3, iv v7, iv v11, iv b4, rv b16, iv v31, iv (2 : Int32), iv v60, iv v64, iv q1, .unset, .unset, .unset, .unset]) rfl ?_
        show own_s p e below T64 m 152 #[iv i0, iv i1, iv i2, iv i3, iv i4, iv b0, iv v3, iv v7, iv v11, iv b4, rv b16, iv v31, iv (2 : Int32), iv v60, iv v64, iv q1, .unset, .unset, .unset, .unset] [] _
        refine XS.iload X65.here hx rfl (hb hby at_152) rfl ?_
        exact kX
      obtain ⟨_, _, ⟨T69, L69, k69, n69⟩, -, X69, ⟨Lc69, hQ69, l69, y69, z69⟩, st69⟩ := Jvm.LawKit.callS X65 hx (y := (⟨"com/example/weaverbird/weaverbird/model/xml/Utf8DecoderTakePinLaw", "isCont", "(I)Z"⟩ : MethodName)) hown (mvT hZ (hw _ (List.mem_of_getElem? (i := 61) rfl))) (mvT hZ (hw _ (List.mem_of_getElem? (i := 62) rfl))) (mvT hZ (hw _ (List.mem_of_getElem? (i := 2) rfl))) (mvT hZ (hw _ (List.mem_of_getElem? (i := 63) rfl))) (by decide) (backOf (W := 0) (rm7 l Z a0 hw [] v3  T64.heap n0 Z64 (by omega) (by omega)) hZ (hw _ (List.mem_of_getElem? (i := 63) rfl)) (hw _ (List.mem_of_getElem? (i := 2) rfl)) (by decide) (by decide)) (g := (mkF m 154 #[iv i0, iv i1, iv i2, iv i3, iv i4, iv b0, iv v3, iv v7, iv v11, iv b4, rv b16, iv v31, iv (2 : Int32), iv v60, iv v64, iv q1, .unset, .unset, .unset, .unset] [(.int v3)])) rfl (by rw [hml]; rfl) (argsL := [(.int v3)]) (rest := []) (lenOf pd0_5 rfl) rfl (by show 2 * 0 + _ ≤ _; exact Nat.le_of_eq rfl) (hb hby at_154) (fun _ _ => ⟨rfl, e64, (by decide : 1 + 0 ≤ _), (by decide : 6 + 0 ≤ _)⟩)
      dsimp only [Pt.U, Pt.locs, Pt.cells, Pt.slots] at X69 l69 y69 z69 st69 hQ69
      subst l69 y69 z69
      obtain ⟨D69, Nq69, e69⟩ := hQ69
      have N69 := Fr.app N65 Nq69
      rcases D69 with ⟨rfl, B69⟩ | ⟨rfl, B69⟩
      · skip
        obtain ⟨LL70, X70, N70⟩ : ∃ LL, Stand p l e room_1 s m #[(.int i0), (.int i1), (.int i2), (.int i3), (.int i4)] below meth c T69 LL 1 6 ∧ Fr n0 LL := ⟨_, X69, N69⟩
        have pre71 : ∀ t, own_s p e below T69 m 157 #[iv i0, iv i1, iv i2, iv i3, iv i4, iv b0, iv v3, iv v7, iv v11, iv b4, rv b16, iv v31, iv (2 : Int32), iv v60, iv v64, iv q1, .unset, .unset, .unset, .unset] [(.int (1 : Int32))] t → Steps p.tables e below S0 t := fun tX kX => pre68 _ (st69 _ kX)
        have pre72 : ∀ t, own_s p e below T69 m 165 #[iv i0, iv i1, iv i2, iv i3, iv i4, iv b0, iv v3, iv v7, iv v11, iv b4, rv b16, iv v31, iv (2 : Int32), iv v60, iv v64, iv q1, .unset, .unset, .unset, .unset] [(.int (2 : Int32)), (.int (2 : Int32)), (.int q1)] t → Steps p.tables e below S0 t := by
          intro tX kX
          refine pre71 _ ?_
          show own_s p e below T69 m 157 #[iv i0, iv i1, iv i2, iv i3, iv i4, iv b0, iv v3, iv v7, iv v11, iv b4, rv b16, iv v31, iv (2 : Int32), iv v60, iv v64, iv q1, .unset, .unset, .unset, .unset] [(.int (1 : Int32))] _
          refine XS.ifNo X70.here hx rfl (hb hby at_157) rfl ((if0 _ _).trans (feq (by decide : ¬ ((1 : Int32) = (0 : Int32)))).1) ?_
          show own_s p e below T69 m 160 #[iv i0, iv i1, iv i2, iv i3, iv i4, iv b0, iv v3, iv v7, iv v11, iv b4, rv b16, iv v31, iv (2 : Int32), iv v60, iv v64, iv q1, .unset, .unset, .unset, .unset] [] _
          refine XS.iload X70.here hx rfl (hb hby at_160) rfl ?_
          show own_s p e below T69 m 162 #[iv i0, iv i1, iv i2, iv i3, iv i4, iv b0, iv v3, iv v7, iv v11, iv b4, rv b16, iv v31, iv (2 : Int32), iv v60, iv v64, iv q1, .unset, .unset, .unset, .unset] [(.int q1)] _
          refine XS.iload X70.here hx rfl (hb hby at_162) rfl ?_
          show own_s p e below T69 m 164 #[iv i0, iv i1, iv i2, iv i3, iv i4, iv b0, iv v3, iv v7, iv v11, iv b4, rv b16, iv v31, iv (2 : Int32), iv v60, iv v64, iv q1, .unset, .unset, .unset, .unset] [(.int (2 : Int32)), (.int q1)] _
          refine XS.iconst X70.here hx rfl (hb hby at_164) ?_
          exact kX
        obtain ⟨_, _, ⟨T73, L73, k73, n73⟩, -, X73, ⟨Lc73, hQ73, l73, y73, z73⟩, st73⟩ := Jvm.LawKit.callS X70 hx (y := (⟨"com/example/weaverbird/weaverbird/model/xml/Utf8DecoderTakePinLaw", "feasible", "(III)Z"⟩ : MethodName)) hown (mvT hZ (hw _ (List.mem_of_getElem? (i := 52) rfl))) (mvT hZ (hw _ (List.mem_of_getElem? (i := 53) rfl))) (mvT hZ (hw _ (List.mem_of_getElem? (i := 2) rfl))) (mvT hZ (hw _ (List.mem_of_getElem? (i := 54) rfl))) (by decide) (backOf (W := 0) (rm23 l Z a0 hw [] q1  T64.heap n0 Z64 (by omega) (by omega)) hZ (hw _ (List.mem_of_getElem? (i := 54) rfl)) (hw _ (List.mem_of_getElem? (i := 2) rfl)) (by decide) (by decide)) (g := (mkF m 165 #[iv i0, iv i1, iv i2, iv i3, iv i4, iv b0, iv v3, iv v7, iv v11, iv b4, rv b16, iv v31, iv (2 : Int32), iv v60, iv v64, iv q1, .unset, .unset, .unset, .unset] [(.int (2 : Int32)), (.int (2 : Int32)), (.int q1)])) rfl (by rw [hml]; rfl) (argsL := [(.int q1), (.int (2 : Int32)), (.int (2 : Int32))]) (rest := []) (lenOf pd0_4 rfl) rfl (by show 2 * 0 + _ ≤ _; exact Nat.le_of_eq rfl) (hb hby at_165) (fun _ _ => ⟨rfl, e69, (by decide : 1 + 0 ≤ _), (by decide : 6 + 0 ≤ _)⟩)
        dsimp only [Pt.U, Pt.locs, Pt.cells, Pt.slots] at X73 l73 y73 z73 st73 hQ73
        subst l73 y73 z73
        obtain ⟨D73, Nq73, e73⟩ := hQ73
        have N73 := Fr.app N70 Nq73
        rcases D73 with ⟨rfl, B73⟩ | ⟨rfl, B73⟩
        · skip
          obtain ⟨LL74, X74, N74⟩ : ∃ LL, Stand p l e room_1 s m #[(.int i0), (.int i1), (.int i2), (.int i3), (.int i4)] below meth c T73 LL 1 6 ∧ Fr n0 LL := ⟨_, X73, N73⟩
          have pre75 : ∀ t, own_s p e below T73 m 168 #[iv i0, iv i1, iv i2, iv i3, iv i4, iv b0, iv v3, iv v7, iv v11, iv b4, rv b16, iv v31, iv (2 : Int32), iv v60, iv v64, iv q1, .unset, .unset, .unset, .unset] [(.int (1 : Int32))] t → Steps p.tables e below S0 t := fun tX kX => pre72 _ (st73 _ kX)
          have y76 : ta64.toInt = 2 := by omega
          have y77 : le64.toInt = 2 := by omega
          have y78 : pa64.toInt = pa31.toInt * 64 + v3.toInt % 64 := by omega
          have y79 : re64.toInt = 0 := by omega
          have y80 : v64.toInt = pa64.toInt := by omega
          clear R64
          have pre81 : ∀ t, own_s p e below T73 m 202 #[iv i0, iv i1, iv i2, iv i3, iv i4, iv b0, iv v3, iv v7, iv v11, iv b4, rv b16, iv v31, iv (2 : Int32), iv v60, iv v64, iv q1, .unset, .unset, .unset, .unset] [(.int b4), (.int (2 : Int32)), (.int (2 : Int32)), (.int q1), (.int v64), (.ref b16)] t → Steps p.tables e below S0 t := by
            intro tX kX
            refine pre75 _ ?_
            show own_s p e below T73 m 168 #[iv i0, iv i1, iv i2, iv i3, iv i4, iv b0, iv v3, iv v7, iv v11, iv b4, rv b16, iv v31, iv (2 : Int32), iv v60, iv v64, iv q1, .unset, .unset, .unset, .unset] [(.int (1 : Int32))] _
            refine XS.ifYes X74.here hx rfl (pc0 := 168) (pc' := 186) rfl (hb hby at_168) rfl ((if0 _ _).trans (feq (by decide : ¬ ((1 : Int32) = (0 : Int32)))).2) (by decide) (by decide) ?_
            show own_s p e below T73 m 186 #[iv i0, iv i1, iv i2, iv i3, iv i4, iv b0, iv v3, iv v7, iv v11, iv b4, rv b16, iv v31, iv (2 : Int32), iv v60, iv v64, iv q1, .unset, .unset, .unset, .unset] [] _
            refine XS.iload X74.here hx rfl (hb hby at_186) rfl ?_
            show own_s p e below T73 m 188 #[iv i0, iv i1, iv i2, iv i3, iv i4, iv b0, iv v3, iv v7, iv v11, iv b4, rv b16, iv v31, iv (2 : Int32), iv v60, iv v64, iv q1, .unset, .unset, .unset, .unset] [(.int (2 : Int32))] _
            refine XS.iconst X74.here hx rfl (hb hby at_188) ?_
            show own_s p e below T73 m 189 #[iv i0, iv i1, iv i2, iv i3, iv i4, iv b0, iv v3, iv v7, iv v11, iv b4, rv b16, iv v31, iv (2 : Int32), iv v60, iv v64, iv q1, .unset, .unset, .unset, .unset] [(.int (2 : Int32)), (.int (2 : Int32))] _
            refine XS.icmpNo X74.here hx rfl (hb hby at_189) rfl (teq (by decide : (2 : Int32) = (2 : Int32))).2 ?_
            show own_s p e below T73 m 192 #[iv i0, iv i1, iv i2, iv i3, iv i4, iv b0, iv v3, iv v7, iv v11, iv b4, rv b16, iv v31, iv (2 : Int32), iv v60, iv v64, iv q1, .unset, .unset, .unset, .unset] [] _
            refine XS.aload X74.here hx rfl (hb hby at_192) rfl rfl ?_
            show own_s p e below T73 m 194 #[iv i0, iv i1, iv i2, iv i3, iv i4, iv b0, iv v3, iv v7, iv v11, iv b4, rv b16, iv v31, iv (2 : Int32), iv v60, iv v64, iv q1, .unset, .unset, .unset, .unset] [(.ref b16)] _
            refine XS.iload X74.here hx rfl (hb hby at_194) rfl ?_
            show own_s p e below T73 m 196 #[iv i0, iv i1, iv i2, iv i3, iv i4, iv b0, iv v3, iv v7, iv v11, iv b4, rv b16, iv v31, iv (2 : Int32), iv v60, iv v64, iv q1, .unset, .unset, .unset, .unset] [(.int v64), (.ref b16)] _
            refine XS.iload X74.here hx rfl (hb hby at_196) rfl ?_
            show own_s p e below T73 m 198 #[iv i0, iv i1, iv i2, iv i3, iv i4, iv b0, iv v3, iv v7, iv v11, iv b4, rv b16, iv v31, iv (2 : Int32), iv v60, iv v64, iv q1, .unset, .unset, .unset, .unset] [(.int q1), (.int v64), (.ref b16)] _
            refine XS.iconst X74.here hx rfl (hb hby at_198) ?_
            show own_s p e below T73 m 199 #[iv i0, iv i1, iv i2, iv i3, iv i4, iv b0, iv v3, iv v7, iv v11, iv b4, rv b16, iv v31, iv (2 : Int32), iv v60, iv v64, iv q1, .unset, .unset, .unset, .unset] [(.int (2 : Int32)), (.int q1), (.int v64), (.ref b16)] _
            refine XS.iconst X74.here hx rfl (hb hby at_199) ?_
            show own_s p e below T73 m 200 #[iv i0, iv i1, iv i2, iv i3, iv i4, iv b0, iv v3, iv v7, iv v11, iv b4, rv b16, iv v31, iv (2 : Int32), iv v60, iv v64, iv q1, .unset, .unset, .unset, .unset] [(.int (2 : Int32)), (.int (2 : Int32)), (.int q1), (.int v64), (.ref b16)] _
            refine XS.iload X74.here hx rfl (hb hby at_200) rfl ?_
            exact kX
          obtain ⟨_, _, ⟨T82, L82, k82, n82⟩, -, X82, ⟨Lc82, hQ82, l82, y82, z82⟩, st82⟩ := Jvm.LawKit.callS X74 hx (y := (⟨"com/example/weaverbird/weaverbird/model/xml/Utf8DecoderTakePinLaw", "ended", "(Lcom/example/weaverbird/weaverbird/model/xml/Utf8Decoder;IIIII)Z"⟩ : MethodName)) hown (mvT hZ (hw _ (List.mem_of_getElem? (i := 33) rfl))) (mvT hZ (hw _ (List.mem_of_getElem? (i := 34) rfl))) (mvT hZ (hw _ (List.mem_of_getElem? (i := 2) rfl))) (mvT hZ (hw _ (List.mem_of_getElem? (i := 35) rfl))) (by decide) (backOf (W := 0) (rm16 l Z a0 hw [] b16 v64 q1 (2 : Int32) (2 : Int32) b4 pa64 le64 ta64 lo64 hi64 re64 T64.heap n0 Z64 fE64 f64_pa f64_le f64_ta f64_lo f64_hi f64_re g_b16 (own_eqI (show (re64).toInt = ((0 : Int32)).toInt from (by omega : (re64).toInt = (0 : Int)))) (own_eqI (show (v64).toInt = (q1).toInt from (by omega : (v64).toInt = (q1).toInt))) (own_eqI (show (le64).toInt = ((2 : Int32)).toInt from (by omega : (le64).toInt = (2 : Int)))) (own_eqI (show (ta64).toInt = ((2 : Int32)).toInt from (by omega : (ta64).toInt = (2 : Int)))) (by omega) (by omega)) hZ (hw _ (List.mem_of_getElem? (i := 35) rfl)) (hw _ (List.mem_of_getElem? (i := 2) rfl)) (by decide) (by decide)) (g := (mkF m 202 #[iv i0, iv i1, iv i2, iv i3, iv i4, iv b0, iv v3, iv v7, iv v11, iv b4, rv b16, iv v31, iv (2 : Int32), iv v60, iv v64, iv q1, .unset, .unset, .unset, .unset] [(.int b4), (.int (2 : Int32)), (.int (2 : Int32)), (.int q1), (.int v64), (.ref b16)])) rfl (by rw [hml]; rfl) (argsL := [(.ref b16), (.int v64), (.int q1), (.int (2 : Int32)), (.int (2 : Int32)), (.int b4)]) (rest := []) (lenOf pd0_2 rfl) rfl (by show 2 * 0 + _ ≤ _; exact Nat.le_of_eq rfl) (hb hby at_202) (fun _ _ => ⟨rfl, e73, (by decide : 1 + 0 ≤ _), (by decide : 6 + 0 ≤ _)⟩)
          dsimp only [Pt.U, Pt.locs, Pt.cells, Pt.slots] at X82 l82 y82 z82 st82 hQ82
          subst l82 y82 z82
          obtain ⟨rfl, Nq82⟩ := hQ82
          have N82 := Fr.app N74 Nq82
          have e82 : T82.heap = T82.heap := rfl
          obtain ⟨LL83, X83, N83⟩ : ∃ LL, Stand p l e room_1 s m #[(.int i0), (.int i1), (.int i2), (.int i3), (.int i4)] below meth c T82 LL 1 6 ∧ Fr n0 LL := ⟨_, X82, N82⟩
          have pre84 : ∀ t, own_s p e below T82 m 205 #[iv i0, iv i1, iv i2, iv i3, iv i4, iv b0, iv v3, iv v7, iv v11, iv b4, rv b16, iv v31, iv (2 : Int32), iv v60, iv v64, iv q1, .unset, .unset, .unset, .unset] [(.int (1 : Int32))] t → Steps p.tables e below S0 t := fun tX kX => pre81 _ (st82 _ kX)
          subst hS0
          obtain ⟨fs, hr, hrun, hended, hW, hsame⟩ := X83.leave (v := (some (.int (1 : Int32)))) (fun h => by rw [Bd.returns] at h; cases h)
          refine ⟨_, _, pre84 _ (retN X83 hx (t := .boolean) Bd.returns (by simp) (hb hby at_205) hr), hrun, hended, _, _, rfl, ?_, ⟨_, rfl⟩, hW, hsame.mono (by decide) (by decide)⟩
          show Q0 Z i0 i1 i2 i3 i4 h0 n0 (some (.int (1 : Int32))) T82.heap _
          exact ⟨rfl, N83⟩
        · skip
          obtain ⟨LL85, X85, N85⟩ : ∃ LL, Stand p l e room_1 s m #[(.int i0), (.int i1), (.int i2), (.int i3), (.int i4)] below meth c T73 LL 1 6 ∧ Fr n0 LL := ⟨_, X73, N73⟩
          have pre86 : ∀ t, own_s p e below T73 m 168 #[iv i0, iv i1, iv i2, iv i3, iv i4, iv b0, iv v3, iv v7, iv v11, iv b4, rv b16, iv v31, iv (2 : Int32), iv v60, iv v64, iv q1, .unset, .unset, .unset, .unset] [(.int (0 : Int32))] t → Steps p.tables e below S0 t := fun tX kX => pre72 _ (st73 _ kX)
          have pre87 : ∀ t, own_s p e below T73 m 182 #[iv i0, iv i1, iv i2, iv i3, iv i4, iv b0, iv v3, iv v7, iv v11, iv b4, rv b16, iv v31, iv (2 : Int32), iv v60, iv v64, iv q1, .unset, .unset, .unset, .unset] [(.int b4), (.int (2 : Int32)), (.int (2 : Int32)), (.int (-3 : Int32)), (.int v64), (.ref b16)] t → Steps p.tables e below S0 t := by
            intro tX kX
            refine pre86 _ ?_
            show own_s p e below T73 m 168 #[iv i0, iv i1, iv i2, iv i3, iv i4, iv b0, iv v3, iv v7, iv v11, iv b4, rv b16, iv v31, iv (2 : Int32), iv v60, iv v64, iv q1, .unset, .unset, .unset, .unset] [(.int (0 : Int32))] _
            refine XS.ifNo X85.here hx rfl (hb hby at_168) rfl ((if0 _ _).trans (teq (by decide : (0 : Int32) = (0 : Int32))).2) ?_
            show own_s p e below T73 m 171 #[iv i0, iv i1, iv i2, iv i3, iv i4, iv b0, iv v3, iv v7, iv v11, iv b4, rv b16, iv v31, iv (2 : Int32), iv v60, iv v64, iv q1, .unset, .unset, .unset, .unset] [] _
            refine XS.aload X85.here hx rfl (hb hby at_171) rfl rfl ?_
            show own_s p e below T73 m 173 #[iv i0, iv i1, iv i2, iv i3, iv i4, iv b0, iv v3, iv v7, iv v11, iv b4, rv b16, iv v31, iv (2 : Int32), iv v60, iv v64, iv q1, .unset, .unset, .unset, .unset] [(.ref b16)] _
            refine XS.iload X85.here hx rfl (hb hby at_173) rfl ?_
            show own_s p e below T73 m 175 #[iv i0, iv i1, iv i2, iv i3, iv i4, iv b0, iv v3, iv v7, iv v11, iv b4, rv b16, iv v31, iv (2 : Int32), iv v60, iv v64, iv q1, .unset, .unset, .unset, .unset] [(.int v64), (.ref b16)] _
            refine XS.bipush X85.here hx rfl (hb hby at_175) ?_
            show own_s p e below T73 m 177 #[iv i0, iv i1, iv i2, iv i3, iv i4, iv b0, iv v3, iv v7, iv v11, iv b4, rv b16, iv v31, iv (2 : Int32), iv v60, iv v64, iv q1, .unset, .unset, .unset, .unset] [(.int (-3 : Int32)), (.int v64), (.ref b16)] _
            refine XS.iload X85.here hx rfl (hb hby at_177) rfl ?_
            show own_s p e below T73 m 179 #[iv i0, iv i1, iv i2, iv i3, iv i4, iv b0, iv v3, iv v7, iv v11, iv b4, rv b16, iv v31, iv (2 : Int32), iv v60, iv v64, iv q1, .unset, .unset, .unset, .unset] [(.int (2 : Int32)), (.int (-3 : Int32)), (.int v64), (.ref b16)] _
            refine XS.iconst X85.here hx rfl (hb hby at_179) ?_
            show own_s p e below T73 m 180 #[iv i0, iv i1, iv i2, iv i3, iv i4, iv b0, iv v3, iv v7, iv v11, iv b4, rv b16, iv v31, iv (2 : Int32), iv v60, iv v64, iv q1, .unset, .unset, .unset, .unset] [(.int (2 : Int32)), (.int (2 : Int32)), (.int (-3 : Int32)), (.int v64), (.ref b16)] _
            refine XS.iload X85.here hx rfl (hb hby at_180) rfl ?_
            exact kX
          obtain ⟨_, _, ⟨T88, L88, k88, n88⟩, -, X88, ⟨Lc88, hQ88, l88, y88, z88⟩, st88⟩ := Jvm.LawKit.callS X85 hx (y := (⟨"com/example/weaverbird/weaverbird/model/xml/Utf8DecoderTakePinLaw", "ended", "(Lcom/example/weaverbird/weaverbird/model/xml/Utf8Decoder;IIIII)Z"⟩ : MethodName)) hown (mvT hZ (hw _ (List.mem_of_getElem? (i := 33) rfl))) (mvT hZ (hw _ (List.mem_of_getElem? (i := 34) rfl))) (mvT hZ (hw _ (List.mem_of_getElem? (i := 2) rfl))) (mvT hZ (hw _ (List.mem_of_getElem? (i := 35) rfl))) (by decide) (backOf (W := 0) (rm16 l Z a0 hw [] b16 v64 (-3 : Int32) (2 : Int32) (2 : Int32) b4 pa64 le64 ta64 lo64 hi64 re64 T64.heap n0 Z64 fE64 f64_pa f64_le f64_ta f64_lo f64_hi f64_re g_b16 (own_eqI (show (re64).toInt = ((0 : Int32)).toInt from (by omega : (re64).toInt = (0 : Int)))) (own_eqI (show (v64).toInt = ((-3 : Int32)).toInt from (by omega : (v64).toInt = (-3 : Int)))) (own_eqI (show (le64).toInt = ((2 : Int32)).toInt from (by omega : (le64).toInt = (2 : Int)))) (own_eqI (show (ta64).toInt = ((2 : Int32)).toInt from (by omega : (ta64).toInt = (2 : Int)))) (by omega) (by omega)) hZ (hw _ (List.mem_of_getElem? (i := 35) rfl)) (hw _ (List.mem_of_getElem? (i := 2) rfl)) (by decide) (by decide)) (g := (mkF m 182 #[iv i0, iv i1, iv i2, iv i3, iv i4, iv b0, iv v3, iv v7, iv v11, iv b4, rv b16, iv v31, iv (2 : Int32), iv v60, iv v64, iv q1, .unset, .unset, .unset, .unset] [(.int b4), (.int (2 : Int32)), (.int (2 : Int32)), (.int (-3 : Int32)), (.int v64), (.ref b16)])) rfl (by rw [hml]; rfl) (argsL := [(.ref b16), (.int v64), (.int (-3 : Int32)), (.int (2 : Int32)), (.int (2 : Int32)), (.int b4)]) (rest := []) (lenOf pd0_2 rfl) rfl (by show 2 * 0 + _ ≤ _; exact Nat.le_of_eq rfl) (hb hby at_182) (fun _ _ => ⟨rfl, e73, (by decide : 1 + 0 ≤ _), (by decide : 6 + 0 ≤ _)⟩)
          dsimp only [Pt.U, Pt.locs, Pt.cells, Pt.slots] at X88 l88 y88 z88 st88 hQ88
          subst l88 y88 z88
          obtain ⟨rfl, Nq88⟩ := hQ88
          have N88 := Fr.app N85 Nq88
          have e88 : T88.heap = T88.heap := rfl
          obtain ⟨LL89, X89, N89⟩ : ∃ LL, Stand p l e room_1 s m #[(.int i0), (.int i1), (.int i2), (.int i3), (.int i4)] below meth c T88 LL 1 6 ∧ Fr n0 LL := ⟨_, X88, N88⟩
          have pre90 : ∀ t, own_s p e below T88 m 185 #[iv i0, iv i1, iv i2, iv i3, iv i4, iv b0, iv v3, iv v7, iv v11, iv b4, rv b16, iv v31, iv (2 : Int32), iv v60, iv v64, iv q1, .unset, .unset, .unset, .unset] [(.int (1 : Int32))] t → Steps p.tables e below S0 t := fun tX kX => pre87 _ (st88 _ kX)
          subst hS0
          obtain ⟨fs, hr, hrun, hended, hW, hsame⟩ := X89.leave (v := (some (.int (1 : Int32)))) (fun h => by rw [Bd.returns] at h; cases h)
          refine ⟨_, _, pre90 _ (retN X89 hx (t := .boolean) Bd.returns (by simp) (hb hby at_185) hr), hrun, hended, _, _, rfl, ?_, ⟨_, rfl⟩, hW, hsame.mono (by decide) (by decide)⟩
          show Q0 Z i0 i1 i2 i3 i4 h0 n0 (some (.int (1 : Int32))) T88.heap _
          exact ⟨rfl, N89⟩
      · skip
        obtain ⟨LL91, X91, N91⟩ : ∃ LL, Stand p l e room_1 s m #[(.int i0), (.int i1), (.int i2), (.int i3), (.int i4)] below meth c T69 LL 1 6 ∧ Fr n0 LL := ⟨_, X69, N69⟩
        have pre92 : ∀ t, own_s p e below T69 m 157 #[iv i0, iv i1, iv i2, iv i3, iv i4, iv b0, iv v3, iv v7, iv v11, iv b4, rv b16, iv v31, iv (2 : Int32), iv v60, iv v64, iv q1, .unset, .unset, .unset, .unset] [(.int (0 : Int32))] t → Steps p.tables e below S0 t := fun tX kX => pre68 _ (st69 _ kX)
        have pre93 : ∀ t, own_s p e below T69 m 182 #[iv i0, iv i1, iv i2, iv i3, iv i4, iv b0, iv v3, iv v7, iv v11, iv b4, rv b16, iv v31, iv (2 : Int32), iv v60, iv v64, iv q1, .unset, .unset, .unset, .unset] [(.int b4), (.int (2 : Int32)), (.int (2 : Int32)), (.int (-3 : Int32)), (.int v64), (.ref b16)] t → Steps p.tables e below S0 t := by
          intro tX kX
          refine pre92 _ ?_
          show own_s p e below T69 m 157 #[iv i0, iv i1, iv i2, iv i3, iv i4, iv b0, iv v3, iv v7, iv v11, iv b4, rv b16, iv v31, iv (2 : Int32), iv v60, iv v64, iv q1, .unset, .unset, .unset, .unset] [(.int (0 : Int32))] _
          refine XS.ifYes X91.here hx rfl (pc0 := 157) (pc' := 171) rfl (hb hby at_157) rfl ((if0 _ _).trans (teq (by decide : (0 : Int32) = (0 : Int32))).1) (by decide) (by decide) ?_
          show own_s p e below T69 m 171 #[iv i0, iv i1, iv i2, iv i3, iv i4, iv b0, iv v3, iv v7, iv v11, iv b4, rv b16, iv v31, iv (2 : Int32), iv v60, iv v64, iv q1, .unset, .unset, .unset, .unset] [] _
          refine XS.aload X91.here hx rfl (hb hby at_171) rfl rfl ?_
          show own_s p e below T69 m 173 #[iv i0, iv i1, iv i2, iv i3, iv i4, iv b0, iv v3, iv v7, iv v11, iv b4, rv b16, iv v31, iv (2 : Int32), iv v60, iv v64, iv q1, .unset, .unset, .unset, .unset] [(.ref b16)] _
          refine XS.iload X91.here hx rfl (hb hby at_173) rfl ?_
          show own_s p e below T69 m 175 #[iv i0, iv i1, iv i2, iv i3, iv i4, iv b0, iv v3, iv v7, iv v11, iv b4, rv b16, iv v31, iv (2 : Int32), iv v60, iv v64, iv q1, .unset, .unset, .unset, .unset] [(.int v64), (.ref b16)] _
          refine XS.bipush X91.here hx rfl (hb hby at_175) ?_
          show own_s p e below T69 m 177 #[iv i0, iv i1, iv i2, iv i3, iv i4, iv b0, iv v3, iv v7, iv v11, iv b4, rv b16, iv v31, iv (2 : Int32), iv v60, iv v64, iv q1, .unset, .unset, .unset, .unset] [(.int (-3 : Int32)), (.int v64), (.ref b16)] _
          refine XS.iload X91.here hx rfl (hb hby at_177) rfl ?_
          show own_s p e below T69 m 179 #[iv i0, iv i1, iv i2, iv i3, iv i4, iv b0, iv v3, iv v7, iv v11, iv b4, rv b16, iv v31, iv (2 : Int32), iv v60, iv v64, iv q1, .unset, .unset, .unset, .unset] [(.int (2 : Int32)), (.int (-3 : Int32)), (.int v64), (.ref b16)] _
          refine XS.iconst X91.here hx rfl (hb hby at_179) ?_
          show own_s p e below T69 m 180 #[iv i0, iv i1, iv i2, iv i3, iv i4, iv b0, iv v3, iv v7, iv v11, iv b4, rv b16, iv v31, iv (2 : Int32), iv v60, iv v64, iv q1, .unset, .unset, .unset, .unset] [(.int (2 : Int32)), (.int (2 : Int32)), (.int (-3 : Int32)), (.int v64), (.ref b16)] _
          refine XS.iload X91.here hx rfl (hb hby at_180) rfl ?_
          exact kX
        obtain ⟨_, _, ⟨T94, L94, k94, n94⟩, -, X94, ⟨Lc94, hQ94, l94, y94, z94⟩, st94⟩ := Jvm.LawKit.callS X91 hx (y := (⟨"com/example/weaverbird/weaverbird/model/xml/Utf8DecoderTakePinLaw", "ended", "(Lcom/example/weaverbird/weaverbird/model/xml/Utf8Decoder;IIIII)Z"⟩ : MethodName)) hown (mvT hZ (hw _ (List.mem_of_getElem? (i := 33) rfl))) (mvT hZ (hw _ (List.mem_of_getElem? (i := 34) rfl))) (mvT hZ (hw _ (List.mem_of_getElem? (i := 2) rfl))) (mvT hZ (hw _ (List.mem_of_getElem? (i := 35) rfl))) (by decide) (backOf (W := 0) (rm16 l Z a0 hw [] b16 v64 (-3 : Int32) (2 : Int32) (2 : Int32) b4 pa64 le64 ta64 lo64 hi64 re64 T64.heap n0 Z64 fE64 f64_pa f64_le f64_ta f64_lo f64_hi f64_re g_b16 (own_eqI (show (re64).toInt = ((0 : Int32)).toInt from (by omega : (re64).toInt = (0 : Int)))) (own_eqI (show (v64).toInt = ((-3 : Int32)).toInt from (by omega : (v64).toInt = (-3 : Int)))) (own_eqI (show (le64).toInt = ((2 : Int32)).toInt from (by omega : (le64).toInt = (2 : Int)))) (own_eqI (show (ta64).toInt = ((2 : Int32)).toInt from (by omega : (ta64).toInt = (2 : Int)))) (by omega) (by omega)) hZ (hw _ (List.mem_of_getElem? (i := 35) rfl)) (hw _ (List.mem_of_getElem? (i := 2) rfl)) (by decide) (by decide)) (g := (mkF m 182 #[iv i0, iv i1, iv i2, iv i3, iv i4, iv b0, iv v3, iv v7, iv v11, iv b4, rv b16, iv v31, iv (2 : Int32), iv v60, iv v64, iv q1, .unset, .unset, .unset, .unset] [(.int b4), (.int (2 : Int32)), (.int (2 : Int32)), (.int (-3 : Int32)), (.int v64), (.ref b16)])) rfl (by rw [hml]; rfl) (argsL := [(.ref b16), (.int v64), (.int (-3 : Int32)), (.int (2 : Int32)), (.int (2 : Int32)), (.int b4)]) (rest := []) (lenOf pd0_2 rfl) rfl (by show 2 * 0 + _ ≤ _; exact Nat.le_of_eq rfl) (hb hby at_182) (fun _ _ => ⟨rfl, e69, (by decide : 1 + 0 ≤ _), (by decide : 6 + 0 ≤ _)⟩)
        dsimp only [Pt.U, Pt.locs, Pt.cells, Pt.slots] at X94 l94 y94 z94 st94 hQ94
        subst l94 y94 z94
        obtain ⟨rfl, Nq94⟩ := hQ94
        have N94 := Fr.app N91 Nq94
        have e94 : T94.heap = T94.heap := rfl
        obtain ⟨LL95, X95, N95⟩ : ∃ LL, Stand p l e room_1 s m #[(.int i0), (.int i1), (.int i2), (.int i3), (.int i4)] below meth c T94 LL 1 6 ∧ Fr n0 LL := ⟨_, X94, N94⟩
        have pre96 : ∀ t, own_s p e below T94 m 185 #[iv i0, iv i1, iv i2, iv i3, iv i4, iv b0, iv v3, iv v7, iv v11, iv b4, rv b16, iv v31, iv (2 : Int32), iv v60, iv v64, iv q1, .unset, .unset, .unset, .unset] [(.int (1 : Int32))] t → Steps p.tables e below S0 t := fun tX kX => pre93 _ (st94 _ kX)
        subst hS0
        obtain ⟨fs, hr, hrun, hended, hW, hsame⟩ := X95.leave (v := (some (.int (1 : Int32)))) (fun h => by rw [Bd.returns] at h; cases h)
        refine ⟨_, _, pre96 _ (retN X95 hx (t := .boolean) Bd.returns (by simp) (hb hby at_185) hr), hrun, hended, _, _, rfl, ?_, ⟨_, rfl⟩, hW, hsame.mono (by decide) (by decide)⟩
        show Q0 Z i0 i1 i2 i3 i4 h0 n0 (some (.int (1 : Int32))) T94.heap _
        exact ⟨rfl, N95⟩
    · skip
      obtain ⟨LL97, X97, N97⟩ : ∃ LL, Stand p l e room_1 s m #[(.int i0), (.int i1), (.int i2), (.int i3), (.int i4)] below meth c T49 LL 1 6 ∧ Fr n0 LL := ⟨_, X49, N49⟩
      have pre98 : ∀ t, own_s p e below T49 m 96 #[iv i0, iv i1, iv i2, iv i3, iv i4, iv b0, iv v3, iv v7, iv v11, iv b4, rv b16, iv v31, iv (2 : Int32), .unset, .unset, .unset, .unset, .unset, .unset, .unset] [(.int (0 : Int32))] t → Steps p.tables e below S0 t := fun tX kX => pre48 _ (st49 _ kX)
      have pre99 : ∀ t, own_s p e below T49 m 109 #[iv i0, iv i1, iv i2, iv i3, iv i4, iv b0, iv v3, iv v7, iv v11, iv b4, rv b16, iv v31, iv (2 : Int32), .unset, .unset, .unset, .unset, .unset, .unset, .unset] [(.int b4), (.int (1 : Int32)), (.int (1 : Int32)), (.int (-3 : Int32)), (.int v31), (.ref b16)] t → Steps p.tables e below S0 t := by
        intro tX kX
        refine pre98 _ ?_
        show own_s p e below T49 m 96 #[iv i0, iv i1, iv i2, iv i3, iv i4, iv b0, iv v3, iv v7, iv v11, iv b4, rv b16, iv v31, iv (2 : Int32), .unset, .unset, .unset, .unset, .unset, .unset, .unset] [(.int (0 : Int32))] _
        refine XS.ifNo X97.here hx rfl (hb hby at_96) rfl ((if0 _ _).trans (teq (by decide : (0 : Int32) = (0 : Int32))).2) ?_
        show own_s p e below T49 m 99 #[iv i0, iv i1, iv i2, iv i3, iv i4, iv b0, iv v3, iv v7, iv v11, iv b4, rv b16, iv v31, iv (2 : Int32), .unset, .unset, .unset, .unset, .unset, .unset, .unset] [] _
        refine XS.aload X97.here hx rfl (hb hby at_99) rfl rfl ?_
        show own_s p e below T49 m 101 #[iv i0, iv i1, iv i2, iv i3, iv i4, iv b0, iv v3, iv v7, iv v11, iv b4, rv b16, iv v31, iv (2 : Int32), .unset, .unset, .unset, .unset, .unset, .unset, .unset] [(.ref b16)] _
        refine XS.iload X97.here hx rfl (hb hby at_101) rfl ?_
        show own_s p e below T49 m 103 #[iv i0, iv i1, iv i2, iv i3, iv i4, iv b0, iv v3, iv v7, iv v11, iv b4, rv b16, iv v31, iv (2 : Int32), .unset, .unset, .unset, .unset, .unset, .unset, .unset] [(.int v31), (.ref b16)] _
        refine XS.bipush X97.here hx rfl (hb hby at_103) ?_
        show own_s p e below T49 m 105 #[iv i0, iv i1, iv i2, iv i3, iv i4, iv b0, iv v3, iv v7, iv v11, iv b4, rv b16, iv v31, iv (2 : Int32), .unset, .unset, .unset, .unset, .unset, .unset, .unset] [(.int (-3 : Int32)), (.int v31), (.ref b16)] _
        refine XS.iconst X97.here hx rfl (hb hby at_105) ?_
        show own_s p e below T49 m 106 #[iv i0, iv i1, iv i2, iv i3, iv i4, iv b0, iv v3, iv v7, iv v11, iv b4, rv b16, iv v31, iv (2 : Int32), .unset, .unset, .unset, .unset, .unset, .unset, .unset] [(.int (1 : Int32)), (.int (-3 : Int32)), (.int v31), (.ref b16)] _
        refine XS.iconst X97.here hx rfl (hb hby at_106) ?_
        show own_s p e below T49 m 107 #[iv i0, iv i1, iv i2, iv i3, iv i4, iv b0, iv v3, iv v7, iv v11, iv b4, rv b16, iv v31, iv (2 : Int32), .unset, .unset, .unset, .unset, .unset, .unset, .unset] [(.int (1 : Int32)), (.int (1 : Int32)), (.int (-3 : Int32)), (.int v31), (.ref b16)] _
        refine XS.iload X97.here hx rfl (hb hby at_107) rfl ?_
        exact kX
      obtain ⟨_, _, ⟨T100, L100, k100, n100⟩, -, X100, ⟨Lc100, hQ100, l100, y100, z100⟩, st100⟩ := Jvm.LawKit.callS X97 hx (y := (⟨"com/example/weaverbird/weaverbird/model/xml/Utf8DecoderTakePinLaw", "ended", "(Lcom/example/weaverbird/weaverbird/model/xml/Utf8Decoder;IIIII)Z"⟩ : MethodName)) hown (mvT hZ (hw _ (List.mem_of_getElem? (i := 33) rfl))) (mvT hZ (hw _ (List.mem_of_getElem? (i := 34) rfl))) (mvT hZ (hw _ (List.mem_of_getElem? (i := 2) rfl))) (mvT hZ (hw _ (List.mem_of_getElem? (i := 35) rfl))) (by decide) (backOf (W := 0) (rm16 l Z a0 hw [] b16 v31 (-3 : Int32) (1 : Int32) (1 : Int32) b4 pa31 le31 ta31 lo31 hi31 re31 T31.heap n0 Z31 fE31 f31_pa f31_le f31_ta f31_lo f31_hi f31_re g_b16 (own_eqI (show (re31).toInt = ((0 : Int32)).toInt from (by omega : (re31).toInt = (0 : Int)))) (own_eqI (show (v31).toInt = ((-3 : Int32)).toInt from (by omega : (v31).toInt = (-3 : Int)))) (own_eqI (show (le31).toInt = ((1 : Int32)).toInt from (by omega : (le31).toInt = (1 : Int)))) (own_eqI (show (ta31).toInt = ((1 : Int32)).toInt from (by omega : (ta31).toInt = (1 : Int)))) (by omega) (by omega)) hZ (hw _ (List.mem_of_getElem? (i := 35) rfl)) (hw _ (List.mem_of_getElem? (i := 2) rfl)) (by decide) (by decide)) (g := (mkF m 109 #[iv i0, iv i1, iv i2, iv i3, iv i4, iv b0, iv v3, iv v7, iv v11, iv b4, rv b16, iv v31, iv (2 : Int32), .unset, .unset, .unset, .unset, .unset, .unset, .unset] [(.int b4), (.int (1 : Int32)), (.int (1 : Int32)), (.int (-3 : Int32)), (.int v31), (.ref b16)])) rfl (by rw [hml]; rfl) (argsL := [(.ref b16), (.int v31), (.int (-3 : Int32)), (.int (1 : Int32)), (.int (1 : Int32)), (.int b4)]) (rest := []) (lenOf pd0_2 rfl) rfl (by show 2 * 0 + _ ≤ _; exact Nat.le_of_eq rfl) (hb hby at_109) (fun _ _ => ⟨rfl, e49, (by decide : 1 + 0 ≤ _), (by decide : 6 + 0 ≤ _)⟩)
      dsimp only [Pt.U, Pt.locs, Pt.cells, Pt.slots] at X100 l100 y100 z100 st100 hQ100
      subst l100 y100 z100
      obtain ⟨rfl, Nq100⟩ := hQ100
      have N100 := Fr.app N97 Nq100
      have e100 : T100.heap = T100.heap := rfl
      obtain ⟨LL101, X101, N101⟩ : ∃ LL, Stand p l e room_1 s m #[(.int i0), (.int i1), (.int i2), (.int i3), (.int i4)] below meth c T100 LL 1 6 ∧ Fr n0 LL := ⟨_, X100, N100⟩
      have pre102 : ∀ t, own_s p e below T100 m 112 #[iv i0, iv i1, iv i2, iv i3, iv i4, iv b0, iv v3, iv v7, iv v11, iv b4, rv b16, iv v31, iv (2 : Int32), .unset, .unset, .unset, .unset, .unset, .unset, .unset] [(.int (1 : Int32))] t → Steps p.tables e below S0 t := fun tX kX => pre99 _ (st100 _ kX)
      subst hS0
      obtain ⟨fs, hr, hrun, hended, hW, hsame⟩ := X101.leave (v := (some (.int (1 : Int32)))) (fun h => by rw [Bd.returns] at h; cases h)
      refine ⟨_, _, pre102 _ (retN X101 hx (t := .boolean) Bd.returns (by simp) (hb hby at_112) hr), hrun, hended, _, _, rfl, ?_, ⟨_, rfl⟩, hW, hsame.mono (by decide) (by decide)⟩
      show Q0 Z i0 i1 i2 i3 i4 h0 n0 (some (.int (1 : Int32))) T100.heap _
      exact ⟨rfl, N101⟩
  · skip
    obtain ⟨LL103, X103, N103⟩ : ∃ LL, Stand p l e room_1 s m #[(.int i0), (.int i1), (.int i2), (.int i3), (.int i4)] below meth c T35 LL 1 6 ∧ Fr n0 LL := ⟨_, X35, N35⟩
    have pre104 : ∀ t, own_s p e below T35 m 56 #[iv i0, iv i1, iv i2, iv i3, iv i4, iv b0, iv v3, iv v7, iv v11, iv b4, rv b16, iv v31, .unset, .unset, .unset, .unset, .unset, .unset, .unset, .unset] [(.int (3 : Int32))] t → Steps p.tables e below S0 t := fun tX kX => pre34 _ (st35 _ kX)
    have pre105 : ∀ t, own_s p e below T35 m 87 #[iv i0, iv i1, iv i2, iv i3, iv i4, iv b0, iv v3, iv v7, iv v11, iv b4, rv b16, iv v31, iv (3 : Int32), .unset, .unset, .unset, .unset, .unset, .unset, .unset] [(.int (3 : Int32)), (.int b0)] t → Steps p.tables e below S0 t := by
      intro tX kX
      refine pre104 _ ?_
      show own_s p e below T35 m 56 #[iv i0, iv i1, iv i2, iv i3, iv i4, iv b0, iv v3, iv v7, iv v11, iv b4, rv b16, iv v31, .unset, .unset, .unset, .unset, .unset, .unset, .unset, .unset] [(.int (3 : Int32))] _
      refine XS.istore X103.here hx rfl (hb hby at_56) rfl (l' := #[iv i0, iv i1, iv i2, iv i3, iv i4, iv b0, iv v3, iv v7, iv v11, iv b4, rv b16, iv v31, iv (3 : Int32), .unset, .unset, .unset, .unset, .unset, .unset, .unset]) rfl ?_
      show own_s p e below T35 m 58 #[iv i0, iv i1, iv i2, iv i3, iv i4, iv b0, iv v3, iv v7, iv v11, iv b4, rv b16, iv v31, iv (3 : Int32), .unset, .unset, .unset, .unset, .unset, .unset, .unset] [] _
      refine XS.iload X103.here hx rfl (hb hby at_58) rfl ?_
      show own_s p e below T35 m 60 #[iv i0, iv i1, iv i2, iv i3, iv i4, iv b0, iv v3, iv v7, iv v11, iv b4, rv b16, iv v31, iv (3 : Int32), .unset, .unset, .unset, .unset, .unset, .unset, .unset] [(.int (3 : Int32))] _
      refine XS.iconst X103.here hx rfl (hb hby at_60) ?_
      show own_s p e below T35 m 61 #[iv i0, iv i1, iv i2, iv i3, iv i4, iv b0, iv v3, iv v7, iv v11, iv b4, rv b16, iv v31, iv (3 : Int32), .unset, .unset, .unset, .unset, .unset, .unset, .unset] [(.int (1 : Int32)), (.int (3 : Int32))] _
      refine XS.icmpYes X103.here hx rfl (pc0 := 61) (pc' := 78) rfl (hb hby at_61) rfl (feq (by decide : ¬ ((3 : Int32) = (1 : Int32)))).2 (by decide) (by decide) ?_
      show own_s p e below T35 m 78 #[iv i0, iv i1, iv i2, iv i3, iv i4, iv b0, iv v3, iv v7, iv v11, iv b4, rv b16, iv v31, iv (3 : Int32), .unset, .unset, .unset, .unset, .unset, .unset, .unset] [] _
      refine XS.iload X103.here hx rfl (hb hby at_78) rfl ?_
      show own_s p e below T35 m 80 #[iv i0, iv i1, iv i2, iv i3, iv i4, iv b0, iv v3, iv v7, iv v11, iv b4, rv b16, iv v31, iv (3 : Int32), .unset, .unset, .unset, .unset, .unset, .unset, .unset] [(.int (3 : Int32))] _
      refine XS.ifNo X103.here hx rfl (hb hby at_80) rfl ((if0 _ _).trans (feq (by decide : ¬ ((3 : Int32) = (0 : Int32)))).1) ?_
      show own_s p e below T35 m 83 #[iv i0, iv i1, iv i2, iv i3, iv i4, iv b0, iv v3, iv v7, iv v11, iv b4, rv b16, iv v31, iv (3 : Int32), .unset, .unset, .unset, .unset, .unset, .unset, .unset] [] _
      refine XS.iload X103.here hx rfl (hb hby at_83) rfl ?_
      show own_s p e below T35 m 85 #[iv i0, iv i1, iv i2, iv i3, iv i4, iv b0, iv v3, iv v7, iv v11, iv b4, rv b16, iv v31, iv (3 : Int32), .unset, .unset, .unset, .unset, .unset, .unset, .unset] [(.int b0)] _
      refine XS.iload X103.here hx rfl (hb hby at_85) rfl ?_
      exact kX
    obtain ⟨_, _, ⟨T106, L106, k106, n106⟩, -, X106, ⟨Lc106, hQ106, l106, y106, z106⟩, st106⟩ := Jvm.LawKit.callS X103 hx (y := (⟨"com/example/weaverbird/weaverbird/model/xml/Utf8DecoderTakePinLaw", "leadBits", "(II)I"⟩ : MethodName)) hown (mvT hZ (hw _ (List.mem_of_getElem? (i := 49) rfl))) (mvT hZ (hw _ (List.mem_of_getElem? (i := 50) rfl))) (mvT hZ (hw _ (List.mem_of_getElem? (i := 2) rfl))) (mvT hZ (hw _ (List.mem_of_getElem? (i := 51) rfl))) (by decide) (backOf (W := 0) (rm9 l Z a0 hw [] b0  T31.heap n0 Z31 ) hZ (hw _ (List.mem_of_getElem? (i := 51) rfl)) (hw _ (List.mem_of_getElem? (i := 2) rfl)) (by decide) (by decide)) (g := (mkF m 87 #[iv i0, iv i1, iv i2, iv i3, iv i4, iv b0, iv v3, iv v7, iv v11, iv b4, rv b16, iv v31, iv (3 : Int32), .unset, .unset, .unset, .unset, .unset, .unset, .unset] [(.int (3 : Int32)), (.int b0)])) rfl (by rw [hml]; rfl) (argsL := [(.int b0), (.int (3 : Int32))]) (rest := []) (lenOf pd0_3 rfl) rfl (by show 2 * 0 + _ ≤ _; exact Nat.le_of_eq rfl) (hb hby at_87) (fun _ _ => ⟨rfl, e35, (by decide : 1 + 0 ≤ _), (by decide : 6 + 0 ≤ _)⟩)
    dsimp only [Pt.U, Pt.locs, Pt.cells, Pt.slots] at X106 l106 y106 z106 st106 hQ106
    subst l106 y106 z106
    obtain ⟨⟨v106, rfl, B106⟩, Nq106, e106⟩ := hQ106
    have N106 := Fr.app N103 Nq106
    obtain ⟨LL107, X107, N107⟩ : ∃ LL, Stand p l e room_1 s m #[(.int i0), (.int i1), (.int i2), (.int i3), (.int i4)] below meth c T106 LL 1 6 ∧ Fr n0 LL := ⟨_, X106, N106⟩
    have pre108 : ∀ t, own_s p e below T106 m 90 #[iv i0, iv i1, iv i2, iv i3, iv i4, iv b0, iv v3, iv v7, iv v11, iv b4, rv b16, iv v31, iv (3 : Int32), .unset, .unset, .unset, .unset, .unset, .unset, .unset] [(.int v106)] t → Steps p.tables e below S0 t := fun tX kX => pre105 _ (st106 _ kX)
    have pre109 : ∀ t, own_s p e below T106 m 93 #[iv i0, iv i1, iv i2, iv i3, iv i4, iv b0, iv v3, iv v7, iv v11, iv b4, rv b16, iv v31, iv (3 : Int32), .unset, .unset, .unset, .unset, .unset, .unset, .unset] [(.int (1 : Int32)), (.int (3 : Int32)), (.int v106)] t → Steps p.tables e below S0 t := by
      intro tX kX
      refine pre108 _ ?_
      show own_s p e below T106 m 90 #[iv i0, iv i1, iv i2, iv i3, iv i4, iv b0, iv v3, iv v7, iv v11, iv b4, rv b16, iv v31, iv (3 : Int32), .unset, .unset, .unset, .unset, .unset, .unset, .unset] [(.int v106)] _
      refine XS.iload X107.here hx rfl (hb hby at_90) rfl ?_
      show own_s p e below T106 m 92 #[iv i0, iv i1, iv i2, iv i3, iv i4, iv b0, iv v3, iv v7, iv v11, iv b4, rv b16, iv v31, iv (3 : Int32), .unset, .unset, .unset, .unset, .unset, .unset, .unset] [(.int (3 : Int32)), (.int v106)] _
      refine XS.iconst X107.here hx rfl (hb hby at_92) ?_
      exact kX
    obtain ⟨_, _, ⟨T110, L110, k110, n110⟩, -, X110, ⟨Lc110, hQ110, l110, y110, z110⟩, st110⟩ := Jvm.LawKit.callS X107 hx (y := (⟨"com/example/weaverbird/weaverbird/model/xml/Utf8DecoderTakePinLaw", "feasible", "(III)Z"⟩ : MethodName)) hown (mvT hZ (hw _ (List.mem_of_getElem? (i := 52) rfl))) (mvT hZ (hw _ (List.mem_of_getElem? (i := 53) rfl))) (mvT hZ (hw _ (List.mem_of_getElem? (i := 2) rfl))) (mvT hZ (hw _ (List.mem_of_getElem? (i := 54) rfl))) (by decide) (backOf (W := 0) (rm21 l Z a0 hw [] v106  T31.heap n0 Z31 (by omega) (by omega)) hZ (hw _ (List.mem_of_getElem? (i := 54) rfl)) (hw _ (List.mem_of_getElem? (i := 2) rfl)) (by decide) (by decide)) (g := (mkF m 93 #[iv i0, iv i1, iv i2, iv i3, iv i4, iv b0, iv v3, iv v7, iv v11, iv b4, rv b16, iv v31, iv (3 : Int32), .unset, .unset, .unset, .unset, .unset, .unset, .unset] [(.int (1 : Int32)), (.int (3 : Int32)), (.int v106)])) rfl (by rw [hml]; rfl) (argsL := [(.int v106), (.int (3 : Int32)), (.int (1 : Int32))]) (rest := []) (lenOf pd0_4 rfl) rfl (by show 2 * 0 + _ ≤ _; exact Nat.le_of_eq rfl) (hb hby at_93) (fun _ _ => ⟨rfl, e106, (by decide : 1 + 0 ≤ _), (by decide : 6 + 0 ≤ _)⟩)
    dsimp only [Pt.U, Pt.locs, Pt.cells, Pt.slots] at X110 l110 y110 z110 st110 hQ110
    subst l110 y110 z110
    obtain ⟨D110, Nq110, e110⟩ := hQ110
    have N110 := Fr.app N107 Nq110
    rcases D110 with ⟨rfl, B110⟩ | ⟨rfl, B110⟩
    · skip
      obtain ⟨LL111, X111, N111⟩ : ∃ LL, Stand p l e room_1 s m #[(.int i0), (.int i1), (.int i2), (.int i3), (.int i4)] below meth c T110 LL 1 6 ∧ Fr n0 LL := ⟨_, X110, N110⟩
      have pre112 : ∀ t, own_s p e below T110 m 96 #[iv i0, iv i1, iv i2, iv i3, iv i4, iv b0, iv v3, iv v7, iv v11, iv b4, rv b16, iv v31, iv (3 : Int32), .unset, .unset, .unset, .unset, .unset, .unset, .unset] [(.int (1 : Int32))] t → Steps p.tables e below S0 t := fun tX kX => pre109 _ (st110 _ kX)
      have y113 : v31.toInt = -1 := by omega
      have y114 : le31.toInt = 3 := by omega
      have y115 : ta31.toInt = 1 := by omega
      have y116 : re31.toInt = 1 := by omega
      have y117 : pa31.toInt = b0.toInt - 224 := by omega
      have y118 : (b0.toInt = 224 ∧ lo31.toInt = 160) ∨ (b0.toInt ≠ 224 ∧ lo31.toInt = 128) := by omega
      have y119 : (b0.toInt = 237 ∧ hi31.toInt = 159) ∨ (b0.toInt ≠ 237 ∧ hi31.toInt = 191) := by omega
      clear R31
      have pre120 : ∀ t, own_s p e below T110 m 125 #[iv i0, iv i1, iv i2, iv i3, iv i4, iv b0, iv v3, iv v7, iv v11, iv b4, rv b16, iv v31, iv (3 : Int32), .unset, .unset, .unset, .unset, .unset, .unset, .unset] [(.int (3 : Int32)), (.int b0)] t → Steps p.tables e below S0 t := by
        intro tX kX
        refine pre112 _ ?_
        show own_s p e below T110 m 96 #[iv i0, iv i1, iv i2, iv i3, iv i4, iv b0, iv v3, iv v7, iv v11, iv b4, rv b16, iv v31, iv (3 : Int32), .unset, .unset, .unset, .unset, .unset, .unset, .unset] [(.int (1 : Int32))] _
        refine XS.ifYes X111.here hx rfl (pc0 := 96) (pc' := 113) rfl (hb hby at_96) rfl ((if0 _ _).trans (feq (by decide : ¬ ((1 : Int32) = (0 : Int32)))).2) (by decide) (by decide) ?_
        show own_s p e below T110 m 113 #[iv i0, iv i1, iv i2, iv i3, iv i4, iv b0, iv v3, iv v7, iv v11, iv b4, rv b16, iv v31, iv (3 : Int32), .unset, .unset, .unset, .unset, .unset, .unset, .unset] [] _
        refine XS.iload X111.here hx rfl (hb hby at_113) rfl ?_
        show own_s p e below T110 m 115 #[iv i0, iv i1, iv i2, iv i3, iv i4, iv b0, iv v3, iv v7, iv v11, iv b4, rv b16, iv v31, iv (3 : Int32), .unset, .unset, .unset, .unset, .unset, .unset, .unset] [(.int v31)] _
        refine XS.iconst X111.here hx rfl (hb hby at_115) ?_
        show own_s p e below T110 m 116 #[iv i0, iv i1, iv i2, iv i3, iv i4, iv b0, iv v3, iv v7, iv v11, iv b4, rv b16, iv v31, iv (3 : Int32), .unset, .unset, .unset, .unset, .unset, .unset, .unset] [(.int (-1 : Int32)), (.int v31)] _
        refine XS.icmpYes X111.here hx rfl (pc0 := 116) (pc' := 121) rfl (hb hby at_116) rfl (teq (own_eqI (show (v31).toInt = ((-1 : Int32)).toInt from (by omega : (v31).toInt = (-1 : Int))))).1 (by decide) (by decide) ?_
        show own_s p e below T110 m 121 #[iv i0, iv i1, iv i2, iv i3, iv i4, iv b0, iv v3, iv v7, iv v11, iv b4, rv b16, iv v31, iv (3 : Int32), .unset, .unset, .unset, .unset, .unset, .unset, .unset] [] _
        refine XS.iload X111.here hx rfl (hb hby at_121) rfl ?_
        show own_s p e below T110 m 123 #[iv i0, iv i1, iv i2, iv i3, iv i4, iv b0, iv v3, iv v7, iv v11, iv b4, rv b16, iv v31, iv (3 : Int32), .unset, .unset, .unset, .unset, .unset, .unset, .unset] [(.int b0)] _
        refine XS.iload X111.here hx rfl (hb hby at_123) rfl ?_
        exact kX
      obtain ⟨_, _, ⟨T121, L121, k121, n121⟩, -, X121, ⟨Lc121, hQ121, l121, y121, z121⟩, st121⟩ := Jvm.LawKit.callS X111 hx (y := (⟨"com/example/weaverbird/weaverbird/model/xml/Utf8DecoderTakePinLaw", "leadBits", "(II)I"⟩ : MethodName)) hown (mvT hZ (hw _ (List.mem_of_getElem? (i := 49) rfl))) (mvT hZ (hw _ (List.mem_of_getElem? (i := 50) rfl))) (mvT hZ (hw _ (List.mem_of_getElem? (i := 2) rfl))) (mvT hZ (hw _ (List.mem_of_getElem? (i := 51) rfl))) (by decide) (backOf (W := 0) (rm9 l Z a0 hw [] b0  T31.heap n0 Z31 ) hZ (hw _ (List.mem_of_getElem? (i := 51) rfl)) (hw _ (List.mem_of_getElem? (i := 2) rfl)) (by decide) (by decide)) (g := (mkF m 125 #[iv i0, iv i1, iv i2, iv i3, iv i4, iv b0, iv v3, iv v7, iv v11, iv b4, rv b16, iv v31, iv (3 : Int32), .unset, .unset, .unset, .unset, .unset, .unset, .unset] [(.int (3 : Int32)), (.int b0)])) rfl (by rw [hml]; rfl) (argsL := [(.int b0), (.int (3 : Int32))]) (rest := []) (lenOf pd0_3 rfl) rfl (by show 2 * 0 + _ ≤ _; exact Nat.le_of_eq rfl) (hb hby at_125) (fun _ _ => ⟨rfl, e110, (by decide : 1 + 0 ≤ _), (by decide : 6 + 0 ≤ _)⟩)
      dsimp only [Pt.U, Pt.locs, Pt.cells, Pt.slots] at X121 l121 y121 z121 st121 hQ121
      subst l121 y121 z121
      obtain ⟨⟨v121, rfl, B121⟩, Nq121, e121⟩ := hQ121
      have N121 := Fr.app N111 Nq121
      obtain ⟨LL122, X122, N122⟩ : ∃ LL, Stand p l e room_1 s m #[(.int i0), (.int i1), (.int i2), (.int i3), (.int i4)] below meth c T121 LL 1 6 ∧ Fr n0 LL := ⟨_, X121, N121⟩
      have pre123 : ∀ t, own_s p e below T121 m 128 #[iv i0, iv i1, iv i2, iv i3, iv i4, iv b0, iv v3, iv v7, iv v11, iv b4, rv b16, iv v31, iv (3 : Int32), .unset, .unset, .unset, .unset, .unset, .unset, .unset] [(.int v121)] t → Steps p.tables e below S0 t := fun tX kX => pre120 _ (st121 _ kX)
      have pre124 : ∀ t, own_s p e below T121 m 134 #[iv i0, iv i1, iv i2, iv i3, iv i4, iv b0, iv v3, iv v7, iv v11, iv b4, rv b16, iv v31, iv (3 : Int32), iv v121, .unset, .unset, .unset, .unset, .unset, .unset] [(.int v3), (.ref b16)] t → Steps p.tables e below S0 t := by
        intro tX kX
        refine pre123 _ ?_
        show own_s p e below T121 m 128 #[iv i0, iv i1, iv i2, iv i3, iv i4, iv b0, iv v3, iv v7, iv v11, iv b4, rv b16, iv v31, iv (3 : Int32), .unset, .unset, .unset, .unset, .unset, .unset, .unset] [(.int v121)] _
        refine XS.istore X122.here hx rfl (hb hby at_128) rfl (l' := #[iv i0, iv i1, iv i2, iv i3, iv i4, iv b0, iv v3, iv v7, iv v11, iv b4, rv b16, iv v31, iv (3 : Int32), iv v121, .unset, .unset, .unset, .unset, .unset, .unset]) rfl ?_
        show own_s p e below T121 m 130 #[iv i0, iv i1, iv i2, iv i3, iv i4, iv b0, iv v3, iv v7, iv v11, iv b4, rv b16, iv v31, iv (3 : Int32), iv v121, .unset, .unset, .unset, .unset, .unset, .unset] [] _
        refine XS.aload X122.here hx rfl (hb hby at_130) rfl rfl ?_
        show own_s p e below T121 m 132 #[iv i0, iv i1, iv i2, iv i3, iv i4, iv b0, iv v3, iv v7, iv v11, iv b4, rv b16, iv v31, iv (3 : Int32), iv v121, .unset, .unset, .unset, .unset, .unset, .unset] [(.ref b16)] _
        refine XS.iload X122.here hx rfl (hb hby at_132) rfl ?_
        exact kX
      obtain ⟨cq125, kq125, q125a, q125b, q125c⟩ := isOf hZ e121 fE31
      obtain ⟨_, _, ⟨T125, L125, k125, n125⟩, -, X125, ⟨Lc125, hQ125, l125, y125, z125⟩, st125⟩ := X122.virtualBack hx (y := (⟨"com/example/weaverbird/weaverbird/model/xml/Utf8Decoder", "take", "(I)I"⟩ : MethodName)) (z := (⟨"com/example/weaverbird/weaverbird/model/xml/Utf8Decoder", "take", "(I)I"⟩ : MethodName)) hown (mvT hZ (hw _ (List.mem_of_getElem? (i := 13) rfl))) (mvT hZ (hw _ (List.mem_of_getElem? (i := 14) rfl))) (notFace_of_selects (args := #[]) (mvT hZ (hw _ (List.mem_of_getElem? (i := 16) rfl)))) (mvT hZ (hw _ (List.mem_of_getElem? (i := 16) rfl))) (mvT hZ (hw _ (List.mem_of_getElem? (i := 15) rfl))) (by decide) (backOf (W := 0) (rm3 l Z a0 hw [] b16 v3 pa31 le31 ta31 lo31 hi31 re31 T31.heap n0 Z31 fE31 f31_pa f31_le f31_ta f31_lo f31_hi f31_re g_b16 (own_eqI (show (re31).toInt = (1 : Int32).toInt from (by omega : (re31).toInt = 1))) (by omega) (by omega) (by omega) (by omega) (by omega) (by omega)) hZ (hw _ (List.mem_of_getElem? (i := 17) rfl)) (hw _ (List.mem_of_getElem? (i := 6) rfl)) (by decide) (by decide)) q125a q125c (g := (mkF m 134 #[iv i0, iv i1, iv i2, iv i3, iv i4, iv b0, iv v3, iv v7, iv v11, iv b4, rv b16, iv v31, iv (3 : Int32), iv v121, .unset, .unset, .unset, .unset, .unset, .unset] [(.int v3), (.ref b16)])) rfl (by rw [hml]; rfl) (Steps.refl _) (argsL := [(.int v3)]) (rest := []) (lenOf pd0_0 rfl) rfl (by show 2 * 0 + _ ≤ _; exact Nat.le_of_eq rfl) (hb hby at_134) (fun _ _ => ⟨rfl, e121, (by decide : 1 + 0 ≤ _), (by decide : 6 + 0 ≤ _)⟩)
      dsimp only [Pt.U, Pt.locs, Pt.cells, Pt.slots] at X125 l125 y125 z125 st125 hQ125
      subst l125 y125 z125
      obtain ⟨v125, pa125, le125, ta125, lo125, hi125, re125, rfl, Nq125, Kq125, fE125, f125_pa, f125_le, f125_ta, f125_lo, f125_hi, f125_re, hL125, R125⟩ := hQ125
      have hLi125 := congrArg Int32.toInt hL125
      unfold own_T1 at R125
      have N125 := Fr.app N122 Nq125
      have e125 : T125.heap = T125.heap := rfl
      have Z125 : n0 ≤ T125.heap.size := Nat.le_trans Z31 Kq125.1
      obtain ⟨LL126, X126, N126⟩ : ∃ LL, Stand p l e room_1 s m #[(.int i0), (.int i1), (.int i2), (.int i3), (.int i4)] below meth c T125 LL 1 6 ∧ Fr n0 LL := ⟨_, X125, N125⟩
      have pre127 : ∀ t, own_s p e below T125 m 137 #[iv i0, iv i1, iv i2, iv i3, iv i4, iv b0, iv v3, iv v7, iv v11, iv b4, rv b16, iv v31, iv (3 : Int32), iv v121, .unset, .unset, .unset, .unset, .unset, .unset] [(.int v125)] t → Steps p.tables e below S0 t := fun tX kX => pre124 _ (st125.trans kX)
      have pre128 : ∀ t, own_s p e below T125 m 150 #[iv i0, iv i1, iv i2, iv i3, iv i4, iv b0, iv v3, iv v7, iv v11, iv b4, rv b16, iv v31, iv (3 : Int32), iv v121, iv v125, .unset, .unset, .unset, .unset, .unset] [(.int ((v121 <<< ((6 : Int32) &&& 31)) ||| (v3 &&& (63 : Int32))))] t → Steps p.tables e below S0 t := by
        intro tX kX
        refine pre127 _ ?_
        show own_s p e below T125 m 137 #[iv i0, iv i1, iv i2, iv i3, iv i4, iv b0, iv v3, iv v7, iv v11, iv b4, rv b16, iv v31, iv (3 : Int32), iv v121, .unset, .unset, .unset, .unset, .unset, .unset] [(.int v125)] _
        refine XS.istore X126.here hx rfl (hb hby at_137) rfl (l' := #[iv i0, iv i1, iv i2, iv i3, iv i4, iv b0, iv v3, iv v7, iv v11, iv b4, rv b16, iv v31, iv (3 : Int32), iv v121, iv v125, .unset, .unset, .unset, .unset, .unset]) rfl ?_
        show own_s p e below T125 m 139 #[iv i0, iv i1, iv i2, iv i3, iv i4, iv b0, iv v3, iv v7, iv v11, iv b4, rv b16, iv v31, iv (3 : Int32), iv v121, iv v125, .unset, .unset, .unset, .unset, .unset] [] _
        refine XS.iload X126.here hx rfl (hb hby at_139) rfl ?_
        show own_s p e below T125 m 141 #[iv i0, iv i1, iv i2, iv i3, iv i4, iv b0, iv v3, iv v7, iv v11, iv b4, rv b16, iv v31, iv (3 : Int32), iv v121, iv v125, .unset, .unset, .unset, .unset, .unset] [(.int v121)] _
        refine XS.bipush X126.here hx rfl (hb hby at_141) ?_
        show own_s p e below T125 m 143 #[iv i0, iv i1, iv i2, iv i3, iv i4, iv b0, iv v3, iv v7, iv v11, iv b4, rv b16, iv v31, iv (3 : Int32), iv v121, iv v125, .unset, .unset, .unset, .unset, .unset] [(.int (6 : Int32)), (.int v121)] _
        refine XS.ishl X126.here hx rfl (hb hby at_143) rfl ?_
        show own_s p e below T125 m 144 #[iv i0, iv i1, iv i2, iv i3, iv i4, iv b0, iv v3, iv v7, iv v11, iv b4, rv b16, iv v31, iv (3 : Int32), iv v121, iv v125, .unset, .unset, .unset, .unset, .unset] [(.int (v121 <<< ((6 : Int32) &&& 31)))] _
        refine XS.iload X126.here hx rfl (hb hby at_144) rfl ?_
        show own_s p e below T125 m 146 #[iv i0, iv i1, iv i2, iv i3, iv i4, iv b0, iv v3, iv v7, iv v11, iv b4, rv b16, iv v31, iv (3 : Int32), iv v121, iv v125, .unset, .unset, .unset, .unset, .unset] [(.int v3), (.int (v121 <<< ((6 : Int32) &&& 31)))] _
        refine XS.bipush X126.here hx rfl (hb hby at_146) ?_
        show own_s p e below T125 m 148 #[iv i0, iv i1, iv i2, iv i3, iv i4, iv b0, iv v3, iv v7, iv v11, iv b4, rv b16, iv v31, iv (3 : Int32), iv v121, iv v125, .unset, .unset, .unset, .unset, .unset] [(.int (63 : Int32)), (.int v3), (.int (v121 <<< ((6 : Int32) &&& 31)))] _
        refine XS.iand X126.here hx rfl (hb hby at_148) rfl ?_
        show own_s p e below T125 m 149 #[iv i0, iv i1, iv i2, iv i3, iv i4, iv b0, iv v3, iv v7, iv v11, iv b4, rv b16, iv v31, iv (3 : Int32), iv v121, iv v125, .unset, .unset, .unset, .unset, .unset] [(.int (v3 &&& (63 : Int32))), (.int (v121 <<< ((6 : Int32) &&& 31)))] _
        refine XS.ior X126.here hx rfl (hb hby at_149) rfl ?_
        exact kX
      obtain ⟨q1, hq1⟩ : ∃ z : Int32, z = ((v121 <<< ((6 : Int32) &&& 31)) ||| (v3 &&& (63 : Int32))) := ⟨_, rfl⟩
      rw [← hq1] at pre128
      have iq1 : q1.toInt = v121.toInt * 64 + v3.toInt % 64 := by rw [hq1]; exact own_cat v121 v3 (by omega) (by omega)
      have pre129 : ∀ t, own_s p e below T125 m 154 #[iv i0, iv i1, iv i2, iv i3, iv i4, iv b0, iv v3, iv v7, iv v11, iv b4, rv b16, iv v31, iv (3 : Int32), iv v121, iv v125, iv q1, .unset, .unset, .unset, .unset] [(.int v3)] t → Steps p.tables e below S0 t := by
        intro tX kX
        refine pre128 _ ?_
        show own_s p e below T125 m 150 #[iv i0, iv i1, iv i2, iv i3, iv i4, iv b0, iv v3, iv v7, iv v11, iv b4, rv b16, iv v31, iv (3 : Int32), iv v121, iv v125, .unset, .unset, .unset, .unset, .unset] [(.int q1)] _
        refine XS.istore X126.here hx rfl (hb hby at_150) rfl (l' := #[iv i0, iv i1, iv i2, iv i3, iv i4, iv b0, iv v3, iv v7, iv v11, iv b4, rv b16, iv v31, iv (3 : Int32), iv v121, iv v125, iv q1, .unset, .unset, .unset, .unset]) rfl ?_
        show own_s p e below T125 m 152 #[iv i0, iv i1, iv i2, iv i3, iv i4, iv b0, iv v3, iv v7, iv v11, iv b4, rv b16, iv v31, iv (3 : Int32), iv v121, iv v125, iv q1, .unset, .unset, .unset, .unset] [] _
        refine XS.iload X126.here hx rfl (hb hby at_152) rfl ?_
        exact kX
      obtain ⟨_, _, ⟨T130, L130, k130, n130⟩, -, X130, ⟨Lc130, hQ130, l130, y130, z130⟩, st130⟩ := Jvm.LawKit.callS X126 hx (y := (⟨"com/example/weaverbird/weaverbird/model/xml/Utf8DecoderTakePinLaw", "isCont", "(I)Z"⟩ : MethodName)) hown (mvT hZ (hw _ (List.mem_of_getElem? (i := 61) rfl))) (mvT hZ (hw _ (List.mem_of_getElem? (i := 62) rfl))) (mvT hZ (hw _ (List.mem_of_getElem? (i := 2) rfl))) (mvT hZ (hw _ (List.mem_of_getElem? (i := 63) rfl))) (by decide) (backOf (W := 0) (rm7 l Z a0 hw [] v3  T125.heap n0 Z125 (by omega) (by omega)) hZ (hw _ (List.mem_of_getElem? (i := 63) rfl)) (hw _ (List.mem_of_getElem? (i := 2) rfl)) (by decide) (by decide)) (g := (mkF m 154 #[iv i0, iv i1, iv i2, iv i3, iv i4, iv b0, iv v3, iv v7, iv v11, iv b4, rv b16, iv v31, iv (3 : Int32), iv v121, iv v125, iv q1, .unset, .unset, .unset, .unset] [(.int v3)])) rfl (by rw [hml]; rfl) (argsL := [(.int v3)]) (rest := []) (lenOf pd0_5 rfl) rfl (by show 2 * 0 + _ ≤ _; exact Nat.le_of_eq rfl) (hb hby at_154) (fun _ _ => ⟨rfl, e125, (by decide : 1 + 0 ≤ _), (by decide : 6 + 0 ≤ _)⟩)
      dsimp only [Pt.U, Pt.locs, Pt.cells, Pt.slots] at X130 l130 y130 z130 st130 hQ130
      subst l130 y130 z130
      obtain ⟨D130, Nq130, e130⟩ := hQ130
      have N130 := Fr.app N126 Nq130
      rcases D130 with ⟨rfl, B130⟩ | ⟨rfl, B130⟩
      · skip
        obtain ⟨LL131, X131, N131⟩ : ∃ LL, Stand p l e room_1 s m #[(.int i0), (.int i1), (.int i2), (.int i3), (.int i4)] below meth c T130 LL 1 6 ∧ Fr n0 LL := ⟨_, X130, N130⟩
        have pre132 : ∀ t, own_s p e below T130 m 157 #[iv i0, iv i1, iv i2, iv i3, iv i4, iv b0, iv v3, iv v7, iv v11, iv b4, rv b16, iv v31, iv (3 : Int32), iv v121, iv v125, iv q1, .unset, .unset, .unset, .unset] [(.int (1 : Int32))] t → Steps p.tables e below S0 t := fun tX kX => pre129 _ (st130 _ kX)
        have pre133 : ∀ t, own_s p e below T130 m 165 #[iv i0, iv i1, iv i2, iv i3, iv i4, iv b0, iv v3, iv v7, iv v11, iv b4, rv b16, iv v31, iv (3 : Int32), iv v121, iv v125, iv q1, .unset, .unset, .unset, .unset] [(.int (2 : Int32)), (.int (3 : Int32)), (.int q1)] t → Steps p.tables e below S0 t := by
          intro tX kX
          refine pre132 _ ?_
          show own_s p e below T130 m 157 #[iv i0, iv i1, iv i2, iv i3, iv i4, iv b0, iv v3, iv v7, iv v11, iv b4, rv b16, iv v31, iv (3 : Int32), iv v121, iv v125, iv q1, .unset, .unset, .unset, .unset] [(.int (1 : Int32))] _
          refine XS.ifNo X131.here hx rfl (hb hby at_157) rfl ((if0 _ _).trans (feq (by decide : ¬ ((1 : Int32) = (0 : Int32)))).1) ?_
          show own_s p e below T130 m 160 #[iv i0, iv i1, iv i2, iv i3, iv i4, iv b0, iv v3, iv v7, iv v11, iv b4, rv b16, iv v31, iv (3 : Int32), iv v121, iv v125, iv q1, .unset, .unset, .unset, .unset] [] _
          refine XS.iload X131.here hx rfl (hb hby at_160) rfl ?_
          show own_s p e below T130 m 162 #[iv i0, iv i1, iv i2, iv i3, iv i4, iv b0, iv v3, iv v7, iv v11, iv b4, rv b16, iv v31, iv (3 : Int32), iv v121, iv v125, iv q1, .unset, .unset, .unset, .unset] [(.int q1)] _
          refine XS.iload X131.here hx rfl (hb hby at_162) rfl ?_
          show own_s p e below T130 m 164 #[iv i0, iv i1, iv i2, iv i3, iv i4, iv b0, iv v3, iv v7, iv v11, iv b4, rv b16, iv v31, iv (3 : Int32), iv v121, iv v125, iv q1, .unset, .unset, .unset, .unset] [(.int (3 : Int32)), (.int q1)] _
          refine XS.iconst X131.here hx rfl (hb hby at_164) ?_
          exact kX
        obtain ⟨_, _, ⟨T134, L134, k134, n134⟩, -, X134, ⟨Lc134, hQ134, l134, y134, z134⟩, st134⟩ := Jvm.LawKit.callS X131 hx (y := (⟨"com/example/weaverbird/weaverbird/model/xml/Utf8DecoderTakePinLaw", "feasible", "(III)Z"⟩ : MethodName)) hown (mvT hZ (hw _ (List.mem_of_getElem? (i := 52) rfl))) (mvT hZ (hw _ (List.mem_of_getElem? (i := 53) rfl))) (mvT hZ (hw _ (List.mem_of_getElem? (i := 2) rfl))) (mvT hZ (hw _ (List.mem_of_getElem? (i := 54) rfl))) (by decide) (backOf (W := 0) (rm24 l Z a0 hw [] q1  T125.heap n0 Z125 (by omega) (by omega)) hZ (hw _ (List.mem_of_getElem? (i := 54) rfl)) (hw _ (List.mem_of_getElem? (i := 2) rfl)) (by decide) (by decide)) (g := (mkF m 165 #[iv i0, iv i1, iv i2, iv i3, iv i4, iv b0, iv v3, iv v7, iv v11, iv b4, rv b16, iv v31, iv (3 : Int32), iv v121, iv v125, iv q1, .unset, .unset, .unset, .unset] [(.int (2 : Int32)), (.int (3 : Int32)), (.int q1)])) rfl (by rw [hml]; rfl) (argsL := [(.int q1), (.int (3 : Int32)), (.int (2 : Int32))]) (rest := []) (lenOf pd0_4 rfl) rfl (by show 2 * 0 + _ ≤ _; exact Nat.le_of_eq rfl) (hb hby at_165) (fun _ _ => ⟨rfl, e130, (by decide : 1 + 0 ≤ _), (by decide : 6 + 0 ≤ _)⟩)
        dsimp only [Pt.U, Pt.locs, Pt.cells, Pt.slots] at X134 l134 y134 z134 st134 hQ134
        subst l134 y134 z134
        obtain ⟨D134, Nq134, e134⟩ := hQ134
        have N134 := Fr.app N131 Nq134
        rcases D134 with ⟨rfl, B134⟩ | ⟨rfl, B134⟩
        · skip
          obtain ⟨LL135, X135, N135⟩ : ∃ LL, Stand p l e room_1 s m #[(.int i0), (.int i1), (.int i2), (.int i3), (.int i4)] below meth c T134 LL 1 6 ∧ Fr n0 LL := ⟨_, X134, N134⟩
          have pre136 : ∀ t, own_s p e below T134 m 168 #[iv i0, iv i1, iv i2, iv i3, iv i4, iv b0, iv v3, iv v7, iv v11, iv b4, rv b16, iv v31, iv (3 : Int32), iv v121, iv v125, iv q1, .unset, .unset, .unset, .unset] [(.int (1 : Int32))] t → Steps p.tables e below S0 t := fun tX kX => pre133 _ (st134 _ kX)
          have y137 : ta125.toInt = 2 := by omega
          have y138 : le125.toInt = 3 := by omega
          have y139 : pa125.toInt = pa31.toInt * 64 + v3.toInt % 64 := by omega
          have y140 : re125.toInt = 1 := by omega
          have y141 : v125.toInt = -1 := by omega
          have y142 : lo125.toInt = 128 := by omega
          have y143 : hi125.toInt = 191 := by omega
          clear R125
          have pre144 : ∀ t, own_s p e below T134 m 218 #[iv i0, iv i1, iv i2, iv i3, iv i4, iv b0, iv v3, iv v7, iv v11, iv b4, rv b16, iv v31, iv (3 : Int32), iv v121, iv v125, iv q1, .unset, .unset, .unset, .unset] [(.int v7), (.ref b16)] t → Steps p.tables e below S0 t := by
            intro tX kX
            refine pre136 _ ?_
            show own_s p e below T134 m 168 #[iv i0, iv i1, iv i2, iv i3, iv i4, iv b0, iv v3, iv v7, iv v11, iv b4, rv b16, iv v31, iv (3 : Int32), iv v121, iv v125, iv q1, .unset, .unset, .unset, .unset] [(.int (1 : Int32))] _
            refine XS.ifYes X135.here hx rfl (pc0 := 168) (pc' := 186) rfl (hb hby at_168) rfl ((if0 _ _).trans (feq (by decide : ¬ ((1 : Int32) = (0 : Int32)))).2) (by decide) (by decide) ?_
            show own_s p e below T134 m 186 #[iv i0, iv i1, iv i2, iv i3, iv i4, iv b0, iv v3, iv v7, iv v11, iv b4, rv b16, iv v31, iv (3 : Int32), iv v121, iv v125, iv q1, .unset, .unset, .unset, .unset] [] _
            refine XS.iload X135.here hx rfl (hb hby at_186) rfl ?_
            show own_s p e below T134 m 188 #[iv i0, iv i1, iv i2, iv i3, iv i4, iv b0, iv v3, iv v7, iv v11, iv b4, rv b16, iv v31, iv (3 : Int32), iv v121, iv v125, iv q1, .unset, .unset, .unset, .unset] [(.int (3 : Int32))] _
            refine XS.iconst X135.here hx rfl (hb hby at_188) ?_
            show own_s p e below T134 m 189 #[iv i0, iv i1, iv i2, iv i3, iv i4, iv b0, iv v3, iv v7, iv v11, iv b4, rv b16, iv v31, iv (3 : Int32), iv v121, iv v125, iv q1, .unset, .unset, .unset, .unset] [(.int (2 : Int32)), (.int (3 : Int32))] _
            refine XS.icmpYes X135.here hx rfl (pc0 := 189) (pc' := 206) rfl (hb hby at_189) rfl (feq (by decide : ¬ ((3 : Int32) = (2 : Int32)))).2 (by decide) (by decide) ?_
            show own_s p e below T134 m 206 #[iv i0, iv i1, iv i2, iv i3, iv i4, iv b0, iv v3, iv v7, iv v11, iv b4, rv b16, iv v31, iv (3 : Int32), iv v121, iv v125, iv q1, .unset, .unset, .unset, .unset] [] _
            refine XS.iload X135.here hx rfl (hb hby at_206) rfl ?_
            show own_s p e below T134 m 208 #[iv i0, iv i1, iv i2, iv i3, iv i4, iv b0, iv v3, iv v7, iv v11, iv b4, rv b16, iv v31, iv (3 : Int32), iv v121, iv v125, iv q1, .unset, .unset, .unset, .unset] [(.int v125)] _
            refine XS.iconst X135.here hx rfl (hb hby at_208) ?_
            show own_s p e below T134 m 209 #[iv i0, iv i1, iv i2, iv i3, iv i4, iv b0, iv v3, iv v7, iv v11, iv b4, rv b16, iv v31, iv (3 : Int32), iv v121, iv v125, iv q1, .unset, .unset, .unset, .unset] [(.int (-1 : Int32)), (.int v125)] _
            refine XS.icmpYes X135.here hx rfl (pc0 := 209) (pc' := 214) rfl (hb hby at_209) rfl (teq (own_eqI (show (v125).toInt = ((-1 : Int32)).toInt from (by omega : (v125).toInt = (-1 : Int))))).1 (by decide) (by decide) ?_
            show own_s p e below T134 m 214 #[iv i0, iv i1, iv i2, iv i3, iv i4, iv b0, iv v3, iv v7, iv v11, iv b4, rv b16, iv v31, iv (3 : Int32), iv v121, iv v125, iv q1, .unset, .unset, .unset, .unset] [] _
            refine XS.aload X135.here hx rfl (hb hby at_214) rfl rfl ?_
            show own_s p e below T134 m 216 #[iv i0, iv i1, iv i2, iv i3, iv i4, iv b0, iv v3, iv v7, iv v11, iv b4, rv b16, iv v31, iv (3 : Int32), iv v121, iv v125, iv q1, .unset, .unset, .unset, .unset] [(.ref b16)] _
            refine XS.iload X135.here hx rfl (hb hby at_216) rfl ?_
            exact kX
          obtain ⟨cq145, kq145, q145a, q145b, q145c⟩ := isOf hZ e134 fE125
          obtain ⟨_, _, ⟨T145, L145, k145, n145⟩, -, X145, ⟨Lc145, hQ145, l145, y145, z145⟩, st145⟩ := X135.virtualBack hx (y := (⟨"com/example/weaverbird/weaverbird/model/xml/Utf8Decoder", "take", "(I)I"⟩ : MethodName)) (z := (⟨"com/example/weaverbird/weaverbird/model/xml/Utf8Decoder", "take", "(I)I"⟩ : MethodName)) hown (mvT hZ (hw _ (List.mem_of_getElem? (i := 13) rfl))) (mvT hZ (hw _ (List.mem_of_getElem? (i := 14) rfl))) (notFace_of_selects (args := #[]) (mvT hZ (hw _ (List.mem_of_getElem? (i := 16) rfl)))) (mvT hZ (hw _ (List.mem_of_getElem? (i := 16) rfl))) (mvT hZ (hw _ (List.mem_of_getElem? (i := 15) rfl))) (by decide) (backOf (W := 0) (rm3 l Z a0 hw [] b16 v7 pa125 le125 ta125 lo125 hi125 re125 T125.heap n0 Z125 fE125 f125_pa f125_le f125_ta f125_lo f125_hi f125_re g_b16 (own_eqI (show (re125).toInt = (1 : Int32).toInt from (by omega : (re125).toInt = 1))) (by omega) (by omega) (by omega) (by omega) (by omega) (by omega)) hZ (hw _ (List.mem_of_getElem? (i := 17) rfl)) (hw _ (List.mem_of_getElem? (i := 6) rfl)) (by decide) (by decide)) q145a q145c (g := (mkF m 218 #[iv i0, iv i1, iv i2, iv i3, iv i4, iv b0, iv v3, iv v7, iv v11, iv b4, rv b16, iv v31, iv (3 : Int32), iv v121, iv v125, iv q1, .unset, .unset, .unset, .unset] [(.int v7), (.ref b16)])) rfl (by rw [hml]; rfl) (Steps.refl _) (argsL := [(.int v7)]) (rest := []) (lenOf pd0_0 rfl) rfl (by show 2 * 0 + _ ≤ _; exact Nat.le_of_eq rfl) (hb hby at_218) (fun _ _ => ⟨rfl, e134, (by decide : 1 + 0 ≤ _), (by decide : 6 + 0 ≤ _)⟩)
          dsimp only [Pt.U, Pt.locs, Pt.cells, Pt.slots] at X145 l145 y145 z145 st145 hQ145
          subst l145 y145 z145
          obtain ⟨v145, pa145, le145, ta145, lo145, hi145, re145, rfl, Nq145, Kq145, fE145, f145_pa, f145_le, f145_ta, f145_lo, f145_hi, f145_re, hL145, R145⟩ := hQ145
          have hLi145 := congrArg Int32.toInt hL145
          unfold own_T1 at R145
          have N145 := Fr.app N135 Nq145
          have e145 : T145.heap = T145.heap := rfl
          have Z145 : n0 ≤ T145.heap.size := Nat.le_trans Z125 Kq145.1
          obtain ⟨LL146, X146, N146⟩ : ∃ LL, Stand p l e room_1 s m #[(.int i0), (.int i1), (.int i2), (.int i3), (.int i4)] below meth c T145 LL 1 6 ∧ Fr n0 LL := ⟨_, X145, N145⟩
          have pre147 : ∀ t, own_s p e below T145 m 221 #[iv i0, iv i1, iv i2, iv i3, iv i4, iv b0, iv v3, iv v7, iv v11, iv b4, rv b16, iv v31, iv (3 : Int32), iv v121, iv v125, iv q1, .unset, .unset, .unset, .unset] [(.int v145)] t → Steps p.tables e below S0 t := fun tX kX => pre144 _ (st145.trans kX)
          have pre148 : ∀ t, own_s p e below T145 m 234 #[iv i0, iv i1, iv i2, iv i3, iv i4, iv b0, iv v3, iv v7, iv v11, iv b4, rv b16, iv v31, iv (3 : Int32), iv v121, iv v125, iv q1, iv v145, .unset, .unset, .unset] [(.int ((q1 <<< ((6 : Int32) &&& 31)) ||| (v7 &&& (63 : Int32))))] t → Steps p.tables e below S0 t := by
            intro tX kX
            refine pre147 _ ?_
            show own_s p e below T145 m 221 #[iv i0, iv i1, iv i2, iv i3, iv i4, iv b0, iv v3, iv v7, iv v11, iv b4, rv b16, iv v31, iv (3 : Int32), iv v121, iv v125, iv q1, .unset, .unset, .unset, .unset] [(.int v145)] _
            refine XS.istore X146.here hx rfl (hb hby at_221) rfl (l' := #[iv i0, iv i1, iv i2, iv i3, iv i4, iv b0, iv v3, iv v7, iv v11, iv b4, rv b16, iv v31, iv (3 : Int32), iv v121, iv v125, iv q1, iv v145, .unset, .unset, .unset]) rfl ?_
            show own_s p e below T145 m 223 #[iv i0, iv i1, iv i2, iv i3, iv i4, iv b0, iv v3, iv v7, iv v11, iv b4, rv b16, iv v31, iv (3 : Int32), iv v121, iv v125, iv q1, iv v145, .unset, .unset, .unset] [] _
            refine XS.iload X146.here hx rfl (hb hby at_223) rfl ?_
            show own_s p e below T145 m 225 #[iv i0, iv i1, iv i2, iv i3, iv i4, iv b0, iv v3, iv v7, iv v11, iv b4, rv b16, iv v31, iv (3 : Int32), iv v121, iv v125, iv q1, iv v145, .unset, .unset, .unset] [(.int q1)] _
            refine XS.bipush X146.here hx rfl (hb hby at_225) ?_
            show own_s p e below T145 m 227 #[iv i0, iv i1, iv i2, iv i3, iv i4, iv b0, iv v3, iv v7, iv v11, iv b4, rv b16, iv v31, iv (3 : Int32), iv v121, iv v125, iv q1, iv v145, .unset, .unset, .unset] [(.int (6 : Int32)), (.int q1)] _
            refine XS.ishl X146.here hx rfl (hb hby at_227) rfl ?_
            show own_s p e below T145 m 228 #[iv i0, iv i1, iv i2, iv i3, iv i4, iv b0, iv v3, iv v7, iv v11, iv b4, rv b16, iv v31, iv (3 : Int32), iv v121, iv v125, iv q1, iv v145, .unset, .unset, .unset] [(.int (q1 <<< ((6 : Int32) &&& 31)))] _
            refine XS.iload X146.here hx rfl (hb hby at_228) rfl ?_
            show own_s p e below T145 m 230 #[iv i0, iv i1, iv i2, iv i3, iv i4, iv b0, iv v3, iv v7, iv v11, iv b4, rv b16, iv v31, iv (3 : Int32), iv v121, iv v125, iv q1, iv v145, .unset, .unset, .unset] [(.int v7), (.int (q1 <<< ((6 : Int32) &&& 31)))] _
            refine XS.bipush X146.here hx rfl (hb hby at_230) ?_
            show own_s p e below T145 m 232 #[iv i0, iv i1, iv i2, iv i3, iv i4, iv b0, iv v3, iv v7, iv v11, iv b4, rv b16, iv v31, iv (3 : Int32), iv v121, iv v125, iv q1, iv v145, .unset, .unset, .unset] [(.int (63 : Int32)), (.int v7), (.int (q1 <<< ((6 : Int32) &&& 31)))] _
            refine XS.iand X146.here hx rfl (hb hby at_232) rfl ?_
            show own_s p e below T145 m 233 #[iv i0, iv i1, iv i2, iv i3, iv i4, iv b0, iv v3, iv v7, iv v11, iv b4, rv b16, iv v31, iv (3 : Int32), iv v121, iv v125, iv q1, iv v145, .unset, .unset, .unset] [(.int (v7 &&& (63 : Int32))), (.int (q1 <<< ((6 : Int32) &&& 31)))] _
            refine XS.ior X146.here hx rfl (hb hby at_233) rfl ?_
            exact kX
          obtain ⟨q2, hq2⟩ : ∃ z : Int32, z = ((q1 <<< ((6 : Int32) &&& 31)) ||| (v7 &&& (63 : Int32))) := ⟨_, rfl⟩
          rw [← hq2] at pre148
          have iq2 : q2.toInt = q1.toInt * 64 + v7.toInt % 64 := by rw [hq2]; exact own_cat q1 v7 (by omega) (by omega)
          have pre149 : ∀ t, own_s p e below T145 m 238 #[iv i0, iv i1, iv i2, iv i3, iv i4, iv b0, iv v3, iv v7, iv v11, iv b4, rv b16, iv v31, iv (3 : Int32), iv v121, iv v125, iv q1, iv v145, iv q2, .unset, .unset] [(.int v7)] t → Steps p.tables e below S0 t := by
            intro tX kX
            refine pre148 _ ?_
            show own_s p e below T145 m 234 #[iv i0, iv i1, iv i2, iv i3, iv i4, iv b0, iv v3, iv v7, iv v11, iv b4, rv b16, iv v31, iv (3 : Int32), iv v121, iv v125, iv q1, iv v145, .unset, .unset, .unset] [(.int q2)] _
            refine XS.istore X146.here hx rfl (hb hby at_234) rfl (l' := #[iv i0, iv i1, iv i2, iv i3, iv i4, iv b0, iv v3, iv v7, iv v11, iv b4, rv b16, iv v31, iv (3 : Int32), iv v121, iv v125, iv q1, iv v145, iv q2, .unset, .unset]) rfl ?_
            show own_s p e below T145 m 236 #[iv i0, iv i1, iv i2, iv i3, iv i4, iv b0, iv v3, iv v7, iv v11, iv b4, rv b16, iv v31, iv (3 : Int32), iv v121, iv v125, iv q1, iv v145, iv q2, .unset, .unset] [] _
            refine XS.iload X146.here hx rfl (hb hby at_236) rfl ?_
            exact kX
          obtain ⟨_, _, ⟨T150, L150, k150, n150⟩, -, X150, ⟨Lc150, hQ150, l150, y150, z150⟩, st150⟩ := Jvm.LawKit.callS X146 hx (y := (⟨"com/example/weaverbird/weaverbird/model/xml/Utf8DecoderTakePinLaw", "isCont", "(I)Z"⟩ : MethodName)) hown (mvT hZ (hw _ (List.mem_of_getElem? (i := 61) rfl))) (mvT hZ (hw _ (List.mem_of_getElem? (i := 62) rfl))) (mvT hZ (hw _ (List.mem_of_getElem? (i := 2) rfl))) (mvT hZ (hw _ (List.mem_of_getElem? (i := 63) rfl))) (by decide) (backOf (W := 0) (rm7 l Z a0 hw [] v7  T145.heap n0 Z145 (by omega) (by omega)) hZ (hw _ (List.mem_of_getElem? (i := 63) rfl)) (hw _ (List.mem_of_getElem? (i := 2) rfl)) (by decide) (by decide)) (g := (mkF m 238 #[iv i0, iv i1, iv i2, iv i3, iv i4, iv b0, iv v3, iv v7, iv v11, iv b4, rv b16, iv v31, iv (3 : Int32), iv v121, iv v125, iv q1, iv v145, iv q2, .unset, .unset] [(.int v7)])) rfl (by rw [hml]; rfl) (argsL := [(.int v7)]) (rest := []) (lenOf pd0_5 rfl) rfl (by show 2 * 0 + _ ≤ _; exact Nat.le_of_eq rfl) (hb hby at_238) (fun _ _ => ⟨rfl, e145, (by decide : 1 + 0 ≤ _), (by decide : 6 + 0 ≤ _)⟩)
          dsimp only [Pt.U, Pt.locs, Pt.cells, Pt.slots] at X150 l150 y150 z150 st150 hQ150
          subst l150 y150 z150
          obtain ⟨D150, Nq150, e150⟩ := hQ150
          have N150 := Fr.app N146 Nq150
          rcases D150 with ⟨rfl, B150⟩ | ⟨rfl, B150⟩
          · skip
            obtain ⟨LL151, X151, N151⟩ : ∃ LL, Stand p l e room_1 s m #[(.int i0), (.int i1), (.int i2), (.int i3), (.int i4)] below meth c T150 LL 1 6 ∧ Fr n0 LL := ⟨_, X150, N150⟩
            have pre152 : ∀ t, own_s p e below T150 m 241 #[iv i0, iv i1, iv i2, iv i3, iv i4, iv b0, iv v3, iv v7, iv v11, iv b4, rv b16, iv v31, iv (3 : Int32), iv v121, iv v125, iv q1, iv v145, iv q2, .unset, .unset] [(.int (1 : Int32))] t → Steps p.tables e below S0 t := fun tX kX => pre149 _ (st150 _ kX)
            have pre153 : ∀ t, own_s p e below T150 m 249 #[iv i0, iv i1, iv i2, iv i3, iv i4, iv b0, iv v3, iv v7, iv v11, iv b4, rv b16, iv v31, iv (3 : Int32), iv v121, iv v125, iv q1, iv v145, iv q2, .unset, .unset] [(.int (3 : Int32)), (.int (3 : Int32)), (.int q2)] t → Steps p.tables e below S0 t := by
              intro tX kX
              refine pre152 _ ?_
              show own_s p e below T150 m 241 #[iv i0, iv i1, iv i2, iv i3, iv i4, iv b0, iv v3, iv v7, iv v11, iv b4, rv b16, iv v31, iv (3 : Int32), iv v121, iv v125, iv q1, iv v145, iv q2, .unset, .unset] [(.int (1 : Int32))] _
              refine XS.ifNo X151.here hx rfl (hb hby at_241) rfl ((if0 _ _).trans (feq (by decide : ¬ ((1 : Int32) = (0 : Int32)))).1) ?_
              show own_s p e below T150 m 244 #[iv i0, iv i1, iv i2, iv i3, iv i4, iv b0, iv v3, iv v7, iv v11, iv b4, rv b16, iv v31, iv (3 : Int32), iv v121, iv v125, iv q1, iv v145, iv q2, .unset, .unset] [] _
              refine XS.iload X151.here hx rfl (hb hby at_244) rfl ?_
              show own_s p e below T150 m 246 #[iv i0, iv i1, iv i2, iv i3, iv i4, iv b0, iv v3, iv v7, iv v11, iv b4, rv b16, iv v31, iv (3 : Int32), iv v121, iv v125, iv q1, iv v145, iv q2, .unset, .unset] [(.int q2)] _
              refine XS.iload X151.here hx rfl (hb hby at_246) rfl ?_
              show own_s p e below T150 m 248 #[iv i0, iv i1, iv i2, iv i3, iv i4, iv b0, iv v3, iv v7, iv v11, iv b4, rv b16, iv v31, iv (3 : Int32), iv v121, iv v125, iv q1, iv v145, iv q2, .unset, .unset] [(.int (3 : Int32)), (.int q2)] _
              refine XS.iconst X151.here hx rfl (hb hby at_248) ?_
              exact kX
            obtain ⟨_, _, ⟨T154, L154, k154, n154⟩, -, X154, ⟨Lc154, hQ154, l154, y154, z154⟩, st154⟩ := Jvm.LawKit.callS X151 hx (y := (⟨"com/example/weaverbird/weaverbird/model/xml/Utf8DecoderTakePinLaw", "feasible", "(III)Z"⟩ : MethodName)) hown (mvT hZ (hw _ (List.mem_of_getElem? (i := 52) rfl))) (mvT hZ (hw _ (List.mem_of_getElem? (i := 53) rfl))) (mvT hZ (hw _ (List.mem_of_getElem? (i := 2) rfl))) (mvT hZ (hw _ (List.mem_of_getElem? (i := 54) rfl))) (by decide) (backOf (W := 0) (rm26 l Z a0 hw [] q2  T145.heap n0 Z145 (by omega) (by omega)) hZ (hw _ (List.mem_of_getElem? (i := 54) rfl)) (hw _ (List.mem_of_getElem? (i := 2) rfl)) (by decide) (by decide)) (g := (mkF m 249 #[iv i0, iv i1, iv i2, iv i3, iv i4, iv b0, iv v3, iv v7, iv v11, iv b4, rv b16, iv v31, iv (3 : Int32), iv v121, iv v125, iv q1, iv v145, iv q2, .unset, .unset] [(.int (3 : Int32)), (.int (3 : Int32)), (.int q2)])) rfl (by rw [hml]; rfl) (argsL := [(.int q2), (.int (3 : Int32)), (.int (3 : Int32))]) (rest := []) (lenOf pd0_4 rfl) rfl (by show 2 * 0 + _ ≤ _; exact Nat.le_of_eq rfl) (hb hby at_249) (fun _ _ => ⟨rfl, e150, (by decide : 1 + 0 ≤ _), (by decide : 6 + 0 ≤ _)⟩)
            dsimp only [Pt.U, Pt.locs, Pt.cells, Pt.slots] at X154 l154 y154 z154 st154 hQ154
            subst l154 y154 z154
            obtain ⟨D154, Nq154, e154⟩ := hQ154
            have N154 := Fr.app N151 Nq154
            rcases D154 with ⟨rfl, B154⟩ | ⟨rfl, B154⟩
            · skip
              obtain ⟨LL155, X155, N155⟩ : ∃ LL, Stand p l e room_1 s m #[(.int i0), (.int i1), (.int i2), (.int i3), (.int i4)] below meth c T154 LL 1 6 ∧ Fr n0 LL := ⟨_, X154, N154⟩
              have pre156 : ∀ t, own_s p e below T154 m 252 #[iv i0, iv i1, iv i2, iv i3, iv i4, iv b0, iv v3, iv v7, iv v11, iv b4, rv b16, iv v31, iv (3 : Int32), iv v121, iv v125, iv q1, iv v145, iv q2, .unset, .unset] [(.int (1 : Int32))] t → Steps p.tables e below S0 t := fun tX kX => pre153 _ (st154 _ kX)
              have y157 : ta145.toInt = 3 := by omega
              have y158 : le145.toInt = 3 := by omega
              have y159 : pa145.toInt = pa125.toInt * 64 + v7.toInt % 64 := by omega
              have y160 : re145.toInt = 0 := by omega
              have y161 : v145.toInt = pa145.toInt := by omega
              clear R145
              have pre162 : ∀ t, own_s p e below T154 m 286 #[iv i0, iv i1, iv i2, iv i3, iv i4, iv b0, iv v3, iv v7, iv v11, iv b4, rv b16, iv v31, iv (3 : Int32), iv v121, iv v125, iv q1, iv v145, iv q2, .unset, .unset] [(.int b4), (.int (3 : Int32)), (.int (3 : Int32)), (.int q2), (.int v145), (.ref b16)] t → Steps p.tables e below S0 t := by
                intro tX kX
                refine pre156 _ ?_
                show own_s p e below T154 m 252 #[iv i0, iv i1, iv i2, iv i3, iv i4, iv b0, iv v3, iv v7, iv v11, iv b4, rv b16, iv v31, iv (3 : Int32), iv v121, iv v125, iv q1, iv v145, iv q2, .unset, .unset] [(.int (1 : Int32))] _
                refine XS.ifYes X155.here hx rfl (pc0 := 252) (pc' := 270) rfl (hb hby at_252) rfl ((if0 _ _).trans (feq (by decide : ¬ ((1 : Int32) = (0 : Int32)))).2) (by decide) (by decide) ?_
                show own_s p e below T154 m 270 #[iv i0, iv i1, iv i2, iv i3, iv i4, iv b0, iv v3, iv v7, iv v11, iv b4, rv b16, iv v31, iv (3 : Int32), iv v121, iv v125, iv q1, iv v145, iv q2, .unset, .unset] [] _
                refine XS.iload X155.here hx rfl (hb hby at_270) rfl ?_
                show own_s p e below T154 m 272 #[iv i0, iv i1, iv i2, iv i3, iv i4, iv b0, iv v3, iv v7, iv v11, iv b4, rv b16, iv v31, iv (3 : Int32), iv v121, iv v125, iv q1, iv v145, iv q2, .unset, .unset] [(.int (3 : Int32))] _
                refine XS.iconst X155.here hx rfl (hb hby at_272) ?_
                show own_s p e below T154 m 273 #[iv i0, iv i1, iv i2, iv i3, iv i4, iv b0, iv v3, iv v7, iv v11, iv b4, rv b16, iv v31, iv (3 : Int32), iv v121, iv v125, iv q1, iv v145, iv q2, .unset, .unset] [(.int (3 : Int32)), (.int (3 : Int32))] _
                refine XS.icmpNo X155.here hx rfl (hb hby at_273) rfl (teq (by decide : (3 : Int32) = (3 : Int32))).2 ?_
                show own_s p e below T154 m 276 #[iv i0, iv i1, iv i2, iv i3, iv i4, iv b0, iv v3, iv v7, iv v11, iv b4, rv b16, iv v31, iv (3 : Int32), iv v121, iv v125, iv q1, iv v145, iv q2, .unset, .unset] [] _
                refine XS.aload X155.here hx rfl (hb hby at_276) rfl rfl ?_
                show own_s p e below T154 m 278 #[iv i0, iv i1, iv i2, iv i3, iv i4, iv b0, iv v3, iv v7, iv v11, iv b4, rv b16, iv v31, iv (3 : Int32), iv v121, iv v125, iv q1, iv v145, iv q2, .unset, .unset] [(.ref b16)] _
                refine XS.iload X155.here hx rfl (hb hby at_278) rfl ?_
                show own_s p e below T154 m 280 #[iv i0, iv i1, iv i2, iv i3, iv i4, iv b0, iv v3, iv v7, iv v11, iv b4, rv b16, iv v31, iv (3 : Int32), iv v121, iv v125, iv q1, iv v145, iv q2, .unset, .unset] [(.int v145), (.ref b16)] _
                refine XS.iload X155.here hx rfl (hb hby at_280) rfl ?_
                show own_s p e below T154 m 282 #[iv i0, iv i1, iv i2, iv i3, iv i4, iv b0, iv v3, iv v7, iv v11, iv b4, rv b16, iv v31, iv (3 : Int32), iv v121, iv v125, iv q1, iv v145, iv q2, .unset, .unset] [(.int q2), (.int v145), (.ref b16)] _
                refine XS.iconst X155.here hx rfl (hb hby at_282) ?_
                show own_s p e below T154 m 283 #[iv i0, iv i1, iv i2, iv i3, iv i4, iv b0, iv v3, iv v7, iv v11, iv b4, rv b16, iv v31, iv (3 : Int32), iv v121, iv v125, iv q1, iv v145, iv q2, .unset, .unset] [(.int (3 : Int32)), (.int q2), (.int v145), (.ref b16)] _
                refine XS.iconst X155.here hx rfl (hb hby at_283) ?_
                show own_s p e below T154 m 284 #[iv i0, iv i1, iv i2, iv i3, iv i4, iv b0, iv v3, iv v7, iv v11, iv b4, rv b16, iv v31, iv (3 : Int32), iv v121, iv v125, iv q1, iv v145, iv q2, .unset, .unset] [(.int (3 : Int32)), (.int (3 : Int32)), (.int q2), (.int v145), (.ref b16)] _
                refine XS.iload X155.here hx rfl (hb hby at_284) rfl ?_
                exact kX
              obtain ⟨_, _, ⟨T163, L163, k163, n163⟩, -, X163, ⟨Lc163, hQ163, l163, y163, z163⟩, st163⟩ := Jvm.LawKit.callS X155 hx (y := (⟨"com/example/weaverbird/weaverbird/model/xml/Utf8DecoderTakePinLaw", "ended", "(Lcom/example/weaverbird/weaverbird/model/xml/Utf8Decoder;IIIII)Z"⟩ : MethodName)) hown (mvT hZ (hw _ (List.mem_of_getElem? (i := 33) rfl))) (mvT hZ (hw _ (List.mem_of_getElem? (i := 34) rfl))) (mvT hZ (hw _ (List.mem_of_getElem? (i := 2) rfl))) (mvT hZ (hw _ (List.mem_of_getElem? (i := 35) rfl))) (by decide) (backOf (W := 0) (rm16 l Z a0 hw [] b16 v145 q2 (3 : Int32) (3 : Int32) b4 pa145 le145 ta145 lo145 hi145 re145 T145.heap n0 Z145 fE145 f145_pa f145_le f145_ta f145_lo f145_hi f145_re g_b16 (own_eqI (show (re145).toInt = ((0 : Int32)).toInt from (by omega : (re145).toInt = (0 : Int)))) (own_eqI (show (v145).toInt = (q2).toInt from (by omega : (v145).toInt = (q2).toInt))) (own_eqI (show (le145).toInt = ((3 : Int32)).toInt from (by omega : (le145).toInt = (3 : Int)))) (own_eqI (show (ta145).toInt = ((3 : Int32)).toInt from (by omega : (ta145).toInt = (3 : Int)))) (by omega) (by omega)) hZ (hw _ (List.mem_of_getElem? (i := 35) rfl)) (hw _ (List.mem_of_getElem? (i := 2) rfl)) (by decide) (by decide)) (g := (mkF m 286 #[iv i0, iv i1, iv i2, iv i3, iv i4, iv b0, iv v3, iv v7, iv v11, iv b4, rv b16, iv v31, iv (3 : Int32), iv v121, iv v125, iv q1, iv v145, iv q2, .unset, .unset] [(.int b4), (.int (3 : Int32)), (.int (3 : Int32)), (.int q2), (.int v145), (.ref b16)])) rfl (by rw [hml]; rfl) (argsL := [(.ref b16), (.int v145), (.int q2), (.int (3 : Int32)), (.int (3 : Int32)), (.int b4)]) (rest := []) (lenOf pd0_2 rfl) rfl (by show 2 * 0 + _ ≤ _; exact Nat.le_of_eq rfl) (hb hby at_286) (fun _ _ => ⟨rfl, e154, (by decide : 1 + 0 ≤ _), (by decide : 6 + 0 ≤ _)⟩)
              dsimp only [Pt.U, Pt.locs, Pt.cells, Pt.slots] at X163 l163 y163 z163 st163 hQ163
              subst l163 y163 z163
              obtain ⟨rfl, Nq163⟩ := hQ163
              have N163 := Fr.app N155 Nq163
              have e163 : T163.heap = T163.heap := rfl
              obtain ⟨LL164, X164, N164⟩ : ∃ LL, Stand p l e room_1 s m #[(.int i0), (.int i1), (.int i2), (.int i3), (.int i4)] below meth c T163 LL 1 6 ∧ Fr n0 LL := ⟨_, X163, N163⟩
              have pre165 : ∀ t, own_s p e below T163 m 289 #[iv i0, iv i1, iv i2, iv i3, iv i4, iv b0, iv v3, iv v7, iv v11, iv b4, rv b16, iv v31, iv (3 : Int32), iv v121, iv v125, iv q1, iv v145, iv q2, .unset, .unset] [(.int (1 : Int32))] t → Steps p.tables e below S0 t := fun tX kX => pre162 _ (st163 _ kX)
              subst hS0
              obtain ⟨fs, hr, hrun, hended, hW, hsame⟩ := X164.leave (v := (some (.int (1 : Int32)))) (fun h => by rw [Bd.returns] at h; cases h)
              refine ⟨_, _, pre165 _ (retN X164 hx (t := .boolean) Bd.returns (by simp) (hb hby at_289) hr), hrun, hended, _, _, rfl, ?_, ⟨_, rfl⟩, hW, hsame.mono (by decide) (by decide)⟩
              show Q0 Z i0 i1 i2 i3 i4 h0 n0 (some (.int (1 : Int32))) T163.heap _
              exact ⟨rfl, N164⟩
            · skip
              obtain ⟨LL166, X166, N166⟩ : ∃ LL, Stand p l e room_1 s m #[(.int i0), (.int i1), (.int i2), (.int i3), (.int i4)] below meth c T154 LL 1 6 ∧ Fr n0 LL := ⟨_, X154, N154⟩
              have pre167 : ∀ t, own_s p e below T154 m 252 #[iv i0, iv i1, iv i2, iv i3, iv i4, iv b0, iv v3, iv v7, iv v11, iv b4, rv b16, iv v31, iv (3 : Int32), iv v121, iv v125, iv q1, iv v145, iv q2, .unset, .unset] [(.int (0 : Int32))] t → Steps p.tables e below S0 t := fun tX kX => pre153 _ (st154 _ kX)
              have pre168 : ∀ t, own_s p e below T154 m 266 #[iv i0, iv i1, iv i2, iv i3, iv i4, iv b0, iv v3, iv v7, iv v11, iv b4, rv b16, iv v31, iv (3 : Int32), iv v121, iv v125, iv q1, iv v145, iv q2, .unset, .unset] [(.int b4), (.int (3 : Int32)), (.int (3 : Int32)), (.int (-3 : Int32)), (.int v145), (.ref b16)] t → Steps p.tables e below S0 t := by
                intro tX kX
                refine pre167 _ ?_
                show own_s p e below T154 m 252 #[iv i0, iv i1, iv i2, iv i3, iv i4, iv b0, iv v3, iv v7, iv v11, iv b4, rv b16, iv v31, iv (3 : Int32), iv v121, iv v125, iv q1, iv v145, iv q2, .unset, .unset] [(.int (0 : Int32))] _
                refine XS.ifNo X166.here hx rfl (hb hby at_252) rfl ((if0 _ _).trans (teq (by decide : (0 : Int32) = (0 : Int32))).2) ?_
                show own_s p e below T154 m 255 #[iv i0, iv i1, iv i2, iv i3, iv i4, iv b0, iv v3, iv v7, iv v11, iv b4, rv b16, iv v31, iv (3 : Int32), iv v121, iv v125, iv q1, iv v145, iv q2, .unset, .unset] [] _
                refine XS.aload X166.here hx rfl (hb hby at_255) rfl rfl ?_
                show own_s p e below T154 m 257 #[iv i0, iv i1, iv i2, iv i3, iv i4, iv b0, iv v3, iv v7, iv v11, iv b4, rv b16, iv v31, iv (3 : Int32), iv v121, iv v125, iv q1, iv v145, iv q2, .unset, .unset] [(.ref b16)] _
                refine XS.iload X166.here hx rfl (hb hby at_257) rfl ?_
                show own_s p e below T154 m 259 #[iv i0, iv i1, iv i2, iv i3, iv i4, iv b0, iv v3, iv v7, iv v11, iv b4, rv b16, iv v31, iv (3 : Int32), iv v121, iv v125, iv q1, iv v145, iv q2, .unset, .unset] [(.int v145), (.ref b16)] _
                refine XS.bipush X166.here hx rfl (hb hby at_259) ?_
                show own_s p e below T154 m 261 #[iv i0, iv i1, iv i2, iv i3, iv i4, iv b0, iv v3, iv v7, iv v11, iv b4, rv b16, iv v31, iv (3 : Int32), iv v121, iv v125, iv q1, iv v145, iv q2, .unset, .unset] [(.int (-3 : Int32)), (.int v145), (.ref b16)] _
                refine XS.iload X166.here hx rfl (hb hby at_261) rfl ?_
                show own_s p e below T154 m 263 #[iv i0, iv i1, iv i2, iv i3, iv i4, iv b0, iv v3, iv v7, iv v11, iv b4, rv b16, iv v31, iv (3 : Int32), iv v121, iv v125, iv q1, iv v145, iv q2, .unset, .unset] [(.int (3 : Int32)), (.int (-3 : Int32)), (.int v145), (.ref b16)] _
                refine XS.iconst X166.here hx rfl (hb hby at_263) ?_
                show own_s p e below T154 m 264 #[iv i0, iv i1, iv i2, iv i3, iv i4, iv b0, iv v3, iv v7, iv v11, iv b4, rv b16, iv v31, iv (3 : Int32), iv v121, iv v125, iv q1, iv v145, iv q2, .unset, .unset] [(.int (3 : Int32)), (.int (3 : Int32)), (.int (-3 : Int32)), (.int v145), (.ref b16)] _
                refine XS.iload X166.here hx rfl (hb hby at_264) rfl ?_
                exact kX
              obtain ⟨_, _, ⟨T169, L169, k169, n169⟩, -, X169, ⟨Lc169, hQ169, l169, y169, z169⟩, st169⟩ := Jvm.LawKit.callS X166 hx (y := (⟨"com/example/weaverbird/weaverbird/model/xml/Utf8DecoderTakePinLaw", "ended", "(Lcom/example/weaverbird/weaverbird/model/xml/Utf8Decoder;IIIII)Z"⟩ : MethodName)) hown (mvT hZ (hw _ (List.mem_of_getElem? (i := 33) rfl))) (mvT hZ (hw _ (List.mem_of_getElem? (i := 34) rfl))) (mvT hZ (hw _ (List.mem_of_getElem? (i := 2) rfl))) (mvT hZ (hw _ (List.mem_of_getElem? (i := 35) rfl))) (by decide) (backOf (W := 0) (rm16 l Z a0 hw [] b16 v145 (-3 : Int32) (3 : Int32) (3 : Int32) b4 pa145 le145 ta145 lo145 hi145 re145 T145.heap n0 Z145 fE145 f145_pa f145_le f145_ta f145_lo f145_hi f145_re g_b16 (own_eqI (show (re145).toInt = ((0 : Int32)).toInt from (by omega : (re145).toInt = (0 : Int)))) (own_eqI (show (v145).toInt = ((-3 : Int32)).toInt from (by omega : (v145).toInt = (-3 : Int)))) (own_eqI (show (le145).toInt = ((3 : Int32)).toInt from (by omega : (le145).toInt = (3 : Int)))) (own_eqI (show (ta145).toInt = ((3 : Int32)).toInt from (by omega : (ta145).toInt = (3 : Int)))) (by omega) (by omega)) hZ (hw _ (List.mem_of_getElem? (i := 35) rfl)) (hw _ (List.mem_of_getElem? (i := 2) rfl)) (by decide) (by decide)) (g := (mkF m 266 #[iv i0, iv i1, iv i2, iv i3, iv i4, iv b0, iv v3, iv v7, iv v11, iv b4, rv b16, iv v31, iv (3 : Int32), iv v121, iv v125, iv q1, iv v145, iv q2, .unset, .unset] [(.int b4), (.int (3 : Int32)), (.int (3 : Int32)), (.int (-3 : Int32)), (.int v145), (.ref b16)])) rfl (by rw [hml]; rfl) (argsL := [(.ref b16), (.int v145), (.int (-3 : Int32)), (.int (3 : Int32)), (.int (3 : Int32)), (.int b4)]) (rest := []) (lenOf pd0_2 rfl) rfl (by show 2 * 0 + _ ≤ _; exact Nat.le_of_eq rfl) (hb hby at_266) (fun _ _ => ⟨rfl, e154, (by decide : 1 + 0 ≤ _), (by decide : 6 + 0 ≤ _)⟩)
              dsimp only [Pt.U, Pt.locs, Pt.cells, Pt.slots] at X169 l169 y169 z169 st169 hQ169
              subst l169 y169 z169
              obtain ⟨rfl, Nq169⟩ := hQ169
              have N169 := Fr.app N166 Nq169
              have e169 : T169.heap = T169.heap := rfl
              obtain ⟨LL170, X170, N170⟩ : ∃ LL, Stand p l e room_1 s m #[(.int i0), (.int i1), (.int i2), (.int i3), (.int i4)] below meth c T169 LL 1 6 ∧ Fr n0 LL := ⟨_, X169, N169⟩
              have pre171 : ∀ t, own_s p e below T169 m 269 #[iv i0, iv i1, iv i2, iv i3, iv i4, iv b0, iv v3, iv v7, iv v11, iv b4, rv b16, iv v31, iv (3 : Int32), iv v121, iv v125, iv q1, iv v145, iv q2, .unset, .unset] [(.int (1 : Int32))] t → Steps p.tables e below S0 t := fun tX kX => pre168 _ (st169 _ kX)
              subst hS0
              obtain ⟨fs, hr, hrun, hended, hW, hsame⟩ := X170.leave (v := (some (.int (1 : Int32)))) (fun h => by rw [Bd.returns] at h; cases h)
              refine ⟨_, _, pre171 _ (retN X170 hx (t := .boolean) Bd.returns (by simp) (hb hby at_269) hr), hrun, hended, _, _, rfl, ?_, ⟨_, rfl⟩, hW, hsame.mono (by decide) (by decide)⟩
              show Q0 Z i0 i1 i2 i3 i4 h0 n0 (some (.int (1 : Int32))) T169.heap _
              exact ⟨rfl, N170⟩
          · skip
            obtain ⟨LL172, X172, N172⟩ : ∃ LL, Stand p l e room_1 s m #[(.int i0), (.int i1), (.int i2), (.int i3), (.int i4)] below meth c T150 LL 1 6 ∧ Fr n0 LL := ⟨_, X150, N150⟩
            have pre173 : ∀ t, own_s p e below T150 m 241 #[iv i0, iv i1, iv i2, iv i3, iv i4, iv b0, iv v3, iv v7, iv v11, iv b4, rv b16, iv v31, iv (3 : Int32), iv v121, iv v125, iv q1, iv v145, iv q2, .unset, .unset] [(.int (0 : Int32))] t → Steps p.tables e below S0 t := fun tX kX => pre149 _ (st150 _ kX)
            have pre174 : ∀ t, own_s p e below T150 m 266 #[iv i0, iv i1, iv i2, iv i3, iv i4, iv b0, iv v3, iv v7, iv v11, iv b4, rv b16, iv v31, iv (3 : Int32), iv v121, iv v125, iv q1, iv v145, iv q2, .unset, .unset] [(.int b4), (.int (3 : Int32)), (.int (3 : Int32)), (.int (-3 : Int32)), (.int v145), (.ref b16)] t → Steps p.tables e below S0 t := by
              intro tX kX
              refine pre173 _ ?_
              show own_s p e below T150 m 241 #[iv i0, iv i1, iv i2, iv i3, iv i4, iv b0, iv v3, iv v7, iv v11, iv b4, rv b16, iv v31, iv (3 : Int32), iv v121, iv v125, iv q1, iv v145, iv q2, .unset, .unset] [(.int (0 : Int32))] _
              refine XS.ifYes X172.here hx rfl (pc0 := 241) (pc' := 255) rfl (hb hby at_241) rfl ((if0 _ _).trans (teq (by decide : (0 : Int32) = (0 : Int32))).1) (by decide) (by decide) ?_
              show own_s p e below T150 m 255 #[iv i0, iv i1, iv i2, iv i3, iv i4, iv b0, iv v3, iv v7, iv v11, iv b4, rv b16, iv v31, iv (3 : Int32), iv v121, iv v125, iv q1, iv v145, iv q2, .unset, .unset] [] _
              refine XS.aload X172.here hx rfl (hb hby at_255) rfl rfl ?_
              show own_s p e below T150 m 257 #[iv i0, iv i1, iv i2, iv i3, iv i4, iv b0, iv v3, iv v7, iv v11, iv b4, rv b16, iv v31, iv (3 : Int32), iv v121, iv v125, iv q1, iv v145, iv q2, .unset, .unset] [(.ref b16)] _
              refine XS.iload X172.here hx rfl (hb hby at_257) rfl ?_
              show own_s p e below T150 m 259 #[iv i0, iv i1, iv i2, iv i3, iv i4, iv b0, iv v3, iv v7, iv v11, iv b4, rv b16, iv v31, iv (3 : Int32), iv v121, iv v125, iv q1, iv v145, iv q2, .unset, .unset] [(.int v145), (.ref b16)] _
              refine XS.bipush X172.here hx rfl (hb hby at_259) ?_
              show own_s p e below T150 m 261 #[iv i0, iv i1, iv i2, iv i3, iv i4, iv b0, iv v3, iv v7, iv v11, iv b4, rv b16, iv v31, iv (3 : Int32), iv v121, iv v125, iv q1, iv v145, iv q2, .unset, .unset] [(.int (-3 : Int32)), (.int v145), (.ref b16)] _
              refine XS.iload X172.here hx rfl (hb hby at_261) rfl ?_
              show own_s p e below T150 m 263 #[iv i0, iv i1, iv i2, iv i3, iv i4, iv b0, iv v3, iv v7, iv v11, iv b4, rv b16, iv v31, iv (3 : Int32), iv v121, iv v125, iv q1, iv v145, iv q2, .unset, .unset] [(.int (3 : Int32)), (.int (-3 : Int32)), (.int v145), (.ref b16)] _
              refine XS.iconst X172.here hx rfl (hb hby at_263) ?_
              show own_s p e below T150 m 264 #[iv i0, iv i1, iv i2, iv i3, iv i4, iv b0, iv v3, iv v7, iv v11, iv b4, rv b16, iv v31, iv (3 : Int32), iv v121, iv v125, iv q1, iv v145, iv q2, .unset, .unset] [(.int (3 : Int32)), (.int (3 : Int32)), (.int (-3 : Int32)), (.int v145), (.ref b16)] _
              refine XS.iload X172.here hx rfl (hb hby at_264) rfl ?_
              exact kX
            obtain ⟨_, _, ⟨T175, L175, k175, n175⟩, -, X175, ⟨Lc175, hQ175, l175, y175, z175⟩, st175⟩ := Jvm.LawKit.callS X172 hx (y := (⟨"com/example/weaverbird/weaverbird/model/xml/Utf8DecoderTakePinLaw", "ended", "(Lcom/example/weaverbird/weaverbird/model/xml/Utf8Decoder;IIIII)Z"⟩ : MethodName)) hown (mvT hZ (hw _ (List.mem_of_getElem? (i := 33) rfl))) (mvT hZ (hw _ (List.mem_of_getElem? (i := 34) rfl))) (mvT hZ (hw _ (List.mem_of_getElem? (i := 2) rfl))) (mvT hZ (hw _ (List.mem_of_getElem? (i := 35) rfl))) (by decide) (backOf (W := 0) (rm16 l Z a0 hw [] b16 v145 (-3 : Int32) (3 : Int32) (3 : Int32) b4 pa145 le145 ta145 lo145 hi145 re145 T145.heap n0 Z145 fE145 f145_pa f145_le f145_ta f145_lo f145_hi f145_re g_b16 (own_eqI (show (re145).toInt = ((0 : Int32)).toInt from (by omega : (re145).toInt = (0 : Int)))) (own_eqI (show (v145).toInt = ((-3 : Int32)).toInt from (by omega : (v145).toInt = (-3 : Int)))) (own_eqI (show (le145).toInt = ((3 : Int32)).toInt from (by omega : (le145).toInt = (3 : Int)))) (own_eqI (show (ta145).toInt = ((3 : Int32)).toInt from (by omega : (ta145).toInt = (3 : Int)))) (by omega) (by omega)) hZ (hw _ (List.mem_of_getElem? (i := 35) rfl)) (hw _ (List.mem_of_getElem? (i := 2) rfl)) (by decide) (by decide)) (g := (mkF m 266 #[iv i0, iv i1, iv i2, iv i3, iv i4, iv b0, iv v3, iv v7, iv v11, iv b4, rv b16, iv v31, iv (3 : Int32), iv v121, iv v125, iv q1, iv v145, iv q2, .unset, .unset] [(.int b4), (.int (3 : Int32)), (.int (3 : Int32)), (.int (-3 : Int32)), (.int v145), (.ref b16)])) rfl (by rw [hml]; rfl) (argsL := [(.ref b16), (.int v145), (.int (-3 : Int32)), (.int (3 : Int32)), (.int (3 : Int32)), (.int b4)]) (rest := []) (lenOf pd0_2 rfl) rfl (by show 2 * 0 + _ ≤ _; exact Nat.le_of_eq rfl) (hb hby at_266) (fun _ _ => ⟨rfl, e150, (by decide : 1 + 0 ≤ _), (by decide : 6 + 0 ≤ _)⟩)
            dsimp only [Pt.U, Pt.locs, Pt.cells, Pt.slots] at X175 l175 y175 z175 st175 hQ175
            subst l175 y175 z175
            obtain ⟨rfl, Nq175⟩ := hQ175
            have N175 := Fr.app N172 Nq175
            have e175 : T175.heap = T175.heap := rfl
            obtain ⟨LL176, X176, N176⟩ : ∃ LL, Stand p l e room_1 s m #[(.int i0), (.int i1), (.int i2), (.int i3), (.int i4)] below meth c T175 LL 1 6 ∧ Fr n0 LL := ⟨_, X175, N175⟩
            have pre177 : ∀ t, own_s p e below T175 m 269 #[iv i0, iv i1, iv i2, iv i3, iv i4, iv b0, iv v3, iv v7, iv v11, iv b4, rv b16, iv v31, iv (3 : Int32), iv v121, iv v125, iv q1, iv v145, iv q2, .unset, .unset] [(.int (1 : Int32))] t → Steps p.tables e below S0 t := fun tX kX => pre174 _ (st175 _ kX)
            subst hS0
            obtain ⟨fs, hr, hrun, hended, hW, hsame⟩ := X176.leave (v := (some (.int (1 : Int32)))) (fun h => by rw [Bd.returns] at h; cases h)
            refine ⟨_, _, pre177 _ (retN X176 hx (t := .boolean) Bd.returns (by simp) (hb hby at_269) hr), hrun, hended, _, _, rfl, ?_, ⟨_, rfl⟩, hW, hsame.mono (by decide) (by decide)⟩
            show Q0 Z i0 i1 i2 i3 i4 h0 n0 (some (.int (1 : Int32))) T175.heap _
            exact ⟨rfl, N176⟩
        · skip
          obtain ⟨LL178, X178, N178⟩ : ∃ LL, Stand p l e room_1 s m #[(.int i0), (.int i1), (.int i2), (.int i3), (.int i4)] below meth c T134 LL 1 6 ∧ Fr n0 LL := ⟨_, X134, N134⟩
          have pre179 : ∀ t, own_s p e below T134 m 168 #[iv i0, iv i1, iv i2, iv i3, iv i4, iv b0, iv v3, iv v7, iv v11, iv b4, rv b16, iv v31, iv (3 : Int32), iv v121, iv v125, iv q1, .unset, .unset, .unset, .unset] [(.int (0 : Int32))] t → Steps p.tables e below S0 t := fun tX kX => pre133 _ (st134 _ kX)
          have pre180 : ∀ t, own_s p e below T134 m 182 #[iv i0, iv i1, iv i2, iv i3, iv i4, iv b0, iv v3, iv v7, iv v11, iv b4, rv b16, iv v31, iv (3 : Int32), iv v121, iv v125, iv q1, .unset, .unset, .unset, .unset] [(.int b4), (.int (2 : Int32)), (.int (3 : Int32)), (.int (-3 : Int32)), (.int v125), (.ref b16)] t → Steps p.tables e below S0 t := by
            intro tX kX
            refine pre179 _ ?_
            show own_s p e below T134 m 168 #[iv i0, iv i1, iv i2, iv i3, iv i4, iv b0, iv v3, iv v7, iv v11, iv b4, rv b16, iv v31, iv (3 : Int32), iv v121, iv v125, iv q1, .unset, .unset, .unset, .unset] [(.int (0 : Int32))] _
            refine XS.ifNo X178.here hx rfl (hb hby at_168) rfl ((if0 _ _).trans (teq (by decide : (0 : Int32) = (0 : Int32))).2) ?_
            show own_s p e below T134 m 171 #[iv i0, iv i1, iv i2, iv i3, iv i4, iv b0, iv v3, iv v7, iv v11, iv b4, rv b16, iv v31, iv (3 : Int32), iv v121, iv v125, iv q1, .unset, .unset, .unset, .unset] [] _
            refine XS.aload X178.here hx rfl (hb hby at_171) rfl rfl ?_
            show own_s p e below T134 m 173 #[iv i0, iv i1, iv i2, iv i3, iv i4, iv b0, iv v3, iv v7, iv v11, iv b4, rv b16, iv v31, iv (3 : Int32), iv v121, iv v125, iv q1, .unset, .unset, .unset, .unset] [(.ref b16)] _
            refine XS.iload X178.here hx rfl (hb hby at_173) rfl ?_
            show own_s p e below T134 m 175 #[iv i0, iv i1, iv i2, iv i3, iv i4, iv b0, iv v3, iv v7, iv v11, iv b4, rv b16, iv v31, iv (3 : Int32), iv v121, iv v125, iv q1, .unset, .unset, .unset, .unset] [(.int v125), (.ref b16)] _
            refine XS.bipush X178.here hx rfl (hb hby at_175) ?_
            show own_s p e below T134 m 177 #[iv i0, iv i1, iv i2, iv i3, iv i4, iv b0, iv v3, iv v7, iv v11, iv b4, rv b16, iv v31, iv (3 : Int32), iv v121, iv v125, iv q1, .unset, .unset, .unset, .unset] [(.int (-3 : Int32)), (.int v125), (.ref b16)] _
            refine XS.iload X178.here hx rfl (hb hby at_177) rfl ?_
            show own_s p e below T134 m 179 #[iv i0, iv i1, iv i2, iv i3, iv i4, iv b0, iv v3, iv v7, iv v11, iv b4, rv b16, iv v31, iv (3 : Int32), iv v121, iv v125, iv q1, .unset, .unset, .unset, .unset] [(.int (3 : Int32)), (.int (-3 : Int32)), (.int v125), (.ref b16)] _
            refine XS.iconst X178.here hx rfl (hb hby at_179) ?_
            show own_s p e below T134 m 180 #[iv i0, iv i1, iv i2, iv i3, iv i4, iv b0, iv v3, iv v7, iv v11, iv b4, rv b16, iv v31, iv (3 : Int32), iv v121, iv v125, iv q1, .unset, .unset, .unset, .unset] [(.int (2 : Int32)), (.int (3 : Int32)), (.int (-3 : Int32)), (.int v125), (.ref b16)] _
            refine XS.iload X178.here hx rfl (hb hby at_180) rfl ?_
            exact kX
          obtain ⟨_, _, ⟨T181, L181, k181, n181⟩, -, X181, ⟨Lc181, hQ181, l181, y181, z181⟩, st181⟩ := Jvm.LawKit.callS X178 hx (y := (⟨"com/example/weaverbird/weaverbird/model/xml/Utf8DecoderTakePinLaw", "ended", "(Lcom/example/weaverbird/weaverbird/model/xml/Utf8Decoder;IIIII)Z"⟩ : MethodName)) hown (mvT hZ (hw _ (List.mem_of_getElem? (i := 33) rfl))) (mvT hZ (hw _ (List.mem_of_getElem? (i := 34) rfl))) (mvT hZ (hw _ (List.mem_of_getElem? (i := 2) rfl))) (mvT hZ (hw _ (List.mem_of_getElem? (i := 35) rfl))) (by decide) (backOf (W := 0) (rm16 l Z a0 hw [] b16 v125 (-3 : Int32) (3 : Int32) (2 : Int32) b4 pa125 le125 ta125 lo125 hi125 re125 T125.heap n0 Z125 fE125 f125_pa f125_le f125_ta f125_lo f125_hi f125_re g_b16 (own_eqI (show (re125).toInt = ((0 : Int32)).toInt from (by omega : (re125).toInt = (0 : Int)))) (own_eqI (show (v125).toInt = ((-3 : Int32)).toInt from (by omega : (v125).toInt = (-3 : Int)))) (own_eqI (show (le125).toInt = ((3 : Int32)).toInt from (by omega : (le125).toInt = (3 : Int)))) (own_eqI (show (ta125).toInt = ((2 : Int32)).toInt from (by omega : (ta125).toInt = (2 : Int)))) (by omega) (by omega)) hZ (hw _ (List.mem_of_getElem? (i := 35) rfl)) (hw _ (List.mem_of_getElem? (i := 2) rfl)) (by decide) (by decide)) (g := (mkF m 182 #[iv i0, iv i1, iv i2, iv i3, iv i4, iv b0, iv v3, iv v7, iv v11, iv b4, rv b16, iv v31, iv (3 : Int32), iv v121, iv v125, iv q1, .unset, .unset, .unset, .unset] [(.int b4), (.int (2 : Int32)), (.int (3 : Int32)), (.int (-3 : Int32)), (.int v125), (.ref b16)])) rfl (by rw [hml]; rfl) (argsL := [(.ref b16), (.int v125), (.int (-3 : Int32)), (.int (3 : Int32)), (.int (2 : Int32)), (.int b4)]) (rest := []) (lenOf pd0_2 rfl) rfl (by show 2 * 0 + _ ≤ _; exact Nat.le_of_eq rfl) (hb hby at_182) (fun _ _ => ⟨rfl, e134, (by decide : 1 + 0 ≤ _), (by decide : 6 + 0 ≤ _)⟩)
          dsimp only [Pt.U, Pt.locs, Pt.cells, Pt.slots] at X181 l181 y181 z181 st181 hQ181
          subst l181 y181 z181
          obtain ⟨rfl, Nq181⟩ := hQ181
          have N181 := Fr.app N178 Nq181
          have e181 : T181.heap = T181.heap := rfl
          obtain ⟨LL182, X182, N182⟩ : ∃ LL, Stand p l e room_1 s m #[(.int i0), (.int i1), (.int i2), (.int i3), (.int i4)] below meth c T181 LL 1 6 ∧ Fr n0 LL := ⟨_, X181, N181⟩
          have pre183 : ∀ t, own_s p e below T181 m 185 #[iv i0, iv i1, iv i2, iv i3, iv i4, iv b0, iv v3, iv v7, iv v11, iv b4, rv b16, iv v31, iv (3 : Int32), iv v121, iv v125, iv q1, .unset, .unset, .unset, .unset] [(.int (1 : Int32))] t → Steps p.tables e below S0 t := fun tX kX => pre180 _ (st181 _ kX)
          subst hS0
          obtain ⟨fs, hr, hrun, hended, hW, hsame⟩ := X182.leave (v := (some (.int (1 : Int32)))) (fun h => by rw [Bd.returns] at h; cases h)
          refine ⟨_, _, pre183 _ (retN X182 hx (t := .boolean) Bd.returns (by simp) (hb hby at_185) hr), hrun, hended, _, _, rfl, ?_, ⟨_, rfl⟩, hW, hsame.mono (by decide) (by decide)⟩
          show Q0 Z i0 i1 i2 i3 i4 h0 n0 (some (.int (1 : Int32))) T181.heap _
          exact ⟨rfl, N182⟩
      · skip
        obtain ⟨LL184, X184, N184⟩ : ∃ LL, Stand p l e room_1 s m #[(.int i0), (.int i1), (.int i2), (.int i3), (.int i4)] below meth c T130 LL 1 6 ∧ Fr n0 LL := ⟨_, X130, N130⟩
        have pre185 : ∀ t, own_s p e below T130 m 157 #[iv i0, iv i1, iv i2, iv i3, iv i4, iv b0, iv v3, iv v7, iv v11, iv b4, rv b16, iv v31, iv (3 : Int32), iv v121, iv v125, iv q1, .unset, .unset, .unset, .unset] [(.int (0 : Int32))] t → Steps p.tables e below S0 t := fun tX kX => pre129 _ (st130 _ kX)
        have pre186 : ∀ t, own_s p e below T130 m 182 #[iv i0, iv i1, iv i2, iv i3, iv i4, iv b0, iv v3, iv v7, iv v11, iv b4, rv b16, iv v31, iv (3 : Int32), iv v121, iv v125, iv q1, .unset, .unset, .unset, .unset] [(.int b4), (.int (2 : Int32)), (.int (3 : Int32)), (.int (-3 : Int32)), (.int v125), (.ref b16)] t → Steps p.tables e below S0 t := by
          intro tX kX
          refine pre185 _ ?_
          show own_s p e below T130 m 157 #[iv i0, iv i1, iv i2, iv i3, iv i4, iv b0, iv v3, iv v7, iv v11, iv b4, rv b16, iv v31, iv (3 : Int32), iv v121, iv v125, iv q1, .unset, .unset, .unset, .unset] [(.int (0 : Int32))] _
          refine XS.ifYes X184.here hx rfl (pc0 := 157) (pc' := 171) rfl (hb hby at_157) rfl ((if0 _ _).trans (teq (by decide : (0 : Int32) = (0 : Int32))).1) (by decide) (by decide) ?_
          show own_s p e below T130 m 171 #[iv i0, iv i1, iv i2, iv i3, iv i4, iv b0, iv v3, iv v7, iv v11, iv b4, rv b16, iv v31, iv (3 : Int32), iv v121, iv v125, iv q1, .unset, .unset, .unset, .unset] [] _
          refine XS.aload X184.here hx rfl (hb hby at_171) rfl rfl ?_
          show own_s p e below T130 m 173 #[iv i0, iv i1, iv i2, iv i3, iv i4, iv b0, iv v3, iv v7, iv v11, iv b4, rv b16, iv v31, iv (3 : Int32), iv v121, iv v125, iv q1, .unset, .unset, .unset, .unset] [(.ref b16)] _
          refine XS.iload X184.here hx rfl (hb hby at_173) rfl ?_
          show own_s p e below T130 m 175 #[iv i0, iv i1, iv i2, iv i3, iv i4, iv b0, iv v3, iv v7, iv v11, iv b4, rv b16, iv v31, iv (3 : Int32), iv v121, iv v125, iv q1, .unset, .unset, .unset, .unset] [(.int v125), (.ref b16)] _
          refine XS.bipush X184.here hx rfl (hb hby at_175) ?_
          show own_s p e below T130 m 177 #[iv i0, iv i1, iv i2, iv i3, iv i4, iv b0, iv v3, iv v7, iv v11, iv b4, rv b16, iv v31, iv (3 : Int32), iv v121, iv v125, iv q1, .unset, .unset, .unset, .unset] [(.int (-3 : Int32)), (.int v125), (.ref b16)] _
          refine XS.iload X184.here hx rfl (hb hby at_177) rfl ?_
          show own_s p e below T130 m 179 #[iv i0, iv i1, iv i2, iv i3, iv i4, iv b0, iv v3, iv v7, iv v11, iv b4, rv b16, iv v31, iv (3 : Int32), iv v121, iv v125, iv q1, .unset, .unset, .unset, .unset] [(.int (3 : Int32)), (.int (-3 : Int32)), (.int v125), (.ref b16)] _
          refine XS.iconst X184.here hx rfl (hb hby at_179) ?_
          show own_s p e below T130 m 180 #[iv i0, iv i1, iv i2, iv i3, iv i4, iv b0, iv v3, iv v7, iv v11, iv b4, rv b16, iv v31, iv (3 : Int32), iv v121, iv v125, iv q1, .unset, .unset, .unset, .unset] [(.int (2 : Int32)), (.int (3 : Int32)), (.int (-3 : Int32)), (.int v125), (.ref b16)] _
          refine XS.iload X184.here hx rfl (hb hby at_180) rfl ?_
          exact kX
        obtain ⟨_, _, ⟨T187, L187, k187, n187⟩, -, X187, ⟨Lc187, hQ187, l187, y187, z187⟩, st187⟩ := Jvm.LawKit.callS X184 hx (y := (⟨"com/example/weaverbird/weaverbird/model/xml/Utf8DecoderTakePinLaw", "ended", "(Lcom/example/weaverbird/weaverbird/model/xml/Utf8Decoder;IIIII)Z"⟩ : MethodName)) hown (mvT hZ (hw _ (List.mem_of_getElem? (i := 33) rfl))) (mvT hZ (hw _ (List.mem_of_getElem? (i := 34) rfl))) (mvT hZ (hw _ (List.mem_of_getElem? (i := 2) rfl))) (mvT hZ (hw _ (List.mem_of_getElem? (i := 35) rfl))) (by decide) (backOf (W := 0) (rm16 l Z a0 hw [] b16 v125 (-3 : Int32) (3 : Int32) (2 : Int32) b4 pa125 le125 ta125 lo125 hi125 re125 T125.heap n0 Z125 fE125 f125_pa f125_le f125_ta f125_lo f125_hi f125_re g_b16 (own_eqI (show (re125).toInt = ((0 : Int32)).toInt from (by omega : (re125).toInt = (0 : Int)))) (own_eqI (show (v125).toInt = ((-3 : Int32)).toInt from (by omega : (v125).toInt = (-3 : Int)))) (own_eqI (show (le125).toInt = ((3 : Int32)).toInt from (by omega : (le125).toInt = (3 : Int)))) (own_eqI (show (ta125).toInt = ((2 : Int32)).toInt from (by omega : (ta125).toInt = (2 : Int)))) (by omega) (by omega)) hZ (hw _ (List.mem_of_getElem? (i := 35) rfl)) (hw _ (List.mem_of_getElem? (i := 2) rfl)) (by decide) (by decide)) (g := (mkF m 182 #[iv i0, iv i1, iv i2, iv i3, iv i4, iv b0, iv v3, iv v7, iv v11, iv b4, rv b16, iv v31, iv (3 : Int32), iv v121, iv v125, iv q1, .unset, .unset, .unset, .unset] [(.int b4), (.int (2 : Int32)), (.int (3 : Int32)), (.int (-3 : Int32)), (.int v125), (.ref b16)])) rfl (by rw [hml]; rfl) (argsL := [(.ref b16), (.int v125), (.int (-3 : Int32)), (.int (3 : Int32)), (.int (2 : Int32)), (.int b4)]) (rest := []) (lenOf pd0_2 rfl) rfl (by show 2 * 0 + _ ≤ _; exact Nat.le_of_eq rfl) (hb hby at_182) (fun _ _ => ⟨rfl, e130, (by decide : 1 + 0 ≤ _), (by decide : 6 + 0 ≤ _)⟩)
        dsimp only [Pt.U, Pt.locs, Pt.cells, Pt.slots] at X187 l187 y187 z187 st187 hQ187
        subst l187 y187 z187
        obtain ⟨rfl, Nq187⟩ := hQ187
        have N187 := Fr.app N184 Nq187
        have e187 : T187.heap = T187.heap := rfl
        obtain ⟨LL188, X188, N188⟩ : ∃ LL, Stand p l e room_1 s m #[(.int i0), (.int i1), (.int i2), (.int i3), (.int i4)] below meth c T187 LL 1 6 ∧ Fr n0 LL := ⟨_, X187, N187⟩
        have pre189 : ∀ t, own_s p e below T187 m 185 #[iv i0, iv i1, iv i2, iv i3, iv i4, iv b0, iv v3, iv v7, iv v11, iv b4, rv b16, iv v31, iv (3 : Int32), iv v121, iv v125, iv q1, .unset, .unset, .unset, .unset] [(.int (1 : Int32))] t → Steps p.tables e below S0 t := fun tX kX => pre186 _ (st187 _ kX)
        subst hS0
        obtain ⟨fs, hr, hrun, hended, hW, hsame⟩ := X188.leave (v := (some (.int (1 : Int32)))) (fun h => by rw [Bd.returns] at h; cases h)
        refine ⟨_, _, pre189 _ (retN X188 hx (t := .boolean) Bd.returns (by simp) (hb hby at_185) hr), hrun, hended, _, _, rfl, ?_, ⟨_, rfl⟩, hW, hsame.mono (by decide) (by decide)⟩
        show Q0 Z i0 i1 i2 i3 i4 h0 n0 (some (.int (1 : Int32))) T187.heap _
        exact ⟨rfl, N188⟩
    · skip
      obtain ⟨LL190, X190, N190⟩ : ∃ LL, Stand p l e room_1 s m #[(.int i0), (.int i1), (.int i2), (.int i3), (.int i4)] below meth c T110 LL 1 6 ∧ Fr n0 LL := ⟨_, X110, N110⟩
      have pre191 : ∀ t, own_s p e below T110 m 96 #[iv i0, iv i1, iv i2, iv i3, iv i4, iv b0, iv v3, iv v7, iv v11, iv b4, rv b16, iv v31, iv (3 : Int32), .unset, .unset, .unset, .unset, .unset, .unset, .unset] [(.int (0 : Int32))] t → Steps p.tables e below S0 t := fun tX kX => pre109 _ (st110 _ kX)
      have pre192 : ∀ t, own_s p e below T110 m 109 #[iv i0, iv i1, iv i2, iv i3, iv i4, iv b0, iv v3, iv v7, iv v11, iv b4, rv b16, iv v31, iv (3 : Int32), .unset, .unset, .unset, .unset, .unset, .unset, .unset] [(.int b4), (.int (1 : Int32)), (.int (1 : Int32)), (.int (-3 : Int32)), (.int v31), (.ref b16)] t → Steps p.tables e below S0 t := by
        intro tX kX
        refine pre191 _ ?_
        show own_s p e below T110 m 96 #[iv i0, iv i1, iv i2, iv i3, iv i4, iv b0, iv v3, iv v7, iv v11, iv b4, rv b16, iv v31, iv (3 : Int32), .unset, .unset, .unset, .unset, .unset, .unset, .unset] [(.int (0 : Int32))] _
        refine XS.ifNo X190.here hx rfl (hb hby at_96) rfl ((if0 _ _).trans (teq (by decide : (0 : Int32) = (0 : Int32))).2) ?_
        show own_s p e below T110 m 99 #[iv i0, iv i1, iv i2, iv i3, iv i4, iv b0, iv v3, iv v7, iv v11, iv b4, rv b16, iv v31, iv (3 : Int32), .unset, .unset, .unset, .unset, .unset, .unset, .unset] [] _
        refine XS.aload X190.here hx rfl (hb hby at_99) rfl rfl ?_
        show own_s p e below T110 m 101 #[iv i0, iv i1, iv i2, iv i3, iv i4, iv b0, iv v3, iv v7, iv v11, iv b4, rv b16, iv v31, iv (3 : Int32), .unset, .unset, .unset, .unset, .unset, .unset, .unset] [(.ref b16)] _
        refine XS.iload X190.here hx rfl (hb hby at_101) rfl ?_
        show own_s p e below T110 m 103 #[iv i0, iv i1, iv i2, iv i3, iv i4, iv b0, iv v3, iv v7, iv v11, iv b4, rv b16, iv v31, iv (3 : Int32), .unset, .unset, .unset, .unset, .unset, .unset, .unset] [(.int v31), (.ref b16)] _
        refine XS.bipush X190.here hx rfl (hb hby at_103) ?_
        show own_s p e below T110 m 105 #[iv i0, iv i1, iv i2, iv i3, iv i4, iv b0, iv v3, iv v7, iv v11, iv b4, rv b16, iv v31, iv (3 : Int32), .unset, .unset, .unset, .unset, .unset, .unset, .unset] [(.int (-3 : Int32)), (.int v31), (.ref b16)] _
        refine XS.iconst X190.here hx rfl (hb hby at_105) ?_
        show own_s p e below T110 m 106 #[iv i0, iv i1, iv i2, iv i3, iv i4, iv b0, iv v3, iv v7, iv v11, iv b4, rv b16, iv v31, iv (3 : Int32), .unset, .unset, .unset, .unset, .unset, .unset, .unset] [(.int (1 : Int32)), (.int (-3 : Int32)), (.int v31), (.ref b16)] _
        refine XS.iconst X190.here hx rfl (hb hby at_106) ?_
        show own_s p e below T110 m 107 #[iv i0, iv i1, iv i2, iv i3, iv i4, iv b0, iv v3, iv v7, iv v11, iv b4, rv b16, iv v31, iv (3 : Int32), .unset, .unset, .unset, .unset, .unset, .unset, .unset] [(.int (1 : Int32)), (.int (1 : Int32)), (.int (-3 : Int32)), (.int v31), (.ref b16)] _
        refine XS.iload X190.here hx rfl (hb hby at_107) rfl ?_
        exact kX
      obtain ⟨_, _, ⟨T193, L193, k193, n193⟩, -, X193, ⟨Lc193, hQ193, l193, y193, z193⟩, st193⟩ := Jvm.LawKit.callS X190 hx (y := (⟨"com/example/weaverbird/weaverbird/model/xml/Utf8DecoderTakePinLaw", "ended", "(Lcom/example/weaverbird/weaverbird/model/xml/Utf8Decoder;IIIII)Z"⟩ : MethodName)) hown (mvT hZ (hw _ (List.mem_of_getElem? (i := 33) rfl))) (mvT hZ (hw _ (List.mem_of_getElem? (i := 34) rfl))) (mvT hZ (hw _ (List.mem_of_getElem? (i := 2) rfl))) (mvT hZ (hw _ (List.mem_of_getElem? (i := 35) rfl))) (by decide) (backOf (W := 0) (rm16 l Z a0 hw [] b16 v31 (-3 : Int32) (1 : Int32) (1 : Int32) b4 pa31 le31 ta31 lo31 hi31 re31 T31.heap n0 Z31 fE31 f31_pa f31_le f31_ta f31_lo f31_hi f31_re g_b16 (own_eqI (show (re31).toInt = ((0 : Int32)).toInt from (by omega : (re31).toInt = (0 : Int)))) (own_eqI (show (v31).toInt = ((-3 : Int32)).toInt from (by omega : (v31).toInt = (-3 : Int)))) (own_eqI (show (le31).toInt = ((1 : Int32)).toInt from (by omega : (le31).toInt = (1 : Int)))) (own_eqI (show (ta31).toInt = ((1 : Int32)).toInt from (by omega : (ta31).toInt = (1 : Int)))) (by omega) (by omega)) hZ (hw _ (List.mem_of_getElem? (i := 35) rfl)) (hw _ (List.mem_of_getElem? (i := 2) rfl)) (by decide) (by decide)) (g := (mkF m 109 #[iv i0, iv i1, iv i2, iv i3, iv i4, iv b0, iv v3, iv v7, iv v11, iv b4, rv b16, iv v31, iv (3 : Int32), .unset, .unset, .unset, .unset, .unset, .unset, .unset] [(.int b4), (.int (1 : Int32)), (.int (1 : Int32)), (.int (-3 : Int32)), (.int v31), (.ref b16)])) rfl (by rw [hml]; rfl) (argsL := [(.ref b16), (.int v31), (.int (-3 : Int32)), (.int (1 : Int32)), (.int (1 : Int32)), (.int b4)]) (rest := []) (lenOf pd0_2 rfl) rfl (by show 2 * 0 + _ ≤ _; exact Nat.le_of_eq rfl) (hb hby at_109) (fun _ _ => ⟨rfl, e110, (by decide : 1 + 0 ≤ _), (by decide : 6 + 0 ≤ _)⟩)
      dsimp only [Pt.U, Pt.locs, Pt.cells, Pt.slots] at X193 l193 y193 z193 st193 hQ193
      subst l193 y193 z193
      obtain ⟨rfl, Nq193⟩ := hQ193
      have N193 := Fr.app N190 Nq193
      have e193 : T193.heap = T193.heap := rfl
      obtain ⟨LL194, X194, N194⟩ : ∃ LL, Stand p l e room_1 s m #[(.int i0), (.int i1), (.int i2), (.int i3), (.int i4)] below meth c T193 LL 1 6 ∧ Fr n0 LL := ⟨_, X193, N193⟩
      have pre195 : ∀ t, own_s p e below T193 m 112 #[iv i0, iv i1, iv i2, iv i3, iv i4, iv b0, iv v3, iv v7, iv v11, iv b4, rv b16, iv v31, iv (3 : Int32), .unset, .unset, .unset, .unset, .unset, .unset, .unset] [(.int (1 : Int32))] t → Steps p.tables e below S0 t := fun tX kX => pre192 _ (st193 _ kX)
      subst hS0
      obtain ⟨fs, hr, hrun, hended, hW, hsame⟩ := X194.leave (v := (some (.int (1 : Int32)))) (fun h => by rw [Bd.returns] at h; cases h)
      refine ⟨_, _, pre195 _ (retN X194 hx (t := .boolean) Bd.returns (by simp) (hb hby at_112) hr), hrun, hended, _, _, rfl, ?_, ⟨_, rfl⟩, hW, hsame.mono (by decide) (by decide)⟩
      show Q0 Z i0 i1 i2 i3 i4 h0 n0 (some (.int (1 : Int32))) T193.heap _
      exact ⟨rfl, N194⟩
  · skip
    obtain ⟨LL196, X196, N196⟩ : ∃ LL, Stand p l e room_1 s m #[(.int i0), (.int i1), (.int i2), (.int i3), (.int i4)] below meth c T35 LL 1 6 ∧ Fr n0 LL := ⟨_, X35, N35⟩
    have pre197 : ∀ t, own_s p e below T35 m 56 #[iv i0, iv i1, iv i2, iv i3, iv i4, iv b0, iv v3, iv v7, iv v11, iv b4, rv b16, iv v31, .unset, .unset, .unset, .unset, .unset, .unset, .unset, .unset] [(.int (4 : Int32))] t → Steps p.tables e below S0 t := fun tX kX => pre34 _ (st35 _ kX)
    have pre198 : ∀ t, own_s p e below T35 m 87 #[iv i0, iv i1, iv i2, iv i3, iv i4, iv b0, iv v3, iv v7, iv v11, iv b4, rv b16, iv v31, iv (4 : Int32), .unset, .unset, .unset, .unset, .unset, .unset, .unset] [(.int (4 : Int32)), (.int b0)] t → Steps p.tables e below S0 t := by
      intro tX kX
      refine pre197 _ ?_
      show own_s p e below T35 m 56 #[iv i0, iv i1, iv i2, iv i3, iv i4, iv b0, iv v3, iv v7, iv v11, iv b4, rv b16, iv v31, .unset, .unset, .unset, .unset, .unset, .unset, .unset, .unset] [(.int (4 : Int32))] _
      refine XS.istore X196.here hx rfl (hb hby at_56) rfl (l' := #[iv i0, iv i1, iv i2, iv i3, iv i4, iv b0, iv v3, iv v7, iv v11, iv b4, rv b16, iv v31, iv (4 : Int32), .unset, .unset, .unset, .unset, .unset, .unset, .unset]) rfl ?_
      show own_s p e below T35 m 58 #[iv i0, iv i1, iv i2, iv i3, iv i4, iv b0, iv v3, iv v7, iv v11, iv b4, rv b16, iv v31, iv (4 : Int32), .unset, .unset, .unset, .unset, .unset, .unset, .unset] [] _
      refine XS.iload X196.here hx rfl (hb hby at_58) rfl ?_
      show own_s p e below T35 m 60 #[iv i0, iv i1, iv i2, iv i3, iv i4, iv b0, iv v3, iv v7, iv v11, iv b4, rv b16, iv v31, iv (4 : Int32), .unset, .unset, .unset, .unset, .unset, .unset, .unset] [(.int (4 : Int32))] _
      refine XS.iconst X196.here hx rfl (hb hby at_60) ?_
      show own_s p e below T35 m 61 #[iv i0, iv i1, iv i2, iv i3, iv i4, iv b0, iv v3, iv v7, iv v11, iv b4, rv b16, iv v31, iv (4 : Int32), .unset, .unset, .unset, .unset, .unset, .unset, .unset] [(.int (1 : Int32)), (.int (4 : Int32))] _
      refine XS.icmpYes X196.here hx rfl (pc0 := 61) (pc' := 78) rfl (hb hby at_61) rfl (feq (by decide : ¬ ((4 : Int32) = (1 : Int32)))).2 (by decide) (by decide) ?_
      show own_s p e below T35 m 78 #[iv i0, iv i1, iv i2, iv i3, iv i4, iv b0, iv v3, iv v7, iv v11, iv b4, rv b16, iv v31, iv (4 : Int32), .unset, .unset, .unset, .unset, .unset, .unset, .unset] [] _
      refine XS.iload X196.here hx rfl (hb hby at_78) rfl ?_
      show own_s p e below T35 m 80 #[iv i0, iv i1, iv i2, iv i3, iv i4, iv b0, iv v3, iv v7, iv v11, iv b4, rv b16, iv v31, iv (4 : Int32), .unset, .unset, .unset, .unset, .unset, .unset, .unset] [(.int (4 : Int32))] _
      refine XS.ifNo X196.here hx rfl (hb hby at_80) rfl ((if0 _ _).trans (feq (by decide : ¬ ((4 : Int32) = (0 : Int32)))).1) ?_
      show own_s p e below T35 m 83 #[iv i0, iv i1, iv i2, iv i3, iv i4, iv b0, iv v3, iv v7, iv v11, iv b4, rv b16, iv v31, iv (4 : Int32), .unset, .unset, .unset, .unset, .unset, .unset, .unset] [] _
      refine XS.iload X196.here hx rfl (hb hby at_83) rfl ?_
      show own_s p e below T35 m 85 #[iv i0, iv i1, iv i2, iv i3, iv i4, iv b0, iv v3, iv v7, iv v11, iv b4, rv b16, iv v31, iv (4 : Int32), .unset, .unset, .unset, .unset, .unset, .unset, .unset] [(.int b0)] _
      refine XS.iload X196.here hx rfl (hb hby at_85) rfl ?_
      exact kX
    obtain ⟨_, _, ⟨T199, L199, k199, n199⟩, -, X199, ⟨Lc199, hQ199, l199, y199, z199⟩, st199⟩ := Jvm.LawKit.callS X196 hx (y := (⟨"com/example/weaverbird/weaverbird/model/xml/Utf8DecoderTakePinLaw", "leadBits", "(II)I"⟩ : MethodName)) hown (mvT hZ (hw _ (List.mem_of_getElem? (i := 49) rfl))) (mvT hZ (hw _ (List.mem_of_getElem? (i := 50) rfl))) (mvT hZ (hw _ (List.mem_of_getElem? (i := 2) rfl))) (mvT hZ (hw _ (List.mem_of_getElem? (i := 51) rfl))) (by decide) (backOf (W := 0) (rm10 l Z a0 hw [] b0  T31.heap n0 Z31 ) hZ (hw _ (List.mem_of_getElem? (i := 51) rfl)) (hw _ (List.mem_of_getElem? (i := 2) rfl)) (by decide) (by decide)) (g := (mkF m 87 #[iv i0, iv i1, iv i2, iv i3, iv i4, iv b0, iv v3, iv v7, iv v11, iv b4, rv b16, iv v31, iv (4 : Int32), .unset, .unset, .unset, .unset, .unset, .unset, .unset] [(.int (4 : Int32)), (.int b0)])) rfl (by rw [hml]; rfl) (argsL := [(.int b0), (.int (4 : Int32))]) (rest := []) (lenOf pd0_3 rfl) rfl (by show 2 * 0 + _ ≤ _; exact Nat.le_of_eq rfl) (hb hby at_87) (fun _ _ => ⟨rfl, e35, (by decide : 1 + 0 ≤ _), (by decide : 6 + 0 ≤ _)⟩)
    dsimp only [Pt.U, Pt.locs, Pt.cells, Pt.slots] at X199 l199 y199 z199 st199 hQ199
    subst l199 y199 z199
    obtain ⟨⟨v199, rfl, B199⟩, Nq199, e199⟩ := hQ199
    have N199 := Fr.app N196 Nq199
    obtain ⟨LL200, X200, N200⟩ : ∃ LL, Stand p l e room_1 s m #[(.int i0), (.int i1), (.int i2), (.int i3), (.int i4)] below meth c T199 LL 1 6 ∧ Fr n0 LL := ⟨_, X199, N199⟩
    have pre201 : ∀ t, own_s p e below T199 m 90 #[iv i0, iv i1, iv i2, iv i3, iv i4, iv b0, iv v3, iv v7, iv v11, iv b4, rv b16, iv v31, iv (4 : Int32), .unset, .unset, .unset, .unset, .unset, .unset, .unset] [(.int v199)] t → Steps p.tables e below S0 t := fun tX kX => pre198 _ (st199 _ kX)
    have pre202 : ∀ t, own_s p e below T199 m 93 #[iv i0, iv i1, iv i2, iv i3, iv i4, iv b0, iv v3, iv v7, iv v11, iv b4, rv b16, iv v31, iv (4 : Int32), .unset, .unset, .unset, .unset, .unset, .unset, .unset] [(.int (1 : Int32)), (.int (4 : Int32)), (.int v199)] t → Steps p.tables e below S0 t := by
      intro tX kX
      refine pre201 _ ?_
      show own_s p e below T199 m 90 #[iv i0, iv i1, iv i2, iv i3, iv i4, iv b0, iv v3, iv v7, iv v11, iv b4, rv b16, iv v31, iv (4 : Int32), .unset, .unset, .unset, .unset, .unset, .unset, .unset] [(.int v199)] _
      refine XS.iload X200.here hx rfl (hb hby at_90) rfl ?_
      show own_s p e below T199 m 92 #[iv i0, iv i1, iv i2, iv i3, iv i4, iv b0, iv v3, iv v7, iv v11, iv b4, rv b16, iv v31, iv (4 : Int32), .unset, .unset, .unset, .unset, .unset, .unset, .unset] [(.int (4 : Int32)), (.int v199)] _
      refine XS.iconst X200.here hx rfl (hb hby at_92) ?_
      exact kX
    obtain ⟨_, _, ⟨T203, L203, k203, n203⟩, -, X203, ⟨Lc203, hQ203, l203, y203, z203⟩, st203⟩ := Jvm.LawKit.callS X200 hx (y := (⟨"com/example/weaverbird/weaverbird/model/xml/Utf8DecoderTakePinLaw", "feasible", "(III)Z"⟩ : MethodName)) hown (mvT hZ (hw _ (List.mem_of_getElem? (i := 52) rfl))) (mvT hZ (hw _ (List.mem_of_getElem? (i := 53) rfl))) (mvT hZ (hw _ (List.mem_of_getElem? (i := 2) rfl))) (mvT hZ (hw _ (List.mem_of_getElem? (i := 54) rfl))) (by decide) (backOf (W := 0) (rm22 l Z a0 hw [] v199  T31.heap n0 Z31 (by omega) (by omega)) hZ (hw _ (List.mem_of_getElem? (i := 54) rfl)) (hw _ (List.mem_of_getElem? (i := 2) rfl)) (by decide) (by decide)) (g := (mkF m 93 #[iv i0, iv i1, iv i2, iv i3, iv i4, iv b0, iv v3, iv v7, iv v11, iv b4, rv b16, iv v31, iv (4 : Int32), .unset, .unset, .unset, .unset, .unset, .unset, .unset] [(.int (1 : Int32)), (.int (4 : Int32)), (.int v199)])) rfl (by rw [hml]; rfl) (argsL := [(.int v199), (.int (4 : Int32)), (.int (1 : Int32))]) (rest := []) (lenOf pd0_4 rfl) rfl (by show 2 * 0 + _ ≤ _; exact Nat.le_of_eq rfl) (hb hby at_93) (fun _ _ => ⟨rfl, e199, (by decide : 1 + 0 ≤ _), (by decide : 6 + 0 ≤ _)⟩)
    dsimp only [Pt.U, Pt.locs, Pt.cells, Pt.slots] at X203 l203 y203 z203 st203 hQ203
    subst l203 y203 z203
    obtain ⟨D203, Nq203, e203⟩ := hQ203
    have N203 := Fr.app N200 Nq203
    rcases D203 with ⟨rfl, B203⟩ | ⟨rfl, B203⟩
    · skip
      obtain ⟨LL204, X204, N204⟩ : ∃ LL, Stand p l e room_1 s m #[(.int i0), (.int i1), (.int i2), (.int i3), (.int i4)] below meth c T203 LL 1 6 ∧ Fr n0 LL := ⟨_, X203, N203⟩
      have pre205 : ∀ t, own_s p e below T203 m 96 #[iv i0, iv i1, iv i2, iv i3, iv i4, iv b0, iv v3, iv v7, iv v11, iv b4, rv b16, iv v31, iv (4 : Int32), .unset, .unset, .unset, .unset, .unset, .unset, .unset] [(.int (1 : Int32))] t → Steps p.tables e below S0 t := fun tX kX => pre202 _ (st203 _ kX)
      have y206 : v31.toInt = -1 := by omega
      have y207 : le31.toInt = 4 := by omega
      have y208 : ta31.toInt = 1 := by omega
      have y209 : re31.toInt = 1 := by omega
      have y210 : pa31.toInt = b0.toInt - 240 := by omega
      have y211 : (b0.toInt = 240 ∧ lo31.toInt = 144) ∨ (b0.toInt ≠ 240 ∧ lo31.toInt = 128) := by omega
      have y212 : (b0.toInt = 244 ∧ hi31.toInt = 143) ∨ (b0.toInt ≠ 244 ∧ hi31.toInt = 191) := by omega
      have y213 : b0.toInt ≤ 244 := by omega
      clear R31
      have pre214 : ∀ t, own_s p e below T203 m 125 #[iv i0, iv i1, iv i2, iv i3, iv i4, iv b0, iv v3, iv v7, iv v11, iv b4, rv b16, iv v31, iv (4 : Int32), .unset, .unset, .unset, .unset, .unset, .unset, .unset] [(.int (4 : Int32)), (.int b0)] t → Steps p.tables e below S0 t := by
        intro tX kX
        refine pre205 _ ?_
        show own_s p e below T203 m 96 #[iv i0, iv i1, iv i2, iv i3, iv i4, iv b0, iv v3, iv v7, iv v11, iv b4, rv b16, iv v31, iv (4 : Int32), .unset, .unset, .unset, .unset, .unset, .unset, .unset] [(.int (1 : Int32))] _
        refine XS.ifYes X204.here hx rfl (pc0 := 96) (pc' := 113) rfl (hb hby at_96) rfl ((if0 _ _).trans (feq (by decide : ¬ ((1 : Int32) = (0 : Int32)))).2) (by decide) (by decide) ?_
        show own_s p e below T203 m 113 #[iv i0, iv i1, iv i2, iv i3, iv i4, iv b0, iv v3, iv v7, iv v11, iv b4, rv b16, iv v31, iv (4 : Int32), .unset, .unset, .unset, .unset, .unset, .unset, .unset] [] _
        refine XS.iload X204.here hx rfl (hb hby at_113) rfl ?_
        show own_s p e below T203 m 115 #[iv i0, iv i1, iv i2, iv i3, iv i4, iv b0, iv v3, iv v7, iv v11, iv b4, rv b16, iv v31, iv (4 : Int32), .unset, .unset, .unset, .unset, .unset, .unset, .unset] [(.int v31)] _
        refine XS.iconst X204.here hx rfl (hb hby at_115) ?_
        show own_s p e below T203 m 116 #[iv i0, iv i1, iv i2, iv i3, iv i4, iv b0, iv v3, iv v7, iv v11, iv b4, rv b16, iv v31, iv (4 : Int32), .unset, .unset, .unset, .unset, .unset, .unset, .unset] [(.int (-1 : Int32)), (.int v31)] _
        refine XS.icmpYes X204.here hx rfl (pc0 := 116) (pc' := 121) rfl (hb hby at_116) rfl (teq (own_eqI (show (v31).toInt = ((-1 : Int32)).toInt from (by omega : (v31).toInt = (-1 : Int))))).1 (by decide) (by decide) ?_
        show own_s p e below T203 m 121 #[iv i0, iv i1, iv i2, iv i3, iv i4, iv b0, iv v3, iv v7, iv v11, iv b4, rv b16, iv v31, iv (4 : Int32), .unset, .unset, .unset, .unset, .unset, .unset, .unset] [] _
        refine XS.iload X204.here hx rfl (hb hby at_121) rfl ?_
        show own_s p e below T203 m 123 #[iv i0, iv i1, iv i2, iv i3, iv i4, iv b0, iv v3, iv v7, iv v11, iv b4, rv b16, iv v31, iv (4 : Int32), .unset, .unset, .unset, .unset, .unset, .unset, .unset] [(.int b0)] _
        refine XS.iload X204.here hx rfl (hb hby at_123) rfl ?_
        exact kX
      obtain ⟨_, _, ⟨T215, L215, k215, n215⟩, -, X215, ⟨Lc215, hQ215, l215, y215, z215⟩, st215⟩ := Jvm.LawKit.callS X204 hx (y := (⟨"com/example/weaverbird/weaverbird/model/xml/Utf8DecoderTakePinLaw", "leadBits", "(II)I"⟩ : MethodName)) hown (mvT hZ (hw _ (List.mem_of_getElem? (i := 49) rfl))) (mvT hZ (hw _ (List.mem_of_getElem? (i := 50) rfl))) (mvT hZ (hw _ (List.mem_of_getElem? (i := 2) rfl))) (mvT hZ (hw _ (List.mem_of_getElem? (i := 51) rfl))) (by decide) (backOf (W := 0) (rm10 l Z a0 hw [] b0  T31.heap n0 Z31 ) hZ (hw _ (List.mem_of_getElem? (i := 51) rfl)) (hw _ (List.mem_of_getElem? (i := 2) rfl)) (by decide) (by decide)) (g := (mkF m 125 #[iv i0, iv i1, iv i2, iv i3, iv i4, iv b0, iv v3, iv v7, iv v11, iv b4, rv b16, iv v31, iv (4 : Int32), .unset, .unset, .unset, .unset, .unset, .unset, .unset] [(.int (4 : Int32)), (.int b0)])) rfl (by rw [hml]; rfl) (argsL := [(.int b0), (.int (4 : Int32))]) (rest := []) (lenOf pd0_3 rfl) rfl (by show 2 * 0 + _ ≤ _; exact Nat.le_of_eq rfl) (hb hby at_125) (fun _ _ => ⟨rfl, e203, (by decide : 1 + 0 ≤ _), (by decide : 6 + 0 ≤ _)⟩)
      dsimp only [Pt.U, Pt.locs, Pt.cells, Pt.slots] at X215 l215 y215 z215 st215 hQ215
      subst l215 y215 z215
      obtain ⟨⟨v215, rfl, B215⟩, Nq215, e215⟩ := hQ215
      have N215 := Fr.app N204 Nq215
      obtain ⟨LL216, X216, N216⟩ : ∃ LL, Stand p l e room_1 s m #[(.int i0), (.int i1), (.int i2), (.int i3), (.int i4)] below meth c T215 LL 1 6 ∧ Fr n0 LL := ⟨_, X215, N215⟩
      have pre217 : ∀ t, own_s p e below T215 m 128 #[iv i0, iv i1, iv i2, iv i3, iv i4, iv b0, iv v3, iv v7, iv v11, iv b4, rv b16, iv v31, iv (4 : Int32), .unset, .unset, .unset, .unset, .unset, .unset, .unset] [(.int v215)] t → Steps p.tables e below S0 t := fun tX kX => pre214 _ (st215 _ kX)
      have pre218 : ∀ t, own_s p e below T215 m 134 #[iv i0, iv i1, iv i2, iv i3, iv i4, iv b0, iv v3, iv v7, iv v11, iv b4, rv b16, iv v31, iv (4 : Int32), iv v215, .unset, .unset, .unset, .unset, .unset, .unset] [(.int v3), (.ref b16)] t → Steps p.tables e below S0 t := by
        intro tX kX
        refine pre217 _ ?_
        show own_s p e below T215 m 128 #[iv i0, iv i1, iv i2, iv i3, iv i4, iv b0, iv v3, iv v7, iv v11, iv b4, rv b16, iv v31, iv (4 : Int32), .unset, .unset, .unset, .unset, .unset, .unset, .unset] [(.int v215)] _
        refine XS.istore X216.here hx rfl (hb hby at_128) rfl (l' := #[iv i0, iv i1, iv i2, iv i3, iv i4, iv b0, iv v3, iv v7, iv v11, iv b4, rv b16, iv v31, iv (4 : Int32), iv v215, .unset, .unset, .unset, .unset, .unset, .unset]) rfl ?_
        show own_s p e below T215 m 130 #[iv i0, iv i1, iv i2, iv i3, iv i4, iv b0, iv v3, iv v7, iv v11, iv b4, rv b16, iv v31, iv (4 : Int32), iv v215, .unset, .unset, .unset, .unset, .unset, .unset] [] _
        refine XS.aload X216.here hx rfl (hb hby at_130) rfl rfl ?_
        show own_s p e below T215 m 132 #[iv i0, iv i1, iv i2, iv i3, iv i4, iv b0, iv v3, iv v7, iv v11, iv b4, rv b16, iv v31, iv (4 : Int32), iv v215, .unset, .unset, .unset, .unset, .unset, .unset] [(.ref b16)] _
        refine XS.iload X216.here hx rfl (hb hby at_132) rfl ?_
        exact kX
      obtain ⟨cq219, kq219, q219a, q219b, q219c⟩ := isOf hZ e215 fE31
      obtain ⟨_, _, ⟨T219, L219, k219, n219⟩, -, X219, ⟨Lc219, hQ219, l219, y219, z219⟩, st219⟩ := X216.virtualBack hx (y := (⟨"com/example/weaverbird/weaverbird/model/xml/Utf8Decoder", "take", "(I)I"⟩ : MethodName)) (z := (⟨"com/example/weaverbird/weaverbird/model/xml/Utf8Decoder", "take", "(I)I"⟩ : MethodName)) hown (mvT hZ (hw _ (List.mem_of_getElem? (i := 13) rfl))) (mvT hZ (hw _ (List.mem_of_getElem? (i := 14) rfl))) (notFace_of_selects (args := #[]) (mvT hZ (hw _ (List.mem_of_getElem? (i := 16) rfl)))) (mvT hZ (hw _ (List.mem_of_getElem? (i := 16) rfl))) (mvT hZ (hw _ (List.mem_of_getElem? (i := 15) rfl))) (by decide) (backOf (W := 0) (rm3 l Z a0 hw [] b16 v3 pa31 le31 ta31 lo31 hi31 re31 T31.heap n0 Z31 fE31 f31_pa f31_le f31_ta f31_lo f31_hi f31_re g_b16 (own_eqI (show (re31).toInt = (1 : Int32).toInt from (by omega : (re31).toInt = 1))) (by omega) (by omega) (by omega) (by omega) (by omega) (by omega)) hZ (hw _ (List.mem_of_getElem? (i := 17) rfl)) (hw _ (List.mem_of_getElem? (i := 6) rfl)) (by decide) (by decide)) q219a q219c (g := (mkF m 134 #[iv i0, iv i1, iv i2, iv i3, iv i4, iv b0, iv v3, iv v7, iv v11, iv b4, rv b16, iv v31, iv (4 : Int32), iv v215, .unset, .unset, .unset, .unset, .unset, .unset] [(.int v3), (.ref b16)])) rfl (by rw [hml]; rfl) (Steps.refl _) (argsL := [(.int v3)]) (rest := []) (lenOf pd0_0 rfl) rfl (by show 2 * 0 + _ ≤ _; exact Nat.le_of_eq rfl) (hb hby at_134) (fun _ _ => ⟨rfl, e215, (by decide : 1 + 0 ≤ _), (by decide : 6 + 0 ≤ _)⟩)
      dsimp only [Pt.U, Pt.locs, Pt.cells, Pt.slots] at X219 l219 y219 z219 st219 hQ219
      subst l219 y219 z219
      obtain ⟨v219, pa219, le219, ta219, lo219, hi219, re219, rfl, Nq219, Kq219, fE219, f219_pa, f219_le, f219_ta, f219_lo, f219_hi, f219_re, hL219, R219⟩ := hQ219
      have hLi219 := congrArg Int32.toInt hL219
      unfold own_T1 at R219
      have N219 := Fr.app N216 Nq219
      have e219 : T219.heap = T219.heap := rfl
      have Z219 : n0 ≤ T219.heap.size := Nat.le_trans Z31 Kq219.1
      obtain ⟨LL220, X220, N220⟩ : ∃ LL, Stand p l e room_1 s m #[(.int i0), (.int i1), (.int i2), (.int i3), (.int i4)] below meth c T219 LL 1 6 ∧ Fr n0 LL := ⟨_, X219, N219⟩
      have pre221 : ∀ t, own_s p e below T219 m 137 #[iv i0, iv i1, iv i2, iv i3, iv i4, iv b0, iv v3, iv v7, iv v11, iv b4, rv b16, iv v31, iv (4 : Int32), iv v215, .unset, .unset, .unset, .unset, .unset, .unset] [(.int v219)] t → Steps p.tables e below S0 t := fun tX kX => pre218 _ (st219.trans kX)
      have pre222 : ∀ t, own_s p e below T219 m 150 #[iv i0, iv i1, iv i2, iv i3, iv i4, iv b0, iv v3, iv v7, iv v11, iv b4, rv b16, iv v31, iv (4 : Int32), iv v215, iv v219, .unset, .unset, .unset, .unset, .unset] [(.int ((v215 <<< ((6 : Int32) &&& 31)) ||| (v3 &&& (63 : Int32))))] t → Steps p.tables e below S0 t := by
        intro tX kX
        refine pre221 _ ?_
        show own_s p e below T219 m 137 #[iv i0, iv i1, iv i2, iv i3, iv i4, iv b0, iv v3, iv v7, iv v11, iv b4, rv b16, iv v31, iv (4 : Int32), iv v215, .unset, .unset, .unset, .unset, .unset, .unset] [(.int v219)] _
        refine XS.istore X220.here hx rfl (hb hby at_137) rfl (l' := #[iv i0, iv i1, iv i2, iv i3, iv i4, iv b0, iv v3, iv v7, iv v11, iv b4, rv b16, iv v31, iv (4 : Int32), iv v215, iv v219, .unset, .unset, .unset, .unset, .unset]) rfl ?_
        show own_s p e below T219 m 139 #[iv i0, iv i1, iv i2, iv i3, iv i4, iv b0, iv v3, iv v7, iv v11, iv b4, rv b16, iv v31, iv (4 : Int32), iv v215, iv v219, .unset, .unset, .unset, .unset, .unset] [] _
        refine XS.iload X220.here hx rfl (hb hby at_139) rfl ?_
        show own_s p e below T219 m 141 #[iv i0, iv i1, iv i2, iv i3, iv i4, iv b0, iv v3, iv v7, iv v11, iv b4, rv b16, iv v31, iv (4 : Int32), iv v215, iv v219, .unset, .unset, .unset, .unset, .unset] [(.int v215)] _
        refine XS.bipush X220.here hx rfl (hb hby at_141) ?_
        show own_s p e below T219 m 143 #[iv i0, iv i1, iv i2, iv i3, iv i4, iv b0, iv v3, iv v7, iv v11, iv b4, rv b16, iv v31, iv (4 : Int32), iv v215, iv v219, .unset, .unset, .unset, .unset, .unset] [(.int (6 : Int32)), (.int v215)] _
        refine XS.ishl X220.here hx rfl (hb hby at_143) rfl ?_
        show own_s p e below T219 m 144 #[iv i0, iv i1, iv i2, iv i3, iv i4, iv b0, iv v3, iv v7, iv v11, iv b4, rv b16, iv v31, iv (4 : Int32), iv v215, iv v219, .unset, .unset, .unset, .unset, .unset] [(.int (v215 <<< ((6 : Int32) &&& 31)))] _
        refine XS.iload X220.here hx rfl (hb hby at_144) rfl ?_
        show own_s p e below T219 m 146 #[iv i0, iv i1, iv i2, iv i3, iv i4, iv b0, iv v3, iv v7, iv v11, iv b4, rv b16, iv v31, iv (4 : Int32), iv v215, iv v219, .unset, .unset, .unset, .unset, .unset] [(.int v3), (.int (v215 <<< ((6 : Int32) &&& 31)))] _
        refine XS.bipush X220.here hx rfl (hb hby at_146) ?_
        show own_s p e below T219 m 148 #[iv i0, iv i1, iv i2, iv i3, iv i4, iv b0, iv v3, iv v7, iv v11, iv b4, rv b16, iv v31, iv (4 : Int32), iv v215, iv v219, .unset, .unset, .unset, .unset, .unset] [(.int (63 : Int32)), (.int v3), (.int (v215 <<< ((6 : Int32) &&& 31)))] _
        refine XS.iand X220.here hx rfl (hb hby at_148) rfl ?_
        show own_s p e below T219 m 149 #[iv i0, iv i1, iv i2, iv i3, iv i4, iv b0, iv v3, iv v7, iv v11, iv b4, rv b16, iv v31, iv (4 : Int32), iv v215, iv v219, .unset, .unset, .unset, .unset, .unset] [(.int (v3 &&& (63 : Int32))), (.int (v215 <<< ((6 : Int32) &&& 31)))] _
        refine XS.ior X220.here hx rfl (hb hby at_149) rfl ?_
        exact kX
      obtain ⟨q1, hq1⟩ : ∃ z : Int32, z = ((v215 <<< ((6 : Int32) &&& 31)) ||| (v3 &&& (63 : Int32))) := ⟨_, rfl⟩
      rw [← hq1] at pre222
      have iq1 : q1.toInt = v215.toInt * 64 + v3.toInt % 64 := by rw [hq1]; exact own_cat v215 v3 (by omega) (by omega)
      have pre223 : ∀ t, own_s p e below T219 m 154 #[iv i0, iv i1, iv i2, iv i3, iv i4, iv b0, iv v3, iv v7, iv v11, iv b4, rv b16, iv v31, iv (4 : Int32), iv v215, iv v219, iv q1, .unset, .unset, .unset, .unset] [(.int v3)] t → Steps p.tables e below S0 t := by
        intro tX kX
        refine pre222 _ ?_
        show own_s p e below T219 m 150 #[iv i0, iv i1, iv i2, iv i3, iv i4, iv b0, iv v3, iv v7, iv v11, iv b4, rv b16, iv v31, iv (4 : Int32), iv v215, iv v219, .unset, .unset, .unset, .unset, .unset] [(.int q1)] _
        refine XS.istore X220.here hx rfl (hb hby at_150) rfl (l' := #[iv i0, iv i1, iv i2, iv i3, iv i4, iv b0, iv v3, iv v7, iv v11, iv b4, rv b16, iv v31, iv (4 : Int32), iv v215, iv v219, iv q1, .unset, .unset, .unset, .unset]) rfl ?_
        show own_s p e below T219 m 152 #[iv i0, iv i1, iv i2, iv i3, iv i4, iv b0, iv v3, iv v7, iv v11, iv b4, rv b16, iv v31, iv (4 : Int32), iv v215, iv v219, iv q1, .unset, .unset, .unset, .unset] [] _
        refine XS.iload X220.here hx rfl (hb hby at_152) rfl ?_
        exact kX
      obtain ⟨_, _, ⟨T224, L224, k224, n224⟩, -, X224, ⟨Lc224, hQ224, l224, y224, z224⟩, st224⟩ := Jvm.LawKit.callS X220 hx (y := (⟨"com/example/weaverbird/weaverbird/model/xml/Utf8DecoderTakePinLaw", "isCont", "(I)Z"⟩ : MethodName)) hown (mvT hZ (hw _ (List.mem_of_getElem? (i := 61) rfl))) (mvT hZ (hw _ (List.mem_of_getElem? (i := 62) rfl))) (mvT hZ (hw _ (List.mem_of_getElem? (i := 2) rfl))) (mvT hZ (hw _ (List.mem_of_getElem? (i := 63) rfl))) (by decide) (backOf (W := 0) (rm7 l Z a0 hw [] v3  T219.heap n0 Z219 (by omega) (by omega)) hZ (hw _ (List.mem_of_getElem? (i := 63) rfl)) (hw _ (List.mem_of_getElem? (i := 2) rfl)) (by decide) (by decide)) (g := (mkF m 154 #[iv i0, iv i1, iv i2, iv i3, iv i4, iv b0, iv v3, iv v7, iv v11, iv b4, rv b16, iv v31, iv (4 : Int32), iv v215, iv v219, iv q1, .unset, .unset, .unset, .unset] [(.int v3)])) rfl (by rw [hml]; rfl) (argsL := [(.int v3)]) (rest := []) (lenOf pd0_5 rfl) rfl (by show 2 * 0 + _ ≤ _; exact Nat.le_of_eq rfl) (hb hby at_154) (fun _ _ => ⟨rfl, e219, (by decide : 1 + 0 ≤ _), (by decide : 6 + 0 ≤ _)⟩)
      dsimp only [Pt.U, Pt.locs, Pt.cells, Pt.slots] at X224 l224 y224 z224 st224 hQ224
      subst l224 y224 z224
      obtain ⟨D224, Nq224, e224⟩ := hQ224
      have N224 := Fr.app N220 Nq224
      rcases D224 with ⟨rfl, B224⟩ | ⟨rfl, B224⟩
      · skip
        obtain ⟨LL225, X225, N225⟩ : ∃ LL, Stand p l e room_1 s m #[(.int i0), (.int i1), (.int i2), (.int i3), (.int i4)] below meth c T224 LL 1 6 ∧ Fr n0 LL := ⟨_, X224, N224⟩
        have pre226 : ∀ t, own_s p e below T224 m 157 #[iv i0, iv i1, iv i2, iv i3, iv i4, iv b0, iv v3, iv v7, iv v11, iv b4, rv b16, iv v31, iv (4 : Int32), iv v215, iv v219, iv q1, .unset, .unset, .unset, .unset] [(.int (1 : Int32))] t → Steps p.tables e below S0 t := fun tX kX => pre223 _ (st224 _ kX)
        have pre227 : ∀ t, own_s p e below T224 m 165 #[iv i0, iv i1, iv i2, iv i3, iv i4, iv b0, iv v3, iv v7, iv v11, iv b4, rv b16, iv v31, iv (4 : Int32), iv v215, iv v219, iv q1, .unset, .unset, .unset, .unset] [(.int (2 : Int32)), (.int (4 : Int32)), (.int q1)] t → Steps p.tables e below S0 t := by
          intro tX kX
          refine pre226 _ ?_
          show own_s p e below T224 m 157 #[iv i0, iv i1, iv i2, iv i3, iv i4, iv b0, iv v3, iv v7, iv v11, iv b4, rv b16, iv v31, iv (4 : Int32), iv v215, iv v219, iv q1, .unset, .unset, .unset, .unset] [(.int (1 : Int32))] _
          refine XS.ifNo X225.here hx rfl (hb hby at_157) rfl ((if0 _ _).trans (feq (by decide : ¬ ((1 : Int32) = (0 : Int32)))).1) ?_
          show own_s p e below T224 m 160 #[iv i0, iv i1, iv i2, iv i3, iv i4, iv b0, iv v3, iv v7, iv v11, iv b4, rv b16, iv v31, iv (4 : Int32), iv v215, iv v219, iv q1, .unset, .unset, .unset, .unset] [] _
          refine XS.iload X225.here hx rfl (hb hby at_160) rfl ?_
          show own_s p e below T224 m 162 #[iv i0, iv i1, iv i2, iv i3, iv i4, iv b0, iv v3, iv v7, iv v11, iv b4, rv b16, iv v31, iv (4 : Int32), iv v215, iv v219, iv q1, .unset, .unset, .unset, .unset] [(.int q1)] _
          refine XS.iload X225.here hx rfl (hb hby at_162) rfl ?_
          show own_s p e below T224 m 164 #[iv i0, iv i1, iv i2, iv i3, iv i4, iv b0, iv v3, iv v7, iv v11, iv b4, rv b16, iv v31, iv (4 : Int32), iv v215, iv v219, iv q1, .unset, .unset, .unset, .unset] [(.int (4 : Int32)), (.int q1)] _
          refine XS.iconst X225.here hx rfl (hb hby at_164) ?_
          exact kX
        obtain ⟨_, _, ⟨T228, L228, k228, n228⟩, -, X228, ⟨Lc228, hQ228, l228, y228, z228⟩, st228⟩ := Jvm.LawKit.callS X225 hx (y := (⟨"com/example/weaverbird/weaverbird/model/xml/Utf8DecoderTakePinLaw", "feasible", "(III)Z"⟩ : MethodName)) hown (mvT hZ (hw _ (List.mem_of_getElem? (i := 52) rfl))) (mvT hZ (hw _ (List.mem_of_getElem? (i := 53) rfl))) (mvT hZ (hw _ (List.mem_of_getElem? (i := 2) rfl))) (mvT hZ (hw _ (List.mem_of_getElem? (i := 54) rfl))) (by decide) (backOf (W := 0) (rm25 l Z a0 hw [] q1  T219.heap n0 Z219 (by omega) (by omega)) hZ (hw _ (List.mem_of_getElem? (i := 54) rfl)) (hw _ (List.mem_of_getElem? (i := 2) rfl)) (by decide) (by decide)) (g := (mkF m 165 #[iv i0, iv i1, iv i2, iv i3, iv i4, iv b0, iv v3, iv v7, iv v11, iv b4, rv b16, iv v31, iv (4 : Int32), iv v215, iv v219, iv q1, .unset, .unset, .unset, .unset] [(.int (2 : Int32)), (.int (4 : Int32)), (.int q1)])) rfl (by rw [hml]; rfl) (argsL := [(.int q1), (.int (4 : Int32)), (.int (2 : Int32))]) (rest := []) (lenOf pd0_4 rfl) rfl (by show 2 * 0 + _ ≤ _; exact Nat.le_of_eq rfl) (hb hby at_165) (fun _ _ => ⟨rfl, e224, (by decide : 1 + 0 ≤ _), (by decide : 6 + 0 ≤ _)⟩)
        dsimp only [Pt.U, Pt.locs, Pt.cells, Pt.slots] at X228 l228 y228 z228 st228 hQ228
        subst l228 y228 z228
        obtain ⟨D228, Nq228, e228⟩ := hQ228
        have N228 := Fr.app N225 Nq228
        rcases D228 with ⟨rfl, B228⟩ | ⟨rfl, B228⟩
        · skip
          obtain ⟨LL229, X229, N229⟩ : ∃ LL, Stand p l e room_1 s m #[(.int i0), (.int i1), (.int i2), (.int i3), (.int i4)] below meth c T228 LL 1 6 ∧ Fr n0 LL := ⟨_, X228, N228⟩
          have pre230 : ∀ t, own_s p e below T228 m 168 #[iv i0, iv i1, iv i2, iv i3, iv i4, iv b0, iv v3, iv v7, iv v11, iv b4, rv b16, iv v31, iv (4 : Int32), iv v215, iv v219, iv q1, .unset, .unset, .unset, .unset] [(.int (1 : Int32))] t → Steps p.tables e below S0 t := fun tX kX => pre227 _ (st228 _ kX)
          have y231 : ta219.toInt = 2 := by omega
          have y232 : le219.toInt = 4 := by omega
          have y233 : pa219.toInt = pa31.toInt * 64 + v3.toInt % 64 := by omega
          have y234 : re219.toInt = 1 := by omega
          have y235 : v219.toInt = -1 := by omega
          have y236 : lo219.toInt = 128 := by omega
          have y237 : hi219.toInt = 191 := by omega
          clear R219
          have pre238 : ∀ t, own_s p e below T228 m 218 #[iv i0, iv i1, iv i2, iv i3, iv i4, iv b0, iv v3, iv v7, iv v11, iv b4, rv b16, iv v31, iv (4 : Int32), iv v215, iv v219, iv q1, .unset, .unset, .unset, .unset] [(.int v7), (.ref b16)] t → Steps p.tables e below S0 t := by
            intro tX kX
            refine pre230 _ ?_
            show own_s p e below T228 m 168 #[iv i0, iv i1, iv i2, iv i3, iv i4, iv b0, iv v3, iv v7, iv v11, iv b4, rv b16, iv v31, iv (4 : Int32), iv v215, iv v219, iv q1, .unset, .unset, .unset, .unset] [(.int (1 : Int32))] _
            refine XS.ifYes X229.here hx rfl (pc0 := 168) (pc' := 186) rfl (hb hby at_168) rfl ((if0 _ _).trans (feq (by decide : ¬ ((1 : Int32) = (0 : Int32)))).2) (by decide) (by decide) ?_
            show own_s p e below T228 m 186 #[iv i0, iv i1, iv i2, iv i3, iv i4, iv b0, iv v3, iv v7, iv v11, iv b4, rv b16, iv v31, iv (4 : Int32), iv v215, iv v219, iv q1, .unset, .unset, .unset, .unset] [] _
            refine XS.iload X229.here hx rfl (hb hby at_186) rfl ?_
            show own_s p e below T228 m 188 #[iv i0, iv i1, iv i2, iv i3, iv i4, iv b0, iv v3, iv v7, iv v11, iv b4, rv b16, iv v31, iv (4 : Int32), iv v215, iv v219, iv q1, .unset, .unset, .unset, .unset] [(.int (4 : Int32))] _
            refine XS.iconst X229.here hx rfl (hb hby at_188) ?_
            show own_s p e below T228 m 189 #[iv i0, iv i1, iv i2, iv i3, iv i4, iv b0, iv v3, iv v7, iv v11, iv b4, rv b16, iv v31, iv (4 : Int32), iv v215, iv v219, iv q1, .unset, .unset, .unset, .unset] [(.int (2 : Int32)), (.int (4 : Int32))] _
            refine XS.icmpYes X229.here hx rfl (pc0 := 189) (pc' := 206) rfl (hb hby at_189) rfl (feq (by decide : ¬ ((4 : Int32) = (2 : Int32)))).2 (by decide) (by decide) ?_
            show own_s p e below T228 m 206 #[iv i0, iv i1, iv i2, iv i3, iv i4, iv b0, iv v3, iv v7, iv v11, iv b4, rv b16, iv v31, iv (4 : Int32), iv v215, iv v219, iv q1, .unset, .unset, .unset, .unset] [] _
            refine XS.iload X229.here hx rfl (hb hby at_206) rfl ?_
            show own_s p e below T228 m 208 #[iv i0, iv i1, iv i2, iv i3, iv i4, iv b0, iv v3, iv v7, iv v11, iv b4, rv b16, iv v31, iv (4 : Int32), iv v215, iv v219, iv q1, .unset, .unset, .unset, .unset] [(.int v219)] _
            refine XS.iconst X229.here hx rfl (hb hby at_208) ?_
            show own_s p e below T228 m 209 #[iv i0, iv i1, iv i2, iv i3, iv i4, iv b0, iv v3, iv v7, iv v11, iv b4, rv b16, iv v31, iv (4 : Int32), iv v215, iv v219, iv q1, .unset, .unset, .unset, .unset] [(.int (-1 : Int32)), (.int v219)] _
            refine XS.icmpYes X229.here hx rfl (pc0 := 209) (pc' := 214) rfl (hb hby at_209) rfl (teq (own_eqI (show (v219).toInt = ((-1 : Int32)).toInt from (by omega : (v219).toInt = (-1 : Int))))).1 (by decide) (by decide) ?_
            show own_s p e below T228 m 214 #[iv i0, iv i1, iv i2, iv i3, iv i4, iv b0, iv v3, iv v7, iv v11, iv b4, rv b16, iv v31, iv (4 : Int32), iv v215, iv v219, iv q1, .unset, .unset, .unset, .unset] [] _
            refine XS.aload X229.here hx rfl (hb hby at_214) rfl rfl ?_
            show own_s p e below T228 m 216 #[iv i0, iv i1, iv i2, iv i3, iv i4, iv b0, iv v3, iv v7, iv v11, iv b4, rv b16, iv v31, iv (4 : Int32), iv v215, iv v219, iv q1, .unset, .unset, .unset, .unset] [(.ref b16)] _
            refine XS.iload X229.here hx rfl (hb hby at_216) rfl ?_
            exact kX
          obtain ⟨cq239, kq239, q239a, q239b, q239c⟩ := isOf hZ e228 fE219
          obtain ⟨_, _, ⟨T239, L239, k239, n239⟩, -, X239, ⟨Lc239, hQ239, l239, y239, z239⟩, st239⟩ := X229.virtualBack hx (y := (⟨"com/example/weaverbird/weaverbird/model/xml/Utf8Decoder", "take", "(I)I"⟩ : MethodName)) (z := (⟨"com/example/weaverbird/weaverbird/model/xml/Utf8Decoder", "take", "(I)I"⟩ : MethodName)) hown (mvT hZ (hw _ (List.mem_of_getElem? (i := 13) rfl))) (mvT hZ (hw _ (List.mem_of_getElem? (i := 14) rfl))) (notFace_of_selects (args := #[]) (mvT hZ (hw _ (List.mem_of_getElem? (i := 16) rfl)))) (mvT hZ (hw _ (List.mem_of_getElem? (i := 16) rfl))) (mvT hZ (hw _ (List.mem_of_getElem? (i := 15) rfl))) (by decide) (backOf (W := 0) (rm3 l Z a0 hw [] b16 v7 pa219 le219 ta219 lo219 hi219 re219 T219.heap n0 Z219 fE219 f219_pa f219_le f219_ta f219_lo f219_hi f219_re g_b16 (own_eqI (show (re219).toInt = (1 : Int32).toInt from (by omega : (re219).toInt = 1))) (by omega) (by omega) (by omega) (by omega) (by omega) (by omega)) hZ (hw _ (List.mem_of_getElem? (i := 17) rfl)) (hw _ (List.mem_of_getElem? (i := 6) rfl)) (by decide) (by decide)) q239a q239c (g := (mkF m 218 #[iv i0, iv i1, iv i2, iv i3, iv i4, iv b0, iv v3, iv v7, iv v11, iv b4, rv b16, iv v31, iv (4 : Int32), iv v215, iv v219, iv q1, .unset, .unset, .unset, .unset] [(.int v7), (.ref b16)])) rfl (by rw [hml]; rfl) (Steps.refl _) (argsL := [(.int v7)]) (rest := []) (lenOf pd0_0 rfl) rfl (by show 2 * 0 + _ ≤ _; exact Nat.le_of_eq rfl) (hb hby at_218) (fun _ _ => ⟨rfl, e228, (by decide : 1 + 0 ≤ _), (by decide : 6 + 0 ≤ _)⟩)
          dsimp only [Pt.U, Pt.locs, Pt.cells, Pt.slots] at X239 l239 y239 z239 st239 hQ239
          subst l239 y239 z239
          obtain ⟨v239, pa239, le239, ta239, lo239, hi239, re239, rfl, Nq239, Kq239, fE239, f239_pa, f239_le, f239_ta, f239_lo, f239_hi, f239_re, hL239, R239⟩ := hQ239
          have hLi239 := congrArg Int32.toInt hL239
          unfold own_T1 at R239
          have N239 := Fr.app N229 Nq239
          have e239 : T239.heap = T239.heap := rfl
          have Z239 : n0 ≤ T239.heap.size := Nat.le_trans Z219 Kq239.1
          obtain ⟨LL240, X240, N240⟩ : ∃ LL, Stand p l e room_1 s m #[(.int i0), (.int i1), (.int i2), (.int i3), (.int i4)] below meth c T239 LL 1 6 ∧ Fr n0 LL := ⟨_, X239, N239⟩
          have pre241 : ∀ t, own_s p e below T239 m 221 #[iv i0, iv i1, iv i2, iv i3, iv i4, iv b0, iv v3, iv v7, iv v11, iv b4, rv b16, iv v31, iv (4 : Int32), iv v215, iv v219, iv q1, .unset, .unset, .unset, .unset] [(.int v239)] t → Steps p.tables e below S0 t := fun tX kX => pre238 _ (st239.trans kX)
          have pre242 : ∀ t, own_s p e below T239 m 234 #[iv i0, iv i1, iv i2, iv i3, iv i4, iv b0, iv v3, iv v7, iv v11, iv b4, rv b16, iv v31, iv (4 : Int32), iv v215, iv v219, iv q1, iv v239, .unset, .unset, .unset] [(.int ((q1 <<< ((6 : Int32) &&& 31)) ||| (v7 &&& (63 : Int32))))] t → Steps p.tables e below S0 t := by
            intro tX kX
            refine pre241 _ ?_
            show own_s p e below T239 m 221 #[iv i0, iv i1, iv i2, iv i3, iv i4, iv b0, iv v3, iv v7, iv v11, iv b4, rv b16, iv v31, iv (4 : Int32), iv v215, iv v219, iv q1, .unset, .unset, .unset, .unset] [(.int v239)] _
            refine XS.istore X240.here hx rfl (hb hby at_221) rfl (l' := #[iv i0, iv i1, iv i2, iv i3, iv i4, iv b0, iv v3, iv v7, iv v11, iv b4, rv b16, iv v31, iv (4 : Int32), iv v215, iv v219, iv q1, iv v239, .unset, .unset, .unset]) rfl ?_
            show own_s p e below T239 m 223 #[iv i0, iv i1, iv i2, iv i3, iv i4, iv b0, iv v3, iv v7, iv v11, iv b4, rv b16, iv v31, iv (4 : Int32), iv v215, iv v219, iv q1, iv v239, .unset, .unset, .unset] [] _
            refine XS.iload X240.here hx rfl (hb hby at_223) rfl ?_
            show own_s p e below T239 m 225 #[iv i0, iv i1, iv i2, iv i3, iv i4, iv b0, iv v3, iv v7, iv v11, iv b4, rv b16, iv v31, iv (4 : Int32), iv v215, iv v219, iv q1, iv v239, .unset, .unset, .unset] [(.int q1)] _
            refine XS.bipush X240.here hx rfl (hb hby at_225) ?_
            show own_s p e below T239 m 227 #[iv i0, iv i1, iv i2, iv i3, iv i4, iv b0, iv v3, iv v7, iv v11, iv b4, rv b16, iv v31, iv (4 : Int32), iv v215, iv v219, iv q1, iv v239, .unset, .unset, .unset] [(.int (6 : Int32)), (.int q1)] _
            refine XS.ishl X240.here hx rfl (hb hby at_227) rfl ?_
            show own_s p e below T239 m 228 #[iv i0, iv i1, iv i2, iv i3, iv i4, iv b0, iv v3, iv v7, iv v11, iv b4, rv b16, iv v31, iv (4 : Int32), iv v215, iv v219, iv q1, iv v239, .unset, .unset, .unset] [(.int (q1 <<< ((6 : Int32) &&& 31)))] _
            refine XS.iload X240.here hx rfl (hb hby at_228) rfl ?_
            show own_s p e below T239 m 230 #[iv i0, iv i1, iv i2, iv i3, iv i4, iv b0, iv v3, iv v7, iv v11, iv b4, rv b16, iv v31, iv (4 : Int32), iv v215, iv v219, iv q1, iv v239, .unset, .unset, .unset] [(.int v7), (.int (q1 <<< ((6 : Int32) &&& 31)))] _
            refine XS.bipush X240.here hx rfl (hb hby at_230) ?_
            show own_s p e below T239 m 232 #[iv i0, iv i1, iv i2, iv i3, iv i4, iv b0, iv v3, iv v7, iv v11, iv b4, rv b16, iv v31, iv (4 : Int32), iv v215, iv v219, iv q1, iv v239, .unset, .unset, .unset] [(.int (63 : Int32)), (.int v7), (.int (q1 <<< ((6 : Int32) &&& 31)))] _
            refine XS.iand X240.here hx rfl (hb hby at_232) rfl ?_
            show own_s p e below T239 m 233 #[iv i0, iv i1, iv i2, iv i3, iv i4, iv b0, iv v3, iv v7, iv v11, iv b4, rv b16, iv v31, iv (4 : Int32), iv v215, iv v219, iv q1, iv v239, .unset, .unset, .unset] [(.int (v7 &&& (63 : Int32))), (.int (q1 <<< ((6 : Int32) &&& 31)))] _
            refine XS.ior X240.here hx rfl (hb hby at_233) rfl ?_
            exact kX
          obtain ⟨q2, hq2⟩ : ∃ z : Int32, z = ((q1 <<< ((6 : Int32) &&& 31)) ||| (v7 &&& (63 : Int32))) := ⟨_, rfl⟩
          rw [← hq2] at pre242
          have iq2 : q2.toInt = q1.toInt * 64 + v7.toInt % 64 := by rw [hq2]; exact own_cat q1 v7 (by omega) (by omega)
          have pre243 : ∀ t, own_s p e below T239 m 238 #[iv i0, iv i1, iv i2, iv i3, iv i4, iv b0, iv v3, iv v7, iv v11, iv b4, rv b16, iv v31, iv (4 : Int32), iv v215, iv v219, iv q1, iv v239, iv q2, .unset, .unset] [(.int v7)] t → Steps p.tables e below S0 t := by
            intro tX kX
            refine pre242 _ ?_
            show own_s p e below T239 m 234 #[iv i0, iv i1, iv i2, iv i3, iv i4, iv b0, iv v3, iv v7, iv v11, iv b4, rv b16, iv v31, iv (4 : Int32), iv v215, iv v219, iv q1, iv v239, .unset, .unset, .unset] [(.int q2)] _
            refine XS.istore X240.here hx rfl (hb hby at_234) rfl (l' := #[iv i0, iv i1, iv i2, iv i3, iv i4, iv b0, iv v3, iv v7, iv v11, iv b4, rv b16, iv v31, iv (4 : Int32), iv v215, iv v219, iv q1, iv v239, iv q2, .unset, .unset]) rfl ?_
            show own_s p e below T239 m 236 #[iv i0, iv i1, iv i2, iv i3, iv i4, iv b0, iv v3, iv v7, iv v11, iv b4, rv b16, iv v31, iv (4 : Int32), iv v215, iv v219, iv q1, iv v239, iv q2, .unset, .unset] [] _
            refine XS.iload X240.here hx rfl (hb hby at_236) rfl ?_
            exact kX
          obtain ⟨_, _, ⟨T244, L244, k244, n244⟩, -, X244, ⟨Lc244, hQ244, l244, y244, z244⟩, st244⟩ := Jvm.LawKit.callS X240 hx (y := (⟨"com/example/weaverbird/weaverbird/model/xml/Utf8DecoderTakePinLaw", "isCont", "(I)Z"⟩ : MethodName)) hown (mvT hZ (hw _ (List.mem_of_getElem? (i := 61) rfl))) (mvT hZ (hw _ (List.mem_of_getElem? (i := 62) rfl))) (mvT hZ (hw _ (List.mem_of_getElem? (i := 2) rfl))) (mvT hZ (hw _ (List.mem_of_getElem? (i := 63) rfl))) (by decide) (backOf (W := 0) (rm7 l Z a0 hw [] v7  T239.heap n0 Z239 (by omega) (by omega)) hZ (hw _ (List.mem_of_getElem? (i := 63) rfl)) (hw _ (List.mem_of_getElem? (i := 2) rfl)) (by decide) (by decide)) (g := (mkF m 238 #[iv i0, iv i1, iv i2, iv i3, iv i4, iv b0, iv v3, iv v7, iv v11, iv b4, rv b16, iv v31, iv (4 : Int32), iv v215, iv v219, iv q1, iv v239, iv q2, .unset, .unset] [(.int v7)])) rfl (by rw [hml]; rfl) (argsL := [(.int v7)]) (rest := []) (lenOf pd0_5 rfl) rfl (by show 2 * 0 + _ ≤ _; exact Nat.le_of_eq rfl) (hb hby at_238) (fun _ _ => ⟨rfl, e239, (by decide : 1 + 0 ≤ _), (by decide : 6 + 0 ≤ _)⟩)
          dsimp only [Pt.U, Pt.locs, Pt.cells, Pt.slots] at X244 l244 y244 z244 st244 hQ244
          subst l244 y244 z244
          obtain ⟨D244, Nq244, e244⟩ := hQ244
          have N244 := Fr.app N240 Nq244
          rcases D244 with ⟨rfl, B244⟩ | ⟨rfl, B244⟩
          · skip
            obtain ⟨LL245, X245, N245⟩ : ∃ LL, Stand p l e room_1 s m #[(.int i0), (.int i1), (.int i2), (.int i3), (.int i4)] below meth c T244 LL 1 6 ∧ Fr n0 LL := ⟨_, X244, N244⟩
            have pre246 : ∀ t, own_s p e below T244 m 241 #[iv i0, iv i1, iv i2, iv i3, iv i4, iv b0, iv v3, iv v7, iv v11, iv b4, rv b16, iv v31, iv (4 : Int32), iv v215, iv v219, iv q1, iv v239, iv q2, .unset, .unset] [(.int (1 : Int32))] t → Steps p.tables e below S0 t := fun tX kX => pre243 _ (st244 _ kX)
            have pre247 : ∀ t, own_s p e below T244 m 249 #[iv i0, iv i1, iv i2, iv i3, iv i4, iv b0, iv v3, iv v7, iv v11, iv b4, rv b16, iv v31, iv (4 : Int32), iv v215, iv v219, iv q1, iv v239, iv q2, .unset, .unset] [(.int (3 : Int32)), (.int (4 : Int32)), (.int q2)] t → Steps p.tables e below S0 t := by
              intro tX kX
              refine pre246 _ ?_
              show own_s p e below T244 m 241 #[iv i0, iv i1, iv i2, iv i3, iv i4, iv b0, iv v3, iv v7, iv v11, iv b4, rv b16, iv v31, iv (4 : Int32), iv v215, iv v219, iv q1, iv v239, iv q2, .unset, .unset] [(.int (1 : Int32))] _
              refine XS.ifNo X245.here hx rfl (hb hby at_241) rfl ((if0 _ _).trans (feq (by decide : ¬ ((1 : Int32) = (0 : Int32)))).1) ?_
              show own_s p e below T244 m 244 #[iv i0, iv i1, iv i2, iv i3, iv i4, iv b0, iv v3, iv v7, iv v11, iv b4, rv b16, iv v31, iv (4 : Int32), iv v215, iv v219, iv q1, iv v239, iv q2, .unset, .unset] [] _
              refine XS.iload X245.here hx rfl (hb hby at_244) rfl ?_
              show own_s p e below T244 m 246 #[iv i0, iv i1, iv i2, iv i3, iv i4, iv b0, iv v3, iv v7, iv v11, iv b4, rv b16, iv v31, iv (4 : Int32), iv v215, iv v219, iv q1, iv v239, iv q2, .unset, .unset] [(.int q2)] _
              refine XS.iload X245.here hx rfl (hb hby at_246) rfl ?_
              show own_s p e below T244 m 248 #[iv i0, iv i1, iv i2, iv i3, iv i4, iv b0, iv v3, iv v7, iv v11, iv b4, rv b16, iv v31, iv (4 : Int32), iv v215, iv v219, iv q1, iv v239, iv q2, .unset, .unset] [(.int (4 : Int32)), (.int q2)] _
              refine XS.iconst X245.here hx rfl (hb hby at_248) ?_
              exact kX
            obtain ⟨_, _, ⟨T248, L248, k248, n248⟩, -, X248, ⟨Lc248, hQ248, l248, y248, z248⟩, st248⟩ := Jvm.LawKit.callS X245 hx (y := (⟨"com/example/weaverbird/weaverbird/model/xml/Utf8DecoderTakePinLaw", "feasible", "(III)Z"⟩ : MethodName)) hown (mvT hZ (hw _ (List.mem_of_getElem? (i := 52) rfl))) (mvT hZ (hw _ (List.mem_of_getElem? (i := 53) rfl))) (mvT hZ (hw _ (List.mem_of_getElem? (i := 2) rfl))) (mvT hZ (hw _ (List.mem_of_getElem? (i := 54) rfl))) (by decide) (backOf (W := 0) (rm27 l Z a0 hw [] q2  T239.heap n0 Z239 (by omega) (by omega)) hZ (hw _ (List.mem_of_getElem? (i := 54) rfl)) (hw _ (List.mem_of_getElem? (i := 2) rfl)) (by decide) (by decide)) (g := (mkF m 249 #[iv i0, iv i1, iv i2, iv i3, iv i4, iv b0, iv v3, iv v7, iv v11, iv b4, rv b16, iv v31, iv (4 : Int32), iv v215, iv v219, iv q1, iv v239, iv q2, .unset, .unset] [(.int (3 : Int32)), (.int (4 : Int32)), (.int q2)])) rfl (by rw [hml]; rfl) (argsL := [(.int q2), (.int (4 : Int32)), (.int (3 : Int32))]) (rest := []) (lenOf pd0_4 rfl) rfl (by show 2 * 0 + _ ≤ _; exact Nat.le_of_eq rfl) (hb hby at_249) (fun _ _ => ⟨rfl, e244, (by decide : 1 + 0 ≤ _), (by decide : 6 + 0 ≤ _)⟩)
            dsimp only [Pt.U, Pt.locs, Pt.cells, Pt.slots] at X248 l248 y248 z248 st248 hQ248
            subst l248 y248 z248
            obtain ⟨D248, Nq248, e248⟩ := hQ248
            have N248 := Fr.app N245 Nq248
            rcases D248 with ⟨rfl, B248⟩ | ⟨rfl, B248⟩
            · skip
              obtain ⟨LL249, X249, N249⟩ : ∃ LL, Stand p l e room_1 s m #[(.int i0), (.int i1), (.int i2), (.int i3), (.int i4)] below meth c T248 LL 1 6 ∧ Fr n0 LL := ⟨_, X248, N248⟩
              have pre250 : ∀ t, own_s p e below T248 m 252 #[iv i0, iv i1, iv i2, iv i3, iv i4, iv b0, iv v3, iv v7, iv v11, iv b4, rv b16, iv v31, iv (4 : Int32), iv v215, iv v219, iv q1, iv v239, iv q2, .unset, .unset] [(.int (1 : Int32))] t → Steps p.tables e below S0 t := fun tX kX => pre247 _ (st248 _ kX)
              have y251 : ta239.toInt = 3 := by omega
              have y252 : le239.toInt = 4 := by omega
              have y253 : pa239.toInt = pa219.toInt * 64 + v7.toInt % 64 := by omega
              have y254 : re239.toInt = 1 := by omega
              have y255 : v239.toInt = -1 := by omega
              have y256 : lo239.toInt = 128 := by omega
              have y257 : hi239.toInt = 191 := by omega
              clear R239
              have pre258 : ∀ t, own_s p e below T248 m 302 #[iv i0, iv i1, iv i2, iv i3, iv i4, iv b0, iv v3, iv v7, iv v11, iv b4, rv b16, iv v31, iv (4 : Int32), iv v215, iv v219, iv q1, iv v239, iv q2, .unset, .unset] [(.int v11), (.ref b16)] t → Steps p.tables e below S0 t := by
                intro tX kX
                refine pre250 _ ?_
                show own_s p e below T248 m 252 #[iv i0, iv i1, iv i2, iv i3, iv i4, iv b0, iv v3, iv v7, iv v11, iv b4, rv b16, iv v31, iv (4 : Int32), iv v215, iv v219, iv q1, iv v239, iv q2, .unset, .unset] [(.int (1 : Int32))] _
                refine XS.ifYes X249.here hx rfl (pc0 := 252) (pc' := 270) rfl (hb hby at_252) rfl ((if0 _ _).trans (feq (by decide : ¬ ((1 : Int32) = (0 : Int32)))).2) (by decide) (by decide) ?_
                show own_s p e below T248 m 270 #[iv i0, iv i1, iv i2, iv i3, iv i4, iv b0, iv v3, iv v7, iv v11, iv b4, rv b16, iv v31, iv (4 : Int32), iv v215, iv v219, iv q1, iv v239, iv q2, .unset, .unset] [] _
                refine XS.iload X249.here hx rfl (hb hby at_270) rfl ?_
                show own_s p e below T248 m 272 #[iv i0, iv i1, iv i2, iv i3, iv i4, iv b0, iv v3, iv v7, iv v11, iv b4, rv b16, iv v31, iv (4 : Int32), iv v215, iv v219, iv q1, iv v239, iv q2, .unset, .unset] [(.int (4 : Int32))] _
                refine XS.iconst X249.here hx rfl (hb hby at_272) ?_
                show own_s p e below T248 m 273 #[iv i0, iv i1, iv i2, iv i3, iv i4, iv b0, iv v3, iv v7, iv v11, iv b4, rv b16, iv v31, iv (4 : Int32), iv v215, iv v219, iv q1, iv v239, iv q2, .unset, .unset] [(.int (3 : Int32)), (.int (4 : Int32))] _
                refine XS.icmpYes X249.here hx rfl (pc0 := 273) (pc' := 290) rfl (hb hby at_273) rfl (feq (by decide : ¬ ((4 : Int32) = (3 : Int32)))).2 (by decide) (by decide) ?_
                show own_s p e below T248 m 290 #[iv i0, iv i1, iv i2, iv i3, iv i4, iv b0, iv v3, iv v7, iv v11, iv b4, rv b16, iv v31, iv (4 : Int32), iv v215, iv v219, iv q1, iv v239, iv q2, .unset, .unset] [] _
                refine XS.iload X249.here hx rfl (hb hby at_290) rfl ?_
                show own_s p e below T248 m 292 #[iv i0, iv i1, iv i2, iv i3, iv i4, iv b0, iv v3, iv v7, iv v11, iv b4, rv b16, iv v31, iv (4 : Int32), iv v215, iv v219, iv q1, iv v239, iv q2, .unset, .unset] [(.int v239)] _
                refine XS.iconst X249.here hx rfl (hb hby at_292) ?_
                show own_s p e below T248 m 293 #[iv i0, iv i1, iv i2, iv i3, iv i4, iv b0, iv v3, iv v7, iv v11, iv b4, rv b16, iv v31, iv (4 : Int32), iv v215, iv v219, iv q1, iv v239, iv q2, .unset, .unset] [(.int (-1 : Int32)), (.int v239)] _
                refine XS.icmpYes X249.here hx rfl (pc0 := 293) (pc' := 298) rfl (hb hby at_293) rfl (teq (own_eqI (show (v239).toInt = ((-1 : Int32)).toInt from (by omega : (v239).toInt = (-1 : Int))))).1 (by decide) (by decide) ?_
                show own_s p e below T248 m 298 #[iv i0, iv i1, iv i2, iv i3, iv i4, iv b0, iv v3, iv v7, iv v11, iv b4, rv b16, iv v31, iv (4 : Int32), iv v215, iv v219, iv q1, iv v239, iv q2, .unset, .unset] [] _
                refine XS.aload X249.here hx rfl (hb hby at_298) rfl rfl ?_
                show own_s p e below T248 m 300 #[iv i0, iv i1, iv i2, iv i3, iv i4, iv b0, iv v3, iv v7, iv v11, iv b4, rv b16, iv v31, iv (4 : Int32), iv v215, iv v219, iv q1, iv v239, iv q2, .unset, .unset] [(.ref b16)] _
                refine XS.iload X249.here hx rfl (hb hby at_300) rfl ?_
                exact kX
              obtain ⟨cq259, kq259, q259a, q259b, q259c⟩ := isOf hZ e248 fE239
              obtain ⟨_, _, ⟨T259, L259, k259, n259⟩, -, X259, ⟨Lc259, hQ259, l259, y259, z259⟩, st259⟩ := X249.virtualBack hx (y := (⟨"com/example/weaverbird/weaverbird/model/xml/Utf8Decoder", "take", "(I)I"⟩ : MethodName)) (z := (⟨"com/example/weaverbird/weaverbird/model/xml/Utf8Decoder", "take", "(I)I"⟩ : MethodName)) hown (mvT hZ (hw _ (List.mem_of_getElem? (i := 13) rfl))) (mvT hZ (hw _ (List.mem_of_getElem? (i := 14) rfl))) (notFace_of_selects (args := #[]) (mvT hZ (hw _ (List.mem_of_getElem? (i := 16) rfl)))) (mvT hZ (hw _ (List.mem_of_getElem? (i := 16) rfl))) (mvT hZ (hw _ (List.mem_of_getElem? (i := 15) rfl))) (by decide) (backOf (W := 0) (rm3 l Z a0 hw [] b16 v11 pa239 le239 ta239 lo239 hi239 re239 T239.heap n0 Z239 fE239 f239_pa f239_le f239_ta f239_lo f239_hi f239_re g_b16 (own_eqI (show (re239).toInt = (1 : Int32).toInt from (by omega : (re239).toInt = 1))) (by omega) (by omega) (by omega) (by omega) (by omega) (by omega)) hZ (hw _ (List.mem_of_getElem? (i := 17) rfl)) (hw _ (List.mem_of_getElem? (i := 6) rfl)) (by decide) (by decide)) q259a q259c (g := (mkF m 302 #[iv i0, iv i1, iv i2, iv i3, iv i4, iv b0, iv v3, iv v7, iv v11, iv b4, rv b16, iv v31, iv (4 : Int32), iv v215, iv v219, iv q1, iv v239, iv q2, .unset, .unset] [(.int v11), (.ref b16)])) rfl (by rw [hml]; rfl) (Steps.refl _) (argsL := [(.int v11)]) (rest := []) (lenOf pd0_0 rfl) rfl (by show 2 * 0 + _ ≤ _; exact Nat.le_of_eq rfl) (hb hby at_302) (fun _ _ => ⟨rfl, e248, (by decide : 1 + 0 ≤ _), (by decide : 6 + 0 ≤ _)⟩)
              dsimp only [Pt.U, Pt.locs, Pt.cells, Pt.slots] at X259 l259 y259 z259 st259 hQ259
              subst l259 y259 z259
              obtain ⟨v259, pa259, le259, ta259, lo259, hi259, re259, rfl, Nq259, Kq259, fE259, f259_pa, f259_le, f259_ta, f259_lo, f259_hi, f259_re, hL259, R259⟩ := hQ259
              have hLi259 := congrArg Int32.toInt hL259
              unfold own_T1 at R259
              have N259 := Fr.app N249 Nq259
              have e259 : T259.heap = T259.heap := rfl
              have Z259 : n0 ≤ T259.heap.size := Nat.le_trans Z239 Kq259.1
              obtain ⟨LL260, X260, N260⟩ : ∃ LL, Stand p l e room_1 s m #[(.int i0), (.int i1), (.int i2), (.int i3), (.int i4)] below meth c T259 LL 1 6 ∧ Fr n0 LL := ⟨_, X259, N259⟩
              have pre261 : ∀ t, own_s p e below T259 m 305 #[iv i0, iv i1, iv i2, iv i3, iv i4, iv b0, iv v3, iv v7, iv v11, iv b4, rv b16, iv v31, iv (4 : Int32), iv v215, iv v219, iv q1, iv v239, iv q2, .unset, .unset] [(.int v259)] t → Steps p.tables e below S0 t := fun tX kX => pre258 _ (st259.trans kX)
              have pre262 : ∀ t, own_s p e below T259 m 318 #[iv i0, iv i1, iv i2, iv i3, iv i4, iv b0, iv v3, iv v7, iv v11, iv b4, rv b16, iv v31, iv (4 : Int32), iv v215, iv v219, iv q1, iv v239, iv q2, iv v259, .unset] [(.int ((q2 <<< ((6 : Int32) &&& 31)) ||| (v11 &&& (63 : Int32))))] t → Steps p.tables e below S0 t := by
                intro tX kX
                refine pre261 _ ?_
                show own_s p e below T259 m 305 #[iv i0, iv i1, iv i2, iv i3, iv i4, iv b0, iv v3, iv v7, iv v11, iv b4, rv b16, iv v31, iv (4 : Int32), iv v215, iv v219, iv q1, iv v239, iv q2, .unset, .unset] [(.int v259)] _
                refine XS.istore X260.here hx rfl (hb hby at_305) rfl (l' := #[iv i0, iv i1, iv i2, iv i3, iv i4, iv b0, iv v3, iv v7, iv v11, iv b4, rv b16, iv v31, iv (4 : Int32), iv v215, iv v219, iv q1, iv v239, iv q2, iv v259, .unset]) rfl ?_
                show own_s p e below T259 m 307 #[iv i0, iv i1, iv i2, iv i3, iv i4, iv b0, iv v3, iv v7, iv v11, iv b4, rv b16, iv v31, iv (4 : Int32), iv v215, iv v219, iv q1, iv v239, iv q2, iv v259, .unset] [] _
                refine XS.iload X260.here hx rfl (hb hby at_307) rfl ?_
                show own_s p e below T259 m 309 #[iv i0, iv i1, iv i2, iv i3, iv i4, iv b0, iv v3, iv v7, iv v11, iv b4, rv b16, iv v31, iv (4 : Int32), iv v215, iv v219, iv q1, iv v239, iv q2, iv v259, .unset] [(.int q2)] _
                refine XS.bipush X260.here hx rfl (hb hby at_309) ?_
                show own_s p e below T259 m 311 #[iv i0, iv i1, iv i2, iv i3, iv i4, iv b0, iv v3, iv v7, iv v11, iv b4, rv b16, iv v31, iv (4 : Int32), iv v215, iv v219, iv q1, iv v239, iv q2, iv v259, .unset] [(.int (6 : Int32)), (.int q2)] _
                refine XS.ishl X260.here hx rfl (hb hby at_311) rfl ?_
                show own_s p e below T259 m 312 #[iv i0, iv i1, iv i2, iv i3, iv i4, iv b0, iv v3, iv v7, iv v11, iv b4, rv b16, iv v31, iv (4 : Int32), iv v215, iv v219, iv q1, iv v239, iv q2, iv v259, .unset] [(.int (q2 <<< ((6 : Int32) &&& 31)))] _
                refine XS.iload X260.here hx rfl (hb hby at_312) rfl ?_
                show own_s p e below T259 m 314 #[iv i0, iv i1, iv i2, iv i3, iv i4, iv b0, iv v3, iv v7, iv v11, iv b4, rv b16, iv v31, iv (4 : Int32), iv v215, iv v219, iv q1, iv v239, iv q2, iv v259, .unset] [(.int v11), (.int (q2 <<< ((6 : Int32) &&& 31)))] _
                refine XS.bipush X260.here hx rfl (hb hby at_314) ?_
                show own_s p e below T259 m 316 #[iv i0, iv i1, iv i2, iv i3, iv i4, iv b0, iv v3, iv v7, iv v11, iv b4, rv b16, iv v31, iv (4 : Int32), iv v215, iv v219, iv q1, iv v239, iv q2, iv v259, .unset] [(.int (63 : Int32)), (.int v11), (.int (q2 <<< ((6 : Int32) &&& 31)))] _
                refine XS.iand X260.here hx rfl (hb hby at_316) rfl ?_
                show own_s p e below T259 m 317 #[iv i0, iv i1, iv i2, iv i3, iv i4, iv b0, iv v3, iv v7, iv v11, iv b4, rv b16, iv v31, iv (4 : Int32), iv v215, iv v219, iv q1, iv v239, iv q2, iv v259, .unset] [(.int (v11 &&& (63 : Int32))), (.int (q2 <<< ((6 : Int32) &&& 31)))] _
                refine XS.ior X260.here hx rfl (hb hby at_317) rfl ?_
                exact kX
              obtain ⟨q3, hq3⟩ : ∃ z : Int32, z = ((q2 <<< ((6 : Int32) &&& 31)) ||| (v11 &&& (63 : Int32))) := ⟨_, rfl⟩
              rw [← hq3] at pre262
              have iq3 : q3.toInt = q2.toInt * 64 + v11.toInt % 64 := by rw [hq3]; exact own_cat q2 v11 (by omega) (by omega)
              have pre263 : ∀ t, own_s p e below T259 m 322 #[iv i0, iv i1, iv i2, iv i3, iv i4, iv b0, iv v3, iv v7, iv v11, iv b4, rv b16, iv v31, iv (4 : Int32), iv v215, iv v219, iv q1, iv v239, iv q2, iv v259, iv q3] [(.int v11)] t → Steps p.tables e below S0 t := by
                intro tX kX
                refine pre262 _ ?_
                show own_s p e below T259 m 318 #[iv i0, iv i1, iv i2, iv i3, iv i4, iv b0, iv v3, iv v7, iv v11, iv b4, rv b16, iv v31, iv (4 : Int32), iv v215, iv v219, iv q1, iv v239, iv q2, iv v259, .unset] [(.int q3)] _
                refine XS.istore X260.here hx rfl (hb hby at_318) rfl (l' := #[iv i0, iv i1, iv i2, iv i3, iv i4, iv b0, iv v3, iv v7, iv v11, iv b4, rv b16, iv v31, iv (4 : Int32), iv v215, iv v219, iv q1, iv v239, iv q2, iv v259, iv q3]) rfl ?_
                show own_s p e below T259 m 320 #[iv i0, iv i1, iv i2, iv i3, iv i4, iv b0, iv v3, iv v7, iv v11, iv b4, rv b16, iv v31, iv (4 : Int32), iv v215, iv v219, iv q1, iv v239, iv q2, iv v259, iv q3] [] _
                refine XS.iload X260.here hx rfl (hb hby at_320) rfl ?_
                exact kX
              obtain ⟨_, _, ⟨T264, L264, k264, n264⟩, -, X264, ⟨Lc264, hQ264, l264, y264, z264⟩, st264⟩ := Jvm.LawKit.callS X260 hx (y := (⟨"com/example/weaverbird/weaverbird/model/xml/Utf8DecoderTakePinLaw", "isCont", "(I)Z"⟩ : MethodName)) hown (mvT hZ (hw _ (List.mem_of_getElem? (i := 61) rfl))) (mvT hZ (hw _ (List.mem_of_getElem? (i := 62) rfl))) (mvT hZ (hw _ (List.mem_of_getElem? (i := 2) rfl))) (mvT hZ (hw _ (List.mem_of_getElem? (i := 63) rfl))) (by decide) (backOf (W := 0) (rm7 l Z a0 hw [] v11  T259.heap n0 Z259 (by omega) (by omega)) hZ (hw _ (List.mem_of_getElem? (i := 63) rfl)) (hw _ (List.mem_of_getElem? (i := 2) rfl)) (by decide) (by decide)) (g := (mkF m 322 #[iv i0, iv i1, iv i2, iv i3, iv i4, iv b0, iv v3, iv v7, iv v11, iv b4, rv b16, iv v31, iv (4 : Int32), iv v215, iv v219, iv q1, iv v239, iv q2, iv v259, iv q3] [(.int v11)])) rfl (by rw [hml]; rfl) (argsL := [(.int v11)]) (rest := []) (lenOf pd0_5 rfl) rfl (by show 2 * 0 + _ ≤ _; exact Nat.le_of_eq rfl) (hb hby at_322) (fun _ _ => ⟨rfl, e259, (by decide : 1 + 0 ≤ _), (by decide : 6 + 0 ≤ _)⟩)
              dsimp only [Pt.U, Pt.locs, Pt.cells, Pt.slots] at X264 l264 y264 z264 st264 hQ264
              subst l264 y264 z264
              obtain ⟨D264, Nq264, e264⟩ := hQ264
              have N264 := Fr.app N260 Nq264
              rcases D264 with ⟨rfl, B264⟩ | ⟨rfl, B264⟩
              · skip
                obtain ⟨LL265, X265, N265⟩ : ∃ LL, Stand p l e room_1 s m #[(.int i0), (.int i1), (.int i2), (.int i3), (.int i4)] below meth c T264 LL 1 6 ∧ Fr n0 LL := ⟨_, X264, N264⟩
                have pre266 : ∀ t, own_s p e below T264 m 325 #[iv i0, iv i1, iv i2, iv i3, iv i4, iv b0, iv v3, iv v7, iv v11, iv b4, rv b16, iv v31, iv (4 : Int32), iv v215, iv v219, iv q1, iv v239, iv q2, iv v259, iv q3] [(.int (1 : Int32))] t → Steps p.tables e below S0 t := fun tX kX => pre263 _ (st264 _ kX)
                have pre267 : ∀ t, own_s p e below T264 m 332 #[iv i0, iv i1, iv i2, iv i3, iv i4, iv b0, iv v3, iv v7, iv v11, iv b4, rv b16, iv v31, iv (4 : Int32), iv v215, iv v219, iv q1, iv v239, iv q2, iv v259, iv q3] [(.int (4 : Int32)), (.int (4 : Int32)), (.int q3)] t → Steps p.tables e below S0 t := by
                  intro tX kX
                  refine pre266 _ ?_
                  show own_s p e below T264 m 325 #[iv i0, iv i1, iv i2, iv i3, iv i4, iv b0, iv v3, iv v7, iv v11, iv b4, rv b16, iv v31, iv (4 : Int32), iv v215, iv v219, iv q1, iv v239, iv q2, iv v259, iv q3] [(.int (1 : Int32))] _
                  refine XS.ifNo X265.here hx rfl (hb hby at_325) rfl ((if0 _ _).trans (feq (by decide : ¬ ((1 : Int32) = (0 : Int32)))).1) ?_
                  show own_s p e below T264 m 328 #[iv i0, iv i1, iv i2, iv i3, iv i4, iv b0, iv v3, iv v7, iv v11, iv b4, rv b16, iv v31, iv (4 : Int32), iv v215, iv v219, iv q1, iv v239, iv q2, iv v259, iv q3] [] _
                  refine XS.iload X265.here hx rfl (hb hby at_328) rfl ?_
                  show own_s p e below T264 m 330 #[iv i0, iv i1, iv i2, iv i3, iv i4, iv b0, iv v3, iv v7, iv v11, iv b4, rv b16, iv v31, iv (4 : Int32), iv v215, iv v219, iv q1, iv v239, iv q2, iv v259, iv q3] [(.int q3)] _
                  refine XS.iconst X265.here hx rfl (hb hby at_330) ?_
                  show own_s p e below T264 m 331 #[iv i0, iv i1, iv i2, iv i3, iv i4, iv b0, iv v3, iv v7, iv v11, iv b4, rv b16, iv v31, iv (4 : Int32), iv v215, iv v219, iv q1, iv v239, iv q2, iv v259, iv q3] [(.int (4 : Int32)), (.int q3)] _
                  refine XS.iconst X265.here hx rfl (hb hby at_331) ?_
                  exact kX
                obtain ⟨_, _, ⟨T268, L268, k268, n268⟩, -, X268, ⟨Lc268, hQ268, l268, y268, z268⟩, st268⟩ := Jvm.LawKit.callS X265 hx (y := (⟨"com/example/weaverbird/weaverbird/model/xml/Utf8DecoderTakePinLaw", "feasible", "(III)Z"⟩ : MethodName)) hown (mvT hZ (hw _ (List.mem_of_getElem? (i := 52) rfl))) (mvT hZ (hw _ (List.mem_of_getElem? (i := 53) rfl))) (mvT hZ (hw _ (List.mem_of_getElem? (i := 2) rfl))) (mvT hZ (hw _ (List.mem_of_getElem? (i := 54) rfl))) (by decide) (backOf (W := 0) (rm28 l Z a0 hw [] q3  T259.heap n0 Z259 (by omega) (by omega)) hZ (hw _ (List.mem_of_getElem? (i := 54) rfl)) (hw _ (List.mem_of_getElem? (i := 2) rfl)) (by decide) (by decide)) (g := (mkF m 332 #[iv i0, iv i1, iv i2, iv i3, iv i4, iv b0, iv v3, iv v7, iv v11, iv b4, rv b16, iv v31, iv (4 : Int32), iv v215, iv v219, iv q1, iv v239, iv q2, iv v259, iv q3] [(.int (4 : Int32)), (.int (4 : Int32)), (.int q3)])) rfl (by rw [hml]; rfl) (argsL := [(.int q3), (.int (4 : Int32)), (.int (4 : Int32))]) (rest := []) (lenOf pd0_4 rfl) rfl (by show 2 * 0 + _ ≤ _; exact Nat.le_of_eq rfl) (hb hby at_332) (fun _ _ => ⟨rfl, e264, (by decide : 1 + 0 ≤ _), (by decide : 6 + 0 ≤ _)⟩)
                dsimp only [Pt.U, Pt.locs, Pt.cells, Pt.slots] at X268 l268 y268 z268 st268 hQ268
                subst l268 y268 z268
                obtain ⟨D268, Nq268, e268⟩ := hQ268
                have N268 := Fr.app N265 Nq268
                rcases D268 with ⟨rfl, B268⟩ | ⟨rfl, B268⟩
                · skip
                  obtain ⟨LL269, X269, N269⟩ : ∃ LL, Stand p l e room_1 s m #[(.int i0), (.int i1), (.int i2), (.int i3), (.int i4)] below meth c T268 LL 1 6 ∧ Fr n0 LL := ⟨_, X268, N268⟩
                  have pre270 : ∀ t, own_s p e below T268 m 335 #[iv i0, iv i1, iv i2, iv i3, iv i4, iv b0, iv v3, iv v7, iv v11, iv b4, rv b16, iv v31, iv (4 : Int32), iv v215, iv v219, iv q1, iv v239, iv q2, iv v259, iv q3] [(.int (1 : Int32))] t → Steps p.tables e below S0 t := fun tX kX => pre267 _ (st268 _ kX)
                  have pre271 : ∀ t, own_s p e below T268 m 362 #[iv i0, iv i1, iv i2, iv i3, iv i4, iv b0, iv v3, iv v7, iv v11, iv b4, rv b16, iv v31, iv (4 : Int32), iv v215, iv v219, iv q1, iv v239, iv q2, iv v259, iv q3] [(.int b4), (.int (4 : Int32)), (.int (4 : Int32)), (.int q3), (.int v259), (.ref b16)] t → Steps p.tables e below S0 t := by
                    intro tX kX
                    refine pre270 _ ?_
                    show own_s p e below T268 m 335 #[iv i0, iv i1, iv i2, iv i3, iv i4, iv b0, iv v3, iv v7, iv v11, iv b4, rv b16, iv v31, iv (4 : Int32), iv v215, iv v219, iv q1, iv v239, iv q2, iv v259, iv q3] [(.int (1 : Int32))] _
                    refine XS.ifYes X269.here hx rfl (pc0 := 335) (pc' := 352) rfl (hb hby at_335) rfl ((if0 _ _).trans (feq (by decide : ¬ ((1 : Int32) = (0 : Int32)))).2) (by decide) (by decide) ?_
                    show own_s p e below T268 m 352 #[iv i0, iv i1, iv i2, iv i3, iv i4, iv b0, iv v3, iv v7, iv v11, iv b4, rv b16, iv v31, iv (4 : Int32), iv v215, iv v219, iv q1, iv v239, iv q2, iv v259, iv q3] [] _
                    refine XS.aload X269.here hx rfl (hb hby at_352) rfl rfl ?_
                    show own_s p e below T268 m 354 #[iv i0, iv i1, iv i2, iv i3, iv i4, iv b0, iv v3, iv v7, iv v11, iv b4, rv b16, iv v31, iv (4 : Int32), iv v215, iv v219, iv q1, iv v239, iv q2, iv v259, iv q3] [(.ref b16)] _
                    refine XS.iload X269.here hx rfl (hb hby at_354) rfl ?_
                    show own_s p e below T268 m 356 #[iv i0, iv i1, iv i2, iv i3, iv i4, iv b0, iv v3, iv v7, iv v11, iv b4, rv b16, iv v31, iv (4 : Int32), iv v215, iv v219, iv q1, iv v239, iv q2, iv v259, iv q3] [(.int v259), (.ref b16)] _
                    refine XS.iload X269.here hx rfl (hb hby at_356) rfl ?_
                    show own_s p e below T268 m 358 #[iv i0, iv i1, iv i2, iv i3, iv i4, iv b0, iv v3, iv v7, iv v11, iv b4, rv b16, iv v31, iv (4 : Int32), iv v215, iv v219, iv q1, iv v239, iv q2, iv v259, iv q3] [(.int q3), (.int v259), (.ref b16)] _
                    refine XS.iconst X269.here hx rfl (hb hby at_358) ?_
                    show own_s p e below T268 m 359 #[iv i0, iv i1, iv i2, iv i3, iv i4, iv b0, iv v3, iv v7, iv v11, iv b4, rv b16, iv v31, iv (4 : Int32), iv v215, iv v219, iv q1, iv v239, iv q2, iv v259, iv q3] [(.int (4 : Int32)), (.int q3), (.int v259), (.ref b16)] _
                    refine XS.iconst X269.here hx rfl (hb hby at_359) ?_
                    show own_s p e below T268 m 360 #[iv i0, iv i1, iv i2, iv i3, iv i4, iv b0, iv v3, iv v7, iv v11, iv b4, rv b16, iv v31, iv (4 : Int32), iv v215, iv v219, iv q1, iv v239, iv q2, iv v259, iv q3] [(.int (4 : Int32)), (.int (4 : Int32)), (.int q3), (.int v259), (.ref b16)] _
                    refine XS.iload X269.here hx rfl (hb hby at_360) rfl ?_
                    exact kX
                  obtain ⟨_, _, ⟨T272, L272, k272, n272⟩, -, X272, ⟨Lc272, hQ272, l272, y272, z272⟩, st272⟩ := Jvm.LawKit.callS X269 hx (y := (⟨"com/example/weaverbird/weaverbird/model/xml/Utf8DecoderTakePinLaw", "ended", "(Lcom/example/weaverbird/weaverbird/model/xml/Utf8Decoder;IIIII)Z"⟩ : MethodName)) hown (mvT hZ (hw _ (List.mem_of_getElem? (i := 33) rfl))) (mvT hZ (hw _ (List.mem_of_getElem? (i := 34) rfl))) (mvT hZ (hw _ (List.mem_of_getElem? (i := 2) rfl))) (mvT hZ (hw _ (List.mem_of_getElem? (i := 35) rfl))) (by decide) (backOf (W := 0) (rm16 l Z a0 hw [] b16 v259 q3 (4 : Int32) (4 : Int32) b4 pa259 le259 ta259 lo259 hi259 re259 T259.heap n0 Z259 fE259 f259_pa f259_le f259_ta f259_lo f259_hi f259_re g_b16 (own_eqI (show (re259).toInt = ((0 : Int32)).toInt from (by omega : (re259).toInt = (0 : Int)))) (own_eqI (show (v259).toInt = (q3).toInt from (by omega : (v259).toInt = (q3).toInt))) (own_eqI (show (le259).toInt = ((4 : Int32)).toInt from (by omega : (le259).toInt = (4 : Int)))) (own_eqI (show (ta259).toInt = ((4 : Int32)).toInt from (by omega : (ta259).toInt = (4 : Int)))) (by omega) (by omega)) hZ (hw _ (List.mem_of_getElem? (i := 35) rfl)) (hw _ (List.mem_of_getElem? (i := 2) rfl)) (by decide) (by decide)) (g := (mkF m 362 #[iv i0, iv i1, iv i2, iv i3, iv i4, iv b0, iv v3, iv v7, iv v11, iv b4, rv b16, iv v31, iv (4 : Int32), iv v215, iv v219, iv q1, iv v239, iv q2, iv v259, iv q3] [(.int b4), (.int (4 : Int32)), (.int (4 : Int32)), (.int q3), (.int v259), (.ref b16)])) rfl (by rw [hml]; rfl) (argsL := [(.ref b16), (.int v259), (.int q3), (.int (4 : Int32)), (.int (4 : Int32)), (.int b4)]) (rest := []) (lenOf pd0_2 rfl) rfl (by show 2 * 0 + _ ≤ _; exact Nat.le_of_eq rfl) (hb hby at_362) (fun _ _ => ⟨rfl, e268, (by decide : 1 + 0 ≤ _), (by decide : 6 + 0 ≤ _)⟩)
                  dsimp only [Pt.U, Pt.locs, Pt.cells, Pt.slots] at X272 l272 y272 z272 st272 hQ272
                  subst l272 y272 z272
                  obtain ⟨rfl, Nq272⟩ := hQ272
                  have N272 := Fr.app N269 Nq272
                  have e272 : T272.heap = T272.heap := rfl
                  obtain ⟨LL273, X273, N273⟩ : ∃ LL, Stand p l e room_1 s m #[(.int i0), (.int i1), (.int i2), (.int i3), (.int i4)] below meth c T272 LL 1 6 ∧ Fr n0 LL := ⟨_, X272, N272⟩
                  have pre274 : ∀ t, own_s p e below T272 m 365 #[iv i0, iv i1, iv i2, iv i3, iv i4, iv b0, iv v3, iv v7, iv v11, iv b4, rv b16, iv v31, iv (4 : Int32), iv v215, iv v219, iv q1, iv v239, iv q2, iv v259, iv q3] [(.int (1 : Int32))] t → Steps p.tables e below S0 t := fun tX kX => pre271 _ (st272 _ kX)
                  subst hS0
                  obtain ⟨fs, hr, hrun, hended, hW, hsame⟩ := X273.leave (v := (some (.int (1 : Int32)))) (fun h => by rw [Bd.returns] at h; cases h)
                  refine ⟨_, _, pre274 _ (retN X273 hx (t := .boolean) Bd.returns (by simp) (hb hby at_365) hr), hrun, hended, _, _, rfl, ?_, ⟨_, rfl⟩, hW, hsame.mono (by decide) (by decide)⟩
                  show Q0 Z i0 i1 i2 i3 i4 h0 n0 (some (.int (1 : Int32))) T272.heap _
                  exact ⟨rfl, N273⟩
                · skip
                  obtain ⟨LL275, X275, N275⟩ : ∃ LL, Stand p l e room_1 s m #[(.int i0), (.int i1), (.int i2), (.int i3), (.int i4)] below meth c T268 LL 1 6 ∧ Fr n0 LL := ⟨_, X268, N268⟩
                  have pre276 : ∀ t, own_s p e below T268 m 335 #[iv i0, iv i1, iv i2, iv i3, iv i4, iv b0, iv v3, iv v7, iv v11, iv b4, rv b16, iv v31, iv (4 : Int32), iv v215, iv v219, iv q1, iv v239, iv q2, iv v259, iv q3] [(.int (0 : Int32))] t → Steps p.tables e below S0 t := fun tX kX => pre267 _ (st268 _ kX)
                  have pre277 : ∀ t, own_s p e below T268 m 348 #[iv i0, iv i1, iv i2, iv i3, iv i4, iv b0, iv v3, iv v7, iv v11, iv b4, rv b16, iv v31, iv (4 : Int32), iv v215, iv v219, iv q1, iv v239, iv q2, iv v259, iv q3] [(.int b4), (.int (4 : Int32)), (.int (4 : Int32)), (.int (-3 : Int32)), (.int v259), (.ref b16)] t → Steps p.tables e below S0 t := by
                    intro tX kX
                    refine pre276 _ ?_
                    show own_s p e below T268 m 335 #[iv i0, iv i1, iv i2, iv i3, iv i4, iv b0, iv v3, iv v7, iv v11, iv b4, rv b16, iv v31, iv (4 : Int32), iv v215, iv v219, iv q1, iv v239, iv q2, iv v259, iv q3] [(.int (0 : Int32))] _
                    refine XS.ifNo X275.here hx rfl (hb hby at_335) rfl ((if0 _ _).trans (teq (by decide : (0 : Int32) = (0 : Int32))).2) ?_
                    show own_s p e below T268 m 338 #[iv i0, iv i1, iv i2, iv i3, iv i4, iv b0, iv v3, iv v7, iv v11, iv b4, rv b16, iv v31, iv (4 : Int32), iv v215, iv v219, iv q1, iv v239, iv q2, iv v259, iv q3] [] _
                    refine XS.aload X275.here hx rfl (hb hby at_338) rfl rfl ?_
                    show own_s p e below T268 m 340 #[iv i0, iv i1, iv i2, iv i3, iv i4, iv b0, iv v3, iv v7, iv v11, iv b4, rv b16, iv v31, iv (4 : Int32), iv v215, iv v219, iv q1, iv v239, iv q2, iv v259, iv q3] [(.ref b16)] _
                    refine XS.iload X275.here hx rfl (hb hby at_340) rfl ?_
                    show own_s p e below T268 m 342 #[iv i0, iv i1, iv i2, iv i3, iv i4, iv b0, iv v3, iv v7, iv v11, iv b4, rv b16, iv v31, iv (4 : Int32), iv v215, iv v219, iv q1, iv v239, iv q2, iv v259, iv q3] [(.int v259), (.ref b16)] _
                    refine XS.bipush X275.here hx rfl (hb hby at_342) ?_
                    show own_s p e below T268 m 344 #[iv i0, iv i1, iv i2, iv i3, iv i4, iv b0, iv v3, iv v7, iv v11, iv b4, rv b16, iv v31, iv (4 : Int32), iv v215, iv v219, iv q1, iv v239, iv q2, iv v259, iv q3] [(.int (-3 : Int32)), (.int v259), (.ref b16)] _
                    refine XS.iconst X275.here hx rfl (hb hby at_344) ?_
                    show own_s p e below T268 m 345 #[iv i0, iv i1, iv i2, iv i3, iv i4, iv b0, iv v3, iv v7, iv v11, iv b4, rv b16, iv v31, iv (4 : Int32), iv v215, iv v219, iv q1, iv v239, iv q2, iv v259, iv q3] [(.int (4 : Int32)), (.int (-3 : Int32)), (.int v259), (.ref b16)] _
                    refine XS.iconst X275.here hx rfl (hb hby at_345) ?_
                    show own_s p e below T268 m 346 #[iv i0, iv i1, iv i2, iv i3, iv i4, iv b0, iv v3, iv v7, iv v11, iv b4, rv b16, iv v31, iv (4 : Int32), iv v215, iv v219, iv q1, iv v239, iv q2, iv v259, iv q3] [(.int (4 : Int32)), (.int (4 : Int32)), (.int (-3 : Int32)), (.int v259), (.ref b16)] _
                    refine XS.iload X275.here hx rfl (hb hby at_346) rfl ?_
                    exact kX
                  obtain ⟨_, _, ⟨T278, L278, k278, n278⟩, -, X278, ⟨Lc278, hQ278, l278, y278, z278⟩, st278⟩ := Jvm.LawKit.callS X275 hx (y := (⟨"com/example/weaverbird/weaverbird/model/xml/Utf8DecoderTakePinLaw", "ended", "(Lcom/example/weaverbird/weaverbird/model/xml/Utf8Decoder;IIIII)Z"⟩ : MethodName)) hown (mvT hZ (hw _ (List.mem_of_getElem? (i := 33) rfl))) (mvT hZ (hw _ (List.mem_of_getElem? (i := 34) rfl))) (mvT hZ (hw _ (List.mem_of_getElem? (i := 2) rfl))) (mvT hZ (hw _ (List.mem_of_getElem? (i := 35) rfl))) (by decide) (backOf (W := 0) (rm16 l Z a0 hw [] b16 v259 (-3 : Int32) (4 : Int32) (4 : Int32) b4 pa259 le259 ta259 lo259 hi259 re259 T259.heap n0 Z259 fE259 f259_pa f259_le f259_ta f259_lo f259_hi f259_re g_b16 (own_eqI (show (re259).toInt = ((0 : Int32)).toInt from (by omega : (re259).toInt = (0 : Int)))) (own_eqI (show (v259).toInt = ((-3 : Int32)).toInt from (by omega : (v259).toInt = (-3 : Int)))) (own_eqI (show (le259).toInt = ((4 : Int32)).toInt from (by omega : (le259).toInt = (4 : Int)))) (own_eqI (show (ta259).toInt = ((4 : Int32)).toInt from (by omega : (ta259).toInt = (4 : Int)))) (by omega) (by omega)) hZ (hw _ (List.mem_of_getElem? (i := 35) rfl)) (hw _ (List.mem_of_getElem? (i := 2) rfl)) (by decide) (by decide)) (g := (mkF m 348 #[iv i0, iv i1, iv i2, iv i3, iv i4, iv b0, iv v3, iv v7, iv v11, iv b4, rv b16, iv v31, iv (4 : Int32), iv v215, iv v219, iv q1, iv v239, iv q2, iv v259, iv q3] [(.int b4), (.int (4 : Int32)), (.int (4 : Int32)), (.int (-3 : Int32)), (.int v259), (.ref b16)])) rfl (by rw [hml]; rfl) (argsL := [(.ref b16), (.int v259), (.int (-3 : Int32)), (.int (4 : Int32)), (.int (4 : Int32)), (.int b4)]) (rest := []) (lenOf pd0_2 rfl) rfl (by show 2 * 0 + _ ≤ _; exact Nat.le_of_eq rfl) (hb hby at_348) (fun _ _ => ⟨rfl, e268, (by decide : 1 + 0 ≤ _), (by decide : 6 + 0 ≤ _)⟩)
                  dsimp only [Pt.U, Pt.locs, Pt.cells, Pt.slots] at X278 l278 y278 z278 st278 hQ278
                  subst l278 y278 z278
                  obtain ⟨rfl, Nq278⟩ := hQ278
                  have N278 := Fr.app N275 Nq278
                  have e278 : T278.heap = T278.heap := rfl
                  obtain ⟨LL279, X279, N279⟩ : ∃ LL, Stand p l e room_1 s m #[(.int i0), (.int i1), (.int i2), (.int i3), (.int i4)] below meth c T278 LL 1 6 ∧ Fr n0 LL := ⟨_, X278, N278⟩
                  have pre280 : ∀ t, own_s p e below T278 m 351 #[iv i0, iv i1, iv i2, iv i3, iv i4, iv b0, iv v3, iv v7, iv v11, iv b4, rv b16, iv v31, iv (4 : Int32), iv v215, iv v219, iv q1, iv v239, iv q2, iv v259, iv q3] [(.int (1 : Int32))] t → Steps p.tables e below S0 t := fun tX kX => pre277 _ (st278 _ kX)
                  subst hS0
                  obtain ⟨fs, hr, hrun, hended, hW, hsame⟩ := X279.leave (v := (some (.int (1 : Int32)))) (fun h => by rw [Bd.returns] at h; cases h)
                  refine ⟨_, _, pre280 _ (retN X279 hx (t := .boolean) Bd.returns (by simp) (hb hby at_351) hr), hrun, hended, _, _, rfl, ?_, ⟨_, rfl⟩, hW, hsame.mono (by decide) (by decide)⟩
                  show Q0 Z i0 i1 i2 i3 i4 h0 n0 (some (.int (1 : Int32))) T278.heap _
                  exact ⟨rfl, N279⟩
              · skip
                obtain ⟨LL281, X281, N281⟩ : ∃ LL, Stand p l e room_1 s m #[(.int i0), (.int i1), (.int i2), (.int i3), (.int i4)] below meth c T264 LL 1 6 ∧ Fr n0 LL := ⟨_, X264, N264⟩
                have pre282 : ∀ t, own_s p e below T264 m 325 #[iv i0, iv i1, iv i2, iv i3, iv i4, iv b0, iv v3, iv v7, iv v11, iv b4, rv b16, iv v31, iv (4 : Int32), iv v215, iv v219, iv q1, iv v239, iv q2, iv v259, iv q3] [(.int (0 : Int32))] t → Steps p.tables e below S0 t := fun tX kX => pre263 _ (st264 _ kX)
                have pre283 : ∀ t, own_s p e below T264 m 348 #[iv i0, iv i1, iv i2, iv i3, iv i4, iv b0, iv v3, iv v7, iv v11, iv b4, rv b16, iv v31, iv (4 : Int32), iv v215, iv v219, iv q1, iv v239, iv q2, iv v259, iv q3] [(.int b4), (.int (4 : Int32)), (.int (4 : Int32)), (.int (-3 : Int32)), (.int v259), (.ref b16)] t → Steps p.tables e below S0 t := by
                  intro tX kX
                  refine pre282 _ ?_
                  show own_s p e below T264 m 325 #[iv i0, iv i1, iv i2, iv i3, iv i4, iv b0, iv v3, iv v7, iv v11, iv b4, rv b16, iv v31, iv (4 : Int32), iv v215, iv v219, iv q1, iv v239, iv q2, iv v259, iv q3] [(.int (0 : Int32))] _
                  refine XS.ifYes X281.here hx rfl (pc0 := 325) (pc' := 338) rfl (hb hby at_325) rfl ((if0 _ _).trans (teq (by decide : (0 : Int32) = (0 : Int32))).1) (by decide) (by decide) ?_
                  show own_s p e below T264 m 338 #[iv i0, iv i1, iv i2, iv i3, iv i4, iv b0, iv v3, iv v7, iv v11, iv b4, rv b16, iv v31, iv (4 : Int32), iv v215, iv v219, iv q1, iv v239, iv q2, iv v259, iv q3] [] _
                  refine XS.aload X281.here hx rfl (hb hby at_338) rfl rfl ?_
                  show own_s p e below T264 m 340 #[iv i0, iv i1, iv i2, iv i3, iv i4, iv b0, iv v3, iv v7, iv v11, iv b4, rv b16, iv v31, iv (4 : Int32), iv v215, iv v219, iv q1, iv v239, iv q2, iv v259, iv q3] [(.ref b16)] _
                  refine XS.iload X281.here hx rfl (hb hby at_340) rfl ?_
                  show own_s p e below T264 m 342 #[iv i0, iv i1, iv i2, iv i3, iv i4, iv b0, iv v3, iv v7, iv v11, iv b4, rv b16, iv v31, iv (4 : Int32), iv v215, iv v219, iv q1, iv v239, iv q2, iv v259, iv q3] [(.int v259), (.ref b16)] _
                  refine XS.bipush X281.here hx rfl (hb hby at_342) ?_
                  show own_s p e below T264 m 344 #[iv i0, iv i1, iv i2, iv i3, iv i4, iv b0, iv v3, iv v7, iv v11, iv b4, rv b16, iv v31, iv (4 : Int32), iv v215, iv v219, iv q1, iv v239, iv q2, iv v259, iv q3] [(.int (-3 : Int32)), (.int v259), (.ref b16)] _
                  refine XS.iconst X281.here hx rfl (hb hby at_344) ?_
                  show own_s p e below T264 m 345 #[iv i0, iv i1, iv i2, iv i3, iv i4, iv b0, iv v3, iv v7, iv v11, iv b4, rv b16, iv v31, iv (4 : Int32), iv v215, iv v219, iv q1, iv v239, iv q2, iv v259, iv q3] [(.int (4 : Int32)), (.int (-3 : Int32)), (.int v259), (.ref b16)] _
                  refine XS.iconst X281.here hx rfl (hb hby at_345) ?_
                  show own_s p e below T264 m 346 #[iv i0, iv i1, iv i2, iv i3, iv i4, iv b0, iv v3, iv v7, iv v11, iv b4, rv b16, iv v31, iv (4 : Int32), iv v215, iv v219, iv q1, iv v239, iv q2, iv v259, iv q3] [(.int (4 : Int32)), (.int (4 : Int32)), (.int (-3 : Int32)), (.int v259), (.ref b16)] _
                  refine XS.iload X281.here hx rfl (hb hby at_346) rfl ?_
                  exact kX
                obtain ⟨_, _, ⟨T284, L284, k284, n284⟩, -, X284, ⟨Lc284, hQ284, l284, y284, z284⟩, st284⟩ := Jvm.LawKit.callS X281 hx (y := (⟨"com/example/weaverbird/weaverbird/model/xml/Utf8DecoderTakePinLaw", "ended", "(Lcom/example/weaverbird/weaverbird/model/xml/Utf8Decoder;IIIII)Z"⟩ : MethodName)) hown (mvT hZ (hw _ (List.mem_of_getElem? (i := 33) rfl))) (mvT hZ (hw _ (List.mem_of_getElem? (i := 34) rfl))) (mvT hZ (hw _ (List.mem_of_getElem? (i := 2) rfl))) (mvT hZ (hw _ (List.mem_of_getElem? (i := 35) rfl))) (by decide) (backOf (W := 0) (rm16 l Z a0 hw [] b16 v259 (-3 : Int32) (4 : Int32) (4 : Int32) b4 pa259 le259 ta259 lo259 hi259 re259 T259.heap n0 Z259 fE259 f259_pa f259_le f259_ta f259_lo f259_hi f259_re g_b16 (own_eqI (show (re259).toInt = ((0 : Int32)).toInt from (by omega : (re259).toInt = (0 : Int)))) (own_eqI (show (v259).toInt = ((-3 : Int32)).toInt from (by omega : (v259).toInt = (-3 : Int)))) (own_eqI (show (le259).toInt = ((4 : Int32)).toInt from (by omega : (le259).toInt = (4 : Int)))) (own_eqI (show (ta259).toInt = ((4 : Int32)).toInt from (by omega : (ta259).toInt = (4 : Int)))) (by omega) (by omega)) hZ (hw _ (List.mem_of_getElem? (i := 35) rfl)) (hw _ (List.mem_of_getElem? (i := 2) rfl)) (by decide) (by decide)) (g := (mkF m 348 #[iv i0, iv i1, iv i2, iv i3, iv i4, iv b0, iv v3, iv v7, iv v11, iv b4, rv b16, iv v31, iv (4 : Int32), iv v215, iv v219, iv q1, iv v239, iv q2, iv v259, iv q3] [(.int b4), (.int (4 : Int32)), (.int (4 : Int32)), (.int (-3 : Int32)), (.int v259), (.ref b16)])) rfl (by rw [hml]; rfl) (argsL := [(.ref b16), (.int v259), (.int (-3 : Int32)), (.int (4 : Int32)), (.int (4 : Int32)), (.int b4)]) (rest := []) (lenOf pd0_2 rfl) rfl (by show 2 * 0 + _ ≤ _; exact Nat.le_of_eq rfl) (hb hby at_348) (fun _ _ => ⟨rfl, e264, (by decide : 1 + 0 ≤ _), (by decide : 6 + 0 ≤ _)⟩)
                dsimp only [Pt.U, Pt.locs, Pt.cells, Pt.slots] at X284 l284 y284 z284 st284 hQ284
                subst l284 y284 z284
                obtain ⟨rfl, Nq284⟩ := hQ284
                have N284 := Fr.app N281 Nq284
                have e284 : T284.heap = T284.heap := rfl
                obtain ⟨LL285, X285, N285⟩ : ∃ LL, Stand p l e room_1 s m #[(.int i0), (.int i1), (.int i2), (.int i3), (.int i4)] below meth c T284 LL 1 6 ∧ Fr n0 LL := ⟨_, X284, N284⟩
                have pre286 : ∀ t, own_s p e below T284 m 351 #[iv i0, iv i1, iv i2, iv i3, iv i4, iv b0, iv v3, iv v7, iv v11, iv b4, rv b16, iv v31, iv (4 : Int32), iv v215, iv v219, iv q1, iv v239, iv q2, iv v259, iv q3] [(.int (1 : Int32))] t → Steps p.tables e below S0 t := fun tX kX => pre283 _ (st284 _ kX)
                subst hS0
                obtain ⟨fs, hr, hrun, hended, hW, hsame⟩ := X285.leave (v := (some (.int (1 : Int32)))) (fun h => by rw [Bd.returns] at h; cases h)
                refine ⟨_, _, pre286 _ (retN X285 hx (t := .boolean) Bd.returns (by simp) (hb hby at_351) hr), hrun, hended, _, _, rfl, ?_, ⟨_, rfl⟩, hW, hsame.mono (by decide) (by decide)⟩
                show Q0 Z i0 i1 i2 i3 i4 h0 n0 (some (.int (1 : Int32))) T284.heap _
                exact ⟨rfl, N285⟩
            · skip
              obtain ⟨LL287, X287, N287⟩ : ∃ LL, Stand p l e room_1 s m #[(.int i0), (.int i1), (.int i2), (.int i3), (.int i4)] below meth c T248 LL 1 6 ∧ Fr n0 LL := ⟨_, X248, N248⟩
              have pre288 : ∀ t, own_s p e below T248 m 252 #[iv i0, iv i1, iv i2, iv i3, iv i4, iv b0, iv v3, iv v7, iv v11, iv b4, rv b16, iv v31, iv (4 : Int32), iv v215, iv v219, iv q1, iv v239, iv q2, .unset, .unset] [(.int (0 : Int32))] t → Steps p.tables e below S0 t := fun tX kX => pre247 _ (st248 _ kX)
              have pre289 : ∀ t, own_s p e below T248 m 266 #[iv i0, iv i1, iv i2, iv i3, iv i4, iv b0, iv v3, iv v7, iv v11, iv b4, rv b16, iv v31, iv (4 : Int32), iv v215, iv v219, iv q1, iv v239, iv q2, .unset, .unset] [(.int b4), (.int (3 : Int32)), (.int (4 : Int32)), (.int (-3 : Int32)), (.int v239), (.ref b16)] t → Steps p.tables e below S0 t := by
                intro tX kX
                refine pre288 _ ?_
                show own_s p e below T248 m 252 #[iv i0, iv i1, iv i2, iv i3, iv i4, iv b0, iv v3, iv v7, iv v11, iv b4, rv b16, iv v31, iv (4 : Int32), iv v215, iv v219, iv q1, iv v239, iv q2, .unset, .unset] [(.int (0 : Int32))] _
                refine XS.ifNo X287.here hx rfl (hb hby at_252) rfl ((if0 _ _).trans (teq (by decide : (0 : Int32) = (0 : Int32))).2) ?_
                show own_s p e below T248 m 255 #[iv i0, iv i1, iv i2, iv i3, iv i4, iv b0, iv v3, iv v7, iv v11, iv b4, rv b16, iv v31, iv (4 : Int32), iv v215, iv v219, iv q1, iv v239, iv q2, .unset, .unset] [] _
                refine XS.aload X287.here hx rfl (hb hby at_255) rfl rfl ?_
                show own_s p e below T248 m 257 #[iv i0, iv i1, iv i2, iv i3, iv i4, iv b0, iv v3, iv v7, iv v11, iv b4, rv b16, iv v31, iv (4 : Int32), iv v215, iv v219, iv q1, iv v239, iv q2, .unset, .unset] [(.ref b16)] _
                refine XS.iload X287.here hx rfl (hb hby at_257) rfl ?_
                show own_s p e below T248 m 259 #[iv i0, iv i1, iv i2, iv i3, iv i4, iv b0, iv v3, iv v7, iv v11, iv b4, rv b16, iv v31, iv (4 : Int32), iv v215, iv v219, iv q1, iv v239, iv q2, .unset, .unset] [(.int v239), (.ref b16)] _
                refine XS.bipush X287.here hx rfl (hb hby at_259) ?_
                show own_s p e below T248 m 261 #[iv i0, iv i1, iv i2, iv i3, iv i4, iv b0, iv v3, iv v7, iv v11, iv b4, rv b16, iv v31, iv (4 : Int32), iv v215, iv v219, iv q1, iv v239, iv q2, .unset, .unset] [(.int (-3 : Int32)), (.int v239), (.ref b16)] _
                refine XS.iload X287.here hx rfl (hb hby at_261) rfl ?_
                show own_s p e below T248 m 263 #[iv i0, iv i1, iv i2, iv i3, iv i4, iv b0, iv v3, iv v7, iv v11, iv b4, rv b16, iv v31, iv (4 : Int32), iv v215, iv v219, iv q1, iv v239, iv q2, .unset, .unset] [(.int (4 : Int32)), (.int (-3 : Int32)), (.int v239), (.ref b16)] _
                refine XS.iconst X287.here hx rfl (hb hby at_263) ?_
                show own_s p e below T248 m 264 #[iv i0, iv i1, iv i2, iv i3, iv i4, iv b0, iv v3, iv v7, iv v11, iv b4, rv b16, iv v31, iv (4 : Int32), iv v215, iv v219, iv q1, iv v239, iv q2, .unset, .unset] [(.int (3 : Int32)), (.int (4 : Int32)), (.int (-3 : Int32)), (.int v239), (.ref b16)] _
                refine XS.iload X287.here hx rfl (hb hby at_264) rfl ?_
                exact kX
              obtain ⟨_, _, ⟨T290, L290, k290, n290⟩, -, X290, ⟨Lc290, hQ290, l290, y290, z290⟩, st290⟩ := Jvm.LawKit.callS X287 hx (y := (⟨"com/example/weaverbird/weaverbird/model/xml/Utf8DecoderTakePinLaw", "ended", "(Lcom/example/weaverbird/weaverbird/model/xml/Utf8Decoder;IIIII)Z"⟩ : MethodName)) hown (mvT hZ (hw _ (List.mem_of_getElem? (i := 33) rfl))) (mvT hZ (hw _ (List.mem_of_getElem? (i := 34) rfl))) (mvT hZ (hw _ (List.mem_of_getElem? (i := 2) rfl))) (mvT hZ (hw _ (List.mem_of_getElem? (i := 35) rfl))) (by decide) (backOf (W := 0) (rm16 l Z a0 hw [] b16 v239 (-3 : Int32) (4 : Int32) (3 : Int32) b4 pa239 le239 ta239 lo239 hi239 re239 T239.heap n0 Z239 fE239 f239_pa f239_le f239_ta f239_lo f239_hi f239_re g_b16 (own_eqI (show (re239).toInt = ((0 : Int32)).toInt from (by omega : (re239).toInt = (0 : Int)))) (own_eqI (show (v239).toInt = ((-3 : Int32)).toInt from (by omega : (v239).toInt = (-3 : Int)))) (own_eqI (show (le239).toInt = ((4 : Int32)).toInt from (by omega : (le239).toInt = (4 : Int)))) (own_eqI (show (ta239).toInt = ((3 : Int32)).toInt from (by omega : (ta239).toInt = (3 : Int)))) (by omega) (by omega)) hZ (hw _ (List.mem_of_getElem? (i := 35) rfl)) (hw _ (List.mem_of_getElem? (i := 2) rfl)) (by decide) (by decide)) (g := (mkF m 266 #[iv i0, iv i1, iv i2, iv i3, iv i4, iv b0, iv v3, iv v7, iv v11, iv b4, rv b16, iv v31, iv (4 : Int32), iv v215, iv v219, iv q1, iv v239, iv q2, .unset, .unset] [(.int b4), (.int (3 : Int32)), (.int (4 : Int32)), (.int (-3 : Int32)), (.int v239), (.ref b16)])) rfl (by rw [hml]; rfl) (argsL := [(.ref b16), (.int v239), (.int (-3 : Int32)), (.int (4 : Int32)), (.int (3 : Int32)), (.int b4)]) (rest := []) (lenOf pd0_2 rfl) rfl (by show 2 * 0 + _ ≤ _; exact Nat.le_of_eq rfl) (hb hby at_266) (fun _ _ => ⟨rfl, e248, (by decide : 1 + 0 ≤ _), (by decide : 6 + 0 ≤ _)⟩)
              dsimp only [Pt.U, Pt.locs, Pt.cells, Pt.slots] at X290 l290 y290 z290 st290 hQ290
              subst l290 y290 z290
              obtain ⟨rfl, Nq290⟩ := hQ290
              have N290 := Fr.app N287 Nq290
              have e290 : T290.heap = T290.heap := rfl
              obtain ⟨LL291, X291, N291⟩ : ∃ LL, Stand p l e room_1 s m #[(.int i0), (.int i1), (.int i2), (.int i3), (.int i4)] below meth c T290 LL 1 6 ∧ Fr n0 LL := ⟨_, X290, N290⟩
              have pre292 : ∀ t, own_s p e below T290 m 269 #[iv i0, iv i1, iv i2, iv i3, iv i4, iv b0, iv v3, iv v7, iv v11, iv b4, rv b16, iv v31, iv (4 : Int32), iv v215, iv v219, iv q1, iv v239, iv q2, .unset, .unset] [(.int (1 : Int32))] t → Steps p.tables e below S0 t := fun tX kX => pre289 _ (st290 _ kX)
              subst hS0
              obtain ⟨fs, hr, hrun, hended, hW, hsame⟩ := X291.leave (v := (some (.int (1 : Int32)))) (fun h => by rw [Bd.returns] at h; cases h)
              refine ⟨_, _, pre292 _ (retN X291 hx (t := .boolean) Bd.returns (by simp) (hb hby at_269) hr), hrun, hended, _, _, rfl, ?_, ⟨_, rfl⟩, hW, hsame.mono (by decide) (by decide)⟩
              show Q0 Z i0 i1 i2 i3 i4 h0 n0 (some (.int (1 : Int32))) T290.heap _
              exact ⟨rfl, N291⟩
          · skip
            obtain ⟨LL293, X293, N293⟩ : ∃ LL, Stand p l e room_1 s m #[(.int i0), (.int i1), (.int i2), (.int i3), (.int i4)] below meth c T244 LL 1 6 ∧ Fr n0 LL := ⟨_, X244, N244⟩
            have pre294 : ∀ t, own_s p e below T244 m 241 #[iv i0, iv i1, iv i2, iv i3, iv i4, iv b0, iv v3, iv v7, iv v11, iv b4, rv b16, iv v31, iv (4 : Int32), iv v215, iv v219, iv q1, iv v239, iv q2, .unset, .unset] [(.int (0 : Int32))] t → Steps p.tables e below S0 t := fun tX kX => pre243 _ (st244 _ kX)
            have pre295 : ∀ t, own_s p e below T244 m 266 #[iv i0, iv i1, iv i2, iv i3, iv i4, iv b0, iv v3, iv v7, iv v11, iv b4, rv b16, iv v31, iv (4 : Int32), iv v215, iv v219, iv q1, iv v239, iv q2, .unset, .unset] [(.int b4), (.int (3 : Int32)), (.int (4 : Int32)), (.int (-3 : Int32)), (.int v239), (.ref b16)] t → Steps p.tables e below S0 t := by
              intro tX kX
              refine pre294 _ ?_
              show own_s p e below T244 m 241 #[iv i0, iv i1, iv i2, iv i3, iv i4, iv b0, iv v3, iv v7, iv v11, iv b4, rv b16, iv v31, iv (4 : Int32), iv v215, iv v219, iv q1, iv v239, iv q2, .unset, .unset] [(.int (0 : Int32))] _
              refine XS.ifYes X293.here hx rfl (pc0 := 241) (pc' := 255) rfl (hb hby at_241) rfl ((if0 _ _).trans (teq (by decide : (0 : Int32) = (0 : Int32))).1) (by decide) (by decide) ?_
              show own_s p e below T244 m 255 #[iv i0, iv i1, iv i2, iv i3, iv i4, iv b0, iv v3, iv v7, iv v11, iv b4, rv b16, iv v31, iv (4 : Int32), iv v215, iv v219, iv q1, iv v239, iv q2, .unset, .unset] [] _
              refine XS.aload X293.here hx rfl (hb hby at_255) rfl rfl ?_
              show own_s p e below T244 m 257 #[iv i0, iv i1, iv i2, iv i3, iv i4, iv b0, iv v3, iv v7, iv v11, iv b4, rv b16, iv v31, iv (4 : Int32), iv v215, iv v219, iv q1, iv v239, iv q2, .unset, .unset] [(.ref b16)] _
              refine XS.iload X293.here hx rfl (hb hby at_257) rfl ?_
              show own_s p e below T244 m 259 #[iv i0, iv i1, iv i2, iv i3, iv i4, iv b0, iv v3, iv v7, iv v11, iv b4, rv b16, iv v31, iv (4 : Int32), iv v215, iv v219, iv q1, iv v239, iv q2, .unset, .unset] [(.int v239), (.ref b16)] _
              refine XS.bipush X293.here hx rfl (hb hby at_259) ?_
              show own_s p e below T244 m 261 #[iv i0, iv i1, iv i2, iv i3, iv i4, iv b0, iv v3, iv v7, iv v11, iv b4, rv b16, iv v31, iv (4 : Int32), iv v215, iv v219, iv q1, iv v239, iv q2, .unset, .unset] [(.int (-3 : Int32)), (.int v239), (.ref b16)] _
              refine XS.iload X293.here hx rfl (hb hby at_261) rfl ?_
              show own_s p e below T244 m 263 #[iv i0, iv i1, iv i2, iv i3, iv i4, iv b0, iv v3, iv v7, iv v11, iv b4, rv b16, iv v31, iv (4 : Int32), iv v215, iv v219, iv q1, iv v239, iv q2, .unset, .unset] [(.int (4 : Int32)), (.int (-3 : Int32)), (.int v239), (.ref b16)] _
              refine XS.iconst X293.here hx rfl (hb hby at_263) ?_
              show own_s p e below T244 m 264 #[iv i0, iv i1, iv i2, iv i3, iv i4, iv b0, iv v3, iv v7, iv v11, iv b4, rv b16, iv v31, iv (4 : Int32), iv v215, iv v219, iv q1, iv v239, iv q2, .unset, .unset] [(.int (3 : Int32)), (.int (4 : Int32)), (.int (-3 : Int32)), (.int v239), (.ref b16)] _
              refine XS.iload X293.here hx rfl (hb hby at_264) rfl ?_
              exact kX
            obtain ⟨_, _, ⟨T296, L296, k296, n296⟩, -, X296, ⟨Lc296, hQ296, l296, y296, z296⟩, st296⟩ := Jvm.LawKit.callS X293 hx (y := (⟨"com/example/weaverbird/weaverbird/model/xml/Utf8DecoderTakePinLaw", "ended", "(Lcom/example/weaverbird/weaverbird/model/xml/Utf8Decoder;IIIII)Z"⟩ : MethodName)) hown (mvT hZ (hw _ (List.mem_of_getElem? (i := 33) rfl))) (mvT hZ (hw _ (List.mem_of_getElem? (i := 34) rfl))) (mvT hZ (hw _ (List.mem_of_getElem? (i := 2) rfl))) (mvT hZ (hw _ (List.mem_of_getElem? (i := 35) rfl))) (by decide) (backOf (W := 0) (rm16 l Z a0 hw [] b16 v239 (-3 : Int32) (4 : Int32) (3 : Int32) b4 pa239 le239 ta239 lo239 hi239 re239 T239.heap n0 Z239 fE239 f239_pa f239_le f239_ta f239_lo f239_hi f239_re g_b16 (own_eqI (show (re239).toInt = ((0 : Int32)).toInt from (by omega : (re239).toInt = (0 : Int)))) (own_eqI (show (v239).toInt = ((-3 : Int32)).toInt from (by omega : (v239).toInt = (-3 : Int)))) (own_eqI (show (le239).toInt = ((4 : Int32)).toInt from (by omega : (le239).toInt = (4 : Int)))) (own_eqI (show (ta239).toInt = ((3 : Int32)).toInt from (by omega : (ta239).toInt = (3 : Int)))) (by omega) (by omega)) hZ (hw _ (List.mem_of_getElem? (i := 35) rfl)) (hw _ (List.mem_of_getElem? (i := 2) rfl)) (by decide) (by decide)) (g := (mkF m 266 #[iv i0, iv i1, iv i2, iv i3, iv i4, iv b0, iv v3, iv v7, iv v11, iv b4, rv b16, iv v31, iv (4 : Int32), iv v215, iv v219, iv q1, iv v239, iv q2, .unset, .unset] [(.int b4), (.int (3 : Int32)), (.int (4 : Int32)), (.int (-3 : Int32)), (.int v239), (.ref b16)])) rfl (by rw [hml]; rfl) (argsL := [(.ref b16), (.int v239), (.int (-3 : Int32)), (.int (4 : Int32)), (.int (3 : Int32)), (.int b4)]) (rest := []) (lenOf pd0_2 rfl) rfl (by show 2 * 0 + _ ≤ _; exact Nat.le_of_eq rfl) (hb hby at_266) (fun _ _ => ⟨rfl, e244, (by decide : 1 + 0 ≤ _), (by decide : 6 + 0 ≤ _)⟩)
            dsimp only [Pt.U, Pt.locs, Pt.cells, Pt.slots] at X296 l296 y296 z296 st296 hQ296
            subst l296 y296 z296
            obtain ⟨rfl, Nq296⟩ := hQ296
            have N296 := Fr.app N293 Nq296
            have e296 : T296.heap = T296.heap := rfl
            obtain ⟨LL297, X297, N297⟩ : ∃ LL, Stand p l e room_1 s m #[(.int i0), (.int i1), (.int i2), (.int i3), (.int i4)] below meth c T296 LL 1 6 ∧ Fr n0 LL := ⟨_, X296, N296⟩
            have pre298 : ∀ t, own_s p e below T296 m 269 #[iv i0, iv i1, iv i2, iv i3, iv i4, iv b0, iv v3, iv v7, iv v11, iv b4, rv b16, iv v31, iv (4 : Int32), iv v215, iv v219, iv q1, iv v239, iv q2, .unset, .unset] [(.int (1 : Int32))] t → Steps p.tables e below S0 t := fun tX kX => pre295 _ (st296 _ kX)
            subst hS0
            obtain ⟨fs, hr, hrun, hended, hW, hsame⟩ := X297.leave (v := (some (.int (1 : Int32)))) (fun h => by rw [Bd.returns] at h; cases h)
            refine ⟨_, _, pre298 _ (retN X297 hx (t := .boolean) Bd.returns (by simp) (hb hby at_269) hr), hrun, hended, _, _, rfl, ?_, ⟨_, rfl⟩, hW, hsame.mono (by decide) (by decide)⟩
            show Q0 Z i0 i1 i2 i3 i4 h0 n0 (some (.int (1 : Int32))) T296.heap _
            exact ⟨rfl, N297⟩
        · skip
          obtain ⟨LL299, X299, N299⟩ : ∃ LL, Stand p l e room_1 s m #[(.int i0), (.int i1), (.int i2), (.int i3), (.int i4)] below meth c T228 LL 1 6 ∧ Fr n0 LL := ⟨_, X228, N228⟩
          have pre300 : ∀ t, own_s p e below T228 m 168 #[iv i0, iv i1, iv i2, iv i3, iv i4, iv b0, iv v3, iv v7, iv v11, iv b4, rv b16, iv v31, iv (4 : Int32), iv v215, iv v219, iv q1, .unset, .unset, .unset, .unset] [(.int (0 : Int32))] t → Steps p.tables e below S0 t := fun tX kX => pre227 _ (st228 _ kX)
          have pre301 : ∀ t, own_s p e below T228 m 182 #[iv i0, iv i1, iv i2, iv i3, iv i4, iv b0, iv v3, iv v7, iv v11, iv b4, rv b16, iv v31, iv (4 : Int32), iv v215, iv v219, iv q1, .unset, .unset, .unset, .unset] [(.int b4), (.int (2 : Int32)), (.int (4 : Int32)), (.int (-3 : Int32)), (.int v219), (.ref b16)] t → Steps p.tables e below S0 t := by
            intro tX kX
            refine pre300 _ ?_
            show own_s p e below T228 m 168 #[iv i0, iv i1, iv i2, iv i3, iv i4, iv b0, iv v3, iv v7, iv v11, iv b4, rv b16, iv v31, iv (4 : Int32), iv v215, iv v219, iv q1, .unset, .unset, .unset, .unset] [(.int (0 : Int32))] _
            refine XS.ifNo X299.here hx rfl (hb hby at_168) rfl ((if0 _ _).trans (teq (by decide : (0 : Int32) = (0 : Int32))).2) ?_
            show own_s p e below T228 m 171 #[iv i0, iv i1, iv i2, iv i3, iv i4, iv b0, iv v3, iv v7, iv v11, iv b4, rv b16, iv v31, iv (4 : Int32), iv v215, iv v219, iv q1, .unset, .unset, .unset, .unset] [] _
            refine XS.aload X299.here hx rfl (hb hby at_171) rfl rfl ?_
            show own_s p e below T228 m 173 #[iv i0, iv i1, iv i2, iv i3, iv i4, iv b0, iv v3, iv v7, iv v11, iv b4, rv b16, iv v31, iv (4 : Int32), iv v215, iv v219, iv q1, .unset, .unset, .unset, .unset] [(.ref b16)] _
            refine XS.iload X299.here hx rfl (hb hby at_173) rfl ?_
            show own_s p e below T228 m 175 #[iv i0, iv i1, iv i2, iv i3, iv i4, iv b0, iv v3, iv v7, iv v11, iv b4, rv b16, iv v31, iv (4 : Int32), iv v215, iv v219, iv q1, .unset, .unset, .unset, .unset] [(.int v219), (.ref b16)] _
            refine XS.bipush X299.here hx rfl (hb hby at_175) ?_
            show own_s p e below T228 m 177 #[iv i0, iv i1, iv i2, iv i3, iv i4, iv b0, iv v3, iv v7, iv v11, iv b4, rv b16, iv v31, iv (4 : Int32), iv v215, iv v219, iv q1, .unset, .unset, .unset, .unset] [(.int (-3 : Int32)), (.int v219), (.ref b16)] _
            refine XS.iload X299.here hx rfl (hb hby at_177) rfl ?_
            show own_s p e below T228 m 179 #[iv i0, iv i1, iv i2, iv i3, iv i4, iv b0, iv v3, iv v7, iv v11, iv b4, rv b16, iv v31, iv (4 : Int32), iv v215, iv v219, iv q1, .unset, .unset, .unset, .unset] [(.int (4 : Int32)), (.int (-3 : Int32)), (.int v219), (.ref b16)] _
            refine XS.iconst X299.here hx rfl (hb hby at_179) ?_
            show own_s p e below T228 m 180 #[iv i0, iv i1, iv i2, iv i3, iv i4, iv b0, iv v3, iv v7, iv v11, iv b4, rv b16, iv v31, iv (4 : Int32), iv v215, iv v219, iv q1, .unset, .unset, .unset, .unset] [(.int (2 : Int32)), (.int (4 : Int32)), (.int (-3 : Int32)), (.int v219), (.ref b16)] _
            refine XS.iload X299.here hx rfl (hb hby at_180) rfl ?_
            exact kX
          obtain ⟨_, _, ⟨T302, L302, k302, n302⟩, -, X302, ⟨Lc302, hQ302, l302, y302, z302⟩, st302⟩ := Jvm.LawKit.callS X299 hx (y := (⟨"com/example/weaverbird/weaverbird/model/xml/Utf8DecoderTakePinLaw", "ended", "(Lcom/example/weaverbird/weaverbird/model/xml/Utf8Decoder;IIIII)Z"⟩ : MethodName)) hown (mvT hZ (hw _ (List.mem_of_getElem? (i := 33) rfl))) (mvT hZ (hw _ (List.mem_of_getElem? (i := 34) rfl))) (mvT hZ (hw _ (List.mem_of_getElem? (i := 2) rfl))) (mvT hZ (hw _ (List.mem_of_getElem? (i := 35) rfl))) (by decide) (backOf (W := 0) (rm16 l Z a0 hw [] b16 v219 (-3 : Int32) (4 : Int32) (2 : Int32) b4 pa219 le219 ta219 lo219 hi219 re219 T219.heap n0 Z219 fE219 f219_pa f219_le f219_ta f219_lo f219_hi f219_re g_b16 (own_eqI (show (re219).toInt = ((0 : Int32)).toInt from (by omega : (re219).toInt = (0 : Int)))) (own_eqI (show (v219).toInt = ((-3 : Int32)).toInt from (by omega : (v219).toInt = (-3 : Int)))) (own_eqI (show (le219).toInt = ((4 : Int32)).toInt from (by omega : (le219).toInt = (4 : Int)))) (own_eqI (show (ta219).toInt = ((2 : Int32)).toInt from (by omega : (ta219).toInt = (2 : Int)))) (by omega) (by omega)) hZ (hw _ (List.mem_of_getElem? (i := 35) rfl)) (hw _ (List.mem_of_getElem? (i := 2) rfl)) (by decide) (by decide)) (g := (mkF m 182 #[iv i0, iv i1, iv i2, iv i3, iv i4, iv b0, iv v3, iv v7, iv v11, iv b4, rv b16, iv v31, iv (4 : Int32), iv v215, iv v219, iv q1, .unset, .unset, .unset, .unset] [(.int b4), (.int (2 : Int32)), (.int (4 : Int32)), (.int (-3 : Int32)), (.int v219), (.ref b16)])) rfl (by rw [hml]; rfl) (argsL := [(.ref b16), (.int v219), (.int (-3 : Int32)), (.int (4 : Int32)), (.int (2 : Int32)), (.int b4)]) (rest := []) (lenOf pd0_2 rfl) rfl (by show 2 * 0 + _ ≤ _; exact Nat.le_of_eq rfl) (hb hby at_182) (fun _ _ => ⟨rfl, e228, (by decide : 1 + 0 ≤ _), (by decide : 6 + 0 ≤ _)⟩)
          dsimp only [Pt.U, Pt.locs, Pt.cells, Pt.slots] at X302 l302 y302 z302 st302 hQ302
          subst l302 y302 z302
          obtain ⟨rfl, Nq302⟩ := hQ302
          have N302 := Fr.app N299 Nq302
          have e302 : T302.heap = T302.heap := rfl
          obtain ⟨LL303, X303, N303⟩ : ∃ LL, Stand p l e room_1 s m #[(.int i0), (.int i1), (.int i2), (.int i3), (.int i4)] below meth c T302 LL 1 6 ∧ Fr n0 LL := ⟨_, X302, N302⟩
          have pre304 : ∀ t, own_s p e below T302 m 185 #[iv i0, iv i1, iv i2, iv i3, iv i4, iv b0, iv v3, iv v7, iv v11, iv b4, rv b16, iv v31, iv (4 : Int32), iv v215, iv v219, iv q1, .unset, .unset, .unset, .unset] [(.int (1 : Int32))] t → Steps p.tables e below S0 t := fun tX kX => pre301 _ (st302 _ kX)
          subst hS0
          obtain ⟨fs, hr, hrun, hended, hW, hsame⟩ := X303.leave (v := (some (.int (1 : Int32)))) (fun h => by rw [Bd.returns] at h; cases h)
          refine ⟨_, _, pre304 _ (retN X303 hx (t := .boolean) Bd.returns (by simp) (hb hby at_185) hr), hrun, hended, _, _, rfl, ?_, ⟨_, rfl⟩, hW, hsame.mono (by decide) (by decide)⟩
          show Q0 Z i0 i1 i2 i3 i4 h0 n0 (some (.int (1 : Int32))) T302.heap _
          exact ⟨rfl, N303⟩
      · skip
        obtain ⟨LL305, X305, N305⟩ : ∃ LL, Stand p l e room_1 s m #[(.int i0), (.int i1), (.int i2), (.int i3), (.int i4)] below meth c T224 LL 1 6 ∧ Fr n0 LL := ⟨_, X224, N224⟩
        have pre306 : ∀ t, own_s p e below T224 m 157 #[iv i0, iv i1, iv i2, iv i3, iv i4, iv b0, iv v3, iv v7, iv v11, iv b4, rv b16, iv v31, iv (4 : Int32), iv v215, iv v219, iv q1, .unset, .unset, .unset, .unset] [(.int (0 : Int32))] t → Steps p.tables e below S0 t := fun tX kX => pre223 _ (st224 _ kX)
        have pre307 : ∀ t, own_s p e below T224 m 182 #[iv i0, iv i1, iv i2, iv i3, iv i4, iv b0, iv v3, iv v7, iv v11, iv b4, rv b16, iv v31, iv (4 : Int32), iv v215, iv v219, iv q1, .unset, .unset, .unset, .unset] [(.int b4), (.int (2 : Int32)), (.int (4 : Int32)), (.int (-3 : Int32)), (.int v219), (.ref b16)] t → Steps p.tables e below S0 t := by
          intro tX kX
          refine pre306 _ ?_
          show own_s p e below T224 m 157 #[iv i0, iv i1, iv i2, iv i3, iv i4, iv b0, iv v3, iv v7, iv v11, iv b4, rv b16, iv v31, iv (4 : Int32), iv v215, iv v219, iv q1, .unset, .unset, .unset, .unset] [(.int (0 : Int32))] _
          refine XS.ifYes X305.here hx rfl (pc0 := 157) (pc' := 171) rfl (hb hby at_157) rfl ((if0 _ _).trans (teq (by decide : (0 : Int32) = (0 : Int32))).1) (by decide) (by decide) ?_
          show own_s p e below T224 m 171 #[iv i0, iv i1, iv i2, iv i3, iv i4, iv b0, iv v3, iv v7, iv v11, iv b4, rv b16, iv v31, iv (4 : Int32), iv v215, iv v219, iv q1, .unset, .unset, .unset, .unset] [] _
          refine XS.aload X305.here hx rfl (hb hby at_171) rfl rfl ?_
          show own_s p e below T224 m 173 #[iv i0, iv i1, iv i2, iv i3, iv i4, iv b0, iv v3, iv v7, iv v11, iv b4, rv b16, iv v31, iv (4 : Int32), iv v215, iv v219, iv q1, .unset, .unset, .unset, .unset] [(.ref b16)] _
          refine XS.iload X305.here hx rfl (hb hby at_173) rfl ?_
          show own_s p e below T224 m 175 #[iv i0, iv i1, iv i2, iv i3, iv i4, iv b0, iv v3, iv v7, iv v11, iv b4, rv b16, iv v31, iv (4 : Int32), iv v215, iv v219, iv q1, .unset, .unset, .unset, .unset] [(.int v219), (.ref b16)] _
          refine XS.bipush X305.here hx rfl (hb hby at_175) ?_
          show own_s p e below T224 m 177 #[iv i0, iv i1, iv i2, iv i3, iv i4, iv b0, iv v3, iv v7, iv v11, iv b4, rv b16, iv v31, iv (4 : Int32), iv v215, iv v219, iv q1, .unset, .unset, .unset, .unset] [(.int (-3 : Int32)), (.int v219), (.ref b16)] _
          refine XS.iload X305.here hx rfl (hb hby at_177) rfl ?_
          show own_s p e below T224 m 179 #[iv i0, iv i1, iv i2, iv i3, iv i4, iv b0, iv v3, iv v7, iv v11, iv b4, rv b16, iv v31, iv (4 : Int32), iv v215, iv v219, iv q1, .unset, .unset, .unset, .unset] [(.int (4 : Int32)), (.int (-3 : Int32)), (.int v219), (.ref b16)] _
          refine XS.iconst X305.here hx rfl (hb hby at_179) ?_
          show own_s p e below T224 m 180 #[iv i0, iv i1, iv i2, iv i3, iv i4, iv b0, iv v3, iv v7, iv v11, iv b4, rv b16, iv v31, iv (4 : Int32), iv v215, iv v219, iv q1, .unset, .unset, .unset, .unset] [(.int (2 : Int32)), (.int (4 : Int32)), (.int (-3 : Int32)), (.int v219), (.ref b16)] _
          refine XS.iload X305.here hx rfl (hb hby at_180) rfl ?_
          exact kX
        obtain ⟨_, _, ⟨T308, L308, k308, n308⟩, -, X308, ⟨Lc308, hQ308, l308, y308, z308⟩, st308⟩ := Jvm.LawKit.callS X305 hx (y := (⟨"com/example/weaverbird/weaverbird/model/xml/Utf8DecoderTakePinLaw", "ended", "(Lcom/example/weaverbird/weaverbird/model/xml/Utf8Decoder;IIIII)Z"⟩ : MethodName)) hown (mvT hZ (hw _ (List.mem_of_getElem? (i := 33) rfl))) (mvT hZ (hw _ (List.mem_of_getElem? (i := 34) rfl))) (mvT hZ (hw _ (List.mem_of_getElem? (i := 2) rfl))) (mvT hZ (hw _ (List.mem_of_getElem? (i := 35) rfl))) (by decide) (backOf (W := 0) (rm16 l Z a0 hw [] b16 v219 (-3 : Int32) (4 : Int32) (2 : Int32) b4 pa219 le219 ta219 lo219 hi219 re219 T219.heap n0 Z219 fE219 f219_pa f219_le f219_ta f219_lo f219_hi f219_re g_b16 (own_eqI (show (re219).toInt = ((0 : Int32)).toInt from (by omega : (re219).toInt = (0 : Int)))) (own_eqI (show (v219).toInt = ((-3 : Int32)).toInt from (by omega : (v219).toInt = (-3 : Int)))) (own_eqI (show (le219).toInt = ((4 : Int32)).toInt from (by omega : (le219).toInt = (4 : Int)))) (own_eqI (show (ta219).toInt = ((2 : Int32)).toInt from (by omega : (ta219).toInt = (2 : Int)))) (by omega) (by omega)) hZ (hw _ (List.mem_of_getElem? (i := 35) rfl)) (hw _ (List.mem_of_getElem? (i := 2) rfl)) (by decide) (by decide)) (g := (mkF m 182 #[iv i0, iv i1, iv i2, iv i3, iv i4, iv b0, iv v3, iv v7, iv v11, iv b4, rv b16, iv v31, iv (4 : Int32), iv v215, iv v219, iv q1, .unset, .unset, .unset, .unset] [(.int b4), (.int (2 : Int32)), (.int (4 : Int32)), (.int (-3 : Int32)), (.int v219), (.ref b16)])) rfl (by rw [hml]; rfl) (argsL := [(.ref b16), (.int v219), (.int (-3 : Int32)), (.int (4 : Int32)), (.int (2 : Int32)), (.int b4)]) (rest := []) (lenOf pd0_2 rfl) rfl (by show 2 * 0 + _ ≤ _; exact Nat.le_of_eq rfl) (hb hby at_182) (fun _ _ => ⟨rfl, e224, (by decide : 1 + 0 ≤ _), (by decide : 6 + 0 ≤ _)⟩)
        dsimp only [Pt.U, Pt.locs, Pt.cells, Pt.slots] at X308 l308 y308 z308 st308 hQ308
        subst l308 y308 z308
        obtain ⟨rfl, Nq308⟩ := hQ308
        have N308 := Fr.app N305 Nq308
        have e308 : T308.heap = T308.heap := rfl
        obtain ⟨LL309, X309, N309⟩ : ∃ LL, Stand p l e room_1 s m #[(.int i0), (.int i1), (.int i2), (.int i3), (.int i4)] below meth c T308 LL 1 6 ∧ Fr n0 LL := ⟨_, X308, N308⟩
        have pre310 : ∀ t, own_s p e below T308 m 185 #[iv i0, iv i1, iv i2, iv i3, iv i4, iv b0, iv v3, iv v7, iv v11, iv b4, rv b16, iv v31, iv (4 : Int32), iv v215, iv v219, iv q1, .unset, .unset, .unset, .unset] [(.int (1 : Int32))] t → Steps p.tables e below S0 t := fun tX kX => pre307 _ (st308 _ kX)
        subst hS0
        obtain ⟨fs, hr, hrun, hended, hW, hsame⟩ := X309.leave (v := (some (.int (1 : Int32)))) (fun h => by rw [Bd.returns] at h; cases h)
        refine ⟨_, _, pre310 _ (retN X309 hx (t := .boolean) Bd.returns (by simp) (hb hby at_185) hr), hrun, hended, _, _, rfl, ?_, ⟨_, rfl⟩, hW, hsame.mono (by decide) (by decide)⟩
        show Q0 Z i0 i1 i2 i3 i4 h0 n0 (some (.int (1 : Int32))) T308.heap _
        exact ⟨rfl, N309⟩
    · skip
      obtain ⟨LL311, X311, N311⟩ : ∃ LL, Stand p l e room_1 s m #[(.int i0), (.int i1), (.int i2), (.int i3), (.int i4)] below meth c T203 LL 1 6 ∧ Fr n0 LL := ⟨_, X203, N203⟩
      have pre312 : ∀ t, own_s p e below T203 m 96 #[iv i0, iv i1, iv i2, iv i3, iv i4, iv b0, iv v3, iv v7, iv v11, iv b4, rv b16, iv v31, iv (4 : Int32), .unset, .unset, .unset, .unset, .unset, .unset, .unset] [(.int (0 : Int32))] t → Steps p.tables e below S0 t := fun tX kX => pre202 _ (st203 _ kX)
      have pre313 : ∀ t, own_s p e below T203 m 109 #[iv i0, iv i1, iv i2, iv i3, iv i4, iv b0, iv v3, iv v7, iv v11, iv b4, rv b16, iv v31, iv (4 : Int32), .unset, .unset, .unset, .unset, .unset, .unset, .unset] [(.int b4), (.int (1 : Int32)), (.int (1 : Int32)), (.int (-3 : Int32)), (.int v31), (.ref b16)] t → Steps p.tables e below S0 t := by
        intro tX kX
        refine pre312 _ ?_
        show own_s p e below T203 m 96 #[iv i0, iv i1, iv i2, iv i3, iv i4, iv b0, iv v3, iv v7, iv v11, iv b4, rv b16, iv v31, iv (4 : Int32), .unset, .unset, .unset, .unset, .unset, .unset, .unset] [(.int (0 : Int32))] _
        refine XS.ifNo X311.here hx rfl (hb hby at_96) rfl ((if0 _ _).trans (teq (by decide : (0 : Int32) = (0 : Int32))).2) ?_
        show own_s p e below T203 m 99 #[iv i0, iv i1, iv i2, iv i3, iv i4, iv b0, iv v3, iv v7, iv v11, iv b4, rv b16, iv v31, iv (4 : Int32), .unset, .unset, .unset, .unset, .unset, .unset, .unset] [] _
        refine XS.aload X311.here hx rfl (hb hby at_99) rfl rfl ?_
        show own_s p e below T203 m 101 #[iv i0, iv i1, iv i2, iv i3, iv i4, iv b0, iv v3, iv v7, iv v11, iv b4, rv b16, iv v31, iv (4 : Int32), .unset, .unset, .unset, .unset, .unset, .unset, .unset] [(.ref b16)] _
        refine XS.iload X311.here hx rfl (hb hby at_101) rfl ?_
        show own_s p e below T203 m 103 #[iv i0, iv i1, iv i2, iv i3, iv i4, iv b0, iv v3, iv v7, iv v11, iv b4, rv b16, iv v31, iv (4 : Int32), .unset, .unset, .unset, .unset, .unset, .unset, .unset] [(.int v31), (.ref b16)] _
        refine XS.bipush X311.here hx rfl (hb hby at_103) ?_
        show own_s p e below T203 m 105 #[iv i0, iv i1, iv i2, iv i3, iv i4, iv b0, iv v3, iv v7, iv v11, iv b4, rv b16, iv v31, iv (4 : Int32), .unset, .unset, .unset, .unset, .unset, .unset, .unset] [(.int (-3 : Int32)), (.int v31), (.ref b16)] _
        refine XS.iconst X311.here hx rfl (hb hby at_105) ?_
        show own_s p e below T203 m 106 #[iv i0, iv i1, iv i2, iv i3, iv i4, iv b0, iv v3, iv v7, iv v11, iv b4, rv b16, iv v31, iv (4 : Int32), .unset, .unset, .unset, .unset, .unset, .unset, .unset] [(.int (1 : Int32)), (.int (-3 : Int32)), (.int v31), (.ref b16)] _
        refine XS.iconst X311.here hx rfl (hb hby at_106) ?_
        show own_s p e below T203 m 107 #[iv i0, iv i1, iv i2, iv i3, iv i4, iv b0, iv v3, iv v7, iv v11, iv b4, rv b16, iv v31, iv (4 : Int32), .unset, .unset, .unset, .unset, .unset, .unset, .unset] [(.int (1 : Int32)), (.int (1 : Int32)), (.int (-3 : Int32)), (.int v31), (.ref b16)] _
        refine XS.iload X311.here hx rfl (hb hby at_107) rfl ?_
        exact kX
      obtain ⟨_, _, ⟨T314, L314, k314, n314⟩, -, X314, ⟨Lc314, hQ314, l314, y314, z314⟩, st314⟩ := Jvm.LawKit.callS X311 hx (y := (⟨"com/example/weaverbird/weaverbird/model/xml/Utf8DecoderTakePinLaw", "ended", "(Lcom/example/weaverbird/weaverbird/model/xml/Utf8Decoder;IIIII)Z"⟩ : MethodName)) hown (mvT hZ (hw _ (List.mem_of_getElem? (i := 33) rfl))) (mvT hZ (hw _ (List.mem_of_getElem? (i := 34) rfl))) (mvT hZ (hw _ (List.mem_of_getElem? (i := 2) rfl))) (mvT hZ (hw _ (List.mem_of_getElem? (i := 35) rfl))) (by decide) (backOf (W := 0) (rm16 l Z a0 hw [] b16 v31 (-3 : Int32) (1 : Int32) (1 : Int32) b4 pa31 le31 ta31 lo31 hi31 re31 T31.heap n0 Z31 fE31 f31_pa f31_le f31_ta f31_lo f31_hi f31_re g_b16 (own_eqI (show (re31).toInt = ((0 : Int32)).toInt from (by omega : (re31).toInt = (0 : Int)))) (own_eqI (show (v31).toInt = ((-3 : Int32)).toInt from (by omega : (v31).toInt = (-3 : Int)))) (own_eqI (show (le31).toInt = ((1 : Int32)).toInt from (by omega : (le31).toInt = (1 : Int)))) (own_eqI (show (ta31).toInt = ((1 : Int32)).toInt from (by omega : (ta31).toInt = (1 : Int)))) (by omega) (by omega)) hZ (hw _ (List.mem_of_getElem? (i := 35) rfl)) (hw _ (List.mem_of_getElem? (i := 2) rfl)) (by decide) (by decide)) (g := (mkF m 109 #[iv i0, iv i1, iv i2, iv i3, iv i4, iv b0, iv v3, iv v7, iv v11, iv b4, rv b16, iv v31, iv (4 : Int32), .unset, .unset, .unset, .unset, .unset, .unset, .unset] [(.int b4), (.int (1 : Int32)), (.int (1 : Int32)), (.int (-3 : Int32)), (.int v31), (.ref b16)])) rfl (by rw [hml]; rfl) (argsL := [(.ref b16), (.int v31), (.int (-3 : Int32)), (.int (1 : Int32)), (.int (1 : Int32)), (.int b4)]) (rest := []) (lenOf pd0_2 rfl) rfl (by show 2 * 0 + _ ≤ _; exact Nat.le_of_eq rfl) (hb hby at_109) (fun _ _ => ⟨rfl, e203, (by decide : 1 + 0 ≤ _), (by decide : 6 + 0 ≤ _)⟩)
      dsimp only [Pt.U, Pt.locs, Pt.cells, Pt.slots] at X314 l314 y314 z314 st314 hQ314
      subst l314 y314 z314
      obtain ⟨rfl, Nq314⟩ := hQ314
      have N314 := Fr.app N311 Nq314
      have e314 : T314.heap = T314.heap := rfl
      obtain ⟨LL315, X315, N315⟩ : ∃ LL, Stand p l e room_1 s m #[(.int i0), (.int i1), (.int i2), (.int i3), (.int i4)] below meth c T314 LL 1 6 ∧ Fr n0 LL := ⟨_, X314, N314⟩
      have pre316 : ∀ t, own_s p e below T314 m 112 #[iv i0, iv i1, iv i2, iv i3, iv i4, iv b0, iv v3, iv v7, iv v11, iv b4, rv b16, iv v31, iv (4 : Int32), .unset, .unset, .unset, .unset, .unset, .unset, .unset] [(.int (1 : Int32))] t → Steps p.tables e below S0 t := fun tX kX => pre313 _ (st314 _ kX)
      subst hS0
      obtain ⟨fs, hr, hrun, hended, hW, hsame⟩ := X315.leave (v := (some (.int (1 : Int32)))) (fun h => by rw [Bd.returns] at h; cases h)
      refine ⟨_, _, pre316 _ (retN X315 hx (t := .boolean) Bd.returns (by simp) (hb hby at_112) hr), hrun, hended, _, _, rfl, ?_, ⟨_, rfl⟩, hW, hsame.mono (by decide) (by decide)⟩
      show Q0 Z i0 i1 i2 i3 i4 h0 n0 (some (.int (1 : Int32))) T314.heap _
      exact ⟨rfl, N315⟩
  · skip
    obtain ⟨LL317, X317, N317⟩ : ∃ LL, Stand p l e room_1 s m #[(.int i0), (.int i1), (.int i2), (.int i3), (.int i4)] below meth c T35 LL 1 6 ∧ Fr n0 LL := ⟨_, X35, N35⟩
    have pre318 : ∀ t, own_s p e below T35 m 56 #[iv i0, iv i1, iv i2, iv i3, iv i4, iv b0, iv v3, iv v7, iv v11, iv b4, rv b16, iv v31, .unset, .unset, .unset, .unset, .unset, .unset, .unset, .unset] [(.int (0 : Int32))] t → Steps p.tables e below S0 t := fun tX kX => pre34 _ (st35 _ kX)
    have pre319 : ∀ t, own_s p e below T35 m 109 #[iv i0, iv i1, iv i2, iv i3, iv i4, iv b0, iv v3, iv v7, iv v11, iv b4, rv b16, iv v31, iv (0 : Int32), .unset, .unset, .unset, .unset, .unset, .unset, .unset] [(.int b4), (.int (1 : Int32)), (.int (1 : Int32)), (.int (-3 : Int32)), (.int v31), (.ref b16)] t → Steps p.tables e below S0 t := by
      intro tX kX
      refine pre318 _ ?_
      show own_s p e below T35 m 56 #[iv i0, iv i1, iv i2, iv i3, iv i4, iv b0, iv v3, iv v7, iv v11, iv b4, rv b16, iv v31, .unset, .unset, .unset, .unset, .unset, .unset, .unset, .unset] [(.int (0 : Int32))] _
      refine XS.istore X317.here hx rfl (hb hby at_56) rfl (l' := #[iv i0, iv i1, iv i2, iv i3, iv i4, iv b0, iv v3, iv v7, iv v11, iv b4, rv b16, iv v31, iv (0 : Int32), .unset, .unset, .unset, .unset, .unset, .unset, .unset]) rfl ?_
      show own_s p e below T35 m 58 #[iv i0, iv i1, iv i2, iv i3, iv i4, iv b0, iv v3, iv v7, iv v11, iv b4, rv b16, iv v31, iv (0 : Int32), .unset, .unset, .unset, .unset, .unset, .unset, .unset] [] _
      refine XS.iload X317.here hx rfl (hb hby at_58) rfl ?_
      show own_s p e below T35 m 60 #[iv i0, iv i1, iv i2, iv i3, iv i4, iv b0, iv v3, iv v7, iv v11, iv b4, rv b16, iv v31, iv (0 : Int32), .unset, .unset, .unset, .unset, .unset, .unset, .unset] [(.int (0 : Int32))] _
      refine XS.iconst X317.here hx rfl (hb hby at_60) ?_
      show own_s p e below T35 m 61 #[iv i0, iv i1, iv i2, iv i3, iv i4, iv b0, iv v3, iv v7, iv v11, iv b4, rv b16, iv v31, iv (0 : Int32), .unset, .unset, .unset, .unset, .unset, .unset, .unset] [(.int (1 : Int32)), (.int (0 : Int32))] _
      refine XS.icmpYes X317.here hx rfl (pc0 := 61) (pc' := 78) rfl (hb hby at_61) rfl (feq (by decide : ¬ ((0 : Int32) = (1 : Int32)))).2 (by decide) (by decide) ?_
      show own_s p e below T35 m 78 #[iv i0, iv i1, iv i2, iv i3, iv i4, iv b0, iv v3, iv v7, iv v11, iv b4, rv b16, iv v31, iv (0 : Int32), .unset, .unset, .unset, .unset, .unset, .unset, .unset] [] _
      refine XS.iload X317.here hx rfl (hb hby at_78) rfl ?_
      show own_s p e below T35 m 80 #[iv i0, iv i1, iv i2, iv i3, iv i4, iv b0, iv v3, iv v7, iv v11, iv b4, rv b16, iv v31, iv (0 : Int32), .unset, .unset, .unset, .unset, .unset, .unset, .unset] [(.int (0 : Int32))] _
      refine XS.ifYes X317.here hx rfl (pc0 := 80) (pc' := 99) rfl (hb hby at_80) rfl ((if0 _ _).trans (teq (by decide : (0 : Int32) = (0 : Int32))).1) (by decide) (by decide) ?_
      show own_s p e below T35 m 99 #[iv i0, iv i1, iv i2, iv i3, iv i4, iv b0, iv v3, iv v7, iv v11, iv b4, rv b16, iv v31, iv (0 : Int32), .unset, .unset, .unset, .unset, .unset, .unset, .unset] [] _
      refine XS.aload X317.here hx rfl (hb hby at_99) rfl rfl ?_
      show own_s p e below T35 m 101 #[iv i0, iv i1, iv i2, iv i3, iv i4, iv b0, iv v3, iv v7, iv v11, iv b4, rv b16, iv v31, iv (0 : Int32), .unset, .unset, .unset, .unset, .unset, .unset, .unset] [(.ref b16)] _
      refine XS.iload X317.here hx rfl (hb hby at_101) rfl ?_
      show own_s p e below T35 m 103 #[iv i0, iv i1, iv i2, iv i3, iv i4, iv b0, iv v3, iv v7, iv v11, iv b4, rv b16, iv v31, iv (0 : Int32), .unset, .unset, .unset, .unset, .unset, .unset, .unset] [(.int v31), (.ref b16)] _
      refine XS.bipush X317.here hx rfl (hb hby at_103) ?_
      show own_s p e below T35 m 105 #[iv i0, iv i1, iv i2, iv i3, iv i4, iv b0, iv v3, iv v7, iv v11, iv b4, rv b16, iv v31, iv (0 : Int32), .unset, .unset, .unset, .unset, .unset, .unset, .unset] [(.int (-3 : Int32)), (.int v31), (.ref b16)] _
      refine XS.iconst X317.here hx rfl (hb hby at_105) ?_
      show own_s p e below T35 m 106 #[iv i0, iv i1, iv i2, iv i3, iv i4, iv b0, iv v3, iv v7, iv v11, iv b4, rv b16, iv v31, iv (0 : Int32), .unset, .unset, .unset, .unset, .unset, .unset, .unset] [(.int (1 : Int32)), (.int (-3 : Int32)), (.int v31), (.ref b16)] _
      refine XS.iconst X317.here hx rfl (hb hby at_106) ?_
      show own_s p e below T35 m 107 #[iv i0, iv i1, iv i2, iv i3, iv i4, iv b0, iv v3, iv v7, iv v11, iv b4, rv b16, iv v31, iv (0 : Int32), .unset, .unset, .unset, .unset, .unset, .unset, .unset] [(.int (1 : Int32)), (.int (1 : Int32)), (.int (-3 : Int32)), (.int v31), (.ref b16)] _
      refine XS.iload X317.here hx rfl (hb hby at_107) rfl ?_
      exact kX
    obtain ⟨_, _, ⟨T320, L320, k320, n320⟩, -, X320, ⟨Lc320, hQ320, l320, y320, z320⟩, st320⟩ := Jvm.LawKit.callS X317 hx (y := (⟨"com/example/weaverbird/weaverbird/model/xml/Utf8DecoderTakePinLaw", "ended", "(Lcom/example/weaverbird/weaverbird/model/xml/Utf8Decoder;IIIII)Z"⟩ : MethodName)) hown (mvT hZ (hw _ (List.mem_of_getElem? (i := 33) rfl))) (mvT hZ (hw _ (List.mem_of_getElem? (i := 34) rfl))) (mvT hZ (hw _ (List.mem_of_getElem? (i := 2) rfl))) (mvT hZ (hw _ (List.mem_of_getElem? (i := 35) rfl))) (by decide) (backOf (W := 0) (rm16 l Z a0 hw [] b16 v31 (-3 : Int32) (1 : Int32) (1 : Int32) b4 pa31 le31 ta31 lo31 hi31 re31 T31.heap n0 Z31 fE31 f31_pa f31_le f31_ta f31_lo f31_hi f31_re g_b16 (own_eqI (show (re31).toInt = ((0 : Int32)).toInt from (by omega : (re31).toInt = (0 : Int)))) (own_eqI (show (v31).toInt = ((-3 : Int32)).toInt from (by omega : (v31).toInt = (-3 : Int)))) (own_eqI (show (le31).toInt = ((1 : Int32)).toInt from (by omega : (le31).toInt = (1 : Int)))) (own_eqI (show (ta31).toInt = ((1 : Int32)).toInt from (by omega : (ta31).toInt = (1 : Int)))) (by omega) (by omega)) hZ (hw _ (List.mem_of_getElem? (i := 35) rfl)) (hw _ (List.mem_of_getElem? (i := 2) rfl)) (by decide) (by decide)) (g := (mkF m 109 #[iv i0, iv i1, iv i2, iv i3, iv i4, iv b0, iv v3, iv v7, iv v11, iv b4, rv b16, iv v31, iv (0 : Int32), .unset, .unset, .unset, .unset, .unset, .unset, .unset] [(.int b4), (.int (1 : Int32)), (.int (1 : Int32)), (.int (-3 : Int32)), (.int v31), (.ref b16)])) rfl (by rw [hml]; rfl) (argsL := [(.ref b16), (.int v31), (.int (-3 : Int32)), (.int (1 : Int32)), (.int (1 : Int32)), (.int b4)]) (rest := []) (lenOf pd0_2 rfl) rfl (by show 2 * 0 + _ ≤ _; exact Nat.le_of_eq rfl) (hb hby at_109) (fun _ _ => ⟨rfl, e35, (by decide : 1 + 0 ≤ _), (by decide : 6 + 0 ≤ _)⟩)
    dsimp only [Pt.U, Pt.locs, Pt.cells, Pt.slots] at X320 l320 y320 z320 st320 hQ320
    subst l320 y320 z320
    obtain ⟨rfl, Nq320⟩ := hQ320
    have N320 := Fr.app N317 Nq320
    have e320 : T320.heap = T320.heap := rfl
    obtain ⟨LL321, X321, N321⟩ : ∃ LL, Stand p l e room_1 s m #[(.int i0), (.int i1), (.int i2), (.int i3), (.int i4)] below meth c T320 LL 1 6 ∧ Fr n0 LL := ⟨_, X320, N320⟩
    have pre322 : ∀ t, own_s p e below T320 m 112 #[iv i0, iv i1, iv i2, iv i3, iv i4, iv b0, iv v3, iv v7, iv v11, iv b4, rv b16, iv v31, iv (0 : Int32), .unset, .unset, .unset, .unset, .unset, .unset, .unset] [(.int (1 : Int32))] t → Steps p.tables e below S0 t := fun tX kX => pre319 _ (st320 _ kX)
    subst hS0
    obtain ⟨fs, hr, hrun, hended, hW, hsame⟩ := X321.leave (v := (some (.int (1 : Int32)))) (fun h => by rw [Bd.returns] at h; cases h)
    refine ⟨_, _, pre322 _ (retN X321 hx (t := .boolean) Bd.returns (by simp) (hb hby at_112) hr), hrun, hended, _, _, rfl, ?_, ⟨_, rfl⟩, hW, hsame.mono (by decide) (by decide)⟩
    show Q0 Z i0 i1 i2 i3 i4 h0 n0 (some (.int (1 : Int32))) T320.heap _
    exact ⟨rfl, N321⟩
set_option maxRecDepth 65536 in
set_option maxHeartbeats 40000000 in
theorem comes_1 {Post : Tables → Env → Array Value → State → Outcome → State → Prop} (hpost : ∀ tb e args s v u, (limb_1_1.after args s (.returned v) u = true ∧ limb_1_2.after args s (.returned v) u = true ∧ True) → FrameEnd s (.returned v) u (Jvm.fieldLocs frame_1_writes args s ++ Jvm.arrayLocs frame_1_arrays args s ++ Jvm.staticLocs frame_1_statics s) 16 128 → Post tb e args s (.returned v) u) :
    ArmFor flags0 classFile x code maxLocals ret World_1 tables_1 room_1 Calls_1 rest_1 Pre_1 Post := by
  intro l hfl _ _ p e ha hc hk s m args below hf hA hF happ hP
  obtain ⟨hcalls, hrest, hpre⟩ := hP
  obtain ⟨-, -, -, hnamed, -, -, -, hat⟩ := (Spec.applies_iff hf).mp happ
  obtain ⟨hg, hn⟩ := and_e (Cond.before_iff.mp (show (Jvm.Cond.and given_1 narrow_1).before args s = true from hpre))
  obtain ⟨hcnt, q0⟩ := and_e hg
  obtain ⟨ha0, q1⟩ := and_e q0
  obtain ⟨ha1, q2⟩ := and_e q1
  obtain ⟨ha2, q3⟩ := and_e q2
  obtain ⟨ha3, q4⟩ := and_e q3
  have ha4 := q4
  obtain ⟨w0, w1, w2, w3, w4, rfl⟩ : ∃ w0 w1 w2 w3 w4 : Value, args = #[w0, w1, w2, w3, w4] := by
    have hs : args.size = 5 := by simpa [Cond.value, given_1] using hcnt
    obtain ⟨L⟩ := args
    match L, hs with
    | [w0, w1, w2, w3, w4], _ => exact ⟨w0, w1, w2, w3, w4, rfl⟩
  have hw := fun d (hd : d ∈ tables_1) => atoms_spec (ws := Jvm.Cond.code x code maxLocals ret :: tables_1) hat d (List.mem_cons_of_mem _ hd)
  have hfit : Fit s := fun {y c} hc i hi => by
    obtain ⟨ha, rfl⟩ := Array.getElem?_eq_some_iff.mp hc
    have q := List.all_eq_true.mp ((Array.all_eq_true_iff_forall_mem.mp hF) _ (Array.getElem_mem ha)) i (List.mem_range.mpr hi)
    simpa [Array.getElem?_eq_getElem hi] using q
  obtain ⟨i0, ei0⟩ := is_v ha0
  obtain rfl : w0 = (.int i0) := Option.some.inj ei0
  obtain ⟨i1, ei1⟩ := is_v ha1
  obtain rfl : w1 = (.int i1) := Option.some.inj ei1
  obtain ⟨i2, ei2⟩ := is_v ha2
  obtain rfl : w2 = (.int i2) := Option.some.inj ei2
  obtain ⟨i3, ei3⟩ := is_v ha3
  obtain rfl : w3 = (.int i3) := Option.some.inj ei3
  obtain ⟨i4, ei4⟩ := is_v ha4
  obtain rfl : w4 = (.int i4) := Option.some.inj ei4
  obtain ⟨n, o, h1, h2, h3, _, L, rfl, ⟨rfl, N⟩, hq⟩ := rm0 l s _ hw tables_1 i0 i1 i2 i3 i4  s.heap s.heap.size (Nat.le_refl _)  p e ha hc hk s m _ below hf ((Spec.applies_iff_loose hf).mp happ).1 ⟨rfl, State.Warmed39.refl s, rfl⟩ trivial
  refine ⟨n, _, h1, h2, h3, hpost _ _ _ _ _ _ ⟨Cond.after_iff.mpr rfl, Cond.after_iff.mpr (eq_i res_at (Term.int_eval (1)) rfl), trivial⟩ ⟨hq.1, hq.2.1, (hq.2.2.sift fun y hy => Or.inr (N y hy)).mono (by decide) (by decide)⟩⟩
theorem main_1_1 : Claimed_1_1 := comes_1 fun _ _ _ _ _ _ h hF => ⟨h.1, hF⟩
theorem main_1_2 : Claimed_1_2 := comes_1 fun _ _ _ _ _ _ h hF => ⟨h.2.1, hF⟩
end Jvm.Pilot.@@N@@
namespace Jvm.Pilot.@@N@@
open Jvm Jvm.ClassFile Sem Op Lib Jvm.Free Jvm.Stand Jvm.Pilot.@@N@@.Jvm.D
/-! MADE BY PROGRAM (witnessworld.py) out of the Statement's table words and the real class files: 9 classes; the members and pool entries that the words name. The judged class is class 1, her method 1. -/
namespace start1
open Jvm.ClassFile
def u (s : String) : CpInfo := .utf8 (stringToUtf16 s)
/-- a pool by its gaps: so many unusable entries, then the entry; so many at the end -/
def gap : Nat → List CpInfo → List CpInfo
  | 0, r => r
  | n + 1, r => .unusable :: gap n r
def poolList (es : List (Nat × CpInfo)) (last : Nat) : List CpInfo := es.foldr (fun e r => gap e.1 (e.2 :: r)) (gap last [])
def pool (es : List (Nat × CpInfo)) (last : Nat) : Array CpInfo := ⟨poolList es last⟩
def fileOf (pool : Array CpInfo) (this : Nat) (attrs : Array Attribute := #[]) (ms : Array MethodInfo := #[]) (fl : Nat := 33) (sup : Nat := 0) (ifs : Array Nat := #[]) (fds : Array FieldInfo := #[]) : ClassFile where
  minorVersion := 0
  majorVersion := 65
  constantPool := pool
  accessFlags := fl
  thisClass := this
  superClass := sup
  interfaces := ifs
  fields := fds
  methods := ms
  attributes := attrs
def plain (name : String) (sup : Option ClassId) : Class where
  name := name
  kind := .ordinary
  loader := none
  accessFlags := 33
  super := sup
  interfaces := #[]
  cf := none
  fields := #[]
  methods := #[]
  instanceTypes := #[]
  staticTypes := #[]
  resolved := #[]
  callSites := []
  init := .initialized
  statics := none
  mirror := none

def pool0 : Array CpInfo := pool [(5, u "<init>"), (0, u "()V"), (1, .class_ 10), (1, u "java/lang/Object")] 113

def k0c0 : Code := { maxStack := 0, maxLocals := 1, code := object_method_1_code, exceptionTable := #[], attributes := #[] }
def k0m0 : Method := { name := "<init>", desc := "()V", sig := { parameters := [], returnType := none }, accessFlags := 1, code := some k0c0 }
/-- java/lang/Object -/
def k0 : Class := { plain "java/lang/Object" none with
  accessFlags := 33
  interfaces := #[]
  cf := some (fileOf pool0 8 #[] #[{ accessFlags := 1, nameIndex := 5, descriptorIndex := 6, attributes := #[] }] 33 0 #[] #[])
  fields := #[]
  methods := #[k0m0]
  instanceTypes := #[]
  staticTypes := #[]
  resolved := Array.replicate 124 none
  statics := none }

def pool1 : Array CpInfo := pool [(2, .class_ 4), (0, .nameAndType 5 6), (0, u "java/lang/Object"), (0, u "<init>"), (0, u "()V"), (0, .methodref 8 9), (0, .class_ 10), (0, .nameAndType 11 12), (0, u "com/example/weaverbird/weaverbird/model/xml/Utf8DecoderTakePinLaw"), (0, u "unit"), (0, u "(I)I"), (0, .class_ 14), (0, u "com/example/weaverbird/weaverbird/model/xml/Utf8Decoder"), (0, .methodref 13 3), (0, .methodref 13 17), (0, .nameAndType 18 12), (0, u "take"), (0, .methodref 8 20), (0, .nameAndType 21 12), (0, u "leadLen"), (0, .methodref 8 23), (0, .nameAndType 24 25), (0, u "ended"), (0, u "(Lcom/example/weaverbird/weaverbird/model/xml/Utf8Decoder;IIIII)Z"), (0, .methodref 8 27), (0, .nameAndType 28 29), (0, u "leadBits"), (0, u "(II)I"), (0, .methodref 8 31), (0, .nameAndType 32 33), (0, u "feasible"), (0, u "(III)Z"), (0, .methodref 8 35), (0, .nameAndType 36 37), (0, u "isCont"), (0, u "(I)Z"), (0, .methodref 13 39), (0, .nameAndType 40 41), (0, u "length"), (0, u "()I"), (0, .methodref 13 43), (0, .nameAndType 44 41), (0, u "taken"), (0, .methodref 8 46), (0, .nameAndType 47 48), (0, u "after"), (0, u "(Lcom/example/weaverbird/weaverbird/model/xml/Utf8Decoder;I)Z"), (0, .integer 65536), (0, .methodref 8 51), (0, .nameAndType 52 12), (0, u "minOf"), (0, .integer 1114111), (0, .integer 55296), (0, .integer 57343), (2, u "law"), (0, u "(IIIII)Z")] 3

def k1m0 : Method := { name := "<init>", desc := "()V", sig := { parameters := [], returnType := none }, accessFlags := 1, code := none }
def k1c1 : Code := { maxStack := 6, maxLocals := 20, code := code, exceptionTable := #[], attributes := #[] }
def k1m1 : Method := { name := "law", desc := "(IIIII)Z", sig := { parameters := [.int, .int, .int, .int, .int], returnType := some .boolean }, accessFlags := 9, code := some k1c1 }
def k1c2 : Code := { maxStack := 3, maxLocals := 1, code := method_3_code, exceptionTable := #[], attributes := #[] }
def k1m2 : Method := { name := "unit", desc := "(I)I", sig := { parameters := [.int], returnType := some .int }, accessFlags := 10, code := some k1c2 }
def k1c3 : Code := { maxStack := 2, maxLocals := 6, code := method_4_code, exceptionTable := #[], attributes := #[] }
def k1m3 : Method := { name := "ended", desc := "(Lcom/example/weaverbird/weaverbird/model/xml/Utf8Decoder;IIIII)Z", sig := { parameters := [(.object "com/example/weaverbird/weaverbird/model/xml/Utf8Decoder"), .int, .int, .int, .int, .int], returnType := some .boolean }, accessFlags := 10, code := some k1c3 }
def k1c4 : Code := { maxStack := 3, maxLocals := 4, code := method_5_code, exceptionTable := #[], attributes := #[] }
def k1m4 : Method := { name := "after", desc := "(Lcom/example/weaverbird/weaverbird/model/xml/Utf8Decoder;I)Z", sig := { parameters := [(.object "com/example/weaverbird/weaverbird/model/xml/Utf8Decoder"), .int], returnType := some .boolean }, accessFlags := 10, code := some k1c4 }
def k1c5 : Code := { maxStack := 2, maxLocals := 1, code := method_6_code, exceptionTable := #[], attributes := #[] }
def k1m5 : Method := { name := "leadLen", desc := "(I)I", sig := { parameters := [.int], returnType := some .int }, accessFlags := 10, code := some k1c5 }
def k1c6 : Code := { maxStack := 2, maxLocals := 2, code := method_7_code, exceptionTable := #[], attributes := #[] }
def k1m6 : Method := { name := "leadBits", desc := "(II)I", sig := { parameters := [.int, .int], returnType := some .int }, accessFlags := 10, code := some k1c6 }
def k1c7 : Code := { maxStack := 2, maxLocals := 1, code := method_8_code, exceptionTable := #[], attributes := #[] }
def k1m7 : Method := { name := "isCont", desc := "(I)Z", sig := { parameters := [.int], returnType := some .boolean }, accessFlags := 10, code := some k1c7 }
def k1c8 : Code := { maxStack := 2, maxLocals := 1, code := method_9_code, exceptionTable := #[], attributes := #[] }
def k1m8 : Method := { name := "minOf", desc := "(I)I", sig := { parameters := [.int], returnType := some .int }, accessFlags := 10, code := some k1c8 }
def k1c9 : Code := { maxStack := 3, maxLocals := 6, code := method_10_code, exceptionTable := #[], attributes := #[] }
def k1m9 : Method := { name := "feasible", desc := "(III)Z", sig := { parameters := [.int, .int, .int], returnType := some .boolean }, accessFlags := 10, code := some k1c9 }
/-- com/example/weaverbird/weaverbird/model/xml/Utf8DecoderTakePinLaw -/
def k1 : Class := { plain "com/example/weaverbird/weaverbird/model/xml/Utf8DecoderTakePinLaw" (some 0) with
  accessFlags := 49
  interfaces := #[]
  cf := some (fileOf pool1 8 #[] #[{ accessFlags := 1, nameIndex := 5, descriptorIndex := 6, attributes := #[] }, { accessFlags := 9, nameIndex := 58, descriptorIndex := 59, attributes := #[] }, { accessFlags := 10, nameIndex := 11, descriptorIndex := 12, attributes := #[] }, { accessFlags := 10, nameIndex := 24, descriptorIndex := 25, attributes := #[] }, { accessFlags := 10, nameIndex := 47, descriptorIndex := 48, attributes := #[] }, { accessFlags := 10, nameIndex := 21, descriptorIndex := 12, attributes := #[] }, { accessFlags := 10, nameIndex := 28, descriptorIndex := 29, attributes := #[] }, { accessFlags := 10, nameIndex := 36, descriptorIndex := 37, attributes := #[] }, { accessFlags := 10, nameIndex := 52, descriptorIndex := 12, attributes := #[] }, { accessFlags := 10, nameIndex := 32, descriptorIndex := 33, attributes := #[] }] 49 2 #[] #[])
  fields := #[]
  methods := #[k1m0, k1m1, k1m2, k1m3, k1m4, k1m5, k1m6, k1m7, k1m8, k1m9]
  instanceTypes := #[]
  staticTypes := #[]
  resolved := Array.replicate 63 none
  statics := none }

def pool2 : Array CpInfo := pool [(1, .methodref 2 3), (0, .class_ 4), (0, .nameAndType 5 6), (0, u "java/lang/Object"), (0, u "<init>"), (0, u "()V"), (0, .fieldref 8 9), (0, .class_ 10), (0, .nameAndType 11 12), (0, u "com/example/weaverbird/weaverbird/model/xml/Utf8Decoder"), (0, u "length"), (0, u "I"), (0, .fieldref 8 14), (0, .nameAndType 15 12), (0, u "taken"), (0, .fieldref 8 17), (0, .nameAndType 18 19), (0, u "reading"), (0, u "Z"), (0, .fieldref 8 21), (0, .nameAndType 22 12), (0, u "low"), (0, .fieldref 8 24), (0, .nameAndType 25 12), (0, u "high"), (0, .fieldref 8 27), (0, .nameAndType 28 12), (0, u "partial"), (0, u "INCOMPLETE"), (2, u "MALFORMED"), (1, u "CONTINUATION_LOW"), (1, u "CONTINUATION_HIGH"), (3, u "()I"), (0, u "take"), (0, u "(I)I")] 3

def k2c0 : Code := { maxStack := 1, maxLocals := 1, code := prog_181_method_1_code, exceptionTable := #[], attributes := #[] }
def k2m0 : Method := { name := "<init>", desc := "()V", sig := { parameters := [], returnType := none }, accessFlags := 0, code := some k2c0 }
def k2c1 : Code := { maxStack := 1, maxLocals := 1, code := prog_181_method_2_code, exceptionTable := #[], attributes := #[] }
def k2m1 : Method := { name := "length", desc := "()I", sig := { parameters := [], returnType := some .int }, accessFlags := 0, code := some k2c1 }
def k2c2 : Code := { maxStack := 1, maxLocals := 1, code := prog_181_method_3_code, exceptionTable := #[], attributes := #[] }
def k2m2 : Method := { name := "taken", desc := "()I", sig := { parameters := [], returnType := some .int }, accessFlags := 0, code := some k2c2 }
def k2c3 : Code := { maxStack := 5, maxLocals := 3, code := prog_181_method_4_code, exceptionTable := #[], attributes := #[] }
def k2m3 : Method := { name := "take", desc := "(I)I", sig := { parameters := [.int], returnType := some .int }, accessFlags := 0, code := some k2c3 }
/-- com/example/weaverbird/weaverbird/model/xml/Utf8Decoder -/
def k2 : Class := { plain "com/example/weaverbird/weaverbird/model/xml/Utf8Decoder" (some 0) with
  accessFlags := 32
  interfaces := #[]
  cf := some (fileOf pool2 8 #[] #[{ accessFlags := 0, nameIndex := 5, descriptorIndex := 6, attributes := #[] }, { accessFlags := 0, nameIndex := 11, descriptorIndex := 40, attributes := #[] }, { accessFlags := 0, nameIndex := 15, descriptorIndex := 40, attributes := #[] }, { accessFlags := 0, nameIndex := 41, descriptorIndex := 42, attributes := #[] }] 32 2 #[] #[{ accessFlags := 24, nameIndex := 29, descriptorIndex := 12, attributes := #[] }, { accessFlags := 24, nameIndex := 32, descriptorIndex := 12, attributes := #[] }, { accessFlags := 26, nameIndex := 34, descriptorIndex := 12, attributes := #[] }, { accessFlags := 26, nameIndex := 36, descriptorIndex := 12, attributes := #[] }, { accessFlags := 2, nameIndex := 28, descriptorIndex := 12, attributes := #[] }, { accessFlags := 2, nameIndex := 11, descriptorIndex := 12, attributes := #[] }, { accessFlags := 2, nameIndex := 15, descriptorIndex := 12, attributes := #[] }, { accessFlags := 2, nameIndex := 22, descriptorIndex := 12, attributes := #[] }, { accessFlags := 2, nameIndex := 25, descriptorIndex := 12, attributes := #[] }, { accessFlags := 2, nameIndex := 18, descriptorIndex := 19, attributes := #[] }])
  fields := #[{ name := "INCOMPLETE", type := .int, accessFlags := 24, slot := 0, constantValue := 0 }, { name := "MALFORMED", type := .int, accessFlags := 24, slot := 1, constantValue := 0 }, { name := "CONTINUATION_LOW", type := .int, accessFlags := 26, slot := 2, constantValue := 0 }, { name := "CONTINUATION_HIGH", type := .int, accessFlags := 26, slot := 3, constantValue := 0 }, { name := "partial", type := .int, accessFlags := 2, slot := 0, constantValue := 0 }, { name := "length", type := .int, accessFlags := 2, slot := 1, constantValue := 0 }, { name := "taken", type := .int, accessFlags := 2, slot := 2, constantValue := 0 }, { name := "low", type := .int, accessFlags := 2, slot := 3, constantValue := 0 }, { name := "high", type := .int, accessFlags := 2, slot := 4, constantValue := 0 }, { name := "reading", type := .boolean, accessFlags := 2, slot := 5, constantValue := 0 }]
  methods := #[k2m0, k2m1, k2m2, k2m3]
  instanceTypes := #[.int, .int, .int, .int, .int, .boolean]
  staticTypes := #[.int, .int, .int, .int]
  resolved := Array.replicate 46 none
  statics := none }

def pool3 : Array CpInfo := pool [(1, u "java/lang/Cloneable"), (0, .class_ 1), (0, u "java/lang/Object"), (0, .class_ 3)] 3

/-- java/lang/Cloneable -/
def k3 : Class := { plain "java/lang/Cloneable" (some 0) with
  accessFlags := 1537
  interfaces := #[]
  cf := some (fileOf pool3 2 #[] #[] 1537 4 #[] #[])
  fields := #[]
  methods := #[]
  instanceTypes := #[]
  staticTypes := #[]
  resolved := Array.replicate 8 none
  statics := none }

def pool4 : Array CpInfo := pool [(1, u "java/io/Serializable"), (0, .class_ 1), (0, u "java/lang/Object"), (0, .class_ 3)] 3

/-- java/io/Serializable -/
def k4 : Class := { plain "java/io/Serializable" (some 0) with
  accessFlags := 1537
  interfaces := #[]
  cf := some (fileOf pool4 2 #[] #[] 1537 4 #[] #[])
  fields := #[]
  methods := #[]
  instanceTypes := #[]
  staticTypes := #[]
  resolved := Array.replicate 8 none
  statics := none }

/-- the primitive byte -/
def k5 : Class := { plain "byte" none with kind := .primitive 'B', accessFlags := 0x411 }
/-- [B -/
def k6 : Class := { plain "[B" (some 0) with kind := .array 5 .byte, interfaces := #[3, 4], accessFlags := 1041 }

/-- the primitive int -/
def k7 : Class := { plain "int" none with kind := .primitive 'I', accessFlags := 0x411 }
/-- [I -/
def k8 : Class := { plain "[I" (some 0) with kind := .array 7 .int, interfaces := #[3, 4], accessFlags := 1041 }

def heap : Heap := #[]
def classes : Array Class := #[k0, k1, k2, k3, k4, k5, k6, k7, k8]
def interned : List (Array UInt16 × Addr) := []
def slotsUsed : Nat := 0
def theMethod : MethodId := ⟨1, 1⟩
def args0 : Array Value := #[.int 5, .int 5, .int 5, .int 5, .int 5]
def aboutOver (below : List Frame) : State where
  vm := { classes := classes, interned := interned.toArray }
  heap := heap
  slotsUsed := slotsUsed
  threads := #[{ frames := .invoking theMethod args0 :: below }]
def below0 : List Frame := [.native { method := ⟨0, 0⟩, args := #[] }]
def about1 : State := aboutOver below0
def p0 : Program := .bare "" "" ""
def e0 : Env := launch0.env 0 0 0
theorem w_frames : about1.frames = Frame.invoking theMethod args0 :: below0 := rfl
set_option maxRecDepth 65536 in
theorem w_args : argsFit about1.vm theMethod args0 = true := by decide +kernel
set_option maxRecDepth 65536 in
theorem w_heap : heapFits about1 = true := by decide +kernel
set_option maxRecDepth 65536 in
theorem w_runnable : about1.curStatus? = some .runnable := by decide +kernel
set_option maxRecDepth 65536 in
theorem w_alone : about1.alone = true := by decide +kernel
set_option maxRecDepth 65536 in
theorem w_named : about1.methodNamed? x = some theMethod := by decide +kernel
set_option maxRecDepth 65536 in
theorem w_hears : about1.hears theMethod below0 = true := by decide +kernel
set_option maxRecDepth 65536 in
theorem w_ripe : about1.ripe theMethod args0 below0 = true := by decide +kernel
theorem w_running : about1.status = .running := rfl
set_option maxRecDepth 65536 in
theorem w_room : about1.hasRoom e0.platform room_1 = true :=
  launch0.hasRoom_least _ room_1 (by decide +kernel) (by decide +kernel) (by decide +kernel) (by decide +kernel) (by decide +kernel) (by decide +kernel)
theorem allAtoms_all (ts : List Jvm.Cond) (a : Array Jvm.Value) (st : Jvm.State) : (allAtoms ts).before a st = ts.all (fun c => c.before a st) := by
  induction ts with
  | nil => rfl
  | cons c t ih =>
    show (Jvm.Cond.and c (allAtoms t)).before a st = _
    rw [Jvm.Cond.before_and, ih, List.all_cons]
def words1 : List Jvm.Cond := Jvm.Cond.code x code maxLocals ret :: tables_1
/-- a 'code' word, met by the world's own term for the bytes: nothing is compared byte by byte -/
theorem code_word {y : MethodName} {bytes : ByteArray} {mx : Nat} {rt : Option FieldType} {a : Array Value} {s : State} {m : MethodId} {meth : Method} {c : Code} (h1 : s.methodNamed? y = some m) (h2 : s.vm.method? m = some meth) (h3 : meth.code = some c) (h4 : c.code = bytes)
    (h5 : (c.maxLocals == mx && c.exceptionTable.isEmpty && decide (c.maxStack ≤ mostOperands) && decide (meth.sig.returnType = rt) && !meth.locks && decide (parseMethodDescriptor y.desc = some meth.sig)) = true) : (Jvm.Cond.code y bytes mx rt).before a s = true := by
  simp only [Bool.and_eq_true, beq_iff_eq, Bool.not_eq_true', decide_eq_true_eq] at h5
  obtain ⟨⟨⟨⟨⟨g1, g2⟩, g3⟩, g4⟩, g5⟩, g6⟩ := h5
  simp [Cond.before, Cond.holds, Cond.value, h1, h2, h3, h4, g1, g2, g3, g4, g5, g6]
def isCode : Jvm.Cond → Bool
  | .code _ _ _ _ => true
  | _ => false
theorem all_split {L : List Jvm.Cond} {P : Jvm.Cond → Bool} (h1 : L.all (fun c => isCode c || P c) = true) (h2 : ∀ c ∈ L.filter isCode, P c = true) : L.all P = true := by
  refine List.all_eq_true.mpr fun c hc => ?_
  have h := List.all_eq_true.mp h1 c hc
  rcases Bool.eq_false_or_eq_true (isCode c) with hi | hi
  · exact h2 c (List.mem_filter.mpr ⟨hc, hi⟩)
  · simpa [hi] using h
set_option maxRecDepth 65536 in
theorem w_c0 : (Jvm.Cond.code x code maxLocals ret).before args0 about1 = true := code_word (m := ⟨1, 1⟩) (meth := k1m1) (c := k1c1) (by decide +kernel) rfl rfl rfl (by decide +kernel)
set_option maxRecDepth 65536 in
theorem w_c1 : (Jvm.Cond.code ({ cls := "com/example/weaverbird/weaverbird/model/xml/Utf8DecoderTakePinLaw", name := "unit", desc := "(I)I" } : Jvm.MethodName) method_3_code (1 : Nat) (Option.some Jvm.ClassFile.FieldType.int)).before args0 about1 = true := code_word (m := ⟨1, 2⟩) (meth := k1m2) (c := k1c2) (by decide +kernel) rfl rfl rfl (by decide +kernel)
set_option maxRecDepth 65536 in
theorem w_c2 : (Jvm.Cond.code ({ cls := "com/example/weaverbird/weaverbird/model/xml/Utf8Decoder", name := "<init>", desc := "()V" } : Jvm.MethodName) prog_181_method_1_code (1 : Nat) (Option.none : Option Jvm.ClassFile.FieldType)).before args0 about1 = true := code_word (m := ⟨2, 0⟩) (meth := k2m0) (c := k2c0) (by decide +kernel) rfl rfl rfl (by decide +kernel)
set_option maxRecDepth 65536 in
theorem w_c3 : (Jvm.Cond.code ({ cls := "java/lang/Object", name := "<init>", desc := "()V" } : Jvm.MethodName) object_method_1_code (1 : Nat) (Option.none : Option Jvm.ClassFile.FieldType)).before args0 about1 = true := code_word (m := ⟨0, 0⟩) (meth := k0m0) (c := k0c0) (by decide +kernel) rfl rfl rfl (by decide +kernel)
set_option maxRecDepth 65536 in
theorem w_c4 : (Jvm.Cond.code ({ cls := "com/example/weaverbird/weaverbird/model/xml/Utf8Decoder", name := "take", desc := "(I)I" } : Jvm.MethodName) prog_181_method_4_code (3 : Nat) (Option.some Jvm.ClassFile.FieldType.int)).before args0 about1 = true := code_word (m := ⟨2, 3⟩) (meth := k2m3) (c := k2c3) (by decide +kernel) rfl rfl rfl (by decide +kernel)
set_option maxRecDepth 65536 in
theorem w_c5 : (Jvm.Cond.code ({ cls := "com/example/weaverbird/weaverbird/model/xml/Utf8DecoderTakePinLaw", name := "leadLen", desc := "(I)I" } : Jvm.MethodName) method_6_code (1 : Nat) (Option.some Jvm.ClassFile.FieldType.int)).before args0 about1 = true := code_word (m := ⟨1, 5⟩) (meth := k1m5) (c := k1c5) (by decide +kernel) rfl rfl rfl (by decide +kernel)
set_option maxRecDepth 65536 in
theorem w_c6 : (Jvm.Cond.code ({ cls := "com/example/weaverbird/weaverbird/model/xml/Utf8DecoderTakePinLaw", name := "ended", desc := "(Lcom/example/weaverbird/weaverbird/model/xml/Utf8Decoder;IIIII)Z" } : Jvm.MethodName) method_4_code (6 : Nat) (Option.some Jvm.ClassFile.FieldType.boolean)).before args0 about1 = true := code_word (m := ⟨1, 3⟩) (meth := k1m3) (c := k1c3) (by decide +kernel) rfl rfl rfl (by decide +kernel)
set_option maxRecDepth 65536 in
theorem w_c7 : (Jvm.Cond.code ({ cls := "com/example/weaverbird/weaverbird/model/xml/Utf8Decoder", name := "length", desc := "()I" } : Jvm.MethodName) prog_181_method_2_code (1 : Nat) (Option.some Jvm.ClassFile.FieldType.int)).before args0 about1 = true := code_word (m := ⟨2, 1⟩) (meth := k2m1) (c := k2c1) (by decide +kernel) rfl rfl rfl (by decide +kernel)
set_option maxRecDepth 65536 in
theorem w_c8 : (Jvm.Cond.code ({ cls := "com/example/weaverbird/weaverbird/model/xml/Utf8Decoder", name := "taken", desc := "()I" } : Jvm.MethodName) prog_181_method_3_code (1 : Nat) (Option.some Jvm.ClassFile.FieldType.int)).before args0 about1 = true := code_word (m := ⟨2, 2⟩) (meth := k2m2) (c := k2c2) (by decide +kernel) rfl rfl rfl (by decide +kernel)
set_option maxRecDepth 65536 in
theorem w_c9 : (Jvm.Cond.code ({ cls := "com/example/weaverbird/weaverbird/model/xml/Utf8DecoderTakePinLaw", name := "after", desc := "(Lcom/example/weaverbird/weaverbird/model/xml/Utf8Decoder;I)Z" } : Jvm.MethodName) method_5_code (4 : Nat) (Option.some Jvm.ClassFile.FieldType.boolean)).before args0 about1 = true := code_word (m := ⟨1, 4⟩) (meth := k1m4) (c := k1c4) (by decide +kernel) rfl rfl rfl (by decide +kernel)
set_option maxRecDepth 65536 in
theorem w_c10 : (Jvm.Cond.code ({ cls := "com/example/weaverbird/weaverbird/model/xml/Utf8DecoderTakePinLaw", name := "leadBits", desc := "(II)I" } : Jvm.MethodName) method_7_code (2 : Nat) (Option.some Jvm.ClassFile.FieldType.int)).before args0 about1 = true := code_word (m := ⟨1, 6⟩) (meth := k1m6) (c := k1c6) (by decide +kernel) rfl rfl rfl (by decide +kernel)
set_option maxRecDepth 65536 in
theorem w_c11 : (Jvm.Cond.code ({ cls := "com/example/weaverbird/weaverbird/model/xml/Utf8DecoderTakePinLaw", name := "feasible", desc := "(III)Z" } : Jvm.MethodName) method_10_code (6 : Nat) (Option.some Jvm.ClassFile.FieldType.boolean)).before args0 about1 = true := code_word (m := ⟨1, 9⟩) (meth := k1m9) (c := k1c9) (by decide +kernel) rfl rfl rfl (by decide +kernel)
set_option maxRecDepth 65536 in
theorem w_c12 : (Jvm.Cond.code ({ cls := "com/example/weaverbird/weaverbird/model/xml/Utf8DecoderTakePinLaw", name := "minOf", desc := "(I)I" } : Jvm.MethodName) method_9_code (1 : Nat) (Option.some Jvm.ClassFile.FieldType.int)).before args0 about1 = true := code_word (m := ⟨1, 8⟩) (meth := k1m8) (c := k1c8) (by decide +kernel) rfl rfl rfl (by decide +kernel)
set_option maxRecDepth 65536 in
theorem w_c13 : (Jvm.Cond.code ({ cls := "com/example/weaverbird/weaverbird/model/xml/Utf8DecoderTakePinLaw", name := "isCont", desc := "(I)Z" } : Jvm.MethodName) method_8_code (1 : Nat) (Option.some Jvm.ClassFile.FieldType.boolean)).before args0 about1 = true := code_word (m := ⟨1, 7⟩) (meth := k1m7) (c := k1c7) (by decide +kernel) rfl rfl rfl (by decide +kernel)
def codes1 : List Jvm.Cond := [Jvm.Cond.code x code maxLocals ret, Jvm.Cond.code ({ cls := "com/example/weaverbird/weaverbird/model/xml/Utf8DecoderTakePinLaw", name := "unit", desc := "(I)I" } : Jvm.MethodName) method_3_code (1 : Nat) (Option.some Jvm.ClassFile.FieldType.int), Jvm.Cond.code ({ cls := "com/example/weaverbird/weaverbird/model/xml/Utf8Decoder", name := "<init>", desc := "()V" } : Jvm.MethodName) prog_181_method_1_code (1 : Nat) (Option.none : Option Jvm.ClassFile.FieldType), Jvm.Cond.code ({ cls := "java/lang/Object", name := "<init>", desc := "()V" } : Jvm.MethodName) object_method_1_code (1 : Nat) (Option.none : Option Jvm.ClassFile.FieldType), Jvm.Cond.code ({ cls := "com/example/weaverbird/weaverbird/model/xml/Utf8Decoder", name := "take", desc := "(I)I" } : Jvm.MethodName) prog_181_method_4_code (3 : Nat) (Option.some Jvm.ClassFile.FieldType.int), Jvm.Cond.code ({ cls := "com/example/weaverbird/weaverbird/model/xml/Utf8DecoderTakePinLaw", name := "leadLen", desc := "(I)I" } : Jvm.MethodName) method_6_code (1 : Nat) (Option.some Jvm.ClassFile.FieldType.int), Jvm.Cond.code ({ cls := "com/example/weaverbird/weaverbird/model/xml/Utf8DecoderTakePinLaw", name := "ended", desc := "(Lcom/example/weaverbird/weaverbird/model/xml/Utf8Decoder;IIIII)Z" } : Jvm.MethodName) method_4_code (6 : Nat) (Option.some Jvm.ClassFile.FieldType.boolean), Jvm.Cond.code ({ cls := "com/example/weaverbird/weaverbird/model/xml/Utf8Decoder", name := "length", desc := "()I" } : Jvm.MethodName) prog_181_method_2_code (1 : Nat) (Option.some Jvm.ClassFile.FieldType.int), Jvm.Cond.code ({ cls := "com/example/weaverbird/weaverbird/model/xml/Utf8Decoder", name := "taken", desc := "()I" } : Jvm.MethodName) prog_181_method_3_code (1 : Nat) (Option.some Jvm.ClassFile.FieldType.int), Jvm.Cond.code ({ cls := "com/example/weaverbird/weaverbird/model/xml/Utf8DecoderTakePinLaw", name := "after", desc := "(Lcom/example/weaverbird/weaverbird/model/xml/Utf8Decoder;I)Z" } : Jvm.MethodName) method_5_code (4 : Nat) (Option.some Jvm.ClassFile.FieldType.boolean), Jvm.Cond.code ({ cls := "com/example/weaverbird/weaverbird/model/xml/Utf8DecoderTakePinLaw", name := "leadBits", desc := "(II)I" } : Jvm.MethodName) method_7_code (2 : Nat) (Option.some Jvm.ClassFile.FieldType.int), Jvm.Cond.code ({ cls := "com/example/weaverbird/weaverbird/model/xml/Utf8DecoderTakePinLaw", name := "feasible", desc := "(III)Z" } : Jvm.MethodName) method_10_code (6 : Nat) (Option.some Jvm.ClassFile.FieldType.boolean), Jvm.Cond.code ({ cls := "com/example/weaverbird/weaverbird/model/xml/Utf8DecoderTakePinLaw", name := "minOf", desc := "(I)I" } : Jvm.MethodName) method_9_code (1 : Nat) (Option.some Jvm.ClassFile.FieldType.int), Jvm.Cond.code ({ cls := "com/example/weaverbird/weaverbird/model/xml/Utf8DecoderTakePinLaw", name := "isCont", desc := "(I)Z" } : Jvm.MethodName) method_8_code (1 : Nat) (Option.some Jvm.ClassFile.FieldType.boolean)]
set_option maxRecDepth 65536 in
theorem codes_eq : words1.filter isCode = codes1 := rfl
theorem w_codes : ∀ c ∈ words1.filter isCode, c.before args0 about1 = true := by
  rw [codes_eq]
  intro c hc
  simp only [codes1, List.mem_cons, List.not_mem_nil, or_false] at hc
  rcases hc with rfl | rfl | rfl | rfl | rfl | rfl | rfl | rfl | rfl | rfl | rfl | rfl | rfl | rfl
  · exact w_c0
  · exact w_c1
  · exact w_c2
  · exact w_c3
  · exact w_c4
  · exact w_c5
  · exact w_c6
  · exact w_c7
  · exact w_c8
  · exact w_c9
  · exact w_c10
  · exact w_c11
  · exact w_c12
  · exact w_c13
set_option maxRecDepth 65536 in
theorem w_t1 : (words1.take 24).all (fun c => isCode c || c.before args0 about1) = true := by decide +kernel
set_option maxRecDepth 65536 in
theorem w_t2 : ((words1.drop 24).take 24).all (fun c => isCode c || c.before args0 about1) = true := by decide +kernel
set_option maxRecDepth 65536 in
theorem w_t3 : ((words1.drop 24).drop 24).all (fun c => isCode c || c.before args0 about1) = true := by decide +kernel
theorem w_tables : (allAtoms (Jvm.Cond.code x code maxLocals ret :: tables_1)).before args0 about1 = true := by
  rw [allAtoms_all]
  show words1.all (fun c => c.before args0 about1) = true
  refine all_split ?_ w_codes
  rw [← List.take_append_drop 24 words1, List.all_append, w_t1, ← List.take_append_drop 24 (words1.drop 24), List.all_append, w_t2, w_t3]
  rfl
set_option maxRecDepth 65536 in
theorem w_case : (Jvm.Cond.and given_1 narrow_1).before args0 about1 = true := by decide +kernel
theorem w_applies : (headSpec (Jvm.Cond.code x code maxLocals ret :: tables_1) room_1).applies x e0.platform about1 = true :=
  (Spec.applies_iff w_frames).mpr ⟨w_running, w_runnable, w_alone, w_named, w_hears, w_ripe, w_room, w_tables⟩
theorem atStart : AtStart classFile x code maxLocals ret World_1 tables_1 room_1 Calls_1 rest_1 Pre_1 launch0 p0 e0 about1 theMethod args0 below0 :=
  ⟨lists_1, trivial, launch0.admits_env _ _ _, launch0.least_env, fairChoices_fair.cas, fairChoices_fair.clock, w_frames, w_args, w_heap, w_applies, trivial, trivial, w_case⟩
end start1
theorem witness_1 : WitnessClaimed_1 := ⟨start1.p0, start1.e0, start1.about1, start1.theMethod, start1.args0, start1.below0, start1.atStart⟩
end Jvm.Pilot.@@N@@
