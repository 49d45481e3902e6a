import JvmDerived
import JvmDerived.Pilot.@@N@@Statement
import JvmDerived.Pilot.@@N@@Code
set_option linter.unusedVariables false
set_option linter.unusedSimpArgs false
@@BLOCK:NumsL.lean.txt@@
namespace Jvm.RoadKit
open Sem ClassFile Op Lib Jvm.Stand Jvm.Free Jvm.LawKit
section New
variable {p : Program} {l : Launch} {e : Env} {R : Room} {s : State} {m : MethodId} {args : Array Value} {below : List Frame} {meth : Method} {c : Code} {T : State} {locs : List Loc} {cells slots : Nat}
theorem retI (X : Stand p l e R s m args below meth c T locs cells slots) (hx : p.tables.exec = Jvm.exec) {pc : Nat} {Ls : Array Slot} {z : Int32} {rest : List Value} (hret : meth.sig.returnType = some .int) (hd : decode c.code pc = .ok (.ireturn, 1)) {fs : List Frame}
    (hl : ∀ (f : JFrame) (acts : List Action), f.method = m → f.locked = none → f.entered = [] → (doReturn e (T.setTop f) acts (some (.int z))).1 = T.setFrames fs) : Steps p.tables e below (T.setTop (mkF m pc Ls (.int z :: rest))) (T.setFrames fs) := by
  have hm' : T.vm.method? m = some meth := X.method'
  have hn : narrow .int (.int z) = .int z := rfl
  show Steps p.tables e below (T.setTop { method := m, pc := pc, locals := Ls, stack := _ :: rest, locked := none }) _
  jvm_step X.here [X.here.top, hx, hd, hm', hret, hn]
  first | (intro acts; rw [hl _ acts rfl rfl rfl]) | rw [hl _ _ rfl rfl rfl]
  exact Steps.refl _
end New
end Jvm.RoadKit
namespace Jvm.Pilot.@@N@@
open Jvm Jvm.ClassFile Sem Op Lib Jvm.Free Jvm.Stand Jvm.LawKit Jvm.RoadKit Bundle Jvm.Pilot.@@N@@.Jvm.D
theorem own_nar_s (x : Int32) : nar .short (x.toInt16.toInt32) = x.toInt16.toInt32 := by
  show (x.toInt16.toInt32).toInt16.toInt32 = _
  rw [Int16.toInt16_toInt32]
def own_ms (x y : Int32) : Int32 := (((x &&& (255 : Int32)) <<< ((8 : Int32) &&& 31)) ||| (y &&& (255 : Int32))).toInt16.toInt32
theorem own_mask (x : Int32) : (x &&& (255 : Int32)).toInt = x.toInt % 256 := Jvm.Kit.i32_mask x 255 (k := 8) (by decide) (by decide)
theorem own_or (u v : Nat) (hv : v < 256) : (u * 256) ||| v = u * 256 + v := by
  have h := Nat.shiftLeft_add_eq_or_of_lt (i := 8) (b := v) (by simpa using hv) u
  rw [Nat.shiftLeft_eq] at h
  exact h.symm
theorem own_b (x : Int32) : (x.toInt8.toInt32).toInt = x.toInt.bmod 256 := by
  rw [Int8.toInt_toInt32, Int32.toInt_toInt8]
theorem own_s (x : Int32) : (x.toInt16.toInt32).toInt = x.toInt.bmod 65536 := by
  rw [Int16.toInt_toInt32, Int32.toInt_toInt16]
theorem own_nn {x : Int32} {n : Nat} (h : x.toInt = (n : Int)) : x.toBitVec.toNat = n := by
  have h1 : x.toInt = x.toBitVec.toInt := rfl
  rw [h1] at h
  have h2 := x.toBitVec.isLt
  rw [BitVec.toInt_eq_toNat_cond] at h
  split at h <;> omega
theorem own_ms_int (x y : Int32) : (own_ms x y).toInt = ((x.toInt % 256) * 256 + y.toInt % 256).bmod 65536 := by
  unfold own_ms
  rw [own_s]
  congr 1
  obtain ⟨a, ha⟩ : ∃ a : Nat, x.toInt % 256 = (a : Int) := ⟨(x.toInt % 256).toNat, by omega⟩
  obtain ⟨b, hb⟩ : ∃ b : Nat, y.toInt % 256 = (b : Int) := ⟨(y.toInt % 256).toNat, by omega⟩
  have h1 : ((x &&& (255 : Int32)) <<< ((8 : Int32) &&& 31)).toInt = (a : Int) * 256 := by
    rw [Jvm.Kit.i32_shl _ _ (k := 8) (by decide) (by rw [own_mask]; omega) (by rw [own_mask]; omega), own_mask, ha]; rfl
  have h2 : (y &&& (255 : Int32)).toInt = (b : Int) := by rw [own_mask, hb]
  have n1 := own_nn (n := a * 256) (by rw [h1]; omega)
  have n2 := own_nn h2
  generalize (x &&& (255 : Int32)) <<< ((8 : Int32) &&& 31) = u at *
  generalize (y &&& (255 : Int32)) = v at *
  have h3 : (u ||| v).toBitVec.toNat = a * 256 + b := by
    show (u.toBitVec ||| v.toBitVec).toNat = _
    rw [BitVec.toNat_or, n1, n2, own_or a b (by omega)]
  show (u ||| v).toBitVec.toInt = _
  rw [BitVec.toInt_eq_toNat_cond, h3]
  have : 2 * (a * 256 + b) < 2 ^ 32 := by omega
  rw [if_pos this, ha, hb]
  omega
theorem own_lt0 (x : Int32) : x < 0 ↔ x.toInt < 0 := by rw [Int32.lt_iff_toInt_lt]; rfl
theorem own_bm (n : Int) : n.bmod 256 = if n % 256 < 128 then n % 256 else n % 256 - 256 := by unfold Int.bmod; rfl
theorem own_bs (n : Int) : n.bmod 65536 = if n % 65536 < 32768 then n % 65536 else n % 65536 - 65536 := by unfold Int.bmod; rfl
theorem own_c1 : (256 : Int32).toInt = 256 := by decide
theorem own_A (x y : Int32) (h : y.toInt8.toInt32 < 0) : own_ms x.toInt8.toInt32 y.toInt8.toInt32 = x.toInt8.toInt32 * (256 : Int32) + (y.toInt8.toInt32 + (256 : Int32)) := by
  rw [own_lt0, own_b] at h
  apply Int32.toInt_inj.mp
  have hx := own_b x
  have hy := own_b y
  generalize x.toInt8.toInt32 = u at *
  generalize y.toInt8.toInt32 = v at *
  rw [own_bm] at h hx hy
  have e1 : (u * (256 : Int32)).toInt = u.toInt * 256 := by rw [Jvm.Kit.i32_mul (by rw [own_c1]; split at hx <;> omega) (by rw [own_c1]; split at hx <;> omega), own_c1]
  have e2 : (v + (256 : Int32)).toInt = v.toInt + 256 := by rw [Jvm.Kit.i32_add (by rw [own_c1]; split at hy <;> omega) (by rw [own_c1]; split at hy <;> omega), own_c1]
  rw [own_ms_int, Jvm.Kit.i32_add (by rw [e1, e2]; split at hx <;> split at hy <;> omega) (by rw [e1, e2]; split at hx <;> split at hy <;> omega), e1, e2, own_bs]
  split at hx <;> split at hy <;> split <;> omega
theorem own_B (x y : Int32) (h : ¬ y.toInt8.toInt32 < 0) : own_ms x.toInt8.toInt32 y.toInt8.toInt32 = x.toInt8.toInt32 * (256 : Int32) + y.toInt8.toInt32 := by
  rw [own_lt0, own_b] at h
  apply Int32.toInt_inj.mp
  have hx := own_b x
  have hy := own_b y
  generalize x.toInt8.toInt32 = u at *
  generalize y.toInt8.toInt32 = v at *
  rw [own_bm] at h hx hy
  have e1 : (u * (256 : Int32)).toInt = u.toInt * 256 := by rw [Jvm.Kit.i32_mul (by rw [own_c1]; split at hx <;> omega) (by rw [own_c1]; split at hx <;> omega), own_c1]
  rw [own_ms_int, Jvm.Kit.i32_add (by rw [e1]; split at hx <;> split at hy <;> omega) (by rw [e1]; split at hx <;> split at hy <;> omega), e1, own_bs]
  split at hx <;> split at hy <;> split <;> omega
theorem own_C (x y : Int32) : (own_ms x.toInt8.toInt32 y.toInt8.toInt32 >>> ((8 : Int32) &&& 31)).toInt8.toInt32 = x.toInt8.toInt32 := by
  apply Int32.toInt_inj.mp
  have hx := own_b x
  have hy := own_b y
  generalize x.toInt8.toInt32 = u at *
  generalize y.toInt8.toInt32 = v at *
  rw [own_b, Jvm.Kit.i32_shr _ _ (k := 8) (by decide), own_ms_int]
  rw [own_bm] at hx hy ⊢
  rw [own_bs]
  split at hx <;> split at hy <;> split <;> split <;> omega
theorem own_D (x y : Int32) : (own_ms x.toInt8.toInt32 y.toInt8.toInt32).toInt8.toInt32 = y.toInt8.toInt32 := by
  apply Int32.toInt_inj.mp
  have hx := own_b x
  have hy := own_b y
  generalize x.toInt8.toInt32 = u at *
  generalize y.toInt8.toInt32 = v at *
  rw [own_b, own_ms_int]
  rw [own_bm] at hx hy ⊢
  rw [own_bs]
  split at hx <;> split at hy <;> split <;> split <;> omega
theorem d1_0 : decode prog_57_method_6_code 0 = .ok (.iload_n 0, 1) := by decide +kernel
theorem d1_1 : decode prog_57_method_6_code 1 = .ok (.sipush 255, 3) := by decide +kernel
theorem d1_4 : decode prog_57_method_6_code 4 = .ok (.iand, 1) := by decide +kernel
theorem d1_5 : decode prog_57_method_6_code 5 = .ok (.bipush 8, 2) := by decide +kernel
theorem d1_7 : decode prog_57_method_6_code 7 = .ok (.ishl, 1) := by decide +kernel
theorem d1_8 : decode prog_57_method_6_code 8 = .ok (.iload_n 1, 1) := by decide +kernel
theorem d1_9 : decode prog_57_method_6_code 9 = .ok (.sipush 255, 3) := by decide +kernel
theorem d1_12 : decode prog_57_method_6_code 12 = .ok (.iand, 1) := by decide +kernel
theorem d1_13 : decode prog_57_method_6_code 13 = .ok (.ior, 1) := by decide +kernel
theorem d1_14 : decode prog_57_method_6_code 14 = .ok (.i2s, 1) := by decide +kernel
theorem d1_15 : decode prog_57_method_6_code 15 = .ok (.ireturn, 1) := by decide +kernel
theorem pn_1 : plainName "javacard/framework/Util" = true := by first | (simp [plainName, overriddenIn]; done) | decide +kernel
theorem ef_1 (m : MethodId) (x0 : Int32) (x1 : Int32) : entryFrame m #[(.int x0), (.int x1)] 2 = mkF m 0 #[.val (.int x0), .val (.int x1)] [] := by first | (simp [entryFrame, mkF, argsToLocals, Value.category]; done) | rfl
def Q1 (Z : State) (p1 : Int32) (p2 : Int32) (h0 : Heap) (n0 : Nat) (v : Option Value) (h : Heap) (L : List Loc) : Prop := v = some (.int (own_ms p1 p2)) ∧ Fr n0 L ∧ h = h0
set_option maxRecDepth 65536 in
set_option maxHeartbeats 40000000 in
theorem rm1 (l : Launch) (Z : State) (a0 : Array Value) (hw : ∀ d ∈ tables_1, d.before a0 Z = true) (ws : List Jvm.Cond) (p1 : Int32) (p2 : Int32) (h0 : Heap) (n0 : Nat) (Z0 : n0 ≤ h0.size) :
    MetFree l (⟨"javacard/framework/Util", "makeShort", "(BB)S"⟩ : MethodName) (head1 (Jvm.Cond.code (⟨"javacard/framework/Util", "makeShort", "(BB)S"⟩ : MethodName) prog_57_method_6_code 2 (some .short) :: ws) ({ frames := 0, cells := 0, slots := 0, locals := 0 } : Room)) (fun a U => a = #[(.int p1), (.int p2)] ∧ Z.Warmed39 U.vm ∧ U.heap = h0) (fun _ _ _ _ _ => True) (fun _ U o U' => ∃ v L, o = .returned v ∧ Q1 Z p1 p2 h0 n0 v U'.heap L ∧ FrameEnd U o U' L ({ frames := 0, cells := 0, slots := 0, locals := 0 } : Room).cells ({ frames := 0, cells := 0, slots := 0, locals := 0 } : Room).slots) := by
  refine MetFree.of_bodySF (plainFor_of_name pn_1) hisR ?_
  intro p e s m args below meth c s₁ Bd hml0 hP hK
  obtain ⟨rfl, hZ, hh⟩ := hP
  have hx := Bd.exec
  have hby := Bd.bytes
  have hml : c.maxLocals = 2 := hml0
  have hown : s.vm.findClass "javacard/framework/Util" = some m.cls := findClass_of_methodNamed Bd.named
  have hnm := (name_of_methodNamed Bd.named Bd.method).1
  have X0 : Stand p l e ({ frames := 0, cells := 0, slots := 0, locals := 0 } : Room) s m #[(.int p1), (.int p2)] below meth c s₁ [] 0 0 := Stand.of_body Bd
  have e0 : s₁.heap = h0 := by rw [← hh, Bd.state]; rfl
  have N0 := Fr.nil n0
  have pre0 : ∀ t, Steps p.tables e below (s₁.setTop (mkF m 0 #[.val (.int p1), .val (.int p2)] [])) t → Steps p.tables e below (s₁.setTop (entryFrame m #[(.int p1), (.int p2)] 2)) t := fun t k => castTop (ef_1 m p1 p2) k
  -- 3. LAWS

  obtain ⟨fs, hr, hrun, hended, hW, hsame⟩ := X0.leave (v := some (.int ((((p1 &&& (255 : Int32)) <<< ((8 : Int32) &&& 31)) ||| (p2 &&& (255 : Int32))).toInt16.toInt32))) (fun h => by rw [Bd.returns] at h; cases h)
  refine ⟨_, _, pre0 _ ?_, hrun, hended, _, _, rfl, ?_, ⟨_, rfl⟩, hW, hsame.mono (by decide) (by decide)⟩
  -- 4. STEPS
  · show Steps p.tables e below (s₁.setTop (mkF m 0 #[.val (.int p1), .val (.int p2)] [])) _
    refine XS.iloadN X0.here hx rfl (hb hby d1_0) rfl ?_
    show Steps p.tables e below (s₁.setTop (mkF m 1 #[.val (.int p1), .val (.int p2)] [(.int p1)])) _
    refine XS.sipush X0.here hx rfl (hb hby d1_1) ?_
    show Steps p.tables e below (s₁.setTop (mkF m 4 #[.val (.int p1), .val (.int p2)] [(.int (255 : Int32)), (.int p1)])) _
    refine XS.iand X0.here hx rfl (hb hby d1_4) rfl ?_
    show Steps p.tables e below (s₁.setTop (mkF m 5 #[.val (.int p1), .val (.int p2)] [(.int (p1 &&& (255 : Int32)))])) _
    refine XS.bipush X0.here hx rfl (hb hby d1_5) ?_
    show Steps p.tables e below (s₁.setTop (mkF m 7 #[.val (.int p1), .val (.int p2)] [(.int (8 : Int32)), (.int (p1 &&& (255 : Int32)))])) _
    refine XS.ishl X0.here hx rfl (hb hby d1_7) rfl ?_
    show Steps p.tables e below (s₁.setTop (mkF m 8 #[.val (.int p1), .val (.int p2)] [(.int ((p1 &&& (255 : Int32)) <<< ((8 : Int32) &&& 31)))])) _
    refine XS.iloadN X0.here hx rfl (hb hby d1_8) rfl ?_
    show Steps p.tables e below (s₁.setTop (mkF m 9 #[.val (.int p1), .val (.int p2)] [(.int p2), (.int ((p1 &&& (255 : Int32)) <<< ((8 : Int32) &&& 31)))])) _
    refine XS.sipush X0.here hx rfl (hb hby d1_9) ?_
    show Steps p.tables e below (s₁.setTop (mkF m 12 #[.val (.int p1), .val (.int p2)] [(.int (255 : Int32)), (.int p2), (.int ((p1 &&& (255 : Int32)) <<< ((8 : Int32) &&& 31)))])) _
    refine XS.iand X0.here hx rfl (hb hby d1_12) rfl ?_
    show Steps p.tables e below (s₁.setTop (mkF m 13 #[.val (.int p1), .val (.int p2)] [(.int (p2 &&& (255 : Int32))), (.int ((p1 &&& (255 : Int32)) <<< ((8 : Int32) &&& 31)))])) _
    refine XS.ior X0.here hx rfl (hb hby d1_13) rfl ?_
    show Steps p.tables e below (s₁.setTop (mkF m 14 #[.val (.int p1), .val (.int p2)] [(.int (((p1 &&& (255 : Int32)) <<< ((8 : Int32) &&& 31)) ||| (p2 &&& (255 : Int32))))])) _
    refine XS.i2s X0.here hx rfl (hb hby d1_14) rfl ?_
    show Steps p.tables e below (s₁.setTop (mkF m 15 #[.val (.int p1), .val (.int p2)] [(.int ((((p1 &&& (255 : Int32)) <<< ((8 : Int32) &&& 31)) ||| (p2 &&& (255 : Int32))).toInt16.toInt32))])) _
    exact retN X0 hx (t := .short) Bd.returns (by simp) (hb hby d1_15) (by rw [own_nar_s]; exact hr)
  · show Q1 Z p1 p2 h0 n0 _ s₁.heap _
    rw [e0]
    exact ⟨rfl, N0, rfl⟩
def Q0 (Z : State) (p1 : Int32) (p2 : Int32) (h0 : Heap) (n0 : Nat) (v : Option Value) (h : Heap) (L : List Loc) : Prop := v = some (.int 1) ∧ Fr n0 L
theorem pn_0 : plainName "javacard/framework/UtilMakeShortPinLaw" = true := by first | (simp [plainName, overriddenIn]; done) | decide +kernel
theorem pd_0_0 : parseMethodDescriptor "(BB)S" = some ⟨[.byte, .byte], some .short⟩ := by decide +kernel
theorem ef_0 (m : MethodId) (x0 : Int32) (x1 : Int32) : entryFrame m #[(.int x0), (.int x1)] maxLocals = mkF m 0 #[.val (.int x0), .val (.int x1), .unset, .unset, .unset, .unset, .unset, .unset, .unset, .unset] [] := by first | (simp [entryFrame, mkF, argsToLocals, Value.category, maxLocals]; done) | rfl
set_option maxRecDepth 65536 in
set_option maxHeartbeats 40000000 in
theorem rm0a (l : Launch) (Z : State) (a0 : Array Value) (hw : ∀ d ∈ tables_1, d.before a0 Z = true) (ws : List Jvm.Cond) (p1 : Int32) (p2 : Int32) (h0 : Heap) (n0 : Nat) (Z0 : n0 ≤ h0.size) (hc14 : ¬ ((p2.toInt8.toInt32) < (0 : Int32))) (hc85 : ¬ ((1 : Int32) = (0 : Int32))) (hc90 : ¬ ((1 : Int32) = (0 : Int32))) (hc95 : ¬ ((1 : Int32) = (0 : Int32))) :
    MetFree l x (head1 (Jvm.Cond.code x code maxLocals ret :: ws) room_1) (fun a U => a = #[(.int p1), (.int p2)] ∧ Z.Warmed39 U.vm ∧ U.heap = h0) (fun _ _ _ _ _ => True) (fun _ U o U' => ∃ v L, o = .returned v ∧ Q0 Z p1 p2 h0 n0 v U'.heap L ∧ FrameEnd U o U' L room_1.cells room_1.slots) := by
  refine MetFree.of_bodySF (plainFor_of_name pn_0) hisR ?_
  intro p e s m args below meth c s₁ Bd hml0 hP hK
  obtain ⟨rfl, hZ, hh⟩ := hP
  have hx := Bd.exec
  have hby := Bd.bytes
  have hml : c.maxLocals = 10 := hml0
  have hown : s.vm.findClass "javacard/framework/UtilMakeShortPinLaw" = some m.cls := findClass_of_methodNamed Bd.named
  have hnm := (name_of_methodNamed Bd.named Bd.method).1
  have X0 : Stand p l e room_1 s m #[(.int p1), (.int p2)] below meth c s₁ [] 0 0 := Stand.of_body Bd
  have e0 : s₁.heap = h0 := by rw [← hh, Bd.state]; rfl
  have N0 := Fr.nil n0
  have pre0 : ∀ t, Steps p.tables e below (s₁.setTop (mkF m 0 #[.val (.int p1), .val (.int p2), .unset, .unset, .unset, .unset, .unset, .unset, .unset, .unset] [])) t → Steps p.tables e below (s₁.setTop (entryFrame m #[(.int p1), (.int p2)] maxLocals)) t := fun t k => castTop (ef_0 m p1 p2) k
  -- 3. LAWS
  -- pc 8: javacard/framework/Util.makeShort by its contract rm1
  obtain ⟨_, _, ⟨T3, L3, k3, n3⟩, -, X3, ⟨Lc3, hQ3, l3, y3, z3⟩, st3⟩ := Jvm.LawKit.callS X0 hx (y := (⟨"javacard/framework/Util", "makeShort", "(BB)S"⟩ : MethodName)) hown (mvT hZ (hw _ (List.mem_of_getElem? (i := 0) rfl))) (mvT hZ (hw _ (List.mem_of_getElem? (i := 1) rfl))) (mvT hZ (hw _ (List.mem_of_getElem? (i := 2) rfl))) (mvT hZ (hw _ (List.mem_of_getElem? (i := 3) rfl))) (by decide) (backOf (W := 0) (rm1 l Z a0 hw [] (p1.toInt8.toInt32) (p2.toInt8.toInt32) h0 n0 Z0) hZ (hw _ (List.mem_of_getElem? (i := 3) rfl)) (hw _ (List.mem_of_getElem? (i := 2) rfl)) (by decide) (by decide)) (g := (mkF m 8 #[.val (.int p1), .val (.int p2), .val (.int (p1.toInt8.toInt32)), .val (.int (p2.toInt8.toInt32)), .unset, .unset, .unset, .unset, .unset, .unset] [(.int (p2.toInt8.toInt32)), (.int (p1.toInt8.toInt32))])) rfl (by rw [hml]; rfl) (argsL := [(.int (p1.toInt8.toInt32)), (.int (p2.toInt8.toInt32))]) (rest := []) (lenOf pd_0_0 rfl) rfl (by show 2 * 0 + _ ≤ _; exact Nat.le_of_eq rfl) (hb hby at_8) (fun _ _ => ⟨rfl, e0, (by decide : 0 + 0 ≤ _), (by decide : 0 + 0 ≤ _)⟩)
  dsimp only [Pt.U, Pt.locs, Pt.cells, Pt.slots] at X3 l3 y3 z3 st3 hQ3
  subst l3 y3 z3
  obtain ⟨rfl, N3q, e3h⟩ := hQ3      -- what it returned, that it wrote nothing old, and the rest of your Q1
  have N3 := Fr.app N0 N3q
  obtain ⟨fs, hr, hrun, hended, hW, hsame⟩ := X3.leave (v := some (.int (1 : Int32))) (fun h => by rw [Bd.returns] at h; cases h)
  refine ⟨_, _, pre0 _ ?_, hrun, hended, _, _, rfl, ?_, ⟨_, rfl⟩, hW, hsame.mono (by decide) (by decide)⟩
  -- 4. STEPS
  · show Steps p.tables e below (s₁.setTop (mkF m 0 #[.val (.int p1), .val (.int p2), .unset, .unset, .unset, .unset, .unset, .unset, .unset, .unset] [])) _
    refine XS.iloadN X0.here hx rfl (hb hby at_0) rfl ?_
    show Steps p.tables e below (s₁.setTop (mkF m 1 #[.val (.int p1), .val (.int p2), .unset, .unset, .unset, .unset, .unset, .unset, .unset, .unset] [(.int p1)])) _
    refine XS.i2b X0.here hx rfl (hb hby at_1) rfl ?_
    show Steps p.tables e below (s₁.setTop (mkF m 2 #[.val (.int p1), .val (.int p2), .unset, .unset, .unset, .unset, .unset, .unset, .unset, .unset] [(.int (p1.toInt8.toInt32))])) _
    refine XS.istoreN X0.here hx rfl (hb hby at_2) rfl (l' := #[.val (.int p1), .val (.int p2), .val (.int (p1.toInt8.toInt32)), .unset, .unset, .unset, .unset, .unset, .unset, .unset]) rfl ?_
    show Steps p.tables e below (s₁.setTop (mkF m 3 #[.val (.int p1), .val (.int p2), .val (.int (p1.toInt8.toInt32)), .unset, .unset, .unset, .unset, .unset, .unset, .unset] [])) _
    refine XS.iloadN X0.here hx rfl (hb hby at_3) rfl ?_
    show Steps p.tables e below (s₁.setTop (mkF m 4 #[.val (.int p1), .val (.int p2), .val (.int (p1.toInt8.toInt32)), .unset, .unset, .unset, .unset, .unset, .unset, .unset] [(.int p2)])) _
    refine XS.i2b X0.here hx rfl (hb hby at_4) rfl ?_
    show Steps p.tables e below (s₁.setTop (mkF m 5 #[.val (.int p1), .val (.int p2), .val (.int (p1.toInt8.toInt32)), .unset, .unset, .unset, .unset, .unset, .unset, .unset] [(.int (p2.toInt8.toInt32))])) _
    refine XS.istoreN X0.here hx rfl (hb hby at_5) rfl (l' := #[.val (.int p1), .val (.int p2), .val (.int (p1.toInt8.toInt32)), .val (.int (p2.toInt8.toInt32)), .unset, .unset, .unset, .unset, .unset, .unset]) rfl ?_
    show Steps p.tables e below (s₁.setTop (mkF m 6 #[.val (.int p1), .val (.int p2), .val (.int (p1.toInt8.toInt32)), .val (.int (p2.toInt8.toInt32)), .unset, .unset, .unset, .unset, .unset, .unset] [])) _
    refine XS.iloadN X0.here hx rfl (hb hby at_6) rfl ?_
    show Steps p.tables e below (s₁.setTop (mkF m 7 #[.val (.int p1), .val (.int p2), .val (.int (p1.toInt8.toInt32)), .val (.int (p2.toInt8.toInt32)), .unset, .unset, .unset, .unset, .unset, .unset] [(.int (p1.toInt8.toInt32))])) _
    refine XS.iloadN X0.here hx rfl (hb hby at_7) rfl ?_
    show Steps p.tables e below (s₁.setTop (mkF m 8 #[.val (.int p1), .val (.int p2), .val (.int (p1.toInt8.toInt32)), .val (.int (p2.toInt8.toInt32)), .unset, .unset, .unset, .unset, .unset, .unset] [(.int (p2.toInt8.toInt32)), (.int (p1.toInt8.toInt32))])) _
    refine st3 _ ?_
    show Steps p.tables e below (T3.setTop (mkF m 11 #[.val (.int p1), .val (.int p2), .val (.int (p1.toInt8.toInt32)), .val (.int (p2.toInt8.toInt32)), .unset, .unset, .unset, .unset, .unset, .unset] [(.int (own_ms p1.toInt8.toInt32 p2.toInt8.toInt32))])) _
    refine XS.istore X3.here hx rfl (hb hby at_11) rfl (l' := #[.val (.int p1), .val (.int p2), .val (.int (p1.toInt8.toInt32)), .val (.int (p2.toInt8.toInt32)), .val (.int (own_ms p1.toInt8.toInt32 p2.toInt8.toInt32)), .unset, .unset, .unset, .unset, .unset]) rfl ?_
    show Steps p.tables e below (T3.setTop (mkF m 13 #[.val (.int p1), .val (.int p2), .val (.int (p1.toInt8.toInt32)), .val (.int (p2.toInt8.toInt32)), .val (.int (own_ms p1.toInt8.toInt32 p2.toInt8.toInt32)), .unset, .unset, .unset, .unset, .unset] [])) _
    refine XS.iloadN X3.here hx rfl (hb hby at_13) rfl ?_
    show Steps p.tables e below (T3.setTop (mkF m 14 #[.val (.int p1), .val (.int p2), .val (.int (p1.toInt8.toInt32)), .val (.int (p2.toInt8.toInt32)), .val (.int (own_ms p1.toInt8.toInt32 p2.toInt8.toInt32)), .unset, .unset, .unset, .unset, .unset] [(.int (p2.toInt8.toInt32))])) _
    refine XS.ifYes X3.here hx rfl (pc0 := 14) (pc' := 25) rfl (hb hby at_14) rfl ((if0 _ _).trans (flt hc14).2.1) (by decide) (by decide) ?_
    show Steps p.tables e below (T3.setTop (mkF m 25 #[.val (.int p1), .val (.int p2), .val (.int (p1.toInt8.toInt32)), .val (.int (p2.toInt8.toInt32)), .val (.int (own_ms p1.toInt8.toInt32 p2.toInt8.toInt32)), .unset, .unset, .unset, .unset, .unset] [])) _
    refine XS.iloadN X3.here hx rfl (hb hby at_25) rfl ?_
    show Steps p.tables e below (T3.setTop (mkF m 26 #[.val (.int p1), .val (.int p2), .val (.int (p1.toInt8.toInt32)), .val (.int (p2.toInt8.toInt32)), .val (.int (own_ms p1.toInt8.toInt32 p2.toInt8.toInt32)), .unset, .unset, .unset, .unset, .unset] [(.int (p2.toInt8.toInt32))])) _
    refine XS.istore X3.here hx rfl (hb hby at_26) rfl (l' := #[.val (.int p1), .val (.int p2), .val (.int (p1.toInt8.toInt32)), .val (.int (p2.toInt8.toInt32)), .val (.int (own_ms p1.toInt8.toInt32 p2.toInt8.toInt32)), .val (.int (p2.toInt8.toInt32)), .unset, .unset, .unset, .unset]) rfl ?_
    show Steps p.tables e below (T3.setTop (mkF m 28 #[.val (.int p1), .val (.int p2), .val (.int (p1.toInt8.toInt32)), .val (.int (p2.toInt8.toInt32)), .val (.int (own_ms p1.toInt8.toInt32 p2.toInt8.toInt32)), .val (.int (p2.toInt8.toInt32)), .unset, .unset, .unset, .unset] [])) _
    refine XS.iloadN X3.here hx rfl (hb hby at_28) rfl ?_
    show Steps p.tables e below (T3.setTop (mkF m 29 #[.val (.int p1), .val (.int p2), .val (.int (p1.toInt8.toInt32)), .val (.int (p2.toInt8.toInt32)), .val (.int (own_ms p1.toInt8.toInt32 p2.toInt8.toInt32)), .val (.int (p2.toInt8.toInt32)), .unset, .unset, .unset, .unset] [(.int (p1.toInt8.toInt32))])) _
    refine XS.sipush X3.here hx rfl (hb hby at_29) ?_
    show Steps p.tables e below (T3.setTop (mkF m 32 #[.val (.int p1), .val (.int p2), .val (.int (p1.toInt8.toInt32)), .val (.int (p2.toInt8.toInt32)), .val (.int (own_ms p1.toInt8.toInt32 p2.toInt8.toInt32)), .val (.int (p2.toInt8.toInt32)), .unset, .unset, .unset, .unset] [(.int (256 : Int32)), (.int (p1.toInt8.toInt32))])) _
    refine XS.imul X3.here hx rfl (hb hby at_32) rfl ?_
    show Steps p.tables e below (T3.setTop (mkF m 33 #[.val (.int p1), .val (.int p2), .val (.int (p1.toInt8.toInt32)), .val (.int (p2.toInt8.toInt32)), .val (.int (own_ms p1.toInt8.toInt32 p2.toInt8.toInt32)), .val (.int (p2.toInt8.toInt32)), .unset, .unset, .unset, .unset] [(.int ((p1.toInt8.toInt32) * (256 : Int32)))])) _
    refine XS.iload X3.here hx rfl (hb hby at_33) rfl ?_
    show Steps p.tables e below (T3.setTop (mkF m 35 #[.val (.int p1), .val (.int p2), .val (.int (p1.toInt8.toInt32)), .val (.int (p2.toInt8.toInt32)), .val (.int (own_ms p1.toInt8.toInt32 p2.toInt8.toInt32)), .val (.int (p2.toInt8.toInt32)), .unset, .unset, .unset, .unset] [(.int (p2.toInt8.toInt32)), (.int ((p1.toInt8.toInt32) * (256 : Int32)))])) _
    refine XS.iadd X3.here hx rfl (hb hby at_35) rfl ?_
    show Steps p.tables e below (T3.setTop (mkF m 36 #[.val (.int p1), .val (.int p2), .val (.int (p1.toInt8.toInt32)), .val (.int (p2.toInt8.toInt32)), .val (.int (own_ms p1.toInt8.toInt32 p2.toInt8.toInt32)), .val (.int (p2.toInt8.toInt32)), .unset, .unset, .unset, .unset] [(.int (((p1.toInt8.toInt32) * (256 : Int32)) + (p2.toInt8.toInt32)))])) _
    refine XS.istore X3.here hx rfl (hb hby at_36) rfl (l' := #[.val (.int p1), .val (.int p2), .val (.int (p1.toInt8.toInt32)), .val (.int (p2.toInt8.toInt32)), .val (.int (own_ms p1.toInt8.toInt32 p2.toInt8.toInt32)), .val (.int (p2.toInt8.toInt32)), .val (.int (((p1.toInt8.toInt32) * (256 : Int32)) + (p2.toInt8.toInt32))), .unset, .unset, .unset]) rfl ?_
    show Steps p.tables e below (T3.setTop (mkF m 38 #[.val (.int p1), .val (.int p2), .val (.int (p1.toInt8.toInt32)), .val (.int (p2.toInt8.toInt32)), .val (.int (own_ms p1.toInt8.toInt32 p2.toInt8.toInt32)), .val (.int (p2.toInt8.toInt32)), .val (.int (((p1.toInt8.toInt32) * (256 : Int32)) + (p2.toInt8.toInt32))), .unset, .unset, .unset] [])) _
    refine XS.iload X3.here hx rfl (hb hby at_38) rfl ?_
    show Steps p.tables e below (T3.setTop (mkF m 40 #[.val (.int p1), .val (.int p2), .val (.int (p1.toInt8.toInt32)), .val (.int (p2.toInt8.toInt32)), .val (.int (own_ms p1.toInt8.toInt32 p2.toInt8.toInt32)), .val (.int (p2.toInt8.toInt32)), .val (.int (((p1.toInt8.toInt32) * (256 : Int32)) + (p2.toInt8.toInt32))), .unset, .unset, .unset] [(.int (own_ms p1.toInt8.toInt32 p2.toInt8.toInt32))])) _
    refine XS.iload X3.here hx rfl (hb hby at_40) rfl ?_
    show Steps p.tables e below (T3.setTop (mkF m 42 #[.val (.int p1), .val (.int p2), .val (.int (p1.toInt8.toInt32)), .val (.int (p2.toInt8.toInt32)), .val (.int (own_ms p1.toInt8.toInt32 p2.toInt8.toInt32)), .val (.int (p2.toInt8.toInt32)), .val (.int (((p1.toInt8.toInt32) * (256 : Int32)) + (p2.toInt8.toInt32))), .unset, .unset, .unset] [(.int (((p1.toInt8.toInt32) * (256 : Int32)) + (p2.toInt8.toInt32))), (.int (own_ms p1.toInt8.toInt32 p2.toInt8.toInt32))])) _
    refine XS.icmpNo X3.here hx rfl (hb hby at_42) rfl (teq (own_B p1 p2 (by simpa using hc14) : (own_ms p1.toInt8.toInt32 p2.toInt8.toInt32) = (((p1.toInt8.toInt32) * (256 : Int32)) + (p2.toInt8.toInt32)))).2 ?_
    show Steps p.tables e below (T3.setTop (mkF m 45 #[.val (.int p1), .val (.int p2), .val (.int (p1.toInt8.toInt32)), .val (.int (p2.toInt8.toInt32)), .val (.int (own_ms p1.toInt8.toInt32 p2.toInt8.toInt32)), .val (.int (p2.toInt8.toInt32)), .val (.int (((p1.toInt8.toInt32) * (256 : Int32)) + (p2.toInt8.toInt32))), .unset, .unset, .unset] [])) _
    refine XS.iconst X3.here hx rfl (hb hby at_45) ?_
    show Steps p.tables e below (T3.setTop (mkF m 46 #[.val (.int p1), .val (.int p2), .val (.int (p1.toInt8.toInt32)), .val (.int (p2.toInt8.toInt32)), .val (.int (own_ms p1.toInt8.toInt32 p2.toInt8.toInt32)), .val (.int (p2.toInt8.toInt32)), .val (.int (((p1.toInt8.toInt32) * (256 : Int32)) + (p2.toInt8.toInt32))), .unset, .unset, .unset] [(.int (1 : Int32))])) _
    refine XS.goto X3.here hx rfl (pc0 := 46) (pc' := 50) rfl (hb hby at_46) (by decide) (by decide) ?_
    show Steps p.tables e below (T3.setTop (mkF m 50 #[.val (.int p1), .val (.int p2), .val (.int (p1.toInt8.toInt32)), .val (.int (p2.toInt8.toInt32)), .val (.int (own_ms p1.toInt8.toInt32 p2.toInt8.toInt32)), .val (.int (p2.toInt8.toInt32)), .val (.int (((p1.toInt8.toInt32) * (256 : Int32)) + (p2.toInt8.toInt32))), .unset, .unset, .unset] [(.int (1 : Int32))])) _
    refine XS.istore X3.here hx rfl (hb hby at_50) rfl (l' := #[.val (.int p1), .val (.int p2), .val (.int (p1.toInt8.toInt32)), .val (.int (p2.toInt8.toInt32)), .val (.int (own_ms p1.toInt8.toInt32 p2.toInt8.toInt32)), .val (.int (p2.toInt8.toInt32)), .val (.int (((p1.toInt8.toInt32) * (256 : Int32)) + (p2.toInt8.toInt32))), .val (.int (1 : Int32)), .unset, .unset]) rfl ?_
    show Steps p.tables e below (T3.setTop (mkF m 52 #[.val (.int p1), .val (.int p2), .val (.int (p1.toInt8.toInt32)), .val (.int (p2.toInt8.toInt32)), .val (.int (own_ms p1.toInt8.toInt32 p2.toInt8.toInt32)), .val (.int (p2.toInt8.toInt32)), .val (.int (((p1.toInt8.toInt32) * (256 : Int32)) + (p2.toInt8.toInt32))), .val (.int (1 : Int32)), .unset, .unset] [])) _
    refine XS.iload X3.here hx rfl (hb hby at_52) rfl ?_
    show Steps p.tables e below (T3.setTop (mkF m 54 #[.val (.int p1), .val (.int p2), .val (.int (p1.toInt8.toInt32)), .val (.int (p2.toInt8.toInt32)), .val (.int (own_ms p1.toInt8.toInt32 p2.toInt8.toInt32)), .val (.int (p2.toInt8.toInt32)), .val (.int (((p1.toInt8.toInt32) * (256 : Int32)) + (p2.toInt8.toInt32))), .val (.int (1 : Int32)), .unset, .unset] [(.int (own_ms p1.toInt8.toInt32 p2.toInt8.toInt32))])) _
    refine XS.bipush X3.here hx rfl (hb hby at_54) ?_
    show Steps p.tables e below (T3.setTop (mkF m 56 #[.val (.int p1), .val (.int p2), .val (.int (p1.toInt8.toInt32)), .val (.int (p2.toInt8.toInt32)), .val (.int (own_ms p1.toInt8.toInt32 p2.toInt8.toInt32)), .val (.int (p2.toInt8.toInt32)), .val (.int (((p1.toInt8.toInt32) * (256 : Int32)) + (p2.toInt8.toInt32))), .val (.int (1 : Int32)), .unset, .unset] [(.int (8 : Int32)), (.int (own_ms p1.toInt8.toInt32 p2.toInt8.toInt32))])) _
    refine XS.ishr X3.here hx rfl (hb hby at_56) rfl ?_
    show Steps p.tables e below (T3.setTop (mkF m 57 #[.val (.int p1), .val (.int p2), .val (.int (p1.toInt8.toInt32)), .val (.int (p2.toInt8.toInt32)), .val (.int (own_ms p1.toInt8.toInt32 p2.toInt8.toInt32)), .val (.int (p2.toInt8.toInt32)), .val (.int (((p1.toInt8.toInt32) * (256 : Int32)) + (p2.toInt8.toInt32))), .val (.int (1 : Int32)), .unset, .unset] [(.int ((own_ms p1.toInt8.toInt32 p2.toInt8.toInt32) >>> ((8 : Int32) &&& 31)))])) _
    refine XS.i2b X3.here hx rfl (hb hby at_57) rfl ?_
    show Steps p.tables e below (T3.setTop (mkF m 58 #[.val (.int p1), .val (.int p2), .val (.int (p1.toInt8.toInt32)), .val (.int (p2.toInt8.toInt32)), .val (.int (own_ms p1.toInt8.toInt32 p2.toInt8.toInt32)), .val (.int (p2.toInt8.toInt32)), .val (.int (((p1.toInt8.toInt32) * (256 : Int32)) + (p2.toInt8.toInt32))), .val (.int (1 : Int32)), .unset, .unset] [(.int (((own_ms p1.toInt8.toInt32 p2.toInt8.toInt32) >>> ((8 : Int32) &&& 31)).toInt8.toInt32))])) _
    refine XS.iloadN X3.here hx rfl (hb hby at_58) rfl ?_
    show Steps p.tables e below (T3.setTop (mkF m 59 #[.val (.int p1), .val (.int p2), .val (.int (p1.toInt8.toInt32)), .val (.int (p2.toInt8.toInt32)), .val (.int (own_ms p1.toInt8.toInt32 p2.toInt8.toInt32)), .val (.int (p2.toInt8.toInt32)), .val (.int (((p1.toInt8.toInt32) * (256 : Int32)) + (p2.toInt8.toInt32))), .val (.int (1 : Int32)), .unset, .unset] [(.int (p1.toInt8.toInt32)), (.int (((own_ms p1.toInt8.toInt32 p2.toInt8.toInt32) >>> ((8 : Int32) &&& 31)).toInt8.toInt32))])) _
    refine XS.icmpNo X3.here hx rfl (hb hby at_59) rfl (teq (own_C p1 p2 : (((own_ms p1.toInt8.toInt32 p2.toInt8.toInt32) >>> ((8 : Int32) &&& 31)).toInt8.toInt32) = (p1.toInt8.toInt32))).2 ?_
    show Steps p.tables e below (T3.setTop (mkF m 62 #[.val (.int p1), .val (.int p2), .val (.int (p1.toInt8.toInt32)), .val (.int (p2.toInt8.toInt32)), .val (.int (own_ms p1.toInt8.toInt32 p2.toInt8.toInt32)), .val (.int (p2.toInt8.toInt32)), .val (.int (((p1.toInt8.toInt32) * (256 : Int32)) + (p2.toInt8.toInt32))), .val (.int (1 : Int32)), .unset, .unset] [])) _
    refine XS.iconst X3.here hx rfl (hb hby at_62) ?_
    show Steps p.tables e below (T3.setTop (mkF m 63 #[.val (.int p1), .val (.int p2), .val (.int (p1.toInt8.toInt32)), .val (.int (p2.toInt8.toInt32)), .val (.int (own_ms p1.toInt8.toInt32 p2.toInt8.toInt32)), .val (.int (p2.toInt8.toInt32)), .val (.int (((p1.toInt8.toInt32) * (256 : Int32)) + (p2.toInt8.toInt32))), .val (.int (1 : Int32)), .unset, .unset] [(.int (1 : Int32))])) _
    refine XS.goto X3.here hx rfl (pc0 := 63) (pc' := 67) rfl (hb hby at_63) (by decide) (by decide) ?_
    show Steps p.tables e below (T3.setTop (mkF m 67 #[.val (.int p1), .val (.int p2), .val (.int (p1.toInt8.toInt32)), .val (.int (p2.toInt8.toInt32)), .val (.int (own_ms p1.toInt8.toInt32 p2.toInt8.toInt32)), .val (.int (p2.toInt8.toInt32)), .val (.int (((p1.toInt8.toInt32) * (256 : Int32)) + (p2.toInt8.toInt32))), .val (.int (1 : Int32)), .unset, .unset] [(.int (1 : Int32))])) _
    refine XS.istore X3.here hx rfl (hb hby at_67) rfl (l' := #[.val (.int p1), .val (.int p2), .val (.int (p1.toInt8.toInt32)), .val (.int (p2.toInt8.toInt32)), .val (.int (own_ms p1.toInt8.toInt32 p2.toInt8.toInt32)), .val (.int (p2.toInt8.toInt32)), .val (.int (((p1.toInt8.toInt32) * (256 : Int32)) + (p2.toInt8.toInt32))), .val (.int (1 : Int32)), .val (.int (1 : Int32)), .unset]) rfl ?_
    show Steps p.tables e below (T3.setTop (mkF m 69 #[.val (.int p1), .val (.int p2), .val (.int (p1.toInt8.toInt32)), .val (.int (p2.toInt8.toInt32)), .val (.int (own_ms p1.toInt8.toInt32 p2.toInt8.toInt32)), .val (.int (p2.toInt8.toInt32)), .val (.int (((p1.toInt8.toInt32) * (256 : Int32)) + (p2.toInt8.toInt32))), .val (.int (1 : Int32)), .val (.int (1 : Int32)), .unset] [])) _
    refine XS.iload X3.here hx rfl (hb hby at_69) rfl ?_
    show Steps p.tables e below (T3.setTop (mkF m 71 #[.val (.int p1), .val (.int p2), .val (.int (p1.toInt8.toInt32)), .val (.int (p2.toInt8.toInt32)), .val (.int (own_ms p1.toInt8.toInt32 p2.toInt8.toInt32)), .val (.int (p2.toInt8.toInt32)), .val (.int (((p1.toInt8.toInt32) * (256 : Int32)) + (p2.toInt8.toInt32))), .val (.int (1 : Int32)), .val (.int (1 : Int32)), .unset] [(.int (own_ms p1.toInt8.toInt32 p2.toInt8.toInt32))])) _
    refine XS.i2b X3.here hx rfl (hb hby at_71) rfl ?_
    show Steps p.tables e below (T3.setTop (mkF m 72 #[.val (.int p1), .val (.int p2), .val (.int (p1.toInt8.toInt32)), .val (.int (p2.toInt8.toInt32)), .val (.int (own_ms p1.toInt8.toInt32 p2.toInt8.toInt32)), .val (.int (p2.toInt8.toInt32)), .val (.int (((p1.toInt8.toInt32) * (256 : Int32)) + (p2.toInt8.toInt32))), .val (.int (1 : Int32)), .val (.int (1 : Int32)), .unset] [(.int ((own_ms p1.toInt8.toInt32 p2.toInt8.toInt32).toInt8.toInt32))])) _
    refine XS.iloadN X3.here hx rfl (hb hby at_72) rfl ?_
    show Steps p.tables e below (T3.setTop (mkF m 73 #[.val (.int p1), .val (.int p2), .val (.int (p1.toInt8.toInt32)), .val (.int (p2.toInt8.toInt32)), .val (.int (own_ms p1.toInt8.toInt32 p2.toInt8.toInt32)), .val (.int (p2.toInt8.toInt32)), .val (.int (((p1.toInt8.toInt32) * (256 : Int32)) + (p2.toInt8.toInt32))), .val (.int (1 : Int32)), .val (.int (1 : Int32)), .unset] [(.int (p2.toInt8.toInt32)), (.int ((own_ms p1.toInt8.toInt32 p2.toInt8.toInt32).toInt8.toInt32))])) _
    refine XS.icmpNo X3.here hx rfl (hb hby at_73) rfl (teq (own_D p1 p2 : ((own_ms p1.toInt8.toInt32 p2.toInt8.toInt32).toInt8.toInt32) = (p2.toInt8.toInt32))).2 ?_
    show Steps p.tables e below (T3.setTop (mkF m 76 #[.val (.int p1), .val (.int p2), .val (.int (p1.toInt8.toInt32)), .val (.int (p2.toInt8.toInt32)), .val (.int (own_ms p1.toInt8.toInt32 p2.toInt8.toInt32)), .val (.int (p2.toInt8.toInt32)), .val (.int (((p1.toInt8.toInt32) * (256 : Int32)) + (p2.toInt8.toInt32))), .val (.int (1 : Int32)), .val (.int (1 : Int32)), .unset] [])) _
    refine XS.iconst X3.here hx rfl (hb hby at_76) ?_
    show Steps p.tables e below (T3.setTop (mkF m 77 #[.val (.int p1), .val (.int p2), .val (.int (p1.toInt8.toInt32)), .val (.int (p2.toInt8.toInt32)), .val (.int (own_ms p1.toInt8.toInt32 p2.toInt8.toInt32)), .val (.int (p2.toInt8.toInt32)), .val (.int (((p1.toInt8.toInt32) * (256 : Int32)) + (p2.toInt8.toInt32))), .val (.int (1 : Int32)), .val (.int (1 : Int32)), .unset] [(.int (1 : Int32))])) _
    refine XS.goto X3.here hx rfl (pc0 := 77) (pc' := 81) rfl (hb hby at_77) (by decide) (by decide) ?_
    show Steps p.tables e below (T3.setTop (mkF m 81 #[.val (.int p1), .val (.int p2), .val (.int (p1.toInt8.toInt32)), .val (.int (p2.toInt8.toInt32)), .val (.int (own_ms p1.toInt8.toInt32 p2.toInt8.toInt32)), .val (.int (p2.toInt8.toInt32)), .val (.int (((p1.toInt8.toInt32) * (256 : Int32)) + (p2.toInt8.toInt32))), .val (.int (1 : Int32)), .val (.int (1 : Int32)), .unset] [(.int (1 : Int32))])) _
    refine XS.istore X3.here hx rfl (hb hby at_81) rfl (l' := #[.val (.int p1), .val (.int p2), .val (.int (p1.toInt8.toInt32)), .val (.int (p2.toInt8.toInt32)), .val (.int (own_ms p1.toInt8.toInt32 p2.toInt8.toInt32)), .val (.int (p2.toInt8.toInt32)), .val (.int (((p1.toInt8.toInt32) * (256 : Int32)) + (p2.toInt8.toInt32))), .val (.int (1 : Int32)), .val (.int (1 : Int32)), .val (.int (1 : Int32))]) rfl ?_
    show Steps p.tables e below (T3.setTop (mkF m 83 #[.val (.int p1), .val (.int p2), .val (.int (p1.toInt8.toInt32)), .val (.int (p2.toInt8.toInt32)), .val (.int (own_ms p1.toInt8.toInt32 p2.toInt8.toInt32)), .val (.int (p2.toInt8.toInt32)), .val (.int (((p1.toInt8.toInt32) * (256 : Int32)) + (p2.toInt8.toInt32))), .val (.int (1 : Int32)), .val (.int (1 : Int32)), .val (.int (1 : Int32))] [])) _
    refine XS.iload X3.here hx rfl (hb hby at_83) rfl ?_
    show Steps p.tables e below (T3.setTop (mkF m 85 #[.val (.int p1), .val (.int p2), .val (.int (p1.toInt8.toInt32)), .val (.int (p2.toInt8.toInt32)), .val (.int (own_ms p1.toInt8.toInt32 p2.toInt8.toInt32)), .val (.int (p2.toInt8.toInt32)), .val (.int (((p1.toInt8.toInt32) * (256 : Int32)) + (p2.toInt8.toInt32))), .val (.int (1 : Int32)), .val (.int (1 : Int32)), .val (.int (1 : Int32))] [(.int (1 : Int32))])) _
    refine XS.ifNo X3.here hx rfl (hb hby at_85) rfl ((if0 _ _).trans (feq hc85).1) ?_
    show Steps p.tables e below (T3.setTop (mkF m 88 #[.val (.int p1), .val (.int p2), .val (.int (p1.toInt8.toInt32)), .val (.int (p2.toInt8.toInt32)), .val (.int (own_ms p1.toInt8.toInt32 p2.toInt8.toInt32)), .val (.int (p2.toInt8.toInt32)), .val (.int (((p1.toInt8.toInt32) * (256 : Int32)) + (p2.toInt8.toInt32))), .val (.int (1 : Int32)), .val (.int (1 : Int32)), .val (.int (1 : Int32))] [])) _
    refine XS.iload X3.here hx rfl (hb hby at_88) rfl ?_
    show Steps p.tables e below (T3.setTop (mkF m 90 #[.val (.int p1), .val (.int p2), .val (.int (p1.toInt8.toInt32)), .val (.int (p2.toInt8.toInt32)), .val (.int (own_ms p1.toInt8.toInt32 p2.toInt8.toInt32)), .val (.int (p2.toInt8.toInt32)), .val (.int (((p1.toInt8.toInt32) * (256 : Int32)) + (p2.toInt8.toInt32))), .val (.int (1 : Int32)), .val (.int (1 : Int32)), .val (.int (1 : Int32))] [(.int (1 : Int32))])) _
    refine XS.ifNo X3.here hx rfl (hb hby at_90) rfl ((if0 _ _).trans (feq hc90).1) ?_
    show Steps p.tables e below (T3.setTop (mkF m 93 #[.val (.int p1), .val (.int p2), .val (.int (p1.toInt8.toInt32)), .val (.int (p2.toInt8.toInt32)), .val (.int (own_ms p1.toInt8.toInt32 p2.toInt8.toInt32)), .val (.int (p2.toInt8.toInt32)), .val (.int (((p1.toInt8.toInt32) * (256 : Int32)) + (p2.toInt8.toInt32))), .val (.int (1 : Int32)), .val (.int (1 : Int32)), .val (.int (1 : Int32))] [])) _
    refine XS.iload X3.here hx rfl (hb hby at_93) rfl ?_
    show Steps p.tables e below (T3.setTop (mkF m 95 #[.val (.int p1), .val (.int p2), .val (.int (p1.toInt8.toInt32)), .val (.int (p2.toInt8.toInt32)), .val (.int (own_ms p1.toInt8.toInt32 p2.toInt8.toInt32)), .val (.int (p2.toInt8.toInt32)), .val (.int (((p1.toInt8.toInt32) * (256 : Int32)) + (p2.toInt8.toInt32))), .val (.int (1 : Int32)), .val (.int (1 : Int32)), .val (.int (1 : Int32))] [(.int (1 : Int32))])) _
    refine XS.ifNo X3.here hx rfl (hb hby at_95) rfl ((if0 _ _).trans (feq hc95).1) ?_
    show Steps p.tables e below (T3.setTop (mkF m 98 #[.val (.int p1), .val (.int p2), .val (.int (p1.toInt8.toInt32)), .val (.int (p2.toInt8.toInt32)), .val (.int (own_ms p1.toInt8.toInt32 p2.toInt8.toInt32)), .val (.int (p2.toInt8.toInt32)), .val (.int (((p1.toInt8.toInt32) * (256 : Int32)) + (p2.toInt8.toInt32))), .val (.int (1 : Int32)), .val (.int (1 : Int32)), .val (.int (1 : Int32))] [])) _
    refine XS.iconst X3.here hx rfl (hb hby at_98) ?_
    show Steps p.tables e below (T3.setTop (mkF m 99 #[.val (.int p1), .val (.int p2), .val (.int (p1.toInt8.toInt32)), .val (.int (p2.toInt8.toInt32)), .val (.int (own_ms p1.toInt8.toInt32 p2.toInt8.toInt32)), .val (.int (p2.toInt8.toInt32)), .val (.int (((p1.toInt8.toInt32) * (256 : Int32)) + (p2.toInt8.toInt32))), .val (.int (1 : Int32)), .val (.int (1 : Int32)), .val (.int (1 : Int32))] [(.int (1 : Int32))])) _
    refine XS.goto X3.here hx rfl (pc0 := 99) (pc' := 103) rfl (hb hby at_99) (by decide) (by decide) ?_
    show Steps p.tables e below (T3.setTop (mkF m 103 #[.val (.int p1), .val (.int p2), .val (.int (p1.toInt8.toInt32)), .val (.int (p2.toInt8.toInt32)), .val (.int (own_ms p1.toInt8.toInt32 p2.toInt8.toInt32)), .val (.int (p2.toInt8.toInt32)), .val (.int (((p1.toInt8.toInt32) * (256 : Int32)) + (p2.toInt8.toInt32))), .val (.int (1 : Int32)), .val (.int (1 : Int32)), .val (.int (1 : Int32))] [(.int (1 : Int32))])) _
    exact retN X3 hx (t := .boolean) Bd.returns (by simp) (hb hby at_103) hr
  · show Q0 Z p1 p2 h0 n0 _ T3.heap _
    exact ⟨rfl, N3⟩
set_option maxRecDepth 65536 in
set_option maxHeartbeats 40000000 in
theorem rm0b (l : Launch) (Z : State) (a0 : Array Value) (hw : ∀ d ∈ tables_1, d.before a0 Z = true) (ws : List Jvm.Cond) (p1 : Int32) (p2 : Int32) (h0 : Heap) (n0 : Nat) (Z0 : n0 ≤ h0.size) (hc14 : (p2.toInt8.toInt32) < (0 : Int32)) (hc85 : ¬ ((1 : Int32) = (0 : Int32))) (hc90 : ¬ ((1 : Int32) = (0 : Int32))) (hc95 : ¬ ((1 : Int32) = (0 : Int32))) :
    MetFree l x (head1 (Jvm.Cond.code x code maxLocals ret :: ws) room_1) (fun a U => a = #[(.int p1), (.int p2)] ∧ Z.Warmed39 U.vm ∧ U.heap = h0) (fun _ _ _ _ _ => True) (fun _ U o U' => ∃ v L, o = .returned v ∧ Q0 Z p1 p2 h0 n0 v U'.heap L ∧ FrameEnd U o U' L room_1.cells room_1.slots) := by
  refine MetFree.of_bodySF (plainFor_of_name pn_0) hisR ?_
  intro p e s m args below meth c s₁ Bd hml0 hP hK
  obtain ⟨rfl, hZ, hh⟩ := hP
  have hx := Bd.exec
  have hby := Bd.bytes
  have hml : c.maxLocals = 10 := hml0
  have hown : s.vm.findClass "javacard/framework/UtilMakeShortPinLaw" = some m.cls := findClass_of_methodNamed Bd.named
  have hnm := (name_of_methodNamed Bd.named Bd.method).1
  have X0 : Stand p l e room_1 s m #[(.int p1), (.int p2)] below meth c s₁ [] 0 0 := Stand.of_body Bd
  have e0 : s₁.heap = h0 := by rw [← hh, Bd.state]; rfl
  have N0 := Fr.nil n0
  have pre0 : ∀ t, Steps p.tables e below (s₁.setTop (mkF m 0 #[.val (.int p1), .val (.int p2), .unset, .unset, .unset, .unset, .unset, .unset, .unset, .unset] [])) t → Steps p.tables e below (s₁.setTop (entryFrame m #[(.int p1), (.int p2)] maxLocals)) t := fun t k => castTop (ef_0 m p1 p2) k
  -- 3. LAWS
  -- pc 8: javacard/framework/Util.makeShort by its contract rm1
  obtain ⟨_, _, ⟨T3, L3, k3, n3⟩, -, X3, ⟨Lc3, hQ3, l3, y3, z3⟩, st3⟩ := Jvm.LawKit.callS X0 hx (y := (⟨"javacard/framework/Util", "makeShort", "(BB)S"⟩ : MethodName)) hown (mvT hZ (hw _ (List.mem_of_getElem? (i := 0) rfl))) (mvT hZ (hw _ (List.mem_of_getElem? (i := 1) rfl))) (mvT hZ (hw _ (List.mem_of_getElem? (i := 2) rfl))) (mvT hZ (hw _ (List.mem_of_getElem? (i := 3) rfl))) (by decide) (backOf (W := 0) (rm1 l Z a0 hw [] (p1.toInt8.toInt32) (p2.toInt8.toInt32) h0 n0 Z0) hZ (hw _ (List.mem_of_getElem? (i := 3) rfl)) (hw _ (List.mem_of_getElem? (i := 2) rfl)) (by decide) (by decide)) (g := (mkF m 8 #[.val (.int p1), .val (.int p2), .val (.int (p1.toInt8.toInt32)), .val (.int (p2.toInt8.toInt32)), .unset, .unset, .unset, .unset, .unset, .unset] [(.int (p2.toInt8.toInt32)), (.int (p1.toInt8.toInt32))])) rfl (by rw [hml]; rfl) (argsL := [(.int (p1.toInt8.toInt32)), (.int (p2.toInt8.toInt32))]) (rest := []) (lenOf pd_0_0 rfl) rfl (by show 2 * 0 + _ ≤ _; exact Nat.le_of_eq rfl) (hb hby at_8) (fun _ _ => ⟨rfl, e0, (by decide : 0 + 0 ≤ _), (by decide : 0 + 0 ≤ _)⟩)
  dsimp only [Pt.U, Pt.locs, Pt.cells, Pt.slots] at X3 l3 y3 z3 st3 hQ3
  subst l3 y3 z3
  obtain ⟨rfl, N3q, e3h⟩ := hQ3      -- what it returned, that it wrote nothing old, and the rest of your Q1
  have N3 := Fr.app N0 N3q
  obtain ⟨fs, hr, hrun, hended, hW, hsame⟩ := X3.leave (v := some (.int (1 : Int32))) (fun h => by rw [Bd.returns] at h; cases h)
  refine ⟨_, _, pre0 _ ?_, hrun, hended, _, _, rfl, ?_, ⟨_, rfl⟩, hW, hsame.mono (by decide) (by decide)⟩
  -- 4. STEPS
  · show Steps p.tables e below (s₁.setTop (mkF m 0 #[.val (.int p1), .val (.int p2), .unset, .unset, .unset, .unset, .unset, .unset, .unset, .unset] [])) _
    refine XS.iloadN X0.here hx rfl (hb hby at_0) rfl ?_
    show Steps p.tables e below (s₁.setTop (mkF m 1 #[.val (.int p1), .val (.int p2), .unset, .unset, .unset, .unset, .unset, .unset, .unset, .unset] [(.int p1)])) _
    refine XS.i2b X0.here hx rfl (hb hby at_1) rfl ?_
    show Steps p.tables e below (s₁.setTop (mkF m 2 #[.val (.int p1), .val (.int p2), .unset, .unset, .unset, .unset, .unset, .unset, .unset, .unset] [(.int (p1.toInt8.toInt32))])) _
    refine XS.istoreN X0.here hx rfl (hb hby at_2) rfl (l' := #[.val (.int p1), .val (.int p2), .val (.int (p1.toInt8.toInt32)), .unset, .unset, .unset, .unset, .unset, .unset, .unset]) rfl ?_
    show Steps p.tables e below (s₁.setTop (mkF m 3 #[.val (.int p1), .val (.int p2), .val (.int (p1.toInt8.toInt32)), .unset, .unset, .unset, .unset, .unset, .unset, .unset] [])) _
    refine XS.iloadN X0.here hx rfl (hb hby at_3) rfl ?_
    show Steps p.tables e below (s₁.setTop (mkF m 4 #[.val (.int p1), .val (.int p2), .val (.int (p1.toInt8.toInt32)), .unset, .unset, .unset, .unset, .unset, .unset, .unset] [(.int p2)])) _
    refine XS.i2b X0.here hx rfl (hb hby at_4) rfl ?_
    show Steps p.tables e below (s₁.setTop (mkF m 5 #[.val (.int p1), .val (.int p2), .val (.int (p1.toInt8.toInt32)), .unset, .unset, .unset, .unset, .unset, .unset, .unset] [(.int (p2.toInt8.toInt32))])) _
    refine XS.istoreN X0.here hx rfl (hb hby at_5) rfl (l' := #[.val (.int p1), .val (.int p2), .val (.int (p1.toInt8.toInt32)), .val (.int (p2.toInt8.toInt32)), .unset, .unset, .unset, .unset, .unset, .unset]) rfl ?_
    show Steps p.tables e below (s₁.setTop (mkF m 6 #[.val (.int p1), .val (.int p2), .val (.int (p1.toInt8.toInt32)), .val (.int (p2.toInt8.toInt32)), .unset, .unset, .unset, .unset, .unset, .unset] [])) _
    refine XS.iloadN X0.here hx rfl (hb hby at_6) rfl ?_
    show Steps p.tables e below (s₁.setTop (mkF m 7 #[.val (.int p1), .val (.int p2), .val (.int (p1.toInt8.toInt32)), .val (.int (p2.toInt8.toInt32)), .unset, .unset, .unset, .unset, .unset, .unset] [(.int (p1.toInt8.toInt32))])) _
    refine XS.iloadN X0.here hx rfl (hb hby at_7) rfl ?_
    show Steps p.tables e below (s₁.setTop (mkF m 8 #[.val (.int p1), .val (.int p2), .val (.int (p1.toInt8.toInt32)), .val (.int (p2.toInt8.toInt32)), .unset, .unset, .unset, .unset, .unset, .unset] [(.int (p2.toInt8.toInt32)), (.int (p1.toInt8.toInt32))])) _
    refine st3 _ ?_
    show Steps p.tables e below (T3.setTop (mkF m 11 #[.val (.int p1), .val (.int p2), .val (.int (p1.toInt8.toInt32)), .val (.int (p2.toInt8.toInt32)), .unset, .unset, .unset, .unset, .unset, .unset] [(.int (own_ms p1.toInt8.toInt32 p2.toInt8.toInt32))])) _
    refine XS.istore X3.here hx rfl (hb hby at_11) rfl (l' := #[.val (.int p1), .val (.int p2), .val (.int (p1.toInt8.toInt32)), .val (.int (p2.toInt8.toInt32)), .val (.int (own_ms p1.toInt8.toInt32 p2.toInt8.toInt32)), .unset, .unset, .unset, .unset, .unset]) rfl ?_
    show Steps p.tables e below (T3.setTop (mkF m 13 #[.val (.int p1), .val (.int p2), .val (.int (p1.toInt8.toInt32)), .val (.int (p2.toInt8.toInt32)), .val (.int (own_ms p1.toInt8.toInt32 p2.toInt8.toInt32)), .unset, .unset, .unset, .unset, .unset] [])) _
    refine XS.iloadN X3.here hx rfl (hb hby at_13) rfl ?_
    show Steps p.tables e below (T3.setTop (mkF m 14 #[.val (.int p1), .val (.int p2), .val (.int (p1.toInt8.toInt32)), .val (.int (p2.toInt8.toInt32)), .val (.int (own_ms p1.toInt8.toInt32 p2.toInt8.toInt32)), .unset, .unset, .unset, .unset, .unset] [(.int (p2.toInt8.toInt32))])) _
    refine XS.ifNo X3.here hx rfl (hb hby at_14) rfl ((if0 _ _).trans (tlt hc14).2.1) ?_
    show Steps p.tables e below (T3.setTop (mkF m 17 #[.val (.int p1), .val (.int p2), .val (.int (p1.toInt8.toInt32)), .val (.int (p2.toInt8.toInt32)), .val (.int (own_ms p1.toInt8.toInt32 p2.toInt8.toInt32)), .unset, .unset, .unset, .unset, .unset] [])) _
    refine XS.iloadN X3.here hx rfl (hb hby at_17) rfl ?_
    show Steps p.tables e below (T3.setTop (mkF m 18 #[.val (.int p1), .val (.int p2), .val (.int (p1.toInt8.toInt32)), .val (.int (p2.toInt8.toInt32)), .val (.int (own_ms p1.toInt8.toInt32 p2.toInt8.toInt32)), .unset, .unset, .unset, .unset, .unset] [(.int (p2.toInt8.toInt32))])) _
    refine XS.sipush X3.here hx rfl (hb hby at_18) ?_
    show Steps p.tables e below (T3.setTop (mkF m 21 #[.val (.int p1), .val (.int p2), .val (.int (p1.toInt8.toInt32)), .val (.int (p2.toInt8.toInt32)), .val (.int (own_ms p1.toInt8.toInt32 p2.toInt8.toInt32)), .unset, .unset, .unset, .unset, .unset] [(.int (256 : Int32)), (.int (p2.toInt8.toInt32))])) _
    refine XS.iadd X3.here hx rfl (hb hby at_21) rfl ?_
    show Steps p.tables e below (T3.setTop (mkF m 22 #[.val (.int p1), .val (.int p2), .val (.int (p1.toInt8.toInt32)), .val (.int (p2.toInt8.toInt32)), .val (.int (own_ms p1.toInt8.toInt32 p2.toInt8.toInt32)), .unset, .unset, .unset, .unset, .unset] [(.int ((p2.toInt8.toInt32) + (256 : Int32)))])) _
    refine XS.goto X3.here hx rfl (pc0 := 22) (pc' := 26) rfl (hb hby at_22) (by decide) (by decide) ?_
    show Steps p.tables e below (T3.setTop (mkF m 26 #[.val (.int p1), .val (.int p2), .val (.int (p1.toInt8.toInt32)), .val (.int (p2.toInt8.toInt32)), .val (.int (own_ms p1.toInt8.toInt32 p2.toInt8.toInt32)), .unset, .unset, .unset, .unset, .unset] [(.int ((p2.toInt8.toInt32) + (256 : Int32)))])) _
    refine XS.istore X3.here hx rfl (hb hby at_26) rfl (l' := #[.val (.int p1), .val (.int p2), .val (.int (p1.toInt8.toInt32)), .val (.int (p2.toInt8.toInt32)), .val (.int (own_ms p1.toInt8.toInt32 p2.toInt8.toInt32)), .val (.int ((p2.toInt8.toInt32) + (256 : Int32))), .unset, .unset, .unset, .unset]) rfl ?_
    show Steps p.tables e below (T3.setTop (mkF m 28 #[.val (.int p1), .val (.int p2), .val (.int (p1.toInt8.toInt32)), .val (.int (p2.toInt8.toInt32)), .val (.int (own_ms p1.toInt8.toInt32 p2.toInt8.toInt32)), .val (.int ((p2.toInt8.toInt32) + (256 : Int32))), .unset, .unset, .unset, .unset] [])) _
    refine XS.iloadN X3.here hx rfl (hb hby at_28) rfl ?_
    show Steps p.tables e below (T3.setTop (mkF m 29 #[.val (.int p1), .val (.int p2), .val (.int (p1.toInt8.toInt32)), .val (.int (p2.toInt8.toInt32)), .val (.int (own_ms p1.toInt8.toInt32 p2.toInt8.toInt32)), .val (.int ((p2.toInt8.toInt32) + (256 : Int32))), .unset, .unset, .unset, .unset] [(.int (p1.toInt8.toInt32))])) _
    refine XS.sipush X3.here hx rfl (hb hby at_29) ?_
    show Steps p.tables e below (T3.setTop (mkF m 32 #[.val (.int p1), .val (.int p2), .val (.int (p1.toInt8.toInt32)), .val (.int (p2.toInt8.toInt32)), .val (.int (own_ms p1.toInt8.toInt32 p2.toInt8.toInt32)), .val (.int ((p2.toInt8.toInt32) + (256 : Int32))), .unset, .unset, .unset, .unset] [(.int (256 : Int32)), (.int (p1.toInt8.toInt32))])) _
    refine XS.imul X3.here hx rfl (hb hby at_32) rfl ?_
    show Steps p.tables e below (T3.setTop (mkF m 33 #[.val (.int p1), .val (.int p2), .val (.int (p1.toInt8.toInt32)), .val (.int (p2.toInt8.toInt32)), .val (.int (own_ms p1.toInt8.toInt32 p2.toInt8.toInt32)), .val (.int ((p2.toInt8.toInt32) + (256 : Int32))), .unset, .unset, .unset, .unset] [(.int ((p1.toInt8.toInt32) * (256 : Int32)))])) _
    refine XS.iload X3.here hx rfl (hb hby at_33) rfl ?_
    show Steps p.tables e below (T3.setTop (mkF m 35 #[.val (.int p1), .val (.int p2), .val (.int (p1.toInt8.toInt32)), .val (.int (p2.toInt8.toInt32)), .val (.int (own_ms p1.toInt8.toInt32 p2.toInt8.toInt32)), .val (.int ((p2.toInt8.toInt32) + (256 : Int32))), .unset, .unset, .unset, .unset] [(.int ((p2.toInt8.toInt32) + (256 : Int32))), (.int ((p1.toInt8.toInt32) * (256 : Int32)))])) _
    refine XS.iadd X3.here hx rfl (hb hby at_35) rfl ?_
    show Steps p.tables e below (T3.setTop (mkF m 36 #[.val (.int p1), .val (.int p2), .val (.int (p1.toInt8.toInt32)), .val (.int (p2.toInt8.toInt32)), .val (.int (own_ms p1.toInt8.toInt32 p2.toInt8.toInt32)), .val (.int ((p2.toInt8.toInt32) + (256 : Int32))), .unset, .unset, .unset, .unset] [(.int (((p1.toInt8.toInt32) * (256 : Int32)) + ((p2.toInt8.toInt32) + (256 : Int32))))])) _
    refine XS.istore X3.here hx rfl (hb hby at_36) rfl (l' := #[.val (.int p1), .val (.int p2), .val (.int (p1.toInt8.toInt32)), .val (.int (p2.toInt8.toInt32)), .val (.int (own_ms p1.toInt8.toInt32 p2.toInt8.toInt32)), .val (.int ((p2.toInt8.toInt32) + (256 : Int32))), .val (.int (((p1.toInt8.toInt32) * (256 : Int32)) + ((p2.toInt8.toInt32) + (256 : Int32)))), .unset, .unset, .unset]) rfl ?_
    show Steps p.tables e below (T3.setTop (mkF m 38 #[.val (.int p1), .val (.int p2), .val (.int (p1.toInt8.toInt32)), .val (.int (p2.toInt8.toInt32)), .val (.int (own_ms p1.toInt8.toInt32 p2.toInt8.toInt32)), .val (.int ((p2.toInt8.toInt32) + (256 : Int32))), .val (.int (((p1.toInt8.toInt32) * (256 : Int32)) + ((p2.toInt8.toInt32) + (256 : Int32)))), .unset, .unset, .unset] [])) _
    refine XS.iload X3.here hx rfl (hb hby at_38) rfl ?_
    show Steps p.tables e below (T3.setTop (mkF m 40 #[.val (.int p1), .val (.int p2), .val (.int (p1.toInt8.toInt32)), .val (.int (p2.toInt8.toInt32)), .val (.int (own_ms p1.toInt8.toInt32 p2.toInt8.toInt32)), .val (.int ((p2.toInt8.toInt32) + (256 : Int32))), .val (.int (((p1.toInt8.toInt32) * (256 : Int32)) + ((p2.toInt8.toInt32) + (256 : Int32)))), .unset, .unset, .unset] [(.int (own_ms p1.toInt8.toInt32 p2.toInt8.toInt32))])) _
    refine XS.iload X3.here hx rfl (hb hby at_40) rfl ?_
    show Steps p.tables e below (T3.setTop (mkF m 42 #[.val (.int p1), .val (.int p2), .val (.int (p1.toInt8.toInt32)), .val (.int (p2.toInt8.toInt32)), .val (.int (own_ms p1.toInt8.toInt32 p2.toInt8.toInt32)), .val (.int ((p2.toInt8.toInt32) + (256 : Int32))), .val (.int (((p1.toInt8.toInt32) * (256 : Int32)) + ((p2.toInt8.toInt32) + (256 : Int32)))), .unset, .unset, .unset] [(.int (((p1.toInt8.toInt32) * (256 : Int32)) + ((p2.toInt8.toInt32) + (256 : Int32)))), (.int (own_ms p1.toInt8.toInt32 p2.toInt8.toInt32))])) _
    refine XS.icmpNo X3.here hx rfl (hb hby at_42) rfl (teq (own_A p1 p2 hc14 : (own_ms p1.toInt8.toInt32 p2.toInt8.toInt32) = (((p1.toInt8.toInt32) * (256 : Int32)) + ((p2.toInt8.toInt32) + (256 : Int32))))).2 ?_
    show Steps p.tables e below (T3.setTop (mkF m 45 #[.val (.int p1), .val (.int p2), .val (.int (p1.toInt8.toInt32)), .val (.int (p2.toInt8.toInt32)), .val (.int (own_ms p1.toInt8.toInt32 p2.toInt8.toInt32)), .val (.int ((p2.toInt8.toInt32) + (256 : Int32))), .val (.int (((p1.toInt8.toInt32) * (256 : Int32)) + ((p2.toInt8.toInt32) + (256 : Int32)))), .unset, .unset, .unset] [])) _
    refine XS.iconst X3.here hx rfl (hb hby at_45) ?_
    show Steps p.tables e below (T3.setTop (mkF m 46 #[.val (.int p1), .val (.int p2), .val (.int (p1.toInt8.toInt32)), .val (.int (p2.toInt8.toInt32)), .val (.int (own_ms p1.toInt8.toInt32 p2.toInt8.toInt32)), .val (.int ((p2.toInt8.toInt32) + (256 : Int32))), .val (.int (((p1.toInt8.toInt32) * (256 : Int32)) + ((p2.toInt8.toInt32) + (256 : Int32)))), .unset, .unset, .unset] [(.int (1 : Int32))])) _
    refine XS.goto X3.here hx rfl (pc0 := 46) (pc' := 50) rfl (hb hby at_46) (by decide) (by decide) ?_
    show Steps p.tables e below (T3.setTop (mkF m 50 #[.val (.int p1), .val (.int p2), .val (.int (p1.toInt8.toInt32)), .val (.int (p2.toInt8.toInt32)), .val (.int (own_ms p1.toInt8.toInt32 p2.toInt8.toInt32)), .val (.int ((p2.toInt8.toInt32) + (256 : Int32))), .val (.int (((p1.toInt8.toInt32) * (256 : Int32)) + ((p2.toInt8.toInt32) + (256 : Int32)))), .unset, .unset, .unset] [(.int (1 : Int32))])) _
    refine XS.istore X3.here hx rfl (hb hby at_50) rfl (l' := #[.val (.int p1), .val (.int p2), .val (.int (p1.toInt8.toInt32)), .val (.int (p2.toInt8.toInt32)), .val (.int (own_ms p1.toInt8.toInt32 p2.toInt8.toInt32)), .val (.int ((p2.toInt8.toInt32) + (256 : Int32))), .val (.int (((p1.toInt8.toInt32) * (256 : Int32)) + ((p2.toInt8.toInt32) + (256 : Int32)))), .val (.int (1 : Int32)), .unset, .unset]) rfl ?_
    show Steps p.tables e below (T3.setTop (mkF m 52 #[.val (.int p1), .val (.int p2), .val (.int (p1.toInt8.toInt32)), .val (.int (p2.toInt8.toInt32)), .val (.int (own_ms p1.toInt8.toInt32 p2.toInt8.toInt32)), .val (.int ((p2.toInt8.toInt32) + (256 : Int32))), .val (.int (((p1.toInt8.toInt32) * (256 : Int32)) + ((p2.toInt8.toInt32) + (256 : Int32)))), .val (.int (1 : Int32)), .unset, .unset] [])) _
    refine XS.iload X3.here hx rfl (hb hby at_52) rfl ?_
    show Steps p.tables e below (T3.setTop (mkF m 54 #[.val (.int p1), .val (.int p2), .val (.int (p1.toInt8.toInt32)), .val (.int (p2.toInt8.toInt32)), .val (.int (own_ms p1.toInt8.toInt32 p2.toInt8.toInt32)), .val (.int ((p2.toInt8.toInt32) + (256 : Int32))), .val (.int (((p1.toInt8.toInt32) * (256 : Int32)) + ((p2.toInt8.toInt32) + (256 : Int32)))), .val (.int (1 : Int32)), .unset, .unset] [(.int (own_ms p1.toInt8.toInt32 p2.toInt8.toInt32))])) _
    refine XS.bipush X3.here hx rfl (hb hby at_54) ?_
    show Steps p.tables e below (T3.setTop (mkF m 56 #[.val (.int p1), .val (.int p2), .val (.int (p1.toInt8.toInt32)), .val (.int (p2.toInt8.toInt32)), .val (.int (own_ms p1.toInt8.toInt32 p2.toInt8.toInt32)), .val (.int ((p2.toInt8.toInt32) + (256 : Int32))), .val (.int (((p1.toInt8.toInt32) * (256 : Int32)) + ((p2.toInt8.toInt32) + (256 : Int32)))), .val (.int (1 : Int32)), .unset, .unset] [(.int (8 : Int32)), (.int (own_ms p1.toInt8.toInt32 p2.toInt8.toInt32))])) _
    refine XS.ishr X3.here hx rfl (hb hby at_56) rfl ?_
    show Steps p.tables e below (T3.setTop (mkF m 57 #[.val (.int p1), .val (.int p2), .val (.int (p1.toInt8.toInt32)), .val (.int (p2.toInt8.toInt32)), .val (.int (own_ms p1.toInt8.toInt32 p2.toInt8.toInt32)), .val (.int ((p2.toInt8.toInt32) + (256 : Int32))), .val (.int (((p1.toInt8.toInt32) * (256 : Int32)) + ((p2.toInt8.toInt32) + (256 : Int32)))), .val (.int (1 : Int32)), .unset, .unset] [(.int ((own_ms p1.toInt8.toInt32 p2.toInt8.toInt32) >>> ((8 : Int32) &&& 31)))])) _
    refine XS.i2b X3.here hx rfl (hb hby at_57) rfl ?_
    show Steps p.tables e below (T3.setTop (mkF m 58 #[.val (.int p1), .val (.int p2), .val (.int (p1.toInt8.toInt32)), .val (.int (p2.toInt8.toInt32)), .val (.int (own_ms p1.toInt8.toInt32 p2.toInt8.toInt32)), .val (.int ((p2.toInt8.toInt32) + (256 : Int32))), .val (.int (((p1.toInt8.toInt32) * (256 : Int32)) + ((p2.toInt8.toInt32) + (256 : Int32)))), .val (.int (1 : Int32)), .unset, .unset] [(.int (((own_ms p1.toInt8.toInt32 p2.toInt8.toInt32) >>> ((8 : Int32) &&& 31)).toInt8.toInt32))])) _
    refine XS.iloadN X3.here hx rfl (hb hby at_58) rfl ?_
    show Steps p.tables e below (T3.setTop (mkF m 59 #[.val (.int p1), .val (.int p2), .val (.int (p1.toInt8.toInt32)), .val (.int (p2.toInt8.toInt32)), .val (.int (own_ms p1.toInt8.toInt32 p2.toInt8.toInt32)), .val (.int ((p2.toInt8.toInt32) + (256 : Int32))), .val (.int (((p1.toInt8.toInt32) * (256 : Int32)) + ((p2.toInt8.toInt32) + (256 : Int32)))), .val (.int (1 : Int32)), .unset, .unset] [(.int (p1.toInt8.toInt32)), (.int (((own_ms p1.toInt8.toInt32 p2.toInt8.toInt32) >>> ((8 : Int32) &&& 31)).toInt8.toInt32))])) _
    refine XS.icmpNo X3.here hx rfl (hb hby at_59) rfl (teq (own_C p1 p2 : (((own_ms p1.toInt8.toInt32 p2.toInt8.toInt32) >>> ((8 : Int32) &&& 31)).toInt8.toInt32) = (p1.toInt8.toInt32))).2 ?_
    show Steps p.tables e below (T3.setTop (mkF m 62 #[.val (.int p1), .val (.int p2), .val (.int (p1.toInt8.toInt32)), .val (.int (p2.toInt8.toInt32)), .val (.int (own_ms p1.toInt8.toInt32 p2.toInt8.toInt32)), .val (.int ((p2.toInt8.toInt32) + (256 : Int32))), .val (.int (((p1.toInt8.toInt32) * (256 : Int32)) + ((p2.toInt8.toInt32) + (256 : Int32)))), .val (.int (1 : Int32)), .unset, .unset] [])) _
    refine XS.iconst X3.here hx rfl (hb hby at_62) ?_
    show Steps p.tables e below (T3.setTop (mkF m 63 #[.val (.int p1), .val (.int p2), .val (.int (p1.toInt8.toInt32)), .val (.int (p2.toInt8.toInt32)), .val (.int (own_ms p1.toInt8.toInt32 p2.toInt8.toInt32)), .val (.int ((p2.toInt8.toInt32) + (256 : Int32))), .val (.int (((p1.toInt8.toInt32) * (256 : Int32)) + ((p2.toInt8.toInt32) + (256 : Int32)))), .val (.int (1 : Int32)), .unset, .unset] [(.int (1 : Int32))])) _
    refine XS.goto X3.here hx rfl (pc0 := 63) (pc' := 67) rfl (hb hby at_63) (by decide) (by decide) ?_
    show Steps p.tables e below (T3.setTop (mkF m 67 #[.val (.int p1), .val (.int p2), .val (.int (p1.toInt8.toInt32)), .val (.int (p2.toInt8.toInt32)), .val (.int (own_ms p1.toInt8.toInt32 p2.toInt8.toInt32)), .val (.int ((p2.toInt8.toInt32) + (256 : Int32))), .val (.int (((p1.toInt8.toInt32) * (256 : Int32)) + ((p2.toInt8.toInt32) + (256 : Int32)))), .val (.int (1 : Int32)), .unset, .unset] [(.int (1 : Int32))])) _
    refine XS.istore X3.here hx rfl (hb hby at_67) rfl (l' := #[.val (.int p1), .val (.int p2), .val (.int (p1.toInt8.toInt32)), .val (.int (p2.toInt8.toInt32)), .val (.int (own_ms p1.toInt8.toInt32 p2.toInt8.toInt32)), .val (.int ((p2.toInt8.toInt32) + (256 : Int32))), .val (.int (((p1.toInt8.toInt32) * (256 : Int32)) + ((p2.toInt8.toInt32) + (256 : Int32)))), .val (.int (1 : Int32)), .val (.int (1 : Int32)), .unset]) rfl ?_
    show Steps p.tables e below (T3.setTop (mkF m 69 #[.val (.int p1), .val (.int p2), .val (.int (p1.toInt8.toInt32)), .val (.int (p2.toInt8.toInt32)), .val (.int (own_ms p1.toInt8.toInt32 p2.toInt8.toInt32)), .val (.int ((p2.toInt8.toInt32) + (256 : Int32))), .val (.int (((p1.toInt8.toInt32) * (256 : Int32)) + ((p2.toInt8.toInt32) + (256 : Int32)))), .val (.int (1 : Int32)), .val (.int (1 : Int32)), .unset] [])) _
    refine XS.iload X3.here hx rfl (hb hby at_69) rfl ?_
    show Steps p.tables e below (T3.setTop (mkF m 71 #[.val (.int p1), .val (.int p2), .val (.int (p1.toInt8.toInt32)), .val (.int (p2.toInt8.toInt32)), .val (.int (own_ms p1.toInt8.toInt32 p2.toInt8.toInt32)), .val (.int ((p2.toInt8.toInt32) + (256 : Int32))), .val (.int (((p1.toInt8.toInt32) * (256 : Int32)) + ((p2.toInt8.toInt32) + (256 : Int32)))), .val (.int (1 : Int32)), .val (.int (1 : Int32)), .unset] [(.int (own_ms p1.toInt8.toInt32 p2.toInt8.toInt32))])) _
    refine XS.i2b X3.here hx rfl (hb hby at_71) rfl ?_
    show Steps p.tables e below (T3.setTop (mkF m 72 #[.val (.int p1), .val (.int p2), .val (.int (p1.toInt8.toInt32)), .val (.int (p2.toInt8.toInt32)), .val (.int (own_ms p1.toInt8.toInt32 p2.toInt8.toInt32)), .val (.int ((p2.toInt8.toInt32) + (256 : Int32))), .val (.int (((p1.toInt8.toInt32) * (256 : Int32)) + ((p2.toInt8.toInt32) + (256 : Int32)))), .val (.int (1 : Int32)), .val (.int (1 : Int32)), .unset] [(.int ((own_ms p1.toInt8.toInt32 p2.toInt8.toInt32).toInt8.toInt32))])) _
    refine XS.iloadN X3.here hx rfl (hb hby at_72) rfl ?_
    show Steps p.tables e below (T3.setTop (mkF m 73 #[.val (.int p1), .val (.int p2), .val (.int (p1.toInt8.toInt32)), .val (.int (p2.toInt8.toInt32)), .val (.int (own_ms p1.toInt8.toInt32 p2.toInt8.toInt32)), .val (.int ((p2.toInt8.toInt32) + (256 : Int32))), .val (.int (((p1.toInt8.toInt32) * (256 : Int32)) + ((p2.toInt8.toInt32) + (256 : Int32)))), .val (.int (1 : Int32)), .val (.int (1 : Int32)), .unset] [(.int (p2.toInt8.toInt32)), (.int ((own_ms p1.toInt8.toInt32 p2.toInt8.toInt32).toInt8.toInt32))])) _
    refine XS.icmpNo X3.here hx rfl (hb hby at_73) rfl (teq (own_D p1 p2 : ((own_ms p1.toInt8.toInt32 p2.toInt8.toInt32).toInt8.toInt32) = (p2.toInt8.toInt32))).2 ?_
    show Steps p.tables e below (T3.setTop (mkF m 76 #[.val (.int p1), .val (.int p2), .val (.int (p1.toInt8.toInt32)), .val (.int (p2.toInt8.toInt32)), .val (.int (own_ms p1.toInt8.toInt32 p2.toInt8.toInt32)), .val (.int ((p2.toInt8.toInt32) + (256 : Int32))), .val (.int (((p1.toInt8.toInt32) * (256 : Int32)) + ((p2.toInt8.toInt32) + (256 : Int32)))), .val (.int (1 : Int32)), .val (.int (1 : Int32)), .unset] [])) _
    refine XS.iconst X3.here hx rfl (hb hby at_76) ?_
    show Steps p.tables e below (T3.setTop (mkF m 77 #[.val (.int p1), .val (.int p2), .val (.int (p1.toInt8.toInt32)), .val (.int (p2.toInt8.toInt32)), .val (.int (own_ms p1.toInt8.toInt32 p2.toInt8.toInt32)), .val (.int ((p2.toInt8.toInt32) + (256 : Int32))), .val (.int (((p1.toInt8.toInt32) * (256 : Int32)) + ((p2.toInt8.toInt32) + (256 : Int32)))), .val (.int (1 : Int32)), .val (.int (1 : Int32)), .unset] [(.int (1 : Int32))])) _
    refine XS.goto X3.here hx rfl (pc0 := 77) (pc' := 81) rfl (hb hby at_77) (by decide) (by decide) ?_
    show Steps p.tables e below (T3.setTop (mkF m 81 #[.val (.int p1), .val (.int p2), .val (.int (p1.toInt8.toInt32)), .val (.int (p2.toInt8.toInt32)), .val (.int (own_ms p1.toInt8.toInt32 p2.toInt8.toInt32)), .val (.int ((p2.toInt8.toInt32) + (256 : Int32))), .val (.int (((p1.toInt8.toInt32) * (256 : Int32)) + ((p2.toInt8.toInt32) + (256 : Int32)))), .val (.int (1 : Int32)), .val (.int (1 : Int32)), .unset] [(.int (1 : Int32))])) _
    refine XS.istore X3.here hx rfl (hb hby at_81) rfl (l' := #[.val (.int p1), .val (.int p2), .val (.int (p1.toInt8.toInt32)), .val (.int (p2.toInt8.toInt32)), .val (.int (own_ms p1.toInt8.toInt32 p2.toInt8.toInt32)), .val (.int ((p2.toInt8.toInt32) + (256 : Int32))), .val (.int (((p1.toInt8.toInt32) * (256 : Int32)) + ((p2.toInt8.toInt32) + (256 : Int32)))), .val (.int (1 : Int32)), .val (.int (1 : Int32)), .val (.int (1 : Int32))]) rfl ?_
    show Steps p.tables e below (T3.setTop (mkF m 83 #[.val (.int p1), .val (.int p2), .val (.int (p1.toInt8.toInt32)), .val (.int (p2.toInt8.toInt32)), .val (.int (own_ms p1.toInt8.toInt32 p2.toInt8.toInt32)), .val (.int ((p2.toInt8.toInt32) + (256 : Int32))), .val (.int (((p1.toInt8.toInt32) * (256 : Int32)) + ((p2.toInt8.toInt32) + (256 : Int32)))), .val (.int (1 : Int32)), .val (.int (1 : Int32)), .val (.int (1 : Int32))] [])) _
    refine XS.iload X3.here hx rfl (hb hby at_83) rfl ?_
    show Steps p.tables e below (T3.setTop (mkF m 85 #[.val (.int p1), .val (.int p2), .val (.int (p1.toInt8.toInt32)), .val (.int (p2.toInt8.toInt32)), .val (.int (own_ms p1.toInt8.toInt32 p2.toInt8.toInt32)), .val (.int ((p2.toInt8.toInt32) + (256 : Int32))), .val (.int (((p1.toInt8.toInt32) * (256 : Int32)) + ((p2.toInt8.toInt32) + (256 : Int32)))), .val (.int (1 : Int32)), .val (.int (1 : Int32)), .val (.int (1 : Int32))] [(.int (1 : Int32))])) _
    refine XS.ifNo X3.here hx rfl (hb hby at_85) rfl ((if0 _ _).trans (feq hc85).1) ?_
    show Steps p.tables e below (T3.setTop (mkF m 88 #[.val (.int p1), .val (.int p2), .val (.int (p1.toInt8.toInt32)), .val (.int (p2.toInt8.toInt32)), .val (.int (own_ms p1.toInt8.toInt32 p2.toInt8.toInt32)), .val (.int ((p2.toInt8.toInt32) + (256 : Int32))), .val (.int (((p1.toInt8.toInt32) * (256 : Int32)) + ((p2.toInt8.toInt32) + (256 : Int32)))), .val (.int (1 : Int32)), .val (.int (1 : Int32)), .val (.int (1 : Int32))] [])) _
    refine XS.iload X3.here hx rfl (hb hby at_88) rfl ?_
    show Steps p.tables e below (T3.setTop (mkF m 90 #[.val (.int p1), .val (.int p2), .val (.int (p1.toInt8.toInt32)), .val (.int (p2.toInt8.toInt32)), .val (.int (own_ms p1.toInt8.toInt32 p2.toInt8.toInt32)), .val (.int ((p2.toInt8.toInt32) + (256 : Int32))), .val (.int (((p1.toInt8.toInt32) * (256 : Int32)) + ((p2.toInt8.toInt32) + (256 : Int32)))), .val (.int (1 : Int32)), .val (.int (1 : Int32)), .val (.int (1 : Int32))] [(.int (1 : Int32))])) _
    refine XS.ifNo X3.here hx rfl (hb hby at_90) rfl ((if0 _ _).trans (feq hc90).1) ?_
    show Steps p.tables e below (T3.setTop (mkF m 93 #[.val (.int p1), .val (.int p2), .val (.int (p1.toInt8.toInt32)), .val (.int (p2.toInt8.toInt32)), .val (.int (own_ms p1.toInt8.toInt32 p2.toInt8.toInt32)), .val (.int ((p2.toInt8.toInt32) + (256 : Int32))), .val (.int (((p1.toInt8.toInt32) * (256 : Int32)) + ((p2.toInt8.toInt32) + (256 : Int32)))), .val (.int (1 : Int32)), .val (.int (1 : Int32)), .val (.int (1 : Int32))] [])) _
    refine XS.iload X3.here hx rfl (hb hby at_93) rfl ?_
    show Steps p.tables e below (T3.setTop (mkF m 95 #[.val (.int p1), .val (.int p2), .val (.int (p1.toInt8.toInt32)), .val (.int (p2.toInt8.toInt32)), .val (.int (own_ms p1.toInt8.toInt32 p2.toInt8.toInt32)), .val (.int ((p2.toInt8.toInt32) + (256 : Int32))), .val (.int (((p1.toInt8.toInt32) * (256 : Int32)) + ((p2.toInt8.toInt32) + (256 : Int32)))), .val (.int (1 : Int32)), .val (.int (1 : Int32)), .val (.int (1 : Int32))] [(.int (1 : Int32))])) _
    refine XS.ifNo X3.here hx rfl (hb hby at_95) rfl ((if0 _ _).trans (feq hc95).1) ?_
    show Steps p.tables e below (T3.setTop (mkF m 98 #[.val (.int p1), .val (.int p2), .val (.int (p1.toInt8.toInt32)), .val (.int (p2.toInt8.toInt32)), .val (.int (own_ms p1.toInt8.toInt32 p2.toInt8.toInt32)), .val (.int ((p2.toInt8.toInt32) + (256 : Int32))), .val (.int (((p1.toInt8.toInt32) * (256 : Int32)) + ((p2.toInt8.toInt32) + (256 : Int32)))), .val (.int (1 : Int32)), .val (.int (1 : Int32)), .val (.int (1 : Int32))] [])) _
    refine XS.iconst X3.here hx rfl (hb hby at_98) ?_
    show Steps p.tables e below (T3.setTop (mkF m 99 #[.val (.int p1), .val (.int p2), .val (.int (p1.toInt8.toInt32)), .val (.int (p2.toInt8.toInt32)), .val (.int (own_ms p1.toInt8.toInt32 p2.toInt8.toInt32)), .val (.int ((p2.toInt8.toInt32) + (256 : Int32))), .val (.int (((p1.toInt8.toInt32) * (256 : Int32)) + ((p2.toInt8.toInt32) + (256 : Int32)))), .val (.int (1 : Int32)), .val (.int (1 : Int32)), .val (.int (1 : Int32))] [(.int (1 : Int32))])) _
    refine XS.goto X3.here hx rfl (pc0 := 99) (pc' := 103) rfl (hb hby at_99) (by decide) (by decide) ?_
    show Steps p.tables e below (T3.setTop (mkF m 103 #[.val (.int p1), .val (.int p2), .val (.int (p1.toInt8.toInt32)), .val (.int (p2.toInt8.toInt32)), .val (.int (own_ms p1.toInt8.toInt32 p2.toInt8.toInt32)), .val (.int ((p2.toInt8.toInt32) + (256 : Int32))), .val (.int (((p1.toInt8.toInt32) * (256 : Int32)) + ((p2.toInt8.toInt32) + (256 : Int32)))), .val (.int (1 : Int32)), .val (.int (1 : Int32)), .val (.int (1 : Int32))] [(.int (1 : Int32))])) _
    exact retN X3 hx (t := .boolean) Bd.returns (by simp) (hb hby at_103) hr
  · show Q0 Z p1 p2 h0 n0 _ T3.heap _
    exact ⟨rfl, N3⟩
theorem rm0 (l : Launch) (Z : State) (a0 : Array Value) (hw : ∀ d ∈ tables_1, d.before a0 Z = true) (ws : List Jvm.Cond) (p1 : Int32) (p2 : Int32) (h0 : Heap) (n0 : Nat) (Z0 : n0 ≤ h0.size) :
    MetFree l x (head1 (Jvm.Cond.code x code maxLocals ret :: ws) room_1) (fun a U => a = #[(.int p1), (.int p2)] ∧ Z.Warmed39 U.vm ∧ U.heap = h0) (fun _ _ _ _ _ => True) (fun _ U o U' => ∃ v L, o = .returned v ∧ Q0 Z p1 p2 h0 n0 v U'.heap L ∧ FrameEnd U o U' L room_1.cells room_1.slots) := by
  by_cases h : p2.toInt8.toInt32 < (0 : Int32)
  · exact rm0b l Z a0 hw ws p1 p2 h0 n0 Z0 h (by decide) (by decide) (by decide)
  · exact rm0a l Z a0 hw ws p1 p2 h0 n0 Z0 h (by decide) (by decide) (by decide)
set_option maxRecDepth 65536 in
set_option maxHeartbeats 40000000 in
theorem comes_1 {Post : Tables → Env → Array Value → State → Outcome → State → Prop} (hpost : ∀ tb e args s v u, (limb_1_1.after args s (.returned v) u = true ∧ limb_1_2.after args s (.returned v) u = true ∧ True) → FrameEnd s (.returned v) u (Jvm.fieldLocs frame_1_writes args s ++ Jvm.arrayLocs frame_1_arrays args s ++ Jvm.staticLocs frame_1_statics s) 0 0 → Post tb e args s (.returned v) u) :
    ArmFor flags0 classFile x code maxLocals ret World_1 tables_1 room_1 Calls_1 rest_1 Pre_1 Post := by
  intro l hfl _ _ p e ha hc hk s m args below hf hA hF happ hP
  obtain ⟨hcalls, hrest, hpre⟩ := hP
  obtain ⟨-, -, -, hnamed, -, -, -, hat⟩ := (Spec.applies_iff hf).mp happ
  obtain ⟨hg, hn⟩ := and_e (Cond.before_iff.mp (show (Jvm.Cond.and given_1 narrow_1).before args s = true from hpre))
  obtain ⟨g4, g5⟩ := and_e hg
  obtain ⟨g6, g7⟩ := and_e g5
  obtain ⟨w0, w1, rfl⟩ : ∃ w0 w1 : Value, args = #[w0, w1] := by
    have hs : args.size = 2 := by simpa [Cond.value, given_1] using g4
    obtain ⟨L⟩ := args
    match L, hs with
    | [w0, w1], _ => exact ⟨w0, w1, rfl⟩
  have hw := fun d (hd : d ∈ tables_1) => atoms_spec (ws := Jvm.Cond.code x code maxLocals ret :: tables_1) hat d (List.mem_cons_of_mem _ hd)
  have hfit : Fit s := fun {y c} hc i hi => by
    obtain ⟨ha, rfl⟩ := Array.getElem?_eq_some_iff.mp hc
    have q := List.all_eq_true.mp ((Array.all_eq_true_iff_forall_mem.mp hF) _ (Array.getElem_mem ha)) i (List.mem_range.mpr hi)
    simpa [Array.getElem?_eq_getElem hi] using q
  obtain ⟨i0, ei0⟩ := is_v g6
  obtain rfl : w0 = (.int i0) := Option.some.inj ei0
  obtain ⟨i1, ei1⟩ := is_v g7
  obtain rfl : w1 = (.int i1) := Option.some.inj ei1
  obtain ⟨n, o, h1, h2, h3, _, L, rfl, ⟨rfl, N⟩, hq⟩ := rm0 l s _ hw tables_1 i0 i1 s.heap s.heap.size (Nat.le_refl _)  p e ha hc hk s m _ below hf ((Spec.applies_iff_loose hf).mp happ).1 ⟨rfl, State.Warmed39.refl s, rfl⟩ trivial
  refine ⟨n, _, h1, h2, h3, hpost _ _ _ _ _ _ ⟨Cond.after_iff.mpr rfl, Cond.after_iff.mpr (eq_i res_at (Term.int_eval (1)) rfl), trivial⟩ ⟨hq.1, hq.2.1, (hq.2.2.sift fun y hy => Or.inr (N y hy)).mono (by decide) (by decide)⟩⟩
theorem main_1_1 : Claimed_1_1 := comes_1 fun _ _ _ _ _ _ h hF => ⟨h.1, hF⟩
theorem main_1_2 : Claimed_1_2 := comes_1 fun _ _ _ _ _ _ h hF => ⟨h.2.1, hF⟩
end Jvm.Pilot.@@N@@
namespace Jvm.Pilot.@@N@@
open Jvm Jvm.ClassFile Sem Op Lib Jvm.Free Jvm.Stand Jvm.Pilot.@@N@@.Jvm.D
/-! MADE BY PROGRAM (witnessworld.py) out of the Statement's table words and the real class files: 7 classes; the members and pool entries that the words name. The judged class is class 1, her method 1. -/
namespace start1
open Jvm.ClassFile
def u (s : String) : CpInfo := .utf8 (stringToUtf16 s)
/-- a pool by its gaps: so many unusable entries, then the entry; so many at the end -/
def gap : Nat → List CpInfo → List CpInfo
  | 0, r => r
  | n + 1, r => .unusable :: gap n r
def poolList (es : List (Nat × CpInfo)) (last : Nat) : List CpInfo := es.foldr (fun e r => gap e.1 (e.2 :: r)) (gap last [])
def pool (es : List (Nat × CpInfo)) (last : Nat) : Array CpInfo := ⟨poolList es last⟩
def fileOf (pool : Array CpInfo) (this : Nat) (attrs : Array Attribute := #[]) (ms : Array MethodInfo := #[]) (fl : Nat := 33) (sup : Nat := 0) (ifs : Array Nat := #[]) (fds : Array FieldInfo := #[]) : ClassFile where
  minorVersion := 0
  majorVersion := 65
  constantPool := pool
  accessFlags := fl
  thisClass := this
  superClass := sup
  interfaces := ifs
  fields := fds
  methods := ms
  attributes := attrs
def plain (name : String) (sup : Option ClassId) : Class where
  name := name
  kind := .ordinary
  loader := none
  accessFlags := 33
  super := sup
  interfaces := #[]
  cf := none
  fields := #[]
  methods := #[]
  instanceTypes := #[]
  staticTypes := #[]
  resolved := #[]
  callSites := []
  init := .initialized
  statics := none
  mirror := none

def pool0 : Array CpInfo := pool [(5, u "<init>"), (0, u "()V"), (1, .class_ 10), (1, u "java/lang/Object")] 113

def k0m0 : Method := { name := "<init>", desc := "()V", sig := { parameters := [], returnType := none }, accessFlags := 1, code := none }
/-- java/lang/Object -/
def k0 : Class := { plain "java/lang/Object" none with
  accessFlags := 33
  interfaces := #[]
  cf := some (fileOf pool0 8 #[] #[{ accessFlags := 1, nameIndex := 5, descriptorIndex := 6, attributes := #[] }] 33 0 #[] #[])
  fields := #[]
  methods := #[k0m0]
  instanceTypes := #[]
  staticTypes := #[]
  resolved := Array.replicate 124 none
  statics := none }

def pool1 : Array CpInfo := pool [(2, .class_ 4), (1, u "java/lang/Object"), (0, u "<init>"), (0, u "()V"), (0, .methodref 8 9), (0, .class_ 10), (0, .nameAndType 11 12), (0, u "javacard/framework/Util"), (0, u "makeShort"), (0, u "(BB)S"), (0, .class_ 14), (0, u "javacard/framework/UtilMakeShortPinLaw"), (2, u "law"), (0, u "(II)Z")] 3

def k1m0 : Method := { name := "<init>", desc := "()V", sig := { parameters := [], returnType := none }, accessFlags := 2, code := none }
def k1c1 : Code := { maxStack := 2, maxLocals := 10, code := code, exceptionTable := #[], attributes := #[] }
def k1m1 : Method := { name := "law", desc := "(II)Z", sig := { parameters := [.int, .int], returnType := some .boolean }, accessFlags := 9, code := some k1c1 }
/-- javacard/framework/UtilMakeShortPinLaw -/
def k1 : Class := { plain "javacard/framework/UtilMakeShortPinLaw" (some 0) with
  accessFlags := 49
  interfaces := #[]
  cf := some (fileOf pool1 13 #[] #[{ accessFlags := 2, nameIndex := 5, descriptorIndex := 6, attributes := #[] }, { accessFlags := 9, nameIndex := 17, descriptorIndex := 18, attributes := #[] }] 49 2 #[] #[])
  fields := #[]
  methods := #[k1m0, k1m1]
  instanceTypes := #[]
  staticTypes := #[]
  resolved := Array.replicate 22 none
  statics := none }

def pool2 : Array CpInfo := pool [(2, .class_ 4), (1, u "java/lang/Object"), (0, u "<init>"), (0, u "()V"), (19, .class_ 28), (1, u "javacard/framework/Util"), (8, u "makeShort"), (0, u "(BB)S")] 25

def k2m0 : Method := { name := "<init>", desc := "()V", sig := { parameters := [], returnType := none }, accessFlags := 2, code := none }
def k2c1 : Code := { maxStack := 3, maxLocals := 2, code := prog_57_method_6_code, exceptionTable := #[], attributes := #[] }
def k2m1 : Method := { name := "makeShort", desc := "(BB)S", sig := { parameters := [.byte, .byte], returnType := some .short }, accessFlags := 9, code := some k2c1 }
/-- javacard/framework/Util -/
def k2 : Class := { plain "javacard/framework/Util" (some 0) with
  accessFlags := 49
  interfaces := #[]
  cf := some (fileOf pool2 26 #[] #[{ accessFlags := 2, nameIndex := 5, descriptorIndex := 6, attributes := #[] }, { accessFlags := 9, nameIndex := 37, descriptorIndex := 38, attributes := #[] }] 49 2 #[] #[])
  fields := #[]
  methods := #[k2m0, k2m1]
  instanceTypes := #[]
  staticTypes := #[]
  resolved := Array.replicate 64 none
  statics := none }

def pool3 : Array CpInfo := pool [(1, u "java/lang/Cloneable"), (0, .class_ 1), (0, u "java/lang/Object"), (0, .class_ 3)] 3

/-- java/lang/Cloneable -/
def k3 : Class := { plain "java/lang/Cloneable" (some 0) with
  accessFlags := 1537
  interfaces := #[]
  cf := some (fileOf pool3 2 #[] #[] 1537 4 #[] #[])
  fields := #[]
  methods := #[]
  instanceTypes := #[]
  staticTypes := #[]
  resolved := Array.replicate 8 none
  statics := none }

def pool4 : Array CpInfo := pool [(1, u "java/io/Serializable"), (0, .class_ 1), (0, u "java/lang/Object"), (0, .class_ 3)] 3

/-- java/io/Serializable -/
def k4 : Class := { plain "java/io/Serializable" (some 0) with
  accessFlags := 1537
  interfaces := #[]
  cf := some (fileOf pool4 2 #[] #[] 1537 4 #[] #[])
  fields := #[]
  methods := #[]
  instanceTypes := #[]
  staticTypes := #[]
  resolved := Array.replicate 8 none
  statics := none }

/-- the primitive byte -/
def k5 : Class := { plain "byte" none with kind := .primitive 'B', accessFlags := 0x411 }
/-- [B -/
def k6 : Class := { plain "[B" (some 0) with kind := .array 5 .byte, interfaces := #[3, 4], accessFlags := 1041 }

def heap : Heap := #[]
def classes : Array Class := #[k0, k1, k2, k3, k4, k5, k6]
def interned : List (Array UInt16 × Addr) := []
def slotsUsed : Nat := 0
def theMethod : MethodId := ⟨1, 1⟩
def args0 : Array Value := #[.int 87, .int 63]
def aboutOver (below : List Frame) : State where
  vm := { classes := classes, interned := interned.toArray }
  heap := heap
  slotsUsed := slotsUsed
  threads := #[{ frames := .invoking theMethod args0 :: below }]
def below0 : List Frame := [.native { method := ⟨0, 0⟩, args := #[] }]
def about1 : State := aboutOver below0
def p0 : Program := .bare "" "" ""
def e0 : Env := launch0.env 0 0 0
theorem w_frames : about1.frames = Frame.invoking theMethod args0 :: below0 := rfl
set_option maxRecDepth 65536 in
theorem w_args : argsFit about1.vm theMethod args0 = true := by decide +kernel
set_option maxRecDepth 65536 in
theorem w_heap : heapFits about1 = true := by decide +kernel
set_option maxRecDepth 65536 in
theorem w_runnable : about1.curStatus? = some .runnable := by decide +kernel
set_option maxRecDepth 65536 in
theorem w_alone : about1.alone = true := by decide +kernel
set_option maxRecDepth 65536 in
theorem w_named : about1.methodNamed? x = some theMethod := by decide +kernel
set_option maxRecDepth 65536 in
theorem w_hears : about1.hears theMethod below0 = true := by decide +kernel
set_option maxRecDepth 65536 in
theorem w_ripe : about1.ripe theMethod args0 below0 = true := by decide +kernel
theorem w_running : about1.status = .running := rfl
set_option maxRecDepth 65536 in
theorem w_room : about1.hasRoom e0.platform room_1 = true :=
  launch0.hasRoom_least _ room_1 (by decide +kernel) (by decide +kernel) (by decide +kernel) (by decide +kernel) (by decide +kernel) (by decide +kernel)
theorem allAtoms_all (ts : List Jvm.Cond) (a : Array Jvm.Value) (st : Jvm.State) : (allAtoms ts).before a st = ts.all (fun c => c.before a st) := by
  induction ts with
  | nil => rfl
  | cons c t ih =>
    show (Jvm.Cond.and c (allAtoms t)).before a st = _
    rw [Jvm.Cond.before_and, ih, List.all_cons]
def words1 : List Jvm.Cond := Jvm.Cond.code x code maxLocals ret :: tables_1
/-- a 'code' word, met by the world's own term for the bytes: nothing is compared byte by byte -/
theorem code_word {y : MethodName} {bytes : ByteArray} {mx : Nat} {rt : Option FieldType} {a : Array Value} {s : State} {m : MethodId} {meth : Method} {c : Code} (h1 : s.methodNamed? y = some m) (h2 : s.vm.method? m = some meth) (h3 : meth.code = some c) (h4 : c.code = bytes)
    (h5 : (c.maxLocals == mx && c.exceptionTable.isEmpty && decide (c.maxStack ≤ mostOperands) && decide (meth.sig.returnType = rt) && !meth.locks && decide (parseMethodDescriptor y.desc = some meth.sig)) = true) : (Jvm.Cond.code y bytes mx rt).before a s = true := by
  simp only [Bool.and_eq_true, beq_iff_eq, Bool.not_eq_true', decide_eq_true_eq] at h5
  obtain ⟨⟨⟨⟨⟨g1, g2⟩, g3⟩, g4⟩, g5⟩, g6⟩ := h5
  simp [Cond.before, Cond.holds, Cond.value, h1, h2, h3, h4, g1, g2, g3, g4, g5, g6]
def isCode : Jvm.Cond → Bool
  | .code _ _ _ _ => true
  | _ => false
theorem all_split {L : List Jvm.Cond} {P : Jvm.Cond → Bool} (h1 : L.all (fun c => isCode c || P c) = true) (h2 : ∀ c ∈ L.filter isCode, P c = true) : L.all P = true := by
  refine List.all_eq_true.mpr fun c hc => ?_
  have h := List.all_eq_true.mp h1 c hc
  rcases Bool.eq_false_or_eq_true (isCode c) with hi | hi
  · exact h2 c (List.mem_filter.mpr ⟨hc, hi⟩)
  · simpa [hi] using h
set_option maxRecDepth 65536 in
theorem w_c0 : (Jvm.Cond.code x code maxLocals ret).before args0 about1 = true := code_word (m := ⟨1, 1⟩) (meth := k1m1) (c := k1c1) (by decide +kernel) rfl rfl rfl (by decide +kernel)
set_option maxRecDepth 65536 in
theorem w_c1 : (Jvm.Cond.code ({ cls := "javacard/framework/Util", name := "makeShort", desc := "(BB)S" } : Jvm.MethodName) prog_57_method_6_code (2 : Nat) (Option.some Jvm.ClassFile.FieldType.short)).before args0 about1 = true := code_word (m := ⟨2, 1⟩) (meth := k2m1) (c := k2c1) (by decide +kernel) rfl rfl rfl (by decide +kernel)
def codes1 : List Jvm.Cond := [Jvm.Cond.code x code maxLocals ret, Jvm.Cond.code ({ cls := "javacard/framework/Util", name := "makeShort", desc := "(BB)S" } : Jvm.MethodName) prog_57_method_6_code (2 : Nat) (Option.some Jvm.ClassFile.FieldType.short)]
set_option maxRecDepth 65536 in
theorem codes_eq : words1.filter isCode = codes1 := rfl
theorem w_codes : ∀ c ∈ words1.filter isCode, c.before args0 about1 = true := by
  rw [codes_eq]
  intro c hc
  simp only [codes1, List.mem_cons, List.not_mem_nil, or_false] at hc
  rcases hc with rfl | rfl
  · exact w_c0
  · exact w_c1
set_option maxRecDepth 65536 in
theorem w_t1 : words1.all (fun c => isCode c || c.before args0 about1) = true := by decide +kernel
theorem w_tables : (allAtoms (Jvm.Cond.code x code maxLocals ret :: tables_1)).before args0 about1 = true := by
  rw [allAtoms_all]
  show words1.all (fun c => c.before args0 about1) = true
  refine all_split ?_ w_codes
  rw [w_t1]
set_option maxRecDepth 65536 in
theorem w_case : (Jvm.Cond.and given_1 narrow_1).before args0 about1 = true := by decide +kernel
theorem w_applies : (headSpec (Jvm.Cond.code x code maxLocals ret :: tables_1) room_1).applies x e0.platform about1 = true :=
  (Spec.applies_iff w_frames).mpr ⟨w_running, w_runnable, w_alone, w_named, w_hears, w_ripe, w_room, w_tables⟩
theorem atStart : AtStart classFile x code maxLocals ret World_1 tables_1 room_1 Calls_1 rest_1 Pre_1 launch0 p0 e0 about1 theMethod args0 below0 :=
  ⟨lists_1, trivial, launch0.admits_env _ _ _, launch0.least_env, fairChoices_fair.cas, fairChoices_fair.clock, w_frames, w_args, w_heap, w_applies, trivial, trivial, w_case⟩
end start1
theorem witness_1 : WitnessClaimed_1 := ⟨start1.p0, start1.e0, start1.about1, start1.theMethod, start1.args0, start1.below0, start1.atStart⟩
end Jvm.Pilot.@@N@@
