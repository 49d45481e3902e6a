import JvmDerived
import JvmDerived.Pilot.@@N@@Statement
import JvmDerived.Pilot.@@N@@Code
set_option linter.unusedVariables false
set_option linter.unusedSimpArgs false
@@BLOCK:NumsL.lean.txt@@
namespace Jvm.RoadKit
open Sem ClassFile Op Lib Jvm.Stand Jvm.Free Jvm.LawKit
section New
variable {p : Program} {l : Launch} {e : Env} {R : Room} {s : State} {m : MethodId} {args : Array Value} {below : List Frame} {meth : Method} {c : Code} {T : State} {locs : List Loc} {cells slots : Nat}
theorem retI (X : Stand p l e R s m args below meth c T locs cells slots) (hx : p.tables.exec = Jvm.exec) {pc : Nat} {Ls : Array Slot} {z : Int32} {rest : List Value} (hret : meth.sig.returnType = some .int) (hd : decode c.code pc = .ok (.ireturn, 1)) {fs : List Frame}
    (hl : ∀ (f : JFrame) (acts : List Action), f.method = m → f.locked = none → f.entered = [] → (doReturn e (T.setTop f) acts (some (.int z))).1 = T.setFrames fs) : Steps p.tables e below (T.setTop (mkF m pc Ls (.int z :: rest))) (T.setFrames fs) := by
  have hm' : T.vm.method? m = some meth := X.method'
  have hn : narrow .int (.int z) = .int z := rfl
  show Steps p.tables e below (T.setTop { method := m, pc := pc, locals := Ls, stack := _ :: rest, locked := none }) _
  jvm_step X.here [X.here.top, hx, hd, hm', hret, hn]
  first | (intro acts; rw [hl _ acts rfl rfl rfl]) | rw [hl _ _ rfl rfl rfl]
  exact Steps.refl _
end New
end Jvm.RoadKit
namespace Jvm.Pilot.@@N@@
open Jvm Jvm.ClassFile Sem Op Lib Jvm.Free Jvm.Stand Jvm.LawKit Jvm.RoadKit Bundle Jvm.Pilot.@@N@@.Jvm.D
def own_rem (x y : Int32) : Int32 := x - (x / y) * y
theorem own_rem_int (x y : Int32) (hx : 0 ≤ x.toInt) (hy : 0 < y.toInt) : (own_rem x y).toInt = x.toInt % y.toInt := by
  have hd : (x / y).toInt = x.toInt / y.toInt := by
    rw [Jvm.Kit.i32_div (by omega), Int.tdiv_eq_ediv_of_nonneg hx]
  have h1 := Int.emod_add_mul_ediv x.toInt y.toInt
  have h2 := Int.emod_nonneg x.toInt (by omega : y.toInt ≠ 0)
  have h3 : 0 ≤ x.toInt / y.toInt := Int.ediv_nonneg hx (by omega)
  have h4 : 0 ≤ y.toInt * (x.toInt / y.toInt) := Int.mul_nonneg (by omega) h3
  have h5 := x.toInt_lt
  rw [Int.mul_comm] at h1 h4
  unfold own_rem
  have hm : ((x / y) * y).toInt = x.toInt / y.toInt * y.toInt := by
    rw [Jvm.Kit.i32_mul (by rw [hd]; omega) (by rw [hd]; omega), hd]
  rw [Jvm.Kit.i32_sub (by rw [hm]; omega) (by rw [hm]; omega), hm]
  omega
theorem own_pos (x : Int32) : (x &&& (2147483647 : Int32)).toInt = x.toInt % 2147483648 := Jvm.Kit.i32_mask x 2147483647 (k := 31) (by decide) (by decide)
def own_ic (x : Int32) : Int32 := if (x &&& (32 : Int32)) = 0 then 0 else 1
theorem own_absorb (x c : BitVec 32) : (x ||| c) &&& c = c := by
  ext i hi
  simp
  intro h
  exact Or.inr h
theorem own_i1 (x : Int32) : ¬ own_ic (x ||| (32 : Int32)) = 0 := by
  have h : ((x ||| (32 : Int32)) &&& (32 : Int32)) = 32 := by
    apply Int32.toBitVec_inj.mp
    exact own_absorb x.toBitVec (32 : Int32).toBitVec
  unfold own_ic
  rw [h]
  decide
theorem own_i2 (x : Int32) : own_ic (x &&& (223 : Int32)) = 0 := by
  have h : ((x &&& (223 : Int32)) &&& (32 : Int32)) = 0 := by
    rw [Int32.and_assoc]
    have : ((223 : Int32) &&& (32 : Int32)) = 0 := by decide
    rw [this, Int32.and_zero]
  unfold own_ic
  rw [h]
  rfl
theorem own_tab : ∀ k : Fin 31, own_ic ((64 : Int32) ||| Int32.ofNat k) = 0 ∧ own_ic ((96 : Int32) ||| Int32.ofNat k) = 1 ∧ own_ic ((128 : Int32) ||| Int32.ofNat k) = 0 ∧ own_ic ((160 : Int32) ||| Int32.ofNat k) = 1 := by decide +kernel
def own_n (b : Int32) : Int32 := own_rem (b &&& (2147483647 : Int32)) (31 : Int32)
theorem own_31 : (31 : Int32).toInt = 31 := by decide
theorem own_30 : (30 : Int32).toInt = 30 := by decide
theorem own_z : (0 : Int32).toInt = 0 := by decide
theorem own_n_int (b : Int32) : (own_n b).toInt = b.toInt % 2147483648 % 31 := by
  unfold own_n
  rw [own_rem_int _ _ (by rw [own_pos]; omega) (by decide), own_pos, own_31]
theorem own_n_lo (b : Int32) : ¬ (own_n b < (0 : Int32)) := by
  rw [Int32.lt_iff_toInt_lt, own_n_int, own_z]; omega
theorem own_n_hi (b : Int32) : ¬ ((30 : Int32) < own_n b) := by
  rw [Int32.lt_iff_toInt_lt, own_n_int, own_30]; omega
theorem own_built (b : Int32) : own_ic ((64 : Int32) ||| own_n b) = 0 ∧ own_ic ((96 : Int32) ||| own_n b) = 1 ∧ own_ic ((128 : Int32) ||| own_n b) = 0 ∧ own_ic ((160 : Int32) ||| own_n b) = 1 := by
  have hn := own_n_int b
  obtain ⟨k, hk⟩ : ∃ k : Fin 31, own_n b = Int32.ofNat k := ⟨⟨(own_n b).toInt.toNat, by omega⟩, by
    apply Int32.toInt_inj.mp
    rw [Int32.toInt_ofNat_of_lt (by show (own_n b).toInt.toNat < _; omega)]
    show (own_n b).toInt = ((own_n b).toInt.toNat : Int)
    omega⟩
  rw [hk]
  exact own_tab k
def Q2 (Z : State) (p1 : Int32) (h0 : Heap) (n0 : Nat) (v : Option Value) (h : Heap) (L : List Loc) : Prop := v = some (.int p1) ∧ Fr n0 L ∧ h = h0
theorem d2_0 : decode prog_9_method_8_code 0 = .ok (.iload_n 0, 1) := by decide +kernel
theorem d2_1 : decode prog_9_method_8_code 1 = .ok (.ifCond .lt 9, 3) := by decide +kernel
theorem d2_4 : decode prog_9_method_8_code 4 = .ok (.iload_n 0, 1) := by decide +kernel
theorem d2_5 : decode prog_9_method_8_code 5 = .ok (.bipush 30, 2) := by decide +kernel
theorem d2_7 : decode prog_9_method_8_code 7 = .ok (.if_icmp .le 17, 3) := by decide +kernel
theorem d2_24 : decode prog_9_method_8_code 24 = .ok (.iload_n 0, 1) := by decide +kernel
theorem d2_25 : decode prog_9_method_8_code 25 = .ok (.ireturn, 1) := by decide +kernel
theorem pn_2 : plainName "com/example/bindery/bindery/ber/BerTag" = true := by first | (simp [plainName, overriddenIn]; done) | decide +kernel
theorem ef_2 (m : MethodId) (x0 : Int32) : entryFrame m #[(.int x0)] 1 = mkF m 0 #[.val (.int x0)] [] := by first | (simp [entryFrame, mkF, argsToLocals, Value.category]; done) | rfl
set_option maxRecDepth 65536 in
set_option maxHeartbeats 40000000 in
theorem rm2 (l : Launch) (Z : State) (a0 : Array Value) (hw : ∀ d ∈ tables_1, d.before a0 Z = true) (ws : List Jvm.Cond) (p1 : Int32) (h0 : Heap) (n0 : Nat) (Z0 : n0 ≤ h0.size) (hc1 : ¬ (p1 < (0 : Int32))) (hc7 : ¬ ((30 : Int32) < p1)) :
    MetFree l (⟨"com/example/bindery/bindery/ber/BerTag", "checkNumber", "(I)I"⟩ : MethodName) (head1 (Jvm.Cond.code (⟨"com/example/bindery/bindery/ber/BerTag", "checkNumber", "(I)I"⟩ : MethodName) prog_9_method_8_code 1 (some .int) :: ws) ({ frames := 0, cells := 0, slots := 0, locals := 0 } : Room)) (fun a U => a = #[(.int p1)] ∧ Z.Warmed39 U.vm ∧ U.heap = h0) (fun _ _ _ _ _ => True) (fun _ U o U' => ∃ v L, o = .returned v ∧ Q2 Z p1 h0 n0 v U'.heap L ∧ FrameEnd U o U' L ({ frames := 0, cells := 0, slots := 0, locals := 0 } : Room).cells ({ frames := 0, cells := 0, slots := 0, locals := 0 } : Room).slots) := by
  refine MetFree.of_bodySF (plainFor_of_name pn_2) hisR ?_
  intro p e s m args below meth c s₁ Bd hml0 hP hK
  obtain ⟨rfl, hZ, hh⟩ := hP
  have hx := Bd.exec
  have hby := Bd.bytes
  have hml : c.maxLocals = 1 := hml0
  have hown : s.vm.findClass "com/example/bindery/bindery/ber/BerTag" = some m.cls := findClass_of_methodNamed Bd.named
  have hnm := (name_of_methodNamed Bd.named Bd.method).1
  have X0 : Stand p l e ({ frames := 0, cells := 0, slots := 0, locals := 0 } : Room) s m #[(.int p1)] below meth c s₁ [] 0 0 := Stand.of_body Bd
  have e0 : s₁.heap = h0 := by rw [← hh, Bd.state]; rfl
  have N0 := Fr.nil n0
  have pre0 : ∀ t, Steps p.tables e below (s₁.setTop (mkF m 0 #[.val (.int p1)] [])) t → Steps p.tables e below (s₁.setTop (entryFrame m #[(.int p1)] 1)) t := fun t k => castTop (ef_2 m p1) k
  -- 3. LAWS

  obtain ⟨fs, hr, hrun, hended, hW, hsame⟩ := X0.leave (v := some (.int p1)) (fun h => by rw [Bd.returns] at h; cases h)
  refine ⟨_, _, pre0 _ ?_, hrun, hended, _, _, rfl, ?_, ⟨_, rfl⟩, hW, hsame.mono (by decide) (by decide)⟩
  -- 4. STEPS
  · show Steps p.tables e below (s₁.setTop (mkF m 0 #[.val (.int p1)] [])) _
    refine XS.iloadN X0.here hx rfl (hb hby d2_0) rfl ?_
    show Steps p.tables e below (s₁.setTop (mkF m 1 #[.val (.int p1)] [(.int p1)])) _
    refine XS.ifNo X0.here hx rfl (hb hby d2_1) rfl ((if0 _ _).trans (flt hc1).1) ?_
    show Steps p.tables e below (s₁.setTop (mkF m 4 #[.val (.int p1)] [])) _
    refine XS.iloadN X0.here hx rfl (hb hby d2_4) rfl ?_
    show Steps p.tables e below (s₁.setTop (mkF m 5 #[.val (.int p1)] [(.int p1)])) _
    refine XS.bipush X0.here hx rfl (hb hby d2_5) ?_
    show Steps p.tables e below (s₁.setTop (mkF m 7 #[.val (.int p1)] [(.int (30 : Int32)), (.int p1)])) _
    refine XS.icmpYes X0.here hx rfl (pc0 := 7) (pc' := 24) rfl (hb hby d2_7) rfl (flt hc7).2.2.2 (by decide) (by decide) ?_
    show Steps p.tables e below (s₁.setTop (mkF m 24 #[.val (.int p1)] [])) _
    refine XS.iloadN X0.here hx rfl (hb hby d2_24) rfl ?_
    show Steps p.tables e below (s₁.setTop (mkF m 25 #[.val (.int p1)] [(.int p1)])) _
    exact retI X0 hx Bd.returns (hb hby d2_25) hr      -- retI stands in the head ('lawwalk <made dir>' prints it)
  · show Q2 Z p1 h0 n0 _ s₁.heap _
    rw [e0]
    exact ⟨rfl, N0, rfl⟩
def Q1 (Z : State) (p1 : Int32) (h0 : Heap) (n0 : Nat) (v : Option Value) (h : Heap) (L : List Loc) : Prop := v = some (.int ((128 : Int32) ||| p1)) ∧ Fr n0 L ∧ h = h0
theorem d1_0 : decode prog_9_method_4_code 0 = .ok (.sipush 128, 3) := by decide +kernel
theorem d1_3 : decode prog_9_method_4_code 3 = .ok (.iload_n 0, 1) := by decide +kernel
theorem d1_4 : decode prog_9_method_4_code 4 = .ok (.invokestatic 9, 3) := by decide +kernel
theorem d1_7 : decode prog_9_method_4_code 7 = .ok (.ior, 1) := by decide +kernel
theorem d1_8 : decode prog_9_method_4_code 8 = .ok (.ireturn, 1) := by decide +kernel
theorem pn_1 : plainName "com/example/bindery/bindery/ber/BerTag" = true := by first | (simp [plainName, overriddenIn]; done) | decide +kernel
theorem pd_1_0 : parseMethodDescriptor "(I)I" = some ⟨[.int], some .int⟩ := by decide +kernel
theorem ef_1 (m : MethodId) (x0 : Int32) : entryFrame m #[(.int x0)] 1 = mkF m 0 #[.val (.int x0)] [] := by first | (simp [entryFrame, mkF, argsToLocals, Value.category]; done) | rfl
set_option maxRecDepth 65536 in
set_option maxHeartbeats 40000000 in
theorem rm1 (l : Launch) (Z : State) (a0 : Array Value) (hw : ∀ d ∈ tables_1, d.before a0 Z = true) (ws : List Jvm.Cond) (p1 : Int32) (h0 : Heap) (n0 : Nat) (Z0 : n0 ≤ h0.size) (hlo : ¬ (p1 < (0 : Int32))) (hhi : ¬ ((30 : Int32) < p1)) :
    MetFree l (⟨"com/example/bindery/bindery/ber/BerTag", "contextPrimitive", "(I)I"⟩ : MethodName) (head1 (Jvm.Cond.code (⟨"com/example/bindery/bindery/ber/BerTag", "contextPrimitive", "(I)I"⟩ : MethodName) prog_9_method_4_code 1 (some .int) :: ws) ({ frames := 1, cells := 0, slots := 0, locals := 13 } : Room)) (fun a U => a = #[(.int p1)] ∧ Z.Warmed39 U.vm ∧ U.heap = h0) (fun _ _ _ _ _ => True) (fun _ U o U' => ∃ v L, o = .returned v ∧ Q1 Z p1 h0 n0 v U'.heap L ∧ FrameEnd U o U' L ({ frames := 1, cells := 0, slots := 0, locals := 13 } : Room).cells ({ frames := 1, cells := 0, slots := 0, locals := 13 } : Room).slots) := by
  refine MetFree.of_bodySF (plainFor_of_name pn_1) hisR ?_
  intro p e s m args below meth c s₁ Bd hml0 hP hK
  obtain ⟨rfl, hZ, hh⟩ := hP
  have hx := Bd.exec
  have hby := Bd.bytes
  have hml : c.maxLocals = 1 := hml0
  have hown : s.vm.findClass "com/example/bindery/bindery/ber/BerTag" = some m.cls := findClass_of_methodNamed Bd.named
  have hnm := (name_of_methodNamed Bd.named Bd.method).1
  have X0 : Stand p l e ({ frames := 1, cells := 0, slots := 0, locals := 13 } : Room) s m #[(.int p1)] below meth c s₁ [] 0 0 := Stand.of_body Bd
  have e0 : s₁.heap = h0 := by rw [← hh, Bd.state]; rfl
  have N0 := Fr.nil n0
  have pre0 : ∀ t, Steps p.tables e below (s₁.setTop (mkF m 0 #[.val (.int p1)] [])) t → Steps p.tables e below (s₁.setTop (entryFrame m #[(.int p1)] 1)) t := fun t k => castTop (ef_1 m p1) k
  -- 3. LAWS
  -- pc 4: com/example/bindery/bindery/ber/BerTag.checkNumber by its contract rm2
  obtain ⟨_, _, ⟨T2, L2, k2, n2⟩, -, X2, ⟨Lc2, hQ2, l2, y2, z2⟩, st2⟩ := Jvm.LawKit.callS X0 hx (y := (⟨"com/example/bindery/bindery/ber/BerTag", "checkNumber", "(I)I"⟩ : MethodName)) hown (mvT hZ (hw _ (List.mem_of_getElem? (i := 5) rfl))) (mvT hZ (hw _ (List.mem_of_getElem? (i := 6) rfl))) (mvT hZ (hw _ (List.mem_of_getElem? (i := 3) rfl))) (mvT hZ (hw _ (List.mem_of_getElem? (i := 7) rfl))) (by decide) (backOf (W := 1) (rm2 l Z a0 hw [] p1 h0 n0 Z0 hlo hhi) hZ (hw _ (List.mem_of_getElem? (i := 7) rfl)) (hw _ (List.mem_of_getElem? (i := 3) rfl)) (by decide) (by decide)) (g := (mkF m 4 #[.val (.int p1)] [(.int p1), (.int (128 : Int32))])) rfl (by rw [hml]; rfl) (argsL := [(.int p1)]) (rest := [(.int (128 : Int32))]) (lenOf pd_1_0 rfl) rfl (by show 2 * 0 + _ ≤ _; exact Nat.le_of_eq rfl) (hb hby d1_4) (fun _ _ => ⟨rfl, e0, (by decide : 0 + 0 ≤ _), (by decide : 0 + 0 ≤ _)⟩)
  dsimp only [Pt.U, Pt.locs, Pt.cells, Pt.slots] at X2 l2 y2 z2 st2 hQ2
  subst l2 y2 z2
  obtain ⟨rfl, N2q, e2h⟩ := hQ2      -- what it returned, that it wrote nothing old, and the rest of your Q2
  have N2 := Fr.app N0 N2q
  obtain ⟨fs, hr, hrun, hended, hW, hsame⟩ := X2.leave (v := some (.int ((128 : Int32) ||| p1))) (fun h => by rw [Bd.returns] at h; cases h)
  refine ⟨_, _, pre0 _ ?_, hrun, hended, _, _, rfl, ?_, ⟨_, rfl⟩, hW, hsame.mono (by decide) (by decide)⟩
  -- 4. STEPS
  · show Steps p.tables e below (s₁.setTop (mkF m 0 #[.val (.int p1)] [])) _
    refine XS.sipush X0.here hx rfl (hb hby d1_0) ?_
    show Steps p.tables e below (s₁.setTop (mkF m 3 #[.val (.int p1)] [(.int (128 : Int32))])) _
    refine XS.iloadN X0.here hx rfl (hb hby d1_3) rfl ?_
    show Steps p.tables e below (s₁.setTop (mkF m 4 #[.val (.int p1)] [(.int p1), (.int (128 : Int32))])) _
    refine st2 _ ?_
    show Steps p.tables e below (T2.setTop (mkF m 7 #[.val (.int p1)] [(.int p1), (.int (128 : Int32))])) _
    refine XS.ior X2.here hx rfl (hb hby d1_7) rfl ?_
    show Steps p.tables e below (T2.setTop (mkF m 8 #[.val (.int p1)] [(.int ((128 : Int32) ||| p1))])) _
    exact retI X2 hx Bd.returns (hb hby d1_8) hr      -- retI stands in the head ('lawwalk <made dir>' prints it)
  · show Q1 Z p1 h0 n0 _ T2.heap _
    exact ⟨rfl, N2, e2h⟩
def Q4 (Z : State) (p1 : Int32) (h0 : Heap) (n0 : Nat) (v : Option Value) (h : Heap) (L : List Loc) : Prop := v = some (.int ((160 : Int32) ||| p1)) ∧ Fr n0 L ∧ h = h0
theorem d4_0 : decode prog_9_method_5_code 0 = .ok (.sipush 160, 3) := by decide +kernel
theorem d4_3 : decode prog_9_method_5_code 3 = .ok (.iload_n 0, 1) := by decide +kernel
theorem d4_4 : decode prog_9_method_5_code 4 = .ok (.invokestatic 9, 3) := by decide +kernel
theorem d4_7 : decode prog_9_method_5_code 7 = .ok (.ior, 1) := by decide +kernel
theorem d4_8 : decode prog_9_method_5_code 8 = .ok (.ireturn, 1) := by decide +kernel
theorem pn_4 : plainName "com/example/bindery/bindery/ber/BerTag" = true := by first | (simp [plainName, overriddenIn]; done) | decide +kernel
theorem pd_4_0 : parseMethodDescriptor "(I)I" = some ⟨[.int], some .int⟩ := by decide +kernel
theorem ef_4 (m : MethodId) (x0 : Int32) : entryFrame m #[(.int x0)] 1 = mkF m 0 #[.val (.int x0)] [] := by first | (simp [entryFrame, mkF, argsToLocals, Value.category]; done) | rfl
set_option maxRecDepth 65536 in
set_option maxHeartbeats 40000000 in
theorem rm4 (l : Launch) (Z : State) (a0 : Array Value) (hw : ∀ d ∈ tables_1, d.before a0 Z = true) (ws : List Jvm.Cond) (p1 : Int32) (h0 : Heap) (n0 : Nat) (Z0 : n0 ≤ h0.size) (hlo : ¬ (p1 < (0 : Int32))) (hhi : ¬ ((30 : Int32) < p1)) :
    MetFree l (⟨"com/example/bindery/bindery/ber/BerTag", "contextConstructed", "(I)I"⟩ : MethodName) (head1 (Jvm.Cond.code (⟨"com/example/bindery/bindery/ber/BerTag", "contextConstructed", "(I)I"⟩ : MethodName) prog_9_method_5_code 1 (some .int) :: ws) ({ frames := 1, cells := 0, slots := 0, locals := 13 } : Room)) (fun a U => a = #[(.int p1)] ∧ Z.Warmed39 U.vm ∧ U.heap = h0) (fun _ _ _ _ _ => True) (fun _ U o U' => ∃ v L, o = .returned v ∧ Q4 Z p1 h0 n0 v U'.heap L ∧ FrameEnd U o U' L ({ frames := 1, cells := 0, slots := 0, locals := 13 } : Room).cells ({ frames := 1, cells := 0, slots := 0, locals := 13 } : Room).slots) := by
  refine MetFree.of_bodySF (plainFor_of_name pn_4) hisR ?_
  intro p e s m args below meth c s₁ Bd hml0 hP hK
  obtain ⟨rfl, hZ, hh⟩ := hP
  have hx := Bd.exec
  have hby := Bd.bytes
  have hml : c.maxLocals = 1 := hml0
  have hown : s.vm.findClass "com/example/bindery/bindery/ber/BerTag" = some m.cls := findClass_of_methodNamed Bd.named
  have hnm := (name_of_methodNamed Bd.named Bd.method).1
  have X0 : Stand p l e ({ frames := 1, cells := 0, slots := 0, locals := 13 } : Room) s m #[(.int p1)] below meth c s₁ [] 0 0 := Stand.of_body Bd
  have e0 : s₁.heap = h0 := by rw [← hh, Bd.state]; rfl
  have N0 := Fr.nil n0
  have pre0 : ∀ t, Steps p.tables e below (s₁.setTop (mkF m 0 #[.val (.int p1)] [])) t → Steps p.tables e below (s₁.setTop (entryFrame m #[(.int p1)] 1)) t := fun t k => castTop (ef_4 m p1) k
  -- 3. LAWS
  -- pc 4: com/example/bindery/bindery/ber/BerTag.checkNumber by its contract rm2
  obtain ⟨_, _, ⟨T2, L2, k2, n2⟩, -, X2, ⟨Lc2, hQ2, l2, y2, z2⟩, st2⟩ := Jvm.LawKit.callS X0 hx (y := (⟨"com/example/bindery/bindery/ber/BerTag", "checkNumber", "(I)I"⟩ : MethodName)) hown (mvT hZ (hw _ (List.mem_of_getElem? (i := 5) rfl))) (mvT hZ (hw _ (List.mem_of_getElem? (i := 6) rfl))) (mvT hZ (hw _ (List.mem_of_getElem? (i := 3) rfl))) (mvT hZ (hw _ (List.mem_of_getElem? (i := 7) rfl))) (by decide) (backOf (W := 1) (rm2 l Z a0 hw [] p1 h0 n0 Z0 hlo hhi) hZ (hw _ (List.mem_of_getElem? (i := 7) rfl)) (hw _ (List.mem_of_getElem? (i := 3) rfl)) (by decide) (by decide)) (g := (mkF m 4 #[.val (.int p1)] [(.int p1), (.int (160 : Int32))])) rfl (by rw [hml]; rfl) (argsL := [(.int p1)]) (rest := [(.int (160 : Int32))]) (lenOf pd_4_0 rfl) rfl (by show 2 * 0 + _ ≤ _; exact Nat.le_of_eq rfl) (hb hby d4_4) (fun _ _ => ⟨rfl, e0, (by decide : 0 + 0 ≤ _), (by decide : 0 + 0 ≤ _)⟩)
  dsimp only [Pt.U, Pt.locs, Pt.cells, Pt.slots] at X2 l2 y2 z2 st2 hQ2
  subst l2 y2 z2
  obtain ⟨rfl, N2q, e2h⟩ := hQ2      -- what it returned, that it wrote nothing old, and the rest of your Q2
  have N2 := Fr.app N0 N2q
  obtain ⟨fs, hr, hrun, hended, hW, hsame⟩ := X2.leave (v := some (.int ((160 : Int32) ||| p1))) (fun h => by rw [Bd.returns] at h; cases h)
  refine ⟨_, _, pre0 _ ?_, hrun, hended, _, _, rfl, ?_, ⟨_, rfl⟩, hW, hsame.mono (by decide) (by decide)⟩
  -- 4. STEPS
  · show Steps p.tables e below (s₁.setTop (mkF m 0 #[.val (.int p1)] [])) _
    refine XS.sipush X0.here hx rfl (hb hby d4_0) ?_
    show Steps p.tables e below (s₁.setTop (mkF m 3 #[.val (.int p1)] [(.int (160 : Int32))])) _
    refine XS.iloadN X0.here hx rfl (hb hby d4_3) rfl ?_
    show Steps p.tables e below (s₁.setTop (mkF m 4 #[.val (.int p1)] [(.int p1), (.int (160 : Int32))])) _
    refine st2 _ ?_
    show Steps p.tables e below (T2.setTop (mkF m 7 #[.val (.int p1)] [(.int p1), (.int (160 : Int32))])) _
    refine XS.ior X2.here hx rfl (hb hby d4_7) rfl ?_
    show Steps p.tables e below (T2.setTop (mkF m 8 #[.val (.int p1)] [(.int ((160 : Int32) ||| p1))])) _
    exact retI X2 hx Bd.returns (hb hby d4_8) hr      -- retI stands in the head ('lawwalk <made dir>' prints it)
  · show Q4 Z p1 h0 n0 _ T2.heap _
    exact ⟨rfl, N2, e2h⟩
def Q5 (Z : State) (p1 : Int32) (h0 : Heap) (n0 : Nat) (v : Option Value) (h : Heap) (L : List Loc) : Prop := v = some (.int ((96 : Int32) ||| p1)) ∧ Fr n0 L ∧ h = h0
theorem d5_0 : decode prog_9_method_3_code 0 = .ok (.bipush 96, 2) := by decide +kernel
theorem d5_2 : decode prog_9_method_3_code 2 = .ok (.iload_n 0, 1) := by decide +kernel
theorem d5_3 : decode prog_9_method_3_code 3 = .ok (.invokestatic 9, 3) := by decide +kernel
theorem d5_6 : decode prog_9_method_3_code 6 = .ok (.ior, 1) := by decide +kernel
theorem d5_7 : decode prog_9_method_3_code 7 = .ok (.ireturn, 1) := by decide +kernel
theorem pn_5 : plainName "com/example/bindery/bindery/ber/BerTag" = true := by first | (simp [plainName, overriddenIn]; done) | decide +kernel
theorem pd_5_0 : parseMethodDescriptor "(I)I" = some ⟨[.int], some .int⟩ := by decide +kernel
theorem ef_5 (m : MethodId) (x0 : Int32) : entryFrame m #[(.int x0)] 1 = mkF m 0 #[.val (.int x0)] [] := by first | (simp [entryFrame, mkF, argsToLocals, Value.category]; done) | rfl
set_option maxRecDepth 65536 in
set_option maxHeartbeats 40000000 in
theorem rm5 (l : Launch) (Z : State) (a0 : Array Value) (hw : ∀ d ∈ tables_1, d.before a0 Z = true) (ws : List Jvm.Cond) (p1 : Int32) (h0 : Heap) (n0 : Nat) (Z0 : n0 ≤ h0.size) (hlo : ¬ (p1 < (0 : Int32))) (hhi : ¬ ((30 : Int32) < p1)) :
    MetFree l (⟨"com/example/bindery/bindery/ber/BerTag", "applicationConstructed", "(I)I"⟩ : MethodName) (head1 (Jvm.Cond.code (⟨"com/example/bindery/bindery/ber/BerTag", "applicationConstructed", "(I)I"⟩ : MethodName) prog_9_method_3_code 1 (some .int) :: ws) ({ frames := 1, cells := 0, slots := 0, locals := 13 } : Room)) (fun a U => a = #[(.int p1)] ∧ Z.Warmed39 U.vm ∧ U.heap = h0) (fun _ _ _ _ _ => True) (fun _ U o U' => ∃ v L, o = .returned v ∧ Q5 Z p1 h0 n0 v U'.heap L ∧ FrameEnd U o U' L ({ frames := 1, cells := 0, slots := 0, locals := 13 } : Room).cells ({ frames := 1, cells := 0, slots := 0, locals := 13 } : Room).slots) := by
  refine MetFree.of_bodySF (plainFor_of_name pn_5) hisR ?_
  intro p e s m args below meth c s₁ Bd hml0 hP hK
  obtain ⟨rfl, hZ, hh⟩ := hP
  have hx := Bd.exec
  have hby := Bd.bytes
  have hml : c.maxLocals = 1 := hml0
  have hown : s.vm.findClass "com/example/bindery/bindery/ber/BerTag" = some m.cls := findClass_of_methodNamed Bd.named
  have hnm := (name_of_methodNamed Bd.named Bd.method).1
  have X0 : Stand p l e ({ frames := 1, cells := 0, slots := 0, locals := 13 } : Room) s m #[(.int p1)] below meth c s₁ [] 0 0 := Stand.of_body Bd
  have e0 : s₁.heap = h0 := by rw [← hh, Bd.state]; rfl
  have N0 := Fr.nil n0
  have pre0 : ∀ t, Steps p.tables e below (s₁.setTop (mkF m 0 #[.val (.int p1)] [])) t → Steps p.tables e below (s₁.setTop (entryFrame m #[(.int p1)] 1)) t := fun t k => castTop (ef_5 m p1) k
  -- 3. LAWS
  -- pc 3: com/example/bindery/bindery/ber/BerTag.checkNumber by its contract rm2
  obtain ⟨_, _, ⟨T2, L2, k2, n2⟩, -, X2, ⟨Lc2, hQ2, l2, y2, z2⟩, st2⟩ := Jvm.LawKit.callS X0 hx (y := (⟨"com/example/bindery/bindery/ber/BerTag", "checkNumber", "(I)I"⟩ : MethodName)) hown (mvT hZ (hw _ (List.mem_of_getElem? (i := 5) rfl))) (mvT hZ (hw _ (List.mem_of_getElem? (i := 6) rfl))) (mvT hZ (hw _ (List.mem_of_getElem? (i := 3) rfl))) (mvT hZ (hw _ (List.mem_of_getElem? (i := 7) rfl))) (by decide) (backOf (W := 1) (rm2 l Z a0 hw [] p1 h0 n0 Z0 hlo hhi) hZ (hw _ (List.mem_of_getElem? (i := 7) rfl)) (hw _ (List.mem_of_getElem? (i := 3) rfl)) (by decide) (by decide)) (g := (mkF m 3 #[.val (.int p1)] [(.int p1), (.int (96 : Int32))])) rfl (by rw [hml]; rfl) (argsL := [(.int p1)]) (rest := [(.int (96 : Int32))]) (lenOf pd_5_0 rfl) rfl (by show 2 * 0 + _ ≤ _; exact Nat.le_of_eq rfl) (hb hby d5_3) (fun _ _ => ⟨rfl, e0, (by decide : 0 + 0 ≤ _), (by decide : 0 + 0 ≤ _)⟩)
  dsimp only [Pt.U, Pt.locs, Pt.cells, Pt.slots] at X2 l2 y2 z2 st2 hQ2
  subst l2 y2 z2
  obtain ⟨rfl, N2q, e2h⟩ := hQ2      -- what it returned, that it wrote nothing old, and the rest of your Q2
  have N2 := Fr.app N0 N2q
  obtain ⟨fs, hr, hrun, hended, hW, hsame⟩ := X2.leave (v := some (.int ((96 : Int32) ||| p1))) (fun h => by rw [Bd.returns] at h; cases h)
  refine ⟨_, _, pre0 _ ?_, hrun, hended, _, _, rfl, ?_, ⟨_, rfl⟩, hW, hsame.mono (by decide) (by decide)⟩
  -- 4. STEPS
  · show Steps p.tables e below (s₁.setTop (mkF m 0 #[.val (.int p1)] [])) _
    refine XS.bipush X0.here hx rfl (hb hby d5_0) ?_
    show Steps p.tables e below (s₁.setTop (mkF m 2 #[.val (.int p1)] [(.int (96 : Int32))])) _
    refine XS.iloadN X0.here hx rfl (hb hby d5_2) rfl ?_
    show Steps p.tables e below (s₁.setTop (mkF m 3 #[.val (.int p1)] [(.int p1), (.int (96 : Int32))])) _
    refine st2 _ ?_
    show Steps p.tables e below (T2.setTop (mkF m 6 #[.val (.int p1)] [(.int p1), (.int (96 : Int32))])) _
    refine XS.ior X2.here hx rfl (hb hby d5_6) rfl ?_
    show Steps p.tables e below (T2.setTop (mkF m 7 #[.val (.int p1)] [(.int ((96 : Int32) ||| p1))])) _
    exact retI X2 hx Bd.returns (hb hby d5_7) hr      -- retI stands in the head ('lawwalk <made dir>' prints it)
  · show Q5 Z p1 h0 n0 _ T2.heap _
    exact ⟨rfl, N2, e2h⟩
def Q6 (Z : State) (p1 : Int32) (h0 : Heap) (n0 : Nat) (v : Option Value) (h : Heap) (L : List Loc) : Prop := v = some (.int ((64 : Int32) ||| p1)) ∧ Fr n0 L ∧ h = h0
theorem d6_0 : decode prog_9_method_2_code 0 = .ok (.bipush 64, 2) := by decide +kernel
theorem d6_2 : decode prog_9_method_2_code 2 = .ok (.iload_n 0, 1) := by decide +kernel
theorem d6_3 : decode prog_9_method_2_code 3 = .ok (.invokestatic 9, 3) := by decide +kernel
theorem d6_6 : decode prog_9_method_2_code 6 = .ok (.ior, 1) := by decide +kernel
theorem d6_7 : decode prog_9_method_2_code 7 = .ok (.ireturn, 1) := by decide +kernel
theorem pn_6 : plainName "com/example/bindery/bindery/ber/BerTag" = true := by first | (simp [plainName, overriddenIn]; done) | decide +kernel
theorem pd_6_0 : parseMethodDescriptor "(I)I" = some ⟨[.int], some .int⟩ := by decide +kernel
theorem ef_6 (m : MethodId) (x0 : Int32) : entryFrame m #[(.int x0)] 1 = mkF m 0 #[.val (.int x0)] [] := by first | (simp [entryFrame, mkF, argsToLocals, Value.category]; done) | rfl
set_option maxRecDepth 65536 in
set_option maxHeartbeats 40000000 in
theorem rm6 (l : Launch) (Z : State) (a0 : Array Value) (hw : ∀ d ∈ tables_1, d.before a0 Z = true) (ws : List Jvm.Cond) (p1 : Int32) (h0 : Heap) (n0 : Nat) (Z0 : n0 ≤ h0.size) (hlo : ¬ (p1 < (0 : Int32))) (hhi : ¬ ((30 : Int32) < p1)) :
    MetFree l (⟨"com/example/bindery/bindery/ber/BerTag", "applicationPrimitive", "(I)I"⟩ : MethodName) (head1 (Jvm.Cond.code (⟨"com/example/bindery/bindery/ber/BerTag", "applicationPrimitive", "(I)I"⟩ : MethodName) prog_9_method_2_code 1 (some .int) :: ws) ({ frames := 1, cells := 0, slots := 0, locals := 13 } : Room)) (fun a U => a = #[(.int p1)] ∧ Z.Warmed39 U.vm ∧ U.heap = h0) (fun _ _ _ _ _ => True) (fun _ U o U' => ∃ v L, o = .returned v ∧ Q6 Z p1 h0 n0 v U'.heap L ∧ FrameEnd U o U' L ({ frames := 1, cells := 0, slots := 0, locals := 13 } : Room).cells ({ frames := 1, cells := 0, slots := 0, locals := 13 } : Room).slots) := by
  refine MetFree.of_bodySF (plainFor_of_name pn_6) hisR ?_
  intro p e s m args below meth c s₁ Bd hml0 hP hK
  obtain ⟨rfl, hZ, hh⟩ := hP
  have hx := Bd.exec
  have hby := Bd.bytes
  have hml : c.maxLocals = 1 := hml0
  have hown : s.vm.findClass "com/example/bindery/bindery/ber/BerTag" = some m.cls := findClass_of_methodNamed Bd.named
  have hnm := (name_of_methodNamed Bd.named Bd.method).1
  have X0 : Stand p l e ({ frames := 1, cells := 0, slots := 0, locals := 13 } : Room) s m #[(.int p1)] below meth c s₁ [] 0 0 := Stand.of_body Bd
  have e0 : s₁.heap = h0 := by rw [← hh, Bd.state]; rfl
  have N0 := Fr.nil n0
  have pre0 : ∀ t, Steps p.tables e below (s₁.setTop (mkF m 0 #[.val (.int p1)] [])) t → Steps p.tables e below (s₁.setTop (entryFrame m #[(.int p1)] 1)) t := fun t k => castTop (ef_6 m p1) k
  -- 3. LAWS
  -- pc 3: com/example/bindery/bindery/ber/BerTag.checkNumber by its contract rm2
  obtain ⟨_, _, ⟨T2, L2, k2, n2⟩, -, X2, ⟨Lc2, hQ2, l2, y2, z2⟩, st2⟩ := Jvm.LawKit.callS X0 hx (y := (⟨"com/example/bindery/bindery/ber/BerTag", "checkNumber", "(I)I"⟩ : MethodName)) hown (mvT hZ (hw _ (List.mem_of_getElem? (i := 5) rfl))) (mvT hZ (hw _ (List.mem_of_getElem? (i := 6) rfl))) (mvT hZ (hw _ (List.mem_of_getElem? (i := 3) rfl))) (mvT hZ (hw _ (List.mem_of_getElem? (i := 7) rfl))) (by decide) (backOf (W := 1) (rm2 l Z a0 hw [] p1 h0 n0 Z0 hlo hhi) hZ (hw _ (List.mem_of_getElem? (i := 7) rfl)) (hw _ (List.mem_of_getElem? (i := 3) rfl)) (by decide) (by decide)) (g := (mkF m 3 #[.val (.int p1)] [(.int p1), (.int (64 : Int32))])) rfl (by rw [hml]; rfl) (argsL := [(.int p1)]) (rest := [(.int (64 : Int32))]) (lenOf pd_6_0 rfl) rfl (by show 2 * 0 + _ ≤ _; exact Nat.le_of_eq rfl) (hb hby d6_3) (fun _ _ => ⟨rfl, e0, (by decide : 0 + 0 ≤ _), (by decide : 0 + 0 ≤ _)⟩)
  dsimp only [Pt.U, Pt.locs, Pt.cells, Pt.slots] at X2 l2 y2 z2 st2 hQ2
  subst l2 y2 z2
  obtain ⟨rfl, N2q, e2h⟩ := hQ2      -- what it returned, that it wrote nothing old, and the rest of your Q2
  have N2 := Fr.app N0 N2q
  obtain ⟨fs, hr, hrun, hended, hW, hsame⟩ := X2.leave (v := some (.int ((64 : Int32) ||| p1))) (fun h => by rw [Bd.returns] at h; cases h)
  refine ⟨_, _, pre0 _ ?_, hrun, hended, _, _, rfl, ?_, ⟨_, rfl⟩, hW, hsame.mono (by decide) (by decide)⟩
  -- 4. STEPS
  · show Steps p.tables e below (s₁.setTop (mkF m 0 #[.val (.int p1)] [])) _
    refine XS.bipush X0.here hx rfl (hb hby d6_0) ?_
    show Steps p.tables e below (s₁.setTop (mkF m 2 #[.val (.int p1)] [(.int (64 : Int32))])) _
    refine XS.iloadN X0.here hx rfl (hb hby d6_2) rfl ?_
    show Steps p.tables e below (s₁.setTop (mkF m 3 #[.val (.int p1)] [(.int p1), (.int (64 : Int32))])) _
    refine st2 _ ?_
    show Steps p.tables e below (T2.setTop (mkF m 6 #[.val (.int p1)] [(.int p1), (.int (64 : Int32))])) _
    refine XS.ior X2.here hx rfl (hb hby d6_6) rfl ?_
    show Steps p.tables e below (T2.setTop (mkF m 7 #[.val (.int p1)] [(.int ((64 : Int32) ||| p1))])) _
    exact retI X2 hx Bd.returns (hb hby d6_7) hr      -- retI stands in the head ('lawwalk <made dir>' prints it)
  · show Q6 Z p1 h0 n0 _ T2.heap _
    exact ⟨rfl, N2, e2h⟩
def Q3 (r : Int32) (Z : State) (p1 : Int32) (h0 : Heap) (n0 : Nat) (v : Option Value) (h : Heap) (L : List Loc) : Prop := v = some (.int r) ∧ Fr n0 L ∧ h = h0
theorem d3_0 : decode prog_9_method_7_code 0 = .ok (.iload_n 0, 1) := by decide +kernel
theorem d3_1 : decode prog_9_method_7_code 1 = .ok (.bipush 32, 2) := by decide +kernel
theorem d3_3 : decode prog_9_method_7_code 3 = .ok (.iand, 1) := by decide +kernel
theorem d3_4 : decode prog_9_method_7_code 4 = .ok (.ifCond .eq 7, 3) := by decide +kernel
theorem d3_11 : decode prog_9_method_7_code 11 = .ok (.iconst 0, 1) := by decide +kernel
theorem d3_12 : decode prog_9_method_7_code 12 = .ok (.ireturn, 1) := by decide +kernel
theorem pn_3 : plainName "com/example/bindery/bindery/ber/BerTag" = true := by first | (simp [plainName, overriddenIn]; done) | decide +kernel
theorem ef_3 (m : MethodId) (x0 : Int32) : entryFrame m #[(.int x0)] 1 = mkF m 0 #[.val (.int x0)] [] := by first | (simp [entryFrame, mkF, argsToLocals, Value.category]; done) | rfl
set_option maxRecDepth 65536 in
set_option maxHeartbeats 40000000 in
theorem rm3a (l : Launch) (Z : State) (a0 : Array Value) (hw : ∀ d ∈ tables_1, d.before a0 Z = true) (ws : List Jvm.Cond) (p1 : Int32) (h0 : Heap) (n0 : Nat) (Z0 : n0 ≤ h0.size) (hc4 : (p1 &&& (32 : Int32)) = (0 : Int32)) :
    MetFree l (⟨"com/example/bindery/bindery/ber/BerTag", "isConstructed", "(I)Z"⟩ : MethodName) (head1 (Jvm.Cond.code (⟨"com/example/bindery/bindery/ber/BerTag", "isConstructed", "(I)Z"⟩ : MethodName) prog_9_method_7_code 1 (some .boolean) :: ws) ({ frames := 0, cells := 0, slots := 0, locals := 0 } : Room)) (fun a U => a = #[(.int p1)] ∧ Z.Warmed39 U.vm ∧ U.heap = h0) (fun _ _ _ _ _ => True) (fun _ U o U' => ∃ v L, o = .returned v ∧ Q3 (0 : Int32) Z p1 h0 n0 v U'.heap L ∧ FrameEnd U o U' L ({ frames := 0, cells := 0, slots := 0, locals := 0 } : Room).cells ({ frames := 0, cells := 0, slots := 0, locals := 0 } : Room).slots) := by
  refine MetFree.of_bodySF (plainFor_of_name pn_3) hisR ?_
  intro p e s m args below meth c s₁ Bd hml0 hP hK
  obtain ⟨rfl, hZ, hh⟩ := hP
  have hx := Bd.exec
  have hby := Bd.bytes
  have hml : c.maxLocals = 1 := hml0
  have hown : s.vm.findClass "com/example/bindery/bindery/ber/BerTag" = some m.cls := findClass_of_methodNamed Bd.named
  have hnm := (name_of_methodNamed Bd.named Bd.method).1
  have X0 : Stand p l e ({ frames := 0, cells := 0, slots := 0, locals := 0 } : Room) s m #[(.int p1)] below meth c s₁ [] 0 0 := Stand.of_body Bd
  have e0 : s₁.heap = h0 := by rw [← hh, Bd.state]; rfl
  have N0 := Fr.nil n0
  have pre0 : ∀ t, Steps p.tables e below (s₁.setTop (mkF m 0 #[.val (.int p1)] [])) t → Steps p.tables e below (s₁.setTop (entryFrame m #[(.int p1)] 1)) t := fun t k => castTop (ef_3 m p1) k
  -- 3. LAWS

  obtain ⟨fs, hr, hrun, hended, hW, hsame⟩ := X0.leave (v := some (.int (0 : Int32))) (fun h => by rw [Bd.returns] at h; cases h)
  refine ⟨_, _, pre0 _ ?_, hrun, hended, _, _, rfl, ?_, ⟨_, rfl⟩, hW, hsame.mono (by decide) (by decide)⟩
  -- 4. STEPS
  · show Steps p.tables e below (s₁.setTop (mkF m 0 #[.val (.int p1)] [])) _
    refine XS.iloadN X0.here hx rfl (hb hby d3_0) rfl ?_
    show Steps p.tables e below (s₁.setTop (mkF m 1 #[.val (.int p1)] [(.int p1)])) _
    refine XS.bipush X0.here hx rfl (hb hby d3_1) ?_
    show Steps p.tables e below (s₁.setTop (mkF m 3 #[.val (.int p1)] [(.int (32 : Int32)), (.int p1)])) _
    refine XS.iand X0.here hx rfl (hb hby d3_3) rfl ?_
    show Steps p.tables e below (s₁.setTop (mkF m 4 #[.val (.int p1)] [(.int (p1 &&& (32 : Int32)))])) _
    refine XS.ifYes X0.here hx rfl (pc0 := 4) (pc' := 11) rfl (hb hby d3_4) rfl ((if0 _ _).trans (teq hc4).1) (by decide) (by decide) ?_
    show Steps p.tables e below (s₁.setTop (mkF m 11 #[.val (.int p1)] [])) _
    refine XS.iconst X0.here hx rfl (hb hby d3_11) ?_
    show Steps p.tables e below (s₁.setTop (mkF m 12 #[.val (.int p1)] [(.int (0 : Int32))])) _
    exact retN X0 hx (t := .boolean) Bd.returns (by simp) (hb hby d3_12) hr
  · show Q3 (0 : Int32) Z p1 h0 n0 _ s₁.heap _
    rw [e0]
    exact ⟨rfl, N0, rfl⟩
theorem d3_7 : decode prog_9_method_7_code 7 = .ok (.iconst 1, 1) := by decide +kernel
theorem d3_8 : decode prog_9_method_7_code 8 = .ok (.goto 4, 3) := by decide +kernel
set_option maxRecDepth 65536 in
set_option maxHeartbeats 40000000 in
theorem rm3b (l : Launch) (Z : State) (a0 : Array Value) (hw : ∀ d ∈ tables_1, d.before a0 Z = true) (ws : List Jvm.Cond) (p1 : Int32) (h0 : Heap) (n0 : Nat) (Z0 : n0 ≤ h0.size) (hc4 : ¬ ((p1 &&& (32 : Int32)) = (0 : Int32))) :
    MetFree l (⟨"com/example/bindery/bindery/ber/BerTag", "isConstructed", "(I)Z"⟩ : MethodName) (head1 (Jvm.Cond.code (⟨"com/example/bindery/bindery/ber/BerTag", "isConstructed", "(I)Z"⟩ : MethodName) prog_9_method_7_code 1 (some .boolean) :: ws) ({ frames := 0, cells := 0, slots := 0, locals := 0 } : Room)) (fun a U => a = #[(.int p1)] ∧ Z.Warmed39 U.vm ∧ U.heap = h0) (fun _ _ _ _ _ => True) (fun _ U o U' => ∃ v L, o = .returned v ∧ Q3 (1 : Int32) Z p1 h0 n0 v U'.heap L ∧ FrameEnd U o U' L ({ frames := 0, cells := 0, slots := 0, locals := 0 } : Room).cells ({ frames := 0, cells := 0, slots := 0, locals := 0 } : Room).slots) := by
  refine MetFree.of_bodySF (plainFor_of_name pn_3) hisR ?_
  intro p e s m args below meth c s₁ Bd hml0 hP hK
  obtain ⟨rfl, hZ, hh⟩ := hP
  have hx := Bd.exec
  have hby := Bd.bytes
  have hml : c.maxLocals = 1 := hml0
  have hown : s.vm.findClass "com/example/bindery/bindery/ber/BerTag" = some m.cls := findClass_of_methodNamed Bd.named
  have hnm := (name_of_methodNamed Bd.named Bd.method).1
  have X0 : Stand p l e ({ frames := 0, cells := 0, slots := 0, locals := 0 } : Room) s m #[(.int p1)] below meth c s₁ [] 0 0 := Stand.of_body Bd
  have e0 : s₁.heap = h0 := by rw [← hh, Bd.state]; rfl
  have N0 := Fr.nil n0
  have pre0 : ∀ t, Steps p.tables e below (s₁.setTop (mkF m 0 #[.val (.int p1)] [])) t → Steps p.tables e below (s₁.setTop (entryFrame m #[(.int p1)] 1)) t := fun t k => castTop (ef_3 m p1) k
  -- 3. LAWS

  obtain ⟨fs, hr, hrun, hended, hW, hsame⟩ := X0.leave (v := some (.int (1 : Int32))) (fun h => by rw [Bd.returns] at h; cases h)
  refine ⟨_, _, pre0 _ ?_, hrun, hended, _, _, rfl, ?_, ⟨_, rfl⟩, hW, hsame.mono (by decide) (by decide)⟩
  -- 4. STEPS
  · show Steps p.tables e below (s₁.setTop (mkF m 0 #[.val (.int p1)] [])) _
    refine XS.iloadN X0.here hx rfl (hb hby d3_0) rfl ?_
    show Steps p.tables e below (s₁.setTop (mkF m 1 #[.val (.int p1)] [(.int p1)])) _
    refine XS.bipush X0.here hx rfl (hb hby d3_1) ?_
    show Steps p.tables e below (s₁.setTop (mkF m 3 #[.val (.int p1)] [(.int (32 : Int32)), (.int p1)])) _
    refine XS.iand X0.here hx rfl (hb hby d3_3) rfl ?_
    show Steps p.tables e below (s₁.setTop (mkF m 4 #[.val (.int p1)] [(.int (p1 &&& (32 : Int32)))])) _
    refine XS.ifNo X0.here hx rfl (hb hby d3_4) rfl ((if0 _ _).trans (feq hc4).1) ?_
    show Steps p.tables e below (s₁.setTop (mkF m 7 #[.val (.int p1)] [])) _
    refine XS.iconst X0.here hx rfl (hb hby d3_7) ?_
    show Steps p.tables e below (s₁.setTop (mkF m 8 #[.val (.int p1)] [(.int (1 : Int32))])) _
    refine XS.goto X0.here hx rfl (pc0 := 8) (pc' := 12) rfl (hb hby d3_8) (by decide) (by decide) ?_
    show Steps p.tables e below (s₁.setTop (mkF m 12 #[.val (.int p1)] [(.int (1 : Int32))])) _
    exact retN X0 hx (t := .boolean) Bd.returns (by simp) (hb hby d3_12) hr
  · show Q3 (1 : Int32) Z p1 h0 n0 _ s₁.heap _
    rw [e0]
    exact ⟨rfl, N0, rfl⟩
theorem rm3 (l : Launch) (Z : State) (a0 : Array Value) (hw : ∀ d ∈ tables_1, d.before a0 Z = true) (ws : List Jvm.Cond) (p1 : Int32) (h0 : Heap) (n0 : Nat) (Z0 : n0 ≤ h0.size) :
    MetFree l (⟨"com/example/bindery/bindery/ber/BerTag", "isConstructed", "(I)Z"⟩ : MethodName) (head1 (Jvm.Cond.code (⟨"com/example/bindery/bindery/ber/BerTag", "isConstructed", "(I)Z"⟩ : MethodName) prog_9_method_7_code 1 (some .boolean) :: ws) ({ frames := 0, cells := 0, slots := 0, locals := 0 } : Room)) (fun a U => a = #[(.int p1)] ∧ Z.Warmed39 U.vm ∧ U.heap = h0) (fun _ _ _ _ _ => True) (fun _ U o U' => ∃ v L, o = .returned v ∧ Q3 (own_ic p1) Z p1 h0 n0 v U'.heap L ∧ FrameEnd U o U' L ({ frames := 0, cells := 0, slots := 0, locals := 0 } : Room).cells ({ frames := 0, cells := 0, slots := 0, locals := 0 } : Room).slots) := by
  unfold own_ic
  by_cases h1 : (p1 &&& (32 : Int32)) = 0
  · rw [if_pos h1]; exact rm3a l Z a0 hw ws p1 h0 n0 Z0 h1
  · rw [if_neg h1]; exact rm3b l Z a0 hw ws p1 h0 n0 Z0 h1
def Q0 (Z : State) (p1 : Int32) (p2 : Int32) (p3 : Int32) (h0 : Heap) (n0 : Nat) (v : Option Value) (h : Heap) (L : List Loc) : Prop := v = some (.int 1) ∧ Fr n0 L
theorem pn_0 : plainName "com/example/bindery/bindery/ber/BerTagIsConstructedPinLaw" = true := by first | (simp [plainName, overriddenIn]; done) | decide +kernel
theorem pd_0_0 : parseMethodDescriptor "(I)I" = some ⟨[.int], some .int⟩ := by decide +kernel
theorem pd_0_1 : parseMethodDescriptor "(I)Z" = some ⟨[.int], some .boolean⟩ := by decide +kernel
theorem ef_0 (m : MethodId) (x0 : Int32) (x1 : Int32) (x2 : Int32) : entryFrame m #[(.int x0), (.int x1), (.int x2)] maxLocals = mkF m 0 #[.val (.int x0), .val (.int x1), .val (.int x2), .unset, .unset, .unset, .unset, .unset, .unset, .unset, .unset] [] := by first | (simp [entryFrame, mkF, argsToLocals, Value.category, maxLocals]; done) | rfl
set_option maxRecDepth 65536 in
set_option maxHeartbeats 40000000 in
theorem rm0a (l : Launch) (Z : State) (a0 : Array Value) (hw : ∀ d ∈ tables_1, d.before a0 Z = true) (ws : List Jvm.Cond) (p1 : Int32) (p2 : Int32) (p3 : Int32) (h0 : Heap) (n0 : Nat) (Z0 : n0 ≤ h0.size) (hnz12 : ¬ ((31 : Int32) = (0 : Int32))) (hc22 : (p3 &&& (3 : Int32)) = (0 : Int32)) (hc134 : ¬ ((1 : Int32) = (0 : Int32))) :
    MetFree l x (head1 (Jvm.Cond.code x code maxLocals ret :: ws) room_1) (fun a U => a = #[(.int p1), (.int p2), (.int p3)] ∧ Z.Warmed39 U.vm ∧ U.heap = h0) (fun _ _ _ _ _ => True) (fun _ U o U' => ∃ v L, o = .returned v ∧ Q0 Z p1 p2 p3 h0 n0 v U'.heap L ∧ FrameEnd U o U' L room_1.cells room_1.slots) := by
  refine MetFree.of_bodySF (plainFor_of_name pn_0) hisR ?_
  intro p e s m args below meth c s₁ Bd hml0 hP hK
  obtain ⟨rfl, hZ, hh⟩ := hP
  have hx := Bd.exec
  have hby := Bd.bytes
  have hml : c.maxLocals = 11 := hml0
  have hown : s.vm.findClass "com/example/bindery/bindery/ber/BerTagIsConstructedPinLaw" = some m.cls := findClass_of_methodNamed Bd.named
  have hnm := (name_of_methodNamed Bd.named Bd.method).1
  have X0 : Stand p l e room_1 s m #[(.int p1), (.int p2), (.int p3)] below meth c s₁ [] 0 0 := Stand.of_body Bd
  have e0 : s₁.heap = h0 := by rw [← hh, Bd.state]; rfl
  have N0 := Fr.nil n0
  have pre0 : ∀ t, Steps p.tables e below (s₁.setTop (mkF m 0 #[.val (.int p1), .val (.int p2), .val (.int p3), .unset, .unset, .unset, .unset, .unset, .unset, .unset, .unset] [])) t → Steps p.tables e below (s₁.setTop (entryFrame m #[(.int p1), (.int p2), (.int p3)] maxLocals)) t := fun t k => castTop (ef_0 m p1 p2 p3) k
  -- 3. LAWS
  -- pc 27: com/example/bindery/bindery/ber/BerTag.applicationPrimitive by its contract rm6
  obtain ⟨_, _, ⟨T4, L4, k4, n4⟩, -, X4, ⟨Lc4, hQ4, l4, y4, z4⟩, st4⟩ := Jvm.LawKit.callS X0 hx (y := (⟨"com/example/bindery/bindery/ber/BerTag", "applicationPrimitive", "(I)I"⟩ : MethodName)) hown (mvT hZ (hw _ (List.mem_of_getElem? (i := 17) rfl))) (mvT hZ (hw _ (List.mem_of_getElem? (i := 18) rfl))) (mvT hZ (hw _ (List.mem_of_getElem? (i := 3) rfl))) (mvT hZ (hw _ (List.mem_of_getElem? (i := 19) rfl))) (by decide) (backOf (W := 0) (rm6 l Z a0 hw [] (own_n p2) h0 n0 Z0 (own_n_lo p2) (own_n_hi p2)) hZ (hw _ (List.mem_of_getElem? (i := 19) rfl)) (hw _ (List.mem_of_getElem? (i := 3) rfl)) (by decide) (by decide)) (g := (mkF m 27 #[.val (.int p1), .val (.int p2), .val (.int p3), .val (.int (p1 &&& (255 : Int32))), .val (.int (own_n p2)), .val (.int (p3 &&& (3 : Int32))), .unset, .unset, .unset, .unset, .unset] [(.int (own_n p2))])) rfl (by rw [hml]; rfl) (argsL := [(.int (own_n p2))]) (rest := []) (lenOf pd_0_0 rfl) rfl (by show 2 * 0 + _ ≤ _; exact Nat.le_of_eq rfl) (hb hby at_27) (fun _ _ => ⟨rfl, e0, (by decide : 0 + 0 ≤ _), (by decide : 0 + 0 ≤ _)⟩)
  dsimp only [Pt.U, Pt.locs, Pt.cells, Pt.slots] at X4 l4 y4 z4 st4 hQ4
  subst l4 y4 z4
  obtain ⟨rfl, N4q, e4h⟩ := hQ4      -- what it returned, that it wrote nothing old, and the rest of your Q6
  have N4 := Fr.app N0 N4q
  -- pc 90: com/example/bindery/bindery/ber/BerTag.isConstructed by its contract rm3
  obtain ⟨_, _, ⟨T5, L5, k5, n5⟩, -, X5, ⟨Lc5, hQ5, l5, y5, z5⟩, st5⟩ := Jvm.LawKit.callS X4 hx (y := (⟨"com/example/bindery/bindery/ber/BerTag", "isConstructed", "(I)Z"⟩ : MethodName)) hown (mvT hZ (hw _ (List.mem_of_getElem? (i := 8) rfl))) (mvT hZ (hw _ (List.mem_of_getElem? (i := 9) rfl))) (mvT hZ (hw _ (List.mem_of_getElem? (i := 3) rfl))) (mvT hZ (hw _ (List.mem_of_getElem? (i := 10) rfl))) (by decide) (backOf (W := 0) (rm3 l Z a0 hw [] ((p1 &&& (255 : Int32)) ||| (32 : Int32)) T4.heap n0 (by rw [e4h]; exact Z0)) hZ (hw _ (List.mem_of_getElem? (i := 10) rfl)) (hw _ (List.mem_of_getElem? (i := 3) rfl)) (by decide) (by decide)) (g := (mkF m 90 #[.val (.int p1), .val (.int p2), .val (.int p3), .val (.int (p1 &&& (255 : Int32))), .val (.int (own_n p2)), .val (.int (p3 &&& (3 : Int32))), .val (.int ((64 : Int32) ||| (own_n p2))), .val (.int (0 : Int32)), .unset, .unset, .unset] [(.int ((p1 &&& (255 : Int32)) ||| (32 : Int32)))])) rfl (by rw [hml]; rfl) (argsL := [(.int ((p1 &&& (255 : Int32)) ||| (32 : Int32)))]) (rest := []) (lenOf pd_0_1 rfl) rfl (by show 2 * 0 + _ ≤ _; exact Nat.le_of_eq rfl) (hb hby at_90) (fun _ _ => ⟨rfl, rfl, (by decide : 0 + 0 ≤ _), (by decide : 0 + 0 ≤ _)⟩)
  dsimp only [Pt.U, Pt.locs, Pt.cells, Pt.slots] at X5 l5 y5 z5 st5 hQ5
  subst l5 y5 z5
  obtain ⟨rfl, N5q, e5h⟩ := hQ5      -- what it returned, that it wrote nothing old, and the rest of your Q3
  have N5 := Fr.app N4 N5q
  -- pc 100: com/example/bindery/bindery/ber/BerTag.isConstructed by its contract rm3
  obtain ⟨_, _, ⟨T6, L6, k6, n6⟩, -, X6, ⟨Lc6, hQ6, l6, y6, z6⟩, st6⟩ := Jvm.LawKit.callS X5 hx (y := (⟨"com/example/bindery/bindery/ber/BerTag", "isConstructed", "(I)Z"⟩ : MethodName)) hown (mvT hZ (hw _ (List.mem_of_getElem? (i := 8) rfl))) (mvT hZ (hw _ (List.mem_of_getElem? (i := 9) rfl))) (mvT hZ (hw _ (List.mem_of_getElem? (i := 3) rfl))) (mvT hZ (hw _ (List.mem_of_getElem? (i := 10) rfl))) (by decide) (backOf (W := 0) (rm3 l Z a0 hw [] ((p1 &&& (255 : Int32)) &&& (223 : Int32)) T5.heap n0 (by rw [e5h, e4h]; exact Z0)) hZ (hw _ (List.mem_of_getElem? (i := 10) rfl)) (hw _ (List.mem_of_getElem? (i := 3) rfl)) (by decide) (by decide)) (g := (mkF m 100 #[.val (.int p1), .val (.int p2), .val (.int p3), .val (.int (p1 &&& (255 : Int32))), .val (.int (own_n p2)), .val (.int (p3 &&& (3 : Int32))), .val (.int ((64 : Int32) ||| (own_n p2))), .val (.int (0 : Int32)), .val (.int (own_ic ((p1 &&& (255 : Int32)) ||| (32 : Int32)))), .unset, .unset] [(.int ((p1 &&& (255 : Int32)) &&& (223 : Int32)))])) rfl (by rw [hml]; rfl) (argsL := [(.int ((p1 &&& (255 : Int32)) &&& (223 : Int32)))]) (rest := []) (lenOf pd_0_1 rfl) rfl (by show 2 * 0 + _ ≤ _; exact Nat.le_of_eq rfl) (hb hby at_100) (fun _ _ => ⟨rfl, rfl, (by decide : 0 + 0 ≤ _), (by decide : 0 + 0 ≤ _)⟩)
  dsimp only [Pt.U, Pt.locs, Pt.cells, Pt.slots] at X6 l6 y6 z6 st6 hQ6
  subst l6 y6 z6
  obtain ⟨rfl, N6q, e6h⟩ := hQ6      -- what it returned, that it wrote nothing old, and the rest of your Q3
  have N6 := Fr.app N5 N6q
  -- pc 107: com/example/bindery/bindery/ber/BerTag.isConstructed by its contract rm3
  obtain ⟨_, _, ⟨T7, L7, k7, n7⟩, -, X7, ⟨Lc7, hQ7, l7, y7, z7⟩, st7⟩ := Jvm.LawKit.callS X6 hx (y := (⟨"com/example/bindery/bindery/ber/BerTag", "isConstructed", "(I)Z"⟩ : MethodName)) hown (mvT hZ (hw _ (List.mem_of_getElem? (i := 8) rfl))) (mvT hZ (hw _ (List.mem_of_getElem? (i := 9) rfl))) (mvT hZ (hw _ (List.mem_of_getElem? (i := 3) rfl))) (mvT hZ (hw _ (List.mem_of_getElem? (i := 10) rfl))) (by decide) (backOf (W := 0) (rm3 l Z a0 hw [] ((64 : Int32) ||| (own_n p2)) T6.heap n0 (by rw [e6h, e5h, e4h]; exact Z0)) hZ (hw _ (List.mem_of_getElem? (i := 10) rfl)) (hw _ (List.mem_of_getElem? (i := 3) rfl)) (by decide) (by decide)) (g := (mkF m 107 #[.val (.int p1), .val (.int p2), .val (.int p3), .val (.int (p1 &&& (255 : Int32))), .val (.int (own_n p2)), .val (.int (p3 &&& (3 : Int32))), .val (.int ((64 : Int32) ||| (own_n p2))), .val (.int (0 : Int32)), .val (.int (own_ic ((p1 &&& (255 : Int32)) ||| (32 : Int32)))), .val (.int (own_ic ((p1 &&& (255 : Int32)) &&& (223 : Int32)))), .unset] [(.int ((64 : Int32) ||| (own_n p2)))])) rfl (by rw [hml]; rfl) (argsL := [(.int ((64 : Int32) ||| (own_n p2)))]) (rest := []) (lenOf pd_0_1 rfl) rfl (by show 2 * 0 + _ ≤ _; exact Nat.le_of_eq rfl) (hb hby at_107) (fun _ _ => ⟨rfl, rfl, (by decide : 0 + 0 ≤ _), (by decide : 0 + 0 ≤ _)⟩)
  dsimp only [Pt.U, Pt.locs, Pt.cells, Pt.slots] at X7 l7 y7 z7 st7 hQ7
  subst l7 y7 z7
  obtain ⟨rfl, N7q, e7h⟩ := hQ7      -- what it returned, that it wrote nothing old, and the rest of your Q3
  have N7 := Fr.app N6 N7q
  obtain ⟨fs, hr, hrun, hended, hW, hsame⟩ := X7.leave (v := some (.int (1 : Int32))) (fun h => by rw [Bd.returns] at h; cases h)
  refine ⟨_, _, pre0 _ ?_, hrun, hended, _, _, rfl, ?_, ⟨_, rfl⟩, hW, hsame.mono (by decide) (by decide)⟩
  -- 4. STEPS
  · show Steps p.tables e below (s₁.setTop (mkF m 0 #[.val (.int p1), .val (.int p2), .val (.int p3), .unset, .unset, .unset, .unset, .unset, .unset, .unset, .unset] [])) _
    refine XS.iloadN X0.here hx rfl (hb hby at_0) rfl ?_
    show Steps p.tables e below (s₁.setTop (mkF m 1 #[.val (.int p1), .val (.int p2), .val (.int p3), .unset, .unset, .unset, .unset, .unset, .unset, .unset, .unset] [(.int p1)])) _
    refine XS.sipush X0.here hx rfl (hb hby at_1) ?_
    show Steps p.tables e below (s₁.setTop (mkF m 4 #[.val (.int p1), .val (.int p2), .val (.int p3), .unset, .unset, .unset, .unset, .unset, .unset, .unset, .unset] [(.int (255 : Int32)), (.int p1)])) _
    refine XS.iand X0.here hx rfl (hb hby at_4) rfl ?_
    show Steps p.tables e below (s₁.setTop (mkF m 5 #[.val (.int p1), .val (.int p2), .val (.int p3), .unset, .unset, .unset, .unset, .unset, .unset, .unset, .unset] [(.int (p1 &&& (255 : Int32)))])) _
    refine XS.istoreN X0.here hx rfl (hb hby at_5) rfl (l' := #[.val (.int p1), .val (.int p2), .val (.int p3), .val (.int (p1 &&& (255 : Int32))), .unset, .unset, .unset, .unset, .unset, .unset, .unset]) rfl ?_
    show Steps p.tables e below (s₁.setTop (mkF m 6 #[.val (.int p1), .val (.int p2), .val (.int p3), .val (.int (p1 &&& (255 : Int32))), .unset, .unset, .unset, .unset, .unset, .unset, .unset] [])) _
    refine XS.iloadN X0.here hx rfl (hb hby at_6) rfl ?_
    show Steps p.tables e below (s₁.setTop (mkF m 7 #[.val (.int p1), .val (.int p2), .val (.int p3), .val (.int (p1 &&& (255 : Int32))), .unset, .unset, .unset, .unset, .unset, .unset, .unset] [(.int p2)])) _
    refine X0.ldcInt hx hown (mvT hZ (hw _ (List.mem_of_getElem? (i := 0) rfl))) (g := (mkF m 7 #[.val (.int p1), .val (.int p2), .val (.int p3), .val (.int (p1 &&& (255 : Int32))), .unset, .unset, .unset, .unset, .unset, .unset, .unset] [(.int p2)])) rfl (hb hby at_7) _ ?_
    show Steps p.tables e below (s₁.setTop (mkF m 9 #[.val (.int p1), .val (.int p2), .val (.int p3), .val (.int (p1 &&& (255 : Int32))), .unset, .unset, .unset, .unset, .unset, .unset, .unset] [(.int (2147483647 : Int32)), (.int p2)])) _
    refine XS.iand X0.here hx rfl (hb hby at_9) rfl ?_
    show Steps p.tables e below (s₁.setTop (mkF m 10 #[.val (.int p1), .val (.int p2), .val (.int p3), .val (.int (p1 &&& (255 : Int32))), .unset, .unset, .unset, .unset, .unset, .unset, .unset] [(.int (p2 &&& (2147483647 : Int32)))])) _
    refine XS.bipush X0.here hx rfl (hb hby at_10) ?_
    show Steps p.tables e below (s₁.setTop (mkF m 12 #[.val (.int p1), .val (.int p2), .val (.int p3), .val (.int (p1 &&& (255 : Int32))), .unset, .unset, .unset, .unset, .unset, .unset, .unset] [(.int (31 : Int32)), (.int (p2 &&& (2147483647 : Int32)))])) _
    refine XS.irem X0.here hx rfl (hb hby at_12) rfl hnz12 ?_
    show Steps p.tables e below (s₁.setTop (mkF m 13 #[.val (.int p1), .val (.int p2), .val (.int p3), .val (.int (p1 &&& (255 : Int32))), .unset, .unset, .unset, .unset, .unset, .unset, .unset] [(.int (own_n p2))])) _
    refine XS.istore X0.here hx rfl (hb hby at_13) rfl (l' := #[.val (.int p1), .val (.int p2), .val (.int p3), .val (.int (p1 &&& (255 : Int32))), .val (.int (own_n p2)), .unset, .unset, .unset, .unset, .unset, .unset]) rfl ?_
    show Steps p.tables e below (s₁.setTop (mkF m 15 #[.val (.int p1), .val (.int p2), .val (.int p3), .val (.int (p1 &&& (255 : Int32))), .val (.int (own_n p2)), .unset, .unset, .unset, .unset, .unset, .unset] [])) _
    refine XS.iloadN X0.here hx rfl (hb hby at_15) rfl ?_
    show Steps p.tables e below (s₁.setTop (mkF m 16 #[.val (.int p1), .val (.int p2), .val (.int p3), .val (.int (p1 &&& (255 : Int32))), .val (.int (own_n p2)), .unset, .unset, .unset, .unset, .unset, .unset] [(.int p3)])) _
    refine XS.iconst X0.here hx rfl (hb hby at_16) ?_
    show Steps p.tables e below (s₁.setTop (mkF m 17 #[.val (.int p1), .val (.int p2), .val (.int p3), .val (.int (p1 &&& (255 : Int32))), .val (.int (own_n p2)), .unset, .unset, .unset, .unset, .unset, .unset] [(.int (3 : Int32)), (.int p3)])) _
    refine XS.iand X0.here hx rfl (hb hby at_17) rfl ?_
    show Steps p.tables e below (s₁.setTop (mkF m 18 #[.val (.int p1), .val (.int p2), .val (.int p3), .val (.int (p1 &&& (255 : Int32))), .val (.int (own_n p2)), .unset, .unset, .unset, .unset, .unset, .unset] [(.int (p3 &&& (3 : Int32)))])) _
    refine XS.istore X0.here hx rfl (hb hby at_18) rfl (l' := #[.val (.int p1), .val (.int p2), .val (.int p3), .val (.int (p1 &&& (255 : Int32))), .val (.int (own_n p2)), .val (.int (p3 &&& (3 : Int32))), .unset, .unset, .unset, .unset, .unset]) rfl ?_
    show Steps p.tables e below (s₁.setTop (mkF m 20 #[.val (.int p1), .val (.int p2), .val (.int p3), .val (.int (p1 &&& (255 : Int32))), .val (.int (own_n p2)), .val (.int (p3 &&& (3 : Int32))), .unset, .unset, .unset, .unset, .unset] [])) _
    refine XS.iload X0.here hx rfl (hb hby at_20) rfl ?_
    show Steps p.tables e below (s₁.setTop (mkF m 22 #[.val (.int p1), .val (.int p2), .val (.int p3), .val (.int (p1 &&& (255 : Int32))), .val (.int (own_n p2)), .val (.int (p3 &&& (3 : Int32))), .unset, .unset, .unset, .unset, .unset] [(.int (p3 &&& (3 : Int32)))])) _
    refine XS.ifNo X0.here hx rfl (hb hby at_22) rfl ((if0 _ _).trans (teq hc22).2) ?_
    show Steps p.tables e below (s₁.setTop (mkF m 25 #[.val (.int p1), .val (.int p2), .val (.int p3), .val (.int (p1 &&& (255 : Int32))), .val (.int (own_n p2)), .val (.int (p3 &&& (3 : Int32))), .unset, .unset, .unset, .unset, .unset] [])) _
    refine XS.iload X0.here hx rfl (hb hby at_25) rfl ?_
    show Steps p.tables e below (s₁.setTop (mkF m 27 #[.val (.int p1), .val (.int p2), .val (.int p3), .val (.int (p1 &&& (255 : Int32))), .val (.int (own_n p2)), .val (.int (p3 &&& (3 : Int32))), .unset, .unset, .unset, .unset, .unset] [(.int (own_n p2))])) _
    refine st4 _ ?_
    show Steps p.tables e below (T4.setTop (mkF m 30 #[.val (.int p1), .val (.int p2), .val (.int p3), .val (.int (p1 &&& (255 : Int32))), .val (.int (own_n p2)), .val (.int (p3 &&& (3 : Int32))), .unset, .unset, .unset, .unset, .unset] [(.int ((64 : Int32) ||| (own_n p2)))])) _
    refine XS.istore X4.here hx rfl (hb hby at_30) rfl (l' := #[.val (.int p1), .val (.int p2), .val (.int p3), .val (.int (p1 &&& (255 : Int32))), .val (.int (own_n p2)), .val (.int (p3 &&& (3 : Int32))), .val (.int ((64 : Int32) ||| (own_n p2))), .unset, .unset, .unset, .unset]) rfl ?_
    show Steps p.tables e below (T4.setTop (mkF m 32 #[.val (.int p1), .val (.int p2), .val (.int p3), .val (.int (p1 &&& (255 : Int32))), .val (.int (own_n p2)), .val (.int (p3 &&& (3 : Int32))), .val (.int ((64 : Int32) ||| (own_n p2))), .unset, .unset, .unset, .unset] [])) _
    refine XS.iconst X4.here hx rfl (hb hby at_32) ?_
    show Steps p.tables e below (T4.setTop (mkF m 33 #[.val (.int p1), .val (.int p2), .val (.int p3), .val (.int (p1 &&& (255 : Int32))), .val (.int (own_n p2)), .val (.int (p3 &&& (3 : Int32))), .val (.int ((64 : Int32) ||| (own_n p2))), .unset, .unset, .unset, .unset] [(.int (0 : Int32))])) _
    refine XS.istore X4.here hx rfl (hb hby at_33) rfl (l' := #[.val (.int p1), .val (.int p2), .val (.int p3), .val (.int (p1 &&& (255 : Int32))), .val (.int (own_n p2)), .val (.int (p3 &&& (3 : Int32))), .val (.int ((64 : Int32) ||| (own_n p2))), .val (.int (0 : Int32)), .unset, .unset, .unset]) rfl ?_
    show Steps p.tables e below (T4.setTop (mkF m 35 #[.val (.int p1), .val (.int p2), .val (.int p3), .val (.int (p1 &&& (255 : Int32))), .val (.int (own_n p2)), .val (.int (p3 &&& (3 : Int32))), .val (.int ((64 : Int32) ||| (own_n p2))), .val (.int (0 : Int32)), .unset, .unset, .unset] [])) _
    refine XS.goto X4.here hx rfl (pc0 := 35) (pc' := 86) rfl (hb hby at_35) (by decide) (by decide) ?_
    show Steps p.tables e below (T4.setTop (mkF m 86 #[.val (.int p1), .val (.int p2), .val (.int p3), .val (.int (p1 &&& (255 : Int32))), .val (.int (own_n p2)), .val (.int (p3 &&& (3 : Int32))), .val (.int ((64 : Int32) ||| (own_n p2))), .val (.int (0 : Int32)), .unset, .unset, .unset] [])) _
    refine XS.iloadN X4.here hx rfl (hb hby at_86) rfl ?_
    show Steps p.tables e below (T4.setTop (mkF m 87 #[.val (.int p1), .val (.int p2), .val (.int p3), .val (.int (p1 &&& (255 : Int32))), .val (.int (own_n p2)), .val (.int (p3 &&& (3 : Int32))), .val (.int ((64 : Int32) ||| (own_n p2))), .val (.int (0 : Int32)), .unset, .unset, .unset] [(.int (p1 &&& (255 : Int32)))])) _
    refine XS.bipush X4.here hx rfl (hb hby at_87) ?_
    show Steps p.tables e below (T4.setTop (mkF m 89 #[.val (.int p1), .val (.int p2), .val (.int p3), .val (.int (p1 &&& (255 : Int32))), .val (.int (own_n p2)), .val (.int (p3 &&& (3 : Int32))), .val (.int ((64 : Int32) ||| (own_n p2))), .val (.int (0 : Int32)), .unset, .unset, .unset] [(.int (32 : Int32)), (.int (p1 &&& (255 : Int32)))])) _
    refine XS.ior X4.here hx rfl (hb hby at_89) rfl ?_
    show Steps p.tables e below (T4.setTop (mkF m 90 #[.val (.int p1), .val (.int p2), .val (.int p3), .val (.int (p1 &&& (255 : Int32))), .val (.int (own_n p2)), .val (.int (p3 &&& (3 : Int32))), .val (.int ((64 : Int32) ||| (own_n p2))), .val (.int (0 : Int32)), .unset, .unset, .unset] [(.int ((p1 &&& (255 : Int32)) ||| (32 : Int32)))])) _
    refine st5 _ ?_
    show Steps p.tables e below (T5.setTop (mkF m 93 #[.val (.int p1), .val (.int p2), .val (.int p3), .val (.int (p1 &&& (255 : Int32))), .val (.int (own_n p2)), .val (.int (p3 &&& (3 : Int32))), .val (.int ((64 : Int32) ||| (own_n p2))), .val (.int (0 : Int32)), .unset, .unset, .unset] [(.int (own_ic ((p1 &&& (255 : Int32)) ||| (32 : Int32))))])) _
    refine XS.istore X5.here hx rfl (hb hby at_93) rfl (l' := #[.val (.int p1), .val (.int p2), .val (.int p3), .val (.int (p1 &&& (255 : Int32))), .val (.int (own_n p2)), .val (.int (p3 &&& (3 : Int32))), .val (.int ((64 : Int32) ||| (own_n p2))), .val (.int (0 : Int32)), .val (.int (own_ic ((p1 &&& (255 : Int32)) ||| (32 : Int32)))), .unset, .unset]) rfl ?_
    show Steps p.tables e below (T5.setTop (mkF m 95 #[.val (.int p1), .val (.int p2), .val (.int p3), .val (.int (p1 &&& (255 : Int32))), .val (.int (own_n p2)), .val (.int (p3 &&& (3 : Int32))), .val (.int ((64 : Int32) ||| (own_n p2))), .val (.int (0 : Int32)), .val (.int (own_ic ((p1 &&& (255 : Int32)) ||| (32 : Int32)))), .unset, .unset] [])) _
    refine XS.iloadN X5.here hx rfl (hb hby at_95) rfl ?_
    show Steps p.tables e below (T5.setTop (mkF m 96 #[.val (.int p1), .val (.int p2), .val (.int p3), .val (.int (p1 &&& (255 : Int32))), .val (.int (own_n p2)), .val (.int (p3 &&& (3 : Int32))), .val (.int ((64 : Int32) ||| (own_n p2))), .val (.int (0 : Int32)), .val (.int (own_ic ((p1 &&& (255 : Int32)) ||| (32 : Int32)))), .unset, .unset] [(.int (p1 &&& (255 : Int32)))])) _
    refine XS.sipush X5.here hx rfl (hb hby at_96) ?_
    show Steps p.tables e below (T5.setTop (mkF m 99 #[.val (.int p1), .val (.int p2), .val (.int p3), .val (.int (p1 &&& (255 : Int32))), .val (.int (own_n p2)), .val (.int (p3 &&& (3 : Int32))), .val (.int ((64 : Int32) ||| (own_n p2))), .val (.int (0 : Int32)), .val (.int (own_ic ((p1 &&& (255 : Int32)) ||| (32 : Int32)))), .unset, .unset] [(.int (223 : Int32)), (.int (p1 &&& (255 : Int32)))])) _
    refine XS.iand X5.here hx rfl (hb hby at_99) rfl ?_
    show Steps p.tables e below (T5.setTop (mkF m 100 #[.val (.int p1), .val (.int p2), .val (.int p3), .val (.int (p1 &&& (255 : Int32))), .val (.int (own_n p2)), .val (.int (p3 &&& (3 : Int32))), .val (.int ((64 : Int32) ||| (own_n p2))), .val (.int (0 : Int32)), .val (.int (own_ic ((p1 &&& (255 : Int32)) ||| (32 : Int32)))), .unset, .unset] [(.int ((p1 &&& (255 : Int32)) &&& (223 : Int32)))])) _
    refine st6 _ ?_
    show Steps p.tables e below (T6.setTop (mkF m 103 #[.val (.int p1), .val (.int p2), .val (.int p3), .val (.int (p1 &&& (255 : Int32))), .val (.int (own_n p2)), .val (.int (p3 &&& (3 : Int32))), .val (.int ((64 : Int32) ||| (own_n p2))), .val (.int (0 : Int32)), .val (.int (own_ic ((p1 &&& (255 : Int32)) ||| (32 : Int32)))), .unset, .unset] [(.int (own_ic ((p1 &&& (255 : Int32)) &&& (223 : Int32))))])) _
    refine XS.istore X6.here hx rfl (hb hby at_103) rfl (l' := #[.val (.int p1), .val (.int p2), .val (.int p3), .val (.int (p1 &&& (255 : Int32))), .val (.int (own_n p2)), .val (.int (p3 &&& (3 : Int32))), .val (.int ((64 : Int32) ||| (own_n p2))), .val (.int (0 : Int32)), .val (.int (own_ic ((p1 &&& (255 : Int32)) ||| (32 : Int32)))), .val (.int (own_ic ((p1 &&& (255 : Int32)) &&& (223 : Int32)))), .unset]) rfl ?_
    show Steps p.tables e below (T6.setTop (mkF m 105 #[.val (.int p1), .val (.int p2), .val (.int p3), .val (.int (p1 &&& (255 : Int32))), .val (.int (own_n p2)), .val (.int (p3 &&& (3 : Int32))), .val (.int ((64 : Int32) ||| (own_n p2))), .val (.int (0 : Int32)), .val (.int (own_ic ((p1 &&& (255 : Int32)) ||| (32 : Int32)))), .val (.int (own_ic ((p1 &&& (255 : Int32)) &&& (223 : Int32)))), .unset] [])) _
    refine XS.iload X6.here hx rfl (hb hby at_105) rfl ?_
    show Steps p.tables e below (T6.setTop (mkF m 107 #[.val (.int p1), .val (.int p2), .val (.int p3), .val (.int (p1 &&& (255 : Int32))), .val (.int (own_n p2)), .val (.int (p3 &&& (3 : Int32))), .val (.int ((64 : Int32) ||| (own_n p2))), .val (.int (0 : Int32)), .val (.int (own_ic ((p1 &&& (255 : Int32)) ||| (32 : Int32)))), .val (.int (own_ic ((p1 &&& (255 : Int32)) &&& (223 : Int32)))), .unset] [(.int ((64 : Int32) ||| (own_n p2)))])) _
    refine st7 _ ?_
    show Steps p.tables e below (T7.setTop (mkF m 110 #[.val (.int p1), .val (.int p2), .val (.int p3), .val (.int (p1 &&& (255 : Int32))), .val (.int (own_n p2)), .val (.int (p3 &&& (3 : Int32))), .val (.int ((64 : Int32) ||| (own_n p2))), .val (.int (0 : Int32)), .val (.int (own_ic ((p1 &&& (255 : Int32)) ||| (32 : Int32)))), .val (.int (own_ic ((p1 &&& (255 : Int32)) &&& (223 : Int32)))), .unset] [(.int (own_ic ((64 : Int32) ||| (own_n p2))))])) _
    refine XS.iload X7.here hx rfl (hb hby at_110) rfl ?_
    show Steps p.tables e below (T7.setTop (mkF m 112 #[.val (.int p1), .val (.int p2), .val (.int p3), .val (.int (p1 &&& (255 : Int32))), .val (.int (own_n p2)), .val (.int (p3 &&& (3 : Int32))), .val (.int ((64 : Int32) ||| (own_n p2))), .val (.int (0 : Int32)), .val (.int (own_ic ((p1 &&& (255 : Int32)) ||| (32 : Int32)))), .val (.int (own_ic ((p1 &&& (255 : Int32)) &&& (223 : Int32)))), .unset] [(.int (0 : Int32)), (.int (own_ic ((64 : Int32) ||| (own_n p2))))])) _
    refine XS.icmpNo X7.here hx rfl (hb hby at_112) rfl (teq ((own_built p2).1 : (own_ic ((64 : Int32) ||| (own_n p2))) = (0 : Int32))).2 ?_
    show Steps p.tables e below (T7.setTop (mkF m 115 #[.val (.int p1), .val (.int p2), .val (.int p3), .val (.int (p1 &&& (255 : Int32))), .val (.int (own_n p2)), .val (.int (p3 &&& (3 : Int32))), .val (.int ((64 : Int32) ||| (own_n p2))), .val (.int (0 : Int32)), .val (.int (own_ic ((p1 &&& (255 : Int32)) ||| (32 : Int32)))), .val (.int (own_ic ((p1 &&& (255 : Int32)) &&& (223 : Int32)))), .unset] [])) _
    refine XS.iconst X7.here hx rfl (hb hby at_115) ?_
    show Steps p.tables e below (T7.setTop (mkF m 116 #[.val (.int p1), .val (.int p2), .val (.int p3), .val (.int (p1 &&& (255 : Int32))), .val (.int (own_n p2)), .val (.int (p3 &&& (3 : Int32))), .val (.int ((64 : Int32) ||| (own_n p2))), .val (.int (0 : Int32)), .val (.int (own_ic ((p1 &&& (255 : Int32)) ||| (32 : Int32)))), .val (.int (own_ic ((p1 &&& (255 : Int32)) &&& (223 : Int32)))), .unset] [(.int (1 : Int32))])) _
    refine XS.goto X7.here hx rfl (pc0 := 116) (pc' := 120) rfl (hb hby at_116) (by decide) (by decide) ?_
    show Steps p.tables e below (T7.setTop (mkF m 120 #[.val (.int p1), .val (.int p2), .val (.int p3), .val (.int (p1 &&& (255 : Int32))), .val (.int (own_n p2)), .val (.int (p3 &&& (3 : Int32))), .val (.int ((64 : Int32) ||| (own_n p2))), .val (.int (0 : Int32)), .val (.int (own_ic ((p1 &&& (255 : Int32)) ||| (32 : Int32)))), .val (.int (own_ic ((p1 &&& (255 : Int32)) &&& (223 : Int32)))), .unset] [(.int (1 : Int32))])) _
    refine XS.istore X7.here hx rfl (hb hby at_120) rfl (l' := #[.val (.int p1), .val (.int p2), .val (.int p3), .val (.int (p1 &&& (255 : Int32))), .val (.int (own_n p2)), .val (.int (p3 &&& (3 : Int32))), .val (.int ((64 : Int32) ||| (own_n p2))), .val (.int (0 : Int32)), .val (.int (own_ic ((p1 &&& (255 : Int32)) ||| (32 : Int32)))), .val (.int (own_ic ((p1 &&& (255 : Int32)) &&& (223 : Int32)))), .val (.int (1 : Int32))]) rfl ?_
    show Steps p.tables e below (T7.setTop (mkF m 122 #[.val (.int p1), .val (.int p2), .val (.int p3), .val (.int (p1 &&& (255 : Int32))), .val (.int (own_n p2)), .val (.int (p3 &&& (3 : Int32))), .val (.int ((64 : Int32) ||| (own_n p2))), .val (.int (0 : Int32)), .val (.int (own_ic ((p1 &&& (255 : Int32)) ||| (32 : Int32)))), .val (.int (own_ic ((p1 &&& (255 : Int32)) &&& (223 : Int32)))), .val (.int (1 : Int32))] [])) _
    refine XS.iload X7.here hx rfl (hb hby at_122) rfl ?_
    show Steps p.tables e below (T7.setTop (mkF m 124 #[.val (.int p1), .val (.int p2), .val (.int p3), .val (.int (p1 &&& (255 : Int32))), .val (.int (own_n p2)), .val (.int (p3 &&& (3 : Int32))), .val (.int ((64 : Int32) ||| (own_n p2))), .val (.int (0 : Int32)), .val (.int (own_ic ((p1 &&& (255 : Int32)) ||| (32 : Int32)))), .val (.int (own_ic ((p1 &&& (255 : Int32)) &&& (223 : Int32)))), .val (.int (1 : Int32))] [(.int (own_ic ((p1 &&& (255 : Int32)) ||| (32 : Int32))))])) _
    refine XS.ifNo X7.here hx rfl (hb hby at_124) rfl ((if0 _ _).trans (feq (own_i1 _ : ¬ ((own_ic ((p1 &&& (255 : Int32)) ||| (32 : Int32))) = (0 : Int32)))).1) ?_
    show Steps p.tables e below (T7.setTop (mkF m 127 #[.val (.int p1), .val (.int p2), .val (.int p3), .val (.int (p1 &&& (255 : Int32))), .val (.int (own_n p2)), .val (.int (p3 &&& (3 : Int32))), .val (.int ((64 : Int32) ||| (own_n p2))), .val (.int (0 : Int32)), .val (.int (own_ic ((p1 &&& (255 : Int32)) ||| (32 : Int32)))), .val (.int (own_ic ((p1 &&& (255 : Int32)) &&& (223 : Int32)))), .val (.int (1 : Int32))] [])) _
    refine XS.iload X7.here hx rfl (hb hby at_127) rfl ?_
    show Steps p.tables e below (T7.setTop (mkF m 129 #[.val (.int p1), .val (.int p2), .val (.int p3), .val (.int (p1 &&& (255 : Int32))), .val (.int (own_n p2)), .val (.int (p3 &&& (3 : Int32))), .val (.int ((64 : Int32) ||| (own_n p2))), .val (.int (0 : Int32)), .val (.int (own_ic ((p1 &&& (255 : Int32)) ||| (32 : Int32)))), .val (.int (own_ic ((p1 &&& (255 : Int32)) &&& (223 : Int32)))), .val (.int (1 : Int32))] [(.int (own_ic ((p1 &&& (255 : Int32)) &&& (223 : Int32))))])) _
    refine XS.ifNo X7.here hx rfl (hb hby at_129) rfl ((if0 _ _).trans (teq (own_i2 _ : (own_ic ((p1 &&& (255 : Int32)) &&& (223 : Int32))) = (0 : Int32))).2) ?_
    show Steps p.tables e below (T7.setTop (mkF m 132 #[.val (.int p1), .val (.int p2), .val (.int p3), .val (.int (p1 &&& (255 : Int32))), .val (.int (own_n p2)), .val (.int (p3 &&& (3 : Int32))), .val (.int ((64 : Int32) ||| (own_n p2))), .val (.int (0 : Int32)), .val (.int (own_ic ((p1 &&& (255 : Int32)) ||| (32 : Int32)))), .val (.int (own_ic ((p1 &&& (255 : Int32)) &&& (223 : Int32)))), .val (.int (1 : Int32))] [])) _
    refine XS.iload X7.here hx rfl (hb hby at_132) rfl ?_
    show Steps p.tables e below (T7.setTop (mkF m 134 #[.val (.int p1), .val (.int p2), .val (.int p3), .val (.int (p1 &&& (255 : Int32))), .val (.int (own_n p2)), .val (.int (p3 &&& (3 : Int32))), .val (.int ((64 : Int32) ||| (own_n p2))), .val (.int (0 : Int32)), .val (.int (own_ic ((p1 &&& (255 : Int32)) ||| (32 : Int32)))), .val (.int (own_ic ((p1 &&& (255 : Int32)) &&& (223 : Int32)))), .val (.int (1 : Int32))] [(.int (1 : Int32))])) _
    refine XS.ifNo X7.here hx rfl (hb hby at_134) rfl ((if0 _ _).trans (feq hc134).1) ?_
    show Steps p.tables e below (T7.setTop (mkF m 137 #[.val (.int p1), .val (.int p2), .val (.int p3), .val (.int (p1 &&& (255 : Int32))), .val (.int (own_n p2)), .val (.int (p3 &&& (3 : Int32))), .val (.int ((64 : Int32) ||| (own_n p2))), .val (.int (0 : Int32)), .val (.int (own_ic ((p1 &&& (255 : Int32)) ||| (32 : Int32)))), .val (.int (own_ic ((p1 &&& (255 : Int32)) &&& (223 : Int32)))), .val (.int (1 : Int32))] [])) _
    refine XS.iconst X7.here hx rfl (hb hby at_137) ?_
    show Steps p.tables e below (T7.setTop (mkF m 138 #[.val (.int p1), .val (.int p2), .val (.int p3), .val (.int (p1 &&& (255 : Int32))), .val (.int (own_n p2)), .val (.int (p3 &&& (3 : Int32))), .val (.int ((64 : Int32) ||| (own_n p2))), .val (.int (0 : Int32)), .val (.int (own_ic ((p1 &&& (255 : Int32)) ||| (32 : Int32)))), .val (.int (own_ic ((p1 &&& (255 : Int32)) &&& (223 : Int32)))), .val (.int (1 : Int32))] [(.int (1 : Int32))])) _
    refine XS.goto X7.here hx rfl (pc0 := 138) (pc' := 142) rfl (hb hby at_138) (by decide) (by decide) ?_
    show Steps p.tables e below (T7.setTop (mkF m 142 #[.val (.int p1), .val (.int p2), .val (.int p3), .val (.int (p1 &&& (255 : Int32))), .val (.int (own_n p2)), .val (.int (p3 &&& (3 : Int32))), .val (.int ((64 : Int32) ||| (own_n p2))), .val (.int (0 : Int32)), .val (.int (own_ic ((p1 &&& (255 : Int32)) ||| (32 : Int32)))), .val (.int (own_ic ((p1 &&& (255 : Int32)) &&& (223 : Int32)))), .val (.int (1 : Int32))] [(.int (1 : Int32))])) _
    exact retN X7 hx (t := .boolean) Bd.returns (by simp) (hb hby at_142) hr
  · show Q0 Z p1 p2 p3 h0 n0 _ T7.heap _
    exact ⟨rfl, N7⟩
set_option maxRecDepth 65536 in
set_option maxHeartbeats 40000000 in
theorem rm0b (l : Launch) (Z : State) (a0 : Array Value) (hw : ∀ d ∈ tables_1, d.before a0 Z = true) (ws : List Jvm.Cond) (p1 : Int32) (p2 : Int32) (p3 : Int32) (h0 : Heap) (n0 : Nat) (Z0 : n0 ≤ h0.size) (hnz12 : ¬ ((31 : Int32) = (0 : Int32))) (hc22 : ¬ ((p3 &&& (3 : Int32)) = (0 : Int32))) (hc41 : (p3 &&& (3 : Int32)) = (1 : Int32)) (hc134 : ¬ ((1 : Int32) = (0 : Int32))) :
    MetFree l x (head1 (Jvm.Cond.code x code maxLocals ret :: ws) room_1) (fun a U => a = #[(.int p1), (.int p2), (.int p3)] ∧ Z.Warmed39 U.vm ∧ U.heap = h0) (fun _ _ _ _ _ => True) (fun _ U o U' => ∃ v L, o = .returned v ∧ Q0 Z p1 p2 p3 h0 n0 v U'.heap L ∧ FrameEnd U o U' L room_1.cells room_1.slots) := by
  refine MetFree.of_bodySF (plainFor_of_name pn_0) hisR ?_
  intro p e s m args below meth c s₁ Bd hml0 hP hK
  obtain ⟨rfl, hZ, hh⟩ := hP
  have hx := Bd.exec
  have hby := Bd.bytes
  have hml : c.maxLocals = 11 := hml0
  have hown : s.vm.findClass "com/example/bindery/bindery/ber/BerTagIsConstructedPinLaw" = some m.cls := findClass_of_methodNamed Bd.named
  have hnm := (name_of_methodNamed Bd.named Bd.method).1
  have X0 : Stand p l e room_1 s m #[(.int p1), (.int p2), (.int p3)] below meth c s₁ [] 0 0 := Stand.of_body Bd
  have e0 : s₁.heap = h0 := by rw [← hh, Bd.state]; rfl
  have N0 := Fr.nil n0
  have pre0 : ∀ t, Steps p.tables e below (s₁.setTop (mkF m 0 #[.val (.int p1), .val (.int p2), .val (.int p3), .unset, .unset, .unset, .unset, .unset, .unset, .unset, .unset] [])) t → Steps p.tables e below (s₁.setTop (entryFrame m #[(.int p1), (.int p2), (.int p3)] maxLocals)) t := fun t k => castTop (ef_0 m p1 p2 p3) k
  -- 3. LAWS
  -- pc 46: com/example/bindery/bindery/ber/BerTag.applicationConstructed by its contract rm5
  obtain ⟨_, _, ⟨T4, L4, k4, n4⟩, -, X4, ⟨Lc4, hQ4, l4, y4, z4⟩, st4⟩ := Jvm.LawKit.callS X0 hx (y := (⟨"com/example/bindery/bindery/ber/BerTag", "applicationConstructed", "(I)I"⟩ : MethodName)) hown (mvT hZ (hw _ (List.mem_of_getElem? (i := 14) rfl))) (mvT hZ (hw _ (List.mem_of_getElem? (i := 15) rfl))) (mvT hZ (hw _ (List.mem_of_getElem? (i := 3) rfl))) (mvT hZ (hw _ (List.mem_of_getElem? (i := 16) rfl))) (by decide) (backOf (W := 0) (rm5 l Z a0 hw [] (own_n p2) h0 n0 Z0 (own_n_lo p2) (own_n_hi p2)) hZ (hw _ (List.mem_of_getElem? (i := 16) rfl)) (hw _ (List.mem_of_getElem? (i := 3) rfl)) (by decide) (by decide)) (g := (mkF m 46 #[.val (.int p1), .val (.int p2), .val (.int p3), .val (.int (p1 &&& (255 : Int32))), .val (.int (own_n p2)), .val (.int (p3 &&& (3 : Int32))), .unset, .unset, .unset, .unset, .unset] [(.int (own_n p2))])) rfl (by rw [hml]; rfl) (argsL := [(.int (own_n p2))]) (rest := []) (lenOf pd_0_0 rfl) rfl (by show 2 * 0 + _ ≤ _; exact Nat.le_of_eq rfl) (hb hby at_46) (fun _ _ => ⟨rfl, e0, (by decide : 0 + 0 ≤ _), (by decide : 0 + 0 ≤ _)⟩)
  dsimp only [Pt.U, Pt.locs, Pt.cells, Pt.slots] at X4 l4 y4 z4 st4 hQ4
  subst l4 y4 z4
  obtain ⟨rfl, N4q, e4h⟩ := hQ4      -- what it returned, that it wrote nothing old, and the rest of your Q5
  have N4 := Fr.app N0 N4q
  -- pc 90: com/example/bindery/bindery/ber/BerTag.isConstructed by its contract rm3
  obtain ⟨_, _, ⟨T5, L5, k5, n5⟩, -, X5, ⟨Lc5, hQ5, l5, y5, z5⟩, st5⟩ := Jvm.LawKit.callS X4 hx (y := (⟨"com/example/bindery/bindery/ber/BerTag", "isConstructed", "(I)Z"⟩ : MethodName)) hown (mvT hZ (hw _ (List.mem_of_getElem? (i := 8) rfl))) (mvT hZ (hw _ (List.mem_of_getElem? (i := 9) rfl))) (mvT hZ (hw _ (List.mem_of_getElem? (i := 3) rfl))) (mvT hZ (hw _ (List.mem_of_getElem? (i := 10) rfl))) (by decide) (backOf (W := 0) (rm3 l Z a0 hw [] ((p1 &&& (255 : Int32)) ||| (32 : Int32)) T4.heap n0 (by rw [e4h]; exact Z0)) hZ (hw _ (List.mem_of_getElem? (i := 10) rfl)) (hw _ (List.mem_of_getElem? (i := 3) rfl)) (by decide) (by decide)) (g := (mkF m 90 #[.val (.int p1), .val (.int p2), .val (.int p3), .val (.int (p1 &&& (255 : Int32))), .val (.int (own_n p2)), .val (.int (p3 &&& (3 : Int32))), .val (.int ((96 : Int32) ||| (own_n p2))), .val (.int (1 : Int32)), .unset, .unset, .unset] [(.int ((p1 &&& (255 : Int32)) ||| (32 : Int32)))])) rfl (by rw [hml]; rfl) (argsL := [(.int ((p1 &&& (255 : Int32)) ||| (32 : Int32)))]) (rest := []) (lenOf pd_0_1 rfl) rfl (by show 2 * 0 + _ ≤ _; exact Nat.le_of_eq rfl) (hb hby at_90) (fun _ _ => ⟨rfl, rfl, (by decide : 0 + 0 ≤ _), (by decide : 0 + 0 ≤ _)⟩)
  dsimp only [Pt.U, Pt.locs, Pt.cells, Pt.slots] at X5 l5 y5 z5 st5 hQ5
  subst l5 y5 z5
  obtain ⟨rfl, N5q, e5h⟩ := hQ5      -- what it returned, that it wrote nothing old, and the rest of your Q3
  have N5 := Fr.app N4 N5q
  -- pc 100: com/example/bindery/bindery/ber/BerTag.isConstructed by its contract rm3
  obtain ⟨_, _, ⟨T6, L6, k6, n6⟩, -, X6, ⟨Lc6, hQ6, l6, y6, z6⟩, st6⟩ := Jvm.LawKit.callS X5 hx (y := (⟨"com/example/bindery/bindery/ber/BerTag", "isConstructed", "(I)Z"⟩ : MethodName)) hown (mvT hZ (hw _ (List.mem_of_getElem? (i := 8) rfl))) (mvT hZ (hw _ (List.mem_of_getElem? (i := 9) rfl))) (mvT hZ (hw _ (List.mem_of_getElem? (i := 3) rfl))) (mvT hZ (hw _ (List.mem_of_getElem? (i := 10) rfl))) (by decide) (backOf (W := 0) (rm3 l Z a0 hw [] ((p1 &&& (255 : Int32)) &&& (223 : Int32)) T5.heap n0 (by rw [e5h, e4h]; exact Z0)) hZ (hw _ (List.mem_of_getElem? (i := 10) rfl)) (hw _ (List.mem_of_getElem? (i := 3) rfl)) (by decide) (by decide)) (g := (mkF m 100 #[.val (.int p1), .val (.int p2), .val (.int p3), .val (.int (p1 &&& (255 : Int32))), .val (.int (own_n p2)), .val (.int (p3 &&& (3 : Int32))), .val (.int ((96 : Int32) ||| (own_n p2))), .val (.int (1 : Int32)), .val (.int (own_ic ((p1 &&& (255 : Int32)) ||| (32 : Int32)))), .unset, .unset] [(.int ((p1 &&& (255 : Int32)) &&& (223 : Int32)))])) rfl (by rw [hml]; rfl) (argsL := [(.int ((p1 &&& (255 : Int32)) &&& (223 : Int32)))]) (rest := []) (lenOf pd_0_1 rfl) rfl (by show 2 * 0 + _ ≤ _; exact Nat.le_of_eq rfl) (hb hby at_100) (fun _ _ => ⟨rfl, rfl, (by decide : 0 + 0 ≤ _), (by decide : 0 + 0 ≤ _)⟩)
  dsimp only [Pt.U, Pt.locs, Pt.cells, Pt.slots] at X6 l6 y6 z6 st6 hQ6
  subst l6 y6 z6
  obtain ⟨rfl, N6q, e6h⟩ := hQ6      -- what it returned, that it wrote nothing old, and the rest of your Q3
  have N6 := Fr.app N5 N6q
  -- pc 107: com/example/bindery/bindery/ber/BerTag.isConstructed by its contract rm3
  obtain ⟨_, _, ⟨T7, L7, k7, n7⟩, -, X7, ⟨Lc7, hQ7, l7, y7, z7⟩, st7⟩ := Jvm.LawKit.callS X6 hx (y := (⟨"com/example/bindery/bindery/ber/BerTag", "isConstructed", "(I)Z"⟩ : MethodName)) hown (mvT hZ (hw _ (List.mem_of_getElem? (i := 8) rfl))) (mvT hZ (hw _ (List.mem_of_getElem? (i := 9) rfl))) (mvT hZ (hw _ (List.mem_of_getElem? (i := 3) rfl))) (mvT hZ (hw _ (List.mem_of_getElem? (i := 10) rfl))) (by decide) (backOf (W := 0) (rm3 l Z a0 hw [] ((96 : Int32) ||| (own_n p2)) T6.heap n0 (by rw [e6h, e5h, e4h]; exact Z0)) hZ (hw _ (List.mem_of_getElem? (i := 10) rfl)) (hw _ (List.mem_of_getElem? (i := 3) rfl)) (by decide) (by decide)) (g := (mkF m 107 #[.val (.int p1), .val (.int p2), .val (.int p3), .val (.int (p1 &&& (255 : Int32))), .val (.int (own_n p2)), .val (.int (p3 &&& (3 : Int32))), .val (.int ((96 : Int32) ||| (own_n p2))), .val (.int (1 : Int32)), .val (.int (own_ic ((p1 &&& (255 : Int32)) ||| (32 : Int32)))), .val (.int (own_ic ((p1 &&& (255 : Int32)) &&& (223 : Int32)))), .unset] [(.int ((96 : Int32) ||| (own_n p2)))])) rfl (by rw [hml]; rfl) (argsL := [(.int ((96 : Int32) ||| (own_n p2)))]) (rest := []) (lenOf pd_0_1 rfl) rfl (by show 2 * 0 + _ ≤ _; exact Nat.le_of_eq rfl) (hb hby at_107) (fun _ _ => ⟨rfl, rfl, (by decide : 0 + 0 ≤ _), (by decide : 0 + 0 ≤ _)⟩)
  dsimp only [Pt.U, Pt.locs, Pt.cells, Pt.slots] at X7 l7 y7 z7 st7 hQ7
  subst l7 y7 z7
  obtain ⟨rfl, N7q, e7h⟩ := hQ7      -- what it returned, that it wrote nothing old, and the rest of your Q3
  have N7 := Fr.app N6 N7q
  obtain ⟨fs, hr, hrun, hended, hW, hsame⟩ := X7.leave (v := some (.int (1 : Int32))) (fun h => by rw [Bd.returns] at h; cases h)
  refine ⟨_, _, pre0 _ ?_, hrun, hended, _, _, rfl, ?_, ⟨_, rfl⟩, hW, hsame.mono (by decide) (by decide)⟩
  -- 4. STEPS
  · show Steps p.tables e below (s₁.setTop (mkF m 0 #[.val (.int p1), .val (.int p2), .val (.int p3), .unset, .unset, .unset, .unset, .unset, .unset, .unset, .unset] [])) _
    refine XS.iloadN X0.here hx rfl (hb hby at_0) rfl ?_
    show Steps p.tables e below (s₁.setTop (mkF m 1 #[.val (.int p1), .val (.int p2), .val (.int p3), .unset, .unset, .unset, .unset, .unset, .unset, .unset, .unset] [(.int p1)])) _
    refine XS.sipush X0.here hx rfl (hb hby at_1) ?_
    show Steps p.tables e below (s₁.setTop (mkF m 4 #[.val (.int p1), .val (.int p2), .val (.int p3), .unset, .unset, .unset, .unset, .unset, .unset, .unset, .unset] [(.int (255 : Int32)), (.int p1)])) _
    refine XS.iand X0.here hx rfl (hb hby at_4) rfl ?_
    show Steps p.tables e below (s₁.setTop (mkF m 5 #[.val (.int p1), .val (.int p2), .val (.int p3), .unset, .unset, .unset, .unset, .unset, .unset, .unset, .unset] [(.int (p1 &&& (255 : Int32)))])) _
    refine XS.istoreN X0.here hx rfl (hb hby at_5) rfl (l' := #[.val (.int p1), .val (.int p2), .val (.int p3), .val (.int (p1 &&& (255 : Int32))), .unset, .unset, .unset, .unset, .unset, .unset, .unset]) rfl ?_
    show Steps p.tables e below (s₁.setTop (mkF m 6 #[.val (.int p1), .val (.int p2), .val (.int p3), .val (.int (p1 &&& (255 : Int32))), .unset, .unset, .unset, .unset, .unset, .unset, .unset] [])) _
    refine XS.iloadN X0.here hx rfl (hb hby at_6) rfl ?_
    show Steps p.tables e below (s₁.setTop (mkF m 7 #[.val (.int p1), .val (.int p2), .val (.int p3), .val (.int (p1 &&& (255 : Int32))), .unset, .unset, .unset, .unset, .unset, .unset, .unset] [(.int p2)])) _
    refine X0.ldcInt hx hown (mvT hZ (hw _ (List.mem_of_getElem? (i := 0) rfl))) (g := (mkF m 7 #[.val (.int p1), .val (.int p2), .val (.int p3), .val (.int (p1 &&& (255 : Int32))), .unset, .unset, .unset, .unset, .unset, .unset, .unset] [(.int p2)])) rfl (hb hby at_7) _ ?_
    show Steps p.tables e below (s₁.setTop (mkF m 9 #[.val (.int p1), .val (.int p2), .val (.int p3), .val (.int (p1 &&& (255 : Int32))), .unset, .unset, .unset, .unset, .unset, .unset, .unset] [(.int (2147483647 : Int32)), (.int p2)])) _
    refine XS.iand X0.here hx rfl (hb hby at_9) rfl ?_
    show Steps p.tables e below (s₁.setTop (mkF m 10 #[.val (.int p1), .val (.int p2), .val (.int p3), .val (.int (p1 &&& (255 : Int32))), .unset, .unset, .unset, .unset, .unset, .unset, .unset] [(.int (p2 &&& (2147483647 : Int32)))])) _
    refine XS.bipush X0.here hx rfl (hb hby at_10) ?_
    show Steps p.tables e below (s₁.setTop (mkF m 12 #[.val (.int p1), .val (.int p2), .val (.int p3), .val (.int (p1 &&& (255 : Int32))), .unset, .unset, .unset, .unset, .unset, .unset, .unset] [(.int (31 : Int32)), (.int (p2 &&& (2147483647 : Int32)))])) _
    refine XS.irem X0.here hx rfl (hb hby at_12) rfl hnz12 ?_
    show Steps p.tables e below (s₁.setTop (mkF m 13 #[.val (.int p1), .val (.int p2), .val (.int p3), .val (.int (p1 &&& (255 : Int32))), .unset, .unset, .unset, .unset, .unset, .unset, .unset] [(.int (own_n p2))])) _
    refine XS.istore X0.here hx rfl (hb hby at_13) rfl (l' := #[.val (.int p1), .val (.int p2), .val (.int p3), .val (.int (p1 &&& (255 : Int32))), .val (.int (own_n p2)), .unset, .unset, .unset, .unset, .unset, .unset]) rfl ?_
    show Steps p.tables e below (s₁.setTop (mkF m 15 #[.val (.int p1), .val (.int p2), .val (.int p3), .val (.int (p1 &&& (255 : Int32))), .val (.int (own_n p2)), .unset, .unset, .unset, .unset, .unset, .unset] [])) _
    refine XS.iloadN X0.here hx rfl (hb hby at_15) rfl ?_
    show Steps p.tables e below (s₁.setTop (mkF m 16 #[.val (.int p1), .val (.int p2), .val (.int p3), .val (.int (p1 &&& (255 : Int32))), .val (.int (own_n p2)), .unset, .unset, .unset, .unset, .unset, .unset] [(.int p3)])) _
    refine XS.iconst X0.here hx rfl (hb hby at_16) ?_
    show Steps p.tables e below (s₁.setTop (mkF m 17 #[.val (.int p1), .val (.int p2), .val (.int p3), .val (.int (p1 &&& (255 : Int32))), .val (.int (own_n p2)), .unset, .unset, .unset, .unset, .unset, .unset] [(.int (3 : Int32)), (.int p3)])) _
    refine XS.iand X0.here hx rfl (hb hby at_17) rfl ?_
    show Steps p.tables e below (s₁.setTop (mkF m 18 #[.val (.int p1), .val (.int p2), .val (.int p3), .val (.int (p1 &&& (255 : Int32))), .val (.int (own_n p2)), .unset, .unset, .unset, .unset, .unset, .unset] [(.int (p3 &&& (3 : Int32)))])) _
    refine XS.istore X0.here hx rfl (hb hby at_18) rfl (l' := #[.val (.int p1), .val (.int p2), .val (.int p3), .val (.int (p1 &&& (255 : Int32))), .val (.int (own_n p2)), .val (.int (p3 &&& (3 : Int32))), .unset, .unset, .unset, .unset, .unset]) rfl ?_
    show Steps p.tables e below (s₁.setTop (mkF m 20 #[.val (.int p1), .val (.int p2), .val (.int p3), .val (.int (p1 &&& (255 : Int32))), .val (.int (own_n p2)), .val (.int (p3 &&& (3 : Int32))), .unset, .unset, .unset, .unset, .unset] [])) _
    refine XS.iload X0.here hx rfl (hb hby at_20) rfl ?_
    show Steps p.tables e below (s₁.setTop (mkF m 22 #[.val (.int p1), .val (.int p2), .val (.int p3), .val (.int (p1 &&& (255 : Int32))), .val (.int (own_n p2)), .val (.int (p3 &&& (3 : Int32))), .unset, .unset, .unset, .unset, .unset] [(.int (p3 &&& (3 : Int32)))])) _
    refine XS.ifYes X0.here hx rfl (pc0 := 22) (pc' := 38) rfl (hb hby at_22) rfl ((if0 _ _).trans (feq hc22).2) (by decide) (by decide) ?_
    show Steps p.tables e below (s₁.setTop (mkF m 38 #[.val (.int p1), .val (.int p2), .val (.int p3), .val (.int (p1 &&& (255 : Int32))), .val (.int (own_n p2)), .val (.int (p3 &&& (3 : Int32))), .unset, .unset, .unset, .unset, .unset] [])) _
    refine XS.iload X0.here hx rfl (hb hby at_38) rfl ?_
    show Steps p.tables e below (s₁.setTop (mkF m 40 #[.val (.int p1), .val (.int p2), .val (.int p3), .val (.int (p1 &&& (255 : Int32))), .val (.int (own_n p2)), .val (.int (p3 &&& (3 : Int32))), .unset, .unset, .unset, .unset, .unset] [(.int (p3 &&& (3 : Int32)))])) _
    refine XS.iconst X0.here hx rfl (hb hby at_40) ?_
    show Steps p.tables e below (s₁.setTop (mkF m 41 #[.val (.int p1), .val (.int p2), .val (.int p3), .val (.int (p1 &&& (255 : Int32))), .val (.int (own_n p2)), .val (.int (p3 &&& (3 : Int32))), .unset, .unset, .unset, .unset, .unset] [(.int (1 : Int32)), (.int (p3 &&& (3 : Int32)))])) _
    refine XS.icmpNo X0.here hx rfl (hb hby at_41) rfl (teq hc41).2 ?_
    show Steps p.tables e below (s₁.setTop (mkF m 44 #[.val (.int p1), .val (.int p2), .val (.int p3), .val (.int (p1 &&& (255 : Int32))), .val (.int (own_n p2)), .val (.int (p3 &&& (3 : Int32))), .unset, .unset, .unset, .unset, .unset] [])) _
    refine XS.iload X0.here hx rfl (hb hby at_44) rfl ?_
    show Steps p.tables e below (s₁.setTop (mkF m 46 #[.val (.int p1), .val (.int p2), .val (.int p3), .val (.int (p1 &&& (255 : Int32))), .val (.int (own_n p2)), .val (.int (p3 &&& (3 : Int32))), .unset, .unset, .unset, .unset, .unset] [(.int (own_n p2))])) _
    refine st4 _ ?_
    show Steps p.tables e below (T4.setTop (mkF m 49 #[.val (.int p1), .val (.int p2), .val (.int p3), .val (.int (p1 &&& (255 : Int32))), .val (.int (own_n p2)), .val (.int (p3 &&& (3 : Int32))), .unset, .unset, .unset, .unset, .unset] [(.int ((96 : Int32) ||| (own_n p2)))])) _
    refine XS.istore X4.here hx rfl (hb hby at_49) rfl (l' := #[.val (.int p1), .val (.int p2), .val (.int p3), .val (.int (p1 &&& (255 : Int32))), .val (.int (own_n p2)), .val (.int (p3 &&& (3 : Int32))), .val (.int ((96 : Int32) ||| (own_n p2))), .unset, .unset, .unset, .unset]) rfl ?_
    show Steps p.tables e below (T4.setTop (mkF m 51 #[.val (.int p1), .val (.int p2), .val (.int p3), .val (.int (p1 &&& (255 : Int32))), .val (.int (own_n p2)), .val (.int (p3 &&& (3 : Int32))), .val (.int ((96 : Int32) ||| (own_n p2))), .unset, .unset, .unset, .unset] [])) _
    refine XS.iconst X4.here hx rfl (hb hby at_51) ?_
    show Steps p.tables e below (T4.setTop (mkF m 52 #[.val (.int p1), .val (.int p2), .val (.int p3), .val (.int (p1 &&& (255 : Int32))), .val (.int (own_n p2)), .val (.int (p3 &&& (3 : Int32))), .val (.int ((96 : Int32) ||| (own_n p2))), .unset, .unset, .unset, .unset] [(.int (1 : Int32))])) _
    refine XS.istore X4.here hx rfl (hb hby at_52) rfl (l' := #[.val (.int p1), .val (.int p2), .val (.int p3), .val (.int (p1 &&& (255 : Int32))), .val (.int (own_n p2)), .val (.int (p3 &&& (3 : Int32))), .val (.int ((96 : Int32) ||| (own_n p2))), .val (.int (1 : Int32)), .unset, .unset, .unset]) rfl ?_
    show Steps p.tables e below (T4.setTop (mkF m 54 #[.val (.int p1), .val (.int p2), .val (.int p3), .val (.int (p1 &&& (255 : Int32))), .val (.int (own_n p2)), .val (.int (p3 &&& (3 : Int32))), .val (.int ((96 : Int32) ||| (own_n p2))), .val (.int (1 : Int32)), .unset, .unset, .unset] [])) _
    refine XS.goto X4.here hx rfl (pc0 := 54) (pc' := 86) rfl (hb hby at_54) (by decide) (by decide) ?_
    show Steps p.tables e below (T4.setTop (mkF m 86 #[.val (.int p1), .val (.int p2), .val (.int p3), .val (.int (p1 &&& (255 : Int32))), .val (.int (own_n p2)), .val (.int (p3 &&& (3 : Int32))), .val (.int ((96 : Int32) ||| (own_n p2))), .val (.int (1 : Int32)), .unset, .unset, .unset] [])) _
    refine XS.iloadN X4.here hx rfl (hb hby at_86) rfl ?_
    show Steps p.tables e below (T4.setTop (mkF m 87 #[.val (.int p1), .val (.int p2), .val (.int p3), .val (.int (p1 &&& (255 : Int32))), .val (.int (own_n p2)), .val (.int (p3 &&& (3 : Int32))), .val (.int ((96 : Int32) ||| (own_n p2))), .val (.int (1 : Int32)), .unset, .unset, .unset] [(.int (p1 &&& (255 : Int32)))])) _
    refine XS.bipush X4.here hx rfl (hb hby at_87) ?_
    show Steps p.tables e below (T4.setTop (mkF m 89 #[.val (.int p1), .val (.int p2), .val (.int p3), .val (.int (p1 &&& (255 : Int32))), .val (.int (own_n p2)), .val (.int (p3 &&& (3 : Int32))), .val (.int ((96 : Int32) ||| (own_n p2))), .val (.int (1 : Int32)), .unset, .unset, .unset] [(.int (32 : Int32)), (.int (p1 &&& (255 : Int32)))])) _
    refine XS.ior X4.here hx rfl (hb hby at_89) rfl ?_
    show Steps p.tables e below (T4.setTop (mkF m 90 #[.val (.int p1), .val (.int p2), .val (.int p3), .val (.int (p1 &&& (255 : Int32))), .val (.int (own_n p2)), .val (.int (p3 &&& (3 : Int32))), .val (.int ((96 : Int32) ||| (own_n p2))), .val (.int (1 : Int32)), .unset, .unset, .unset] [(.int ((p1 &&& (255 : Int32)) ||| (32 : Int32)))])) _
    refine st5 _ ?_
    show Steps p.tables e below (T5.setTop (mkF m 93 #[.val (.int p1), .val (.int p2), .val (.int p3), .val (.int (p1 &&& (255 : Int32))), .val (.int (own_n p2)), .val (.int (p3 &&& (3 : Int32))), .val (.int ((96 : Int32) ||| (own_n p2))), .val (.int (1 : Int32)), .unset, .unset, .unset] [(.int (own_ic ((p1 &&& (255 : Int32)) ||| (32 : Int32))))])) _
    refine XS.istore X5.here hx rfl (hb hby at_93) rfl (l' := #[.val (.int p1), .val (.int p2), .val (.int p3), .val (.int (p1 &&& (255 : Int32))), .val (.int (own_n p2)), .val (.int (p3 &&& (3 : Int32))), .val (.int ((96 : Int32) ||| (own_n p2))), .val (.int (1 : Int32)), .val (.int (own_ic ((p1 &&& (255 : Int32)) ||| (32 : Int32)))), .unset, .unset]) rfl ?_
    show Steps p.tables e below (T5.setTop (mkF m 95 #[.val (.int p1), .val (.int p2), .val (.int p3), .val (.int (p1 &&& (255 : Int32))), .val (.int (own_n p2)), .val (.int (p3 &&& (3 : Int32))), .val (.int ((96 : Int32) ||| (own_n p2))), .val (.int (1 : Int32)), .val (.int (own_ic ((p1 &&& (255 : Int32)) ||| (32 : Int32)))), .unset, .unset] [])) _
    refine XS.iloadN X5.here hx rfl (hb hby at_95) rfl ?_
    show Steps p.tables e below (T5.setTop (mkF m 96 #[.val (.int p1), .val (.int p2), .val (.int p3), .val (.int (p1 &&& (255 : Int32))), .val (.int (own_n p2)), .val (.int (p3 &&& (3 : Int32))), .val (.int ((96 : Int32) ||| (own_n p2))), .val (.int (1 : Int32)), .val (.int (own_ic ((p1 &&& (255 : Int32)) ||| (32 : Int32)))), .unset, .unset] [(.int (p1 &&& (255 : Int32)))])) _
    refine XS.sipush X5.here hx rfl (hb hby at_96) ?_
    show Steps p.tables e below (T5.setTop (mkF m 99 #[.val (.int p1), .val (.int p2), .val (.int p3), .val (.int (p1 &&& (255 : Int32))), .val (.int (own_n p2)), .val (.int (p3 &&& (3 : Int32))), .val (.int ((96 : Int32) ||| (own_n p2))), .val (.int (1 : Int32)), .val (.int (own_ic ((p1 &&& (255 : Int32)) ||| (32 : Int32)))), .unset, .unset] [(.int (223 : Int32)), (.int (p1 &&& (255 : Int32)))])) _
    refine XS.iand X5.here hx rfl (hb hby at_99) rfl ?_
    show Steps p.tables e below (T5.setTop (mkF m 100 #[.val (.int p1), .val (.int p2), .val (.int p3), .val (.int (p1 &&& (255 : Int32))), .val (.int (own_n p2)), .val (.int (p3 &&& (3 : Int32))), .val (.int ((96 : Int32) ||| (own_n p2))), .val (.int (1 : Int32)), .val (.int (own_ic ((p1 &&& (255 : Int32)) ||| (32 : Int32)))), .unset, .unset] [(.int ((p1 &&& (255 : Int32)) &&& (223 : Int32)))])) _
    refine st6 _ ?_
    show Steps p.tables e below (T6.setTop (mkF m 103 #[.val (.int p1), .val (.int p2), .val (.int p3), .val (.int (p1 &&& (255 : Int32))), .val (.int (own_n p2)), .val (.int (p3 &&& (3 : Int32))), .val (.int ((96 : Int32) ||| (own_n p2))), .val (.int (1 : Int32)), .val (.int (own_ic ((p1 &&& (255 : Int32)) ||| (32 : Int32)))), .unset, .unset] [(.int (own_ic ((p1 &&& (255 : Int32)) &&& (223 : Int32))))])) _
    refine XS.istore X6.here hx rfl (hb hby at_103) rfl (l' := #[.val (.int p1), .val (.int p2), .val (.int p3), .val (.int (p1 &&& (255 : Int32))), .val (.int (own_n p2)), .val (.int (p3 &&& (3 : Int32))), .val (.int ((96 : Int32) ||| (own_n p2))), .val (.int (1 : Int32)), .val (.int (own_ic ((p1 &&& (255 : Int32)) ||| (32 : Int32)))), .val (.int (own_ic ((p1 &&& (255 : Int32)) &&& (223 : Int32)))), .unset]) rfl ?_
    show Steps p.tables e below (T6.setTop (mkF m 105 #[.val (.int p1), .val (.int p2), .val (.int p3), .val (.int (p1 &&& (255 : Int32))), .val (.int (own_n p2)), .val (.int (p3 &&& (3 : Int32))), .val (.int ((96 : Int32) ||| (own_n p2))), .val (.int (1 : Int32)), .val (.int (own_ic ((p1 &&& (255 : Int32)) ||| (32 : Int32)))), .val (.int (own_ic ((p1 &&& (255 : Int32)) &&& (223 : Int32)))), .unset] [])) _
    refine XS.iload X6.here hx rfl (hb hby at_105) rfl ?_
    show Steps p.tables e below (T6.setTop (mkF m 107 #[.val (.int p1), .val (.int p2), .val (.int p3), .val (.int (p1 &&& (255 : Int32))), .val (.int (own_n p2)), .val (.int (p3 &&& (3 : Int32))), .val (.int ((96 : Int32) ||| (own_n p2))), .val (.int (1 : Int32)), .val (.int (own_ic ((p1 &&& (255 : Int32)) ||| (32 : Int32)))), .val (.int (own_ic ((p1 &&& (255 : Int32)) &&& (223 : Int32)))), .unset] [(.int ((96 : Int32) ||| (own_n p2)))])) _
    refine st7 _ ?_
    show Steps p.tables e below (T7.setTop (mkF m 110 #[.val (.int p1), .val (.int p2), .val (.int p3), .val (.int (p1 &&& (255 : Int32))), .val (.int (own_n p2)), .val (.int (p3 &&& (3 : Int32))), .val (.int ((96 : Int32) ||| (own_n p2))), .val (.int (1 : Int32)), .val (.int (own_ic ((p1 &&& (255 : Int32)) ||| (32 : Int32)))), .val (.int (own_ic ((p1 &&& (255 : Int32)) &&& (223 : Int32)))), .unset] [(.int (own_ic ((96 : Int32) ||| (own_n p2))))])) _
    refine XS.iload X7.here hx rfl (hb hby at_110) rfl ?_
    show Steps p.tables e below (T7.setTop (mkF m 112 #[.val (.int p1), .val (.int p2), .val (.int p3), .val (.int (p1 &&& (255 : Int32))), .val (.int (own_n p2)), .val (.int (p3 &&& (3 : Int32))), .val (.int ((96 : Int32) ||| (own_n p2))), .val (.int (1 : Int32)), .val (.int (own_ic ((p1 &&& (255 : Int32)) ||| (32 : Int32)))), .val (.int (own_ic ((p1 &&& (255 : Int32)) &&& (223 : Int32)))), .unset] [(.int (1 : Int32)), (.int (own_ic ((96 : Int32) ||| (own_n p2))))])) _
    refine XS.icmpNo X7.here hx rfl (hb hby at_112) rfl (teq ((own_built p2).2.1 : (own_ic ((96 : Int32) ||| (own_n p2))) = (1 : Int32))).2 ?_
    show Steps p.tables e below (T7.setTop (mkF m 115 #[.val (.int p1), .val (.int p2), .val (.int p3), .val (.int (p1 &&& (255 : Int32))), .val (.int (own_n p2)), .val (.int (p3 &&& (3 : Int32))), .val (.int ((96 : Int32) ||| (own_n p2))), .val (.int (1 : Int32)), .val (.int (own_ic ((p1 &&& (255 : Int32)) ||| (32 : Int32)))), .val (.int (own_ic ((p1 &&& (255 : Int32)) &&& (223 : Int32)))), .unset] [])) _
    refine XS.iconst X7.here hx rfl (hb hby at_115) ?_
    show Steps p.tables e below (T7.setTop (mkF m 116 #[.val (.int p1), .val (.int p2), .val (.int p3), .val (.int (p1 &&& (255 : Int32))), .val (.int (own_n p2)), .val (.int (p3 &&& (3 : Int32))), .val (.int ((96 : Int32) ||| (own_n p2))), .val (.int (1 : Int32)), .val (.int (own_ic ((p1 &&& (255 : Int32)) ||| (32 : Int32)))), .val (.int (own_ic ((p1 &&& (255 : Int32)) &&& (223 : Int32)))), .unset] [(.int (1 : Int32))])) _
    refine XS.goto X7.here hx rfl (pc0 := 116) (pc' := 120) rfl (hb hby at_116) (by decide) (by decide) ?_
    show Steps p.tables e below (T7.setTop (mkF m 120 #[.val (.int p1), .val (.int p2), .val (.int p3), .val (.int (p1 &&& (255 : Int32))), .val (.int (own_n p2)), .val (.int (p3 &&& (3 : Int32))), .val (.int ((96 : Int32) ||| (own_n p2))), .val (.int (1 : Int32)), .val (.int (own_ic ((p1 &&& (255 : Int32)) ||| (32 : Int32)))), .val (.int (own_ic ((p1 &&& (255 : Int32)) &&& (223 : Int32)))), .unset] [(.int (1 : Int32))])) _
    refine XS.istore X7.here hx rfl (hb hby at_120) rfl (l' := #[.val (.int p1), .val (.int p2), .val (.int p3), .val (.int (p1 &&& (255 : Int32))), .val (.int (own_n p2)), .val (.int (p3 &&& (3 : Int32))), .val (.int ((96 : Int32) ||| (own_n p2))), .val (.int (1 : Int32)), .val (.int (own_ic ((p1 &&& (255 : Int32)) ||| (32 : Int32)))), .val (.int (own_ic ((p1 &&& (255 : Int32)) &&& (223 : Int32)))), .val (.int (1 : Int32))]) rfl ?_
    show Steps p.tables e below (T7.setTop (mkF m 122 #[.val (.int p1), .val (.int p2), .val (.int p3), .val (.int (p1 &&& (255 : Int32))), .val (.int (own_n p2)), .val (.int (p3 &&& (3 : Int32))), .val (.int ((96 : Int32) ||| (own_n p2))), .val (.int (1 : Int32)), .val (.int (own_ic ((p1 &&& (255 : Int32)) ||| (32 : Int32)))), .val (.int (own_ic ((p1 &&& (255 : Int32)) &&& (223 : Int32)))), .val (.int (1 : Int32))] [])) _
    refine XS.iload X7.here hx rfl (hb hby at_122) rfl ?_
    show Steps p.tables e below (T7.setTop (mkF m 124 #[.val (.int p1), .val (.int p2), .val (.int p3), .val (.int (p1 &&& (255 : Int32))), .val (.int (own_n p2)), .val (.int (p3 &&& (3 : Int32))), .val (.int ((96 : Int32) ||| (own_n p2))), .val (.int (1 : Int32)), .val (.int (own_ic ((p1 &&& (255 : Int32)) ||| (32 : Int32)))), .val (.int (own_ic ((p1 &&& (255 : Int32)) &&& (223 : Int32)))), .val (.int (1 : Int32))] [(.int (own_ic ((p1 &&& (255 : Int32)) ||| (32 : Int32))))])) _
    refine XS.ifNo X7.here hx rfl (hb hby at_124) rfl ((if0 _ _).trans (feq (own_i1 _ : ¬ ((own_ic ((p1 &&& (255 : Int32)) ||| (32 : Int32))) = (0 : Int32)))).1) ?_
    show Steps p.tables e below (T7.setTop (mkF m 127 #[.val (.int p1), .val (.int p2), .val (.int p3), .val (.int (p1 &&& (255 : Int32))), .val (.int (own_n p2)), .val (.int (p3 &&& (3 : Int32))), .val (.int ((96 : Int32) ||| (own_n p2))), .val (.int (1 : Int32)), .val (.int (own_ic ((p1 &&& (255 : Int32)) ||| (32 : Int32)))), .val (.int (own_ic ((p1 &&& (255 : Int32)) &&& (223 : Int32)))), .val (.int (1 : Int32))] [])) _
    refine XS.iload X7.here hx rfl (hb hby at_127) rfl ?_
    show Steps p.tables e below (T7.setTop (mkF m 129 #[.val (.int p1), .val (.int p2), .val (.int p3), .val (.int (p1 &&& (255 : Int32))), .val (.int (own_n p2)), .val (.int (p3 &&& (3 : Int32))), .val (.int ((96 : Int32) ||| (own_n p2))), .val (.int (1 : Int32)), .val (.int (own_ic ((p1 &&& (255 : Int32)) ||| (32 : Int32)))), .val (.int (own_ic ((p1 &&& (255 : Int32)) &&& (223 : Int32)))), .val (.int (1 : Int32))] [(.int (own_ic ((p1 &&& (255 : Int32)) &&& (223 : Int32))))])) _
    refine XS.ifNo X7.here hx rfl (hb hby at_129) rfl ((if0 _ _).trans (teq (own_i2 _ : (own_ic ((p1 &&& (255 : Int32)) &&& (223 : Int32))) = (0 : Int32))).2) ?_
    show Steps p.tables e below (T7.setTop (mkF m 132 #[.val (.int p1), .val (.int p2), .val (.int p3), .val (.int (p1 &&& (255 : Int32))), .val (.int (own_n p2)), .val (.int (p3 &&& (3 : Int32))), .val (.int ((96 : Int32) ||| (own_n p2))), .val (.int (1 : Int32)), .val (.int (own_ic ((p1 &&& (255 : Int32)) ||| (32 : Int32)))), .val (.int (own_ic ((p1 &&& (255 : Int32)) &&& (223 : Int32)))), .val (.int (1 : Int32))] [])) _
    refine XS.iload X7.here hx rfl (hb hby at_132) rfl ?_
    show Steps p.tables e below (T7.setTop (mkF m 134 #[.val (.int p1), .val (.int p2), .val (.int p3), .val (.int (p1 &&& (255 : Int32))), .val (.int (own_n p2)), .val (.int (p3 &&& (3 : Int32))), .val (.int ((96 : Int32) ||| (own_n p2))), .val (.int (1 : Int32)), .val (.int (own_ic ((p1 &&& (255 : Int32)) ||| (32 : Int32)))), .val (.int (own_ic ((p1 &&& (255 : Int32)) &&& (223 : Int32)))), .val (.int (1 : Int32))] [(.int (1 : Int32))])) _
    refine XS.ifNo X7.here hx rfl (hb hby at_134) rfl ((if0 _ _).trans (feq hc134).1) ?_
    show Steps p.tables e below (T7.setTop (mkF m 137 #[.val (.int p1), .val (.int p2), .val (.int p3), .val (.int (p1 &&& (255 : Int32))), .val (.int (own_n p2)), .val (.int (p3 &&& (3 : Int32))), .val (.int ((96 : Int32) ||| (own_n p2))), .val (.int (1 : Int32)), .val (.int (own_ic ((p1 &&& (255 : Int32)) ||| (32 : Int32)))), .val (.int (own_ic ((p1 &&& (255 : Int32)) &&& (223 : Int32)))), .val (.int (1 : Int32))] [])) _
    refine XS.iconst X7.here hx rfl (hb hby at_137) ?_
    show Steps p.tables e below (T7.setTop (mkF m 138 #[.val (.int p1), .val (.int p2), .val (.int p3), .val (.int (p1 &&& (255 : Int32))), .val (.int (own_n p2)), .val (.int (p3 &&& (3 : Int32))), .val (.int ((96 : Int32) ||| (own_n p2))), .val (.int (1 : Int32)), .val (.int (own_ic ((p1 &&& (255 : Int32)) ||| (32 : Int32)))), .val (.int (own_ic ((p1 &&& (255 : Int32)) &&& (223 : Int32)))), .val (.int (1 : Int32))] [(.int (1 : Int32))])) _
    refine XS.goto X7.here hx rfl (pc0 := 138) (pc' := 142) rfl (hb hby at_138) (by decide) (by decide) ?_
    show Steps p.tables e below (T7.setTop (mkF m 142 #[.val (.int p1), .val (.int p2), .val (.int p3), .val (.int (p1 &&& (255 : Int32))), .val (.int (own_n p2)), .val (.int (p3 &&& (3 : Int32))), .val (.int ((96 : Int32) ||| (own_n p2))), .val (.int (1 : Int32)), .val (.int (own_ic ((p1 &&& (255 : Int32)) ||| (32 : Int32)))), .val (.int (own_ic ((p1 &&& (255 : Int32)) &&& (223 : Int32)))), .val (.int (1 : Int32))] [(.int (1 : Int32))])) _
    exact retN X7 hx (t := .boolean) Bd.returns (by simp) (hb hby at_142) hr
  · show Q0 Z p1 p2 p3 h0 n0 _ T7.heap _
    exact ⟨rfl, N7⟩
set_option maxRecDepth 65536 in
set_option maxHeartbeats 40000000 in
theorem rm0c (l : Launch) (Z : State) (a0 : Array Value) (hw : ∀ d ∈ tables_1, d.before a0 Z = true) (ws : List Jvm.Cond) (p1 : Int32) (p2 : Int32) (p3 : Int32) (h0 : Heap) (n0 : Nat) (Z0 : n0 ≤ h0.size) (hnz12 : ¬ ((31 : Int32) = (0 : Int32))) (hc22 : ¬ ((p3 &&& (3 : Int32)) = (0 : Int32))) (hc41 : ¬ ((p3 &&& (3 : Int32)) = (1 : Int32))) (hc60 : (p3 &&& (3 : Int32)) = (2 : Int32)) (hc134 : ¬ ((1 : Int32) = (0 : Int32))) :
    MetFree l x (head1 (Jvm.Cond.code x code maxLocals ret :: ws) room_1) (fun a U => a = #[(.int p1), (.int p2), (.int p3)] ∧ Z.Warmed39 U.vm ∧ U.heap = h0) (fun _ _ _ _ _ => True) (fun _ U o U' => ∃ v L, o = .returned v ∧ Q0 Z p1 p2 p3 h0 n0 v U'.heap L ∧ FrameEnd U o U' L room_1.cells room_1.slots) := by
  refine MetFree.of_bodySF (plainFor_of_name pn_0) hisR ?_
  intro p e s m args below meth c s₁ Bd hml0 hP hK
  obtain ⟨rfl, hZ, hh⟩ := hP
  have hx := Bd.exec
  have hby := Bd.bytes
  have hml : c.maxLocals = 11 := hml0
  have hown : s.vm.findClass "com/example/bindery/bindery/ber/BerTagIsConstructedPinLaw" = some m.cls := findClass_of_methodNamed Bd.named
  have hnm := (name_of_methodNamed Bd.named Bd.method).1
  have X0 : Stand p l e room_1 s m #[(.int p1), (.int p2), (.int p3)] below meth c s₁ [] 0 0 := Stand.of_body Bd
  have e0 : s₁.heap = h0 := by rw [← hh, Bd.state]; rfl
  have N0 := Fr.nil n0
  have pre0 : ∀ t, Steps p.tables e below (s₁.setTop (mkF m 0 #[.val (.int p1), .val (.int p2), .val (.int p3), .unset, .unset, .unset, .unset, .unset, .unset, .unset, .unset] [])) t → Steps p.tables e below (s₁.setTop (entryFrame m #[(.int p1), (.int p2), (.int p3)] maxLocals)) t := fun t k => castTop (ef_0 m p1 p2 p3) k
  -- 3. LAWS
  -- pc 65: com/example/bindery/bindery/ber/BerTag.contextPrimitive by its contract rm1
  obtain ⟨_, _, ⟨T4, L4, k4, n4⟩, -, X4, ⟨Lc4, hQ4, l4, y4, z4⟩, st4⟩ := Jvm.LawKit.callS X0 hx (y := (⟨"com/example/bindery/bindery/ber/BerTag", "contextPrimitive", "(I)I"⟩ : MethodName)) hown (mvT hZ (hw _ (List.mem_of_getElem? (i := 1) rfl))) (mvT hZ (hw _ (List.mem_of_getElem? (i := 2) rfl))) (mvT hZ (hw _ (List.mem_of_getElem? (i := 3) rfl))) (mvT hZ (hw _ (List.mem_of_getElem? (i := 4) rfl))) (by decide) (backOf (W := 0) (rm1 l Z a0 hw [] (own_n p2) h0 n0 Z0 (own_n_lo p2) (own_n_hi p2)) hZ (hw _ (List.mem_of_getElem? (i := 4) rfl)) (hw _ (List.mem_of_getElem? (i := 3) rfl)) (by decide) (by decide)) (g := (mkF m 65 #[.val (.int p1), .val (.int p2), .val (.int p3), .val (.int (p1 &&& (255 : Int32))), .val (.int (own_n p2)), .val (.int (p3 &&& (3 : Int32))), .unset, .unset, .unset, .unset, .unset] [(.int (own_n p2))])) rfl (by rw [hml]; rfl) (argsL := [(.int (own_n p2))]) (rest := []) (lenOf pd_0_0 rfl) rfl (by show 2 * 0 + _ ≤ _; exact Nat.le_of_eq rfl) (hb hby at_65) (fun _ _ => ⟨rfl, e0, (by decide : 0 + 0 ≤ _), (by decide : 0 + 0 ≤ _)⟩)
  dsimp only [Pt.U, Pt.locs, Pt.cells, Pt.slots] at X4 l4 y4 z4 st4 hQ4
  subst l4 y4 z4
  obtain ⟨rfl, N4q, e4h⟩ := hQ4      -- what it returned, that it wrote nothing old, and the rest of your Q1
  have N4 := Fr.app N0 N4q
  -- pc 90: com/example/bindery/bindery/ber/BerTag.isConstructed by its contract rm3
  obtain ⟨_, _, ⟨T5, L5, k5, n5⟩, -, X5, ⟨Lc5, hQ5, l5, y5, z5⟩, st5⟩ := Jvm.LawKit.callS X4 hx (y := (⟨"com/example/bindery/bindery/ber/BerTag", "isConstructed", "(I)Z"⟩ : MethodName)) hown (mvT hZ (hw _ (List.mem_of_getElem? (i := 8) rfl))) (mvT hZ (hw _ (List.mem_of_getElem? (i := 9) rfl))) (mvT hZ (hw _ (List.mem_of_getElem? (i := 3) rfl))) (mvT hZ (hw _ (List.mem_of_getElem? (i := 10) rfl))) (by decide) (backOf (W := 0) (rm3 l Z a0 hw [] ((p1 &&& (255 : Int32)) ||| (32 : Int32)) T4.heap n0 (by rw [e4h]; exact Z0)) hZ (hw _ (List.mem_of_getElem? (i := 10) rfl)) (hw _ (List.mem_of_getElem? (i := 3) rfl)) (by decide) (by decide)) (g := (mkF m 90 #[.val (.int p1), .val (.int p2), .val (.int p3), .val (.int (p1 &&& (255 : Int32))), .val (.int (own_n p2)), .val (.int (p3 &&& (3 : Int32))), .val (.int ((128 : Int32) ||| (own_n p2))), .val (.int (0 : Int32)), .unset, .unset, .unset] [(.int ((p1 &&& (255 : Int32)) ||| (32 : Int32)))])) rfl (by rw [hml]; rfl) (argsL := [(.int ((p1 &&& (255 : Int32)) ||| (32 : Int32)))]) (rest := []) (lenOf pd_0_1 rfl) rfl (by show 2 * 0 + _ ≤ _; exact Nat.le_of_eq rfl) (hb hby at_90) (fun _ _ => ⟨rfl, rfl, (by decide : 0 + 0 ≤ _), (by decide : 0 + 0 ≤ _)⟩)
  dsimp only [Pt.U, Pt.locs, Pt.cells, Pt.slots] at X5 l5 y5 z5 st5 hQ5
  subst l5 y5 z5
  obtain ⟨rfl, N5q, e5h⟩ := hQ5      -- what it returned, that it wrote nothing old, and the rest of your Q3
  have N5 := Fr.app N4 N5q
  -- pc 100: com/example/bindery/bindery/ber/BerTag.isConstructed by its contract rm3
  obtain ⟨_, _, ⟨T6, L6, k6, n6⟩, -, X6, ⟨Lc6, hQ6, l6, y6, z6⟩, st6⟩ := Jvm.LawKit.callS X5 hx (y := (⟨"com/example/bindery/bindery/ber/BerTag", "isConstructed", "(I)Z"⟩ : MethodName)) hown (mvT hZ (hw _ (List.mem_of_getElem? (i := 8) rfl))) (mvT hZ (hw _ (List.mem_of_getElem? (i := 9) rfl))) (mvT hZ (hw _ (List.mem_of_getElem? (i := 3) rfl))) (mvT hZ (hw _ (List.mem_of_getElem? (i := 10) rfl))) (by decide) (backOf (W := 0) (rm3 l Z a0 hw [] ((p1 &&& (255 : Int32)) &&& (223 : Int32)) T5.heap n0 (by rw [e5h, e4h]; exact Z0)) hZ (hw _ (List.mem_of_getElem? (i := 10) rfl)) (hw _ (List.mem_of_getElem? (i := 3) rfl)) (by decide) (by decide)) (g := (mkF m 100 #[.val (.int p1), .val (.int p2), .val (.int p3), .val (.int (p1 &&& (255 : Int32))), .val (.int (own_n p2)), .val (.int (p3 &&& (3 : Int32))), .val (.int ((128 : Int32) ||| (own_n p2))), .val (.int (0 : Int32)), .val (.int (own_ic ((p1 &&& (255 : Int32)) ||| (32 : Int32)))), .unset, .unset] [(.int ((p1 &&& (255 : Int32)) &&& (223 : Int32)))])) rfl (by rw [hml]; rfl) (argsL := [(.int ((p1 &&& (255 : Int32)) &&& (223 : Int32)))]) (rest := []) (lenOf pd_0_1 rfl) rfl (by show 2 * 0 + _ ≤ _; exact Nat.le_of_eq rfl) (hb hby at_100) (fun _ _ => ⟨rfl, rfl, (by decide : 0 + 0 ≤ _), (by decide : 0 + 0 ≤ _)⟩)
  dsimp only [Pt.U, Pt.locs, Pt.cells, Pt.slots] at X6 l6 y6 z6 st6 hQ6
  subst l6 y6 z6
  obtain ⟨rfl, N6q, e6h⟩ := hQ6      -- what it returned, that it wrote nothing old, and the rest of your Q3
  have N6 := Fr.app N5 N6q
  -- pc 107: com/example/bindery/bindery/ber/BerTag.isConstructed by its contract rm3
  obtain ⟨_, _, ⟨T7, L7, k7, n7⟩, -, X7, ⟨Lc7, hQ7, l7, y7, z7⟩, st7⟩ := Jvm.LawKit.callS X6 hx (y := (⟨"com/example/bindery/bindery/ber/BerTag", "isConstructed", "(I)Z"⟩ : MethodName)) hown (mvT hZ (hw _ (List.mem_of_getElem? (i := 8) rfl))) (mvT hZ (hw _ (List.mem_of_getElem? (i := 9) rfl))) (mvT hZ (hw _ (List.mem_of_getElem? (i := 3) rfl))) (mvT hZ (hw _ (List.mem_of_getElem? (i := 10) rfl))) (by decide) (backOf (W := 0) (rm3 l Z a0 hw [] ((128 : Int32) ||| (own_n p2)) T6.heap n0 (by rw [e6h, e5h, e4h]; exact Z0)) hZ (hw _ (List.mem_of_getElem? (i := 10) rfl)) (hw _ (List.mem_of_getElem? (i := 3) rfl)) (by decide) (by decide)) (g := (mkF m 107 #[.val (.int p1), .val (.int p2), .val (.int p3), .val (.int (p1 &&& (255 : Int32))), .val (.int (own_n p2)), .val (.int (p3 &&& (3 : Int32))), .val (.int ((128 : Int32) ||| (own_n p2))), .val (.int (0 : Int32)), .val (.int (own_ic ((p1 &&& (255 : Int32)) ||| (32 : Int32)))), .val (.int (own_ic ((p1 &&& (255 : Int32)) &&& (223 : Int32)))), .unset] [(.int ((128 : Int32) ||| (own_n p2)))])) rfl (by rw [hml]; rfl) (argsL := [(.int ((128 : Int32) ||| (own_n p2)))]) (rest := []) (lenOf pd_0_1 rfl) rfl (by show 2 * 0 + _ ≤ _; exact Nat.le_of_eq rfl) (hb hby at_107) (fun _ _ => ⟨rfl, rfl, (by decide : 0 + 0 ≤ _), (by decide : 0 + 0 ≤ _)⟩)
  dsimp only [Pt.U, Pt.locs, Pt.cells, Pt.slots] at X7 l7 y7 z7 st7 hQ7
  subst l7 y7 z7
  obtain ⟨rfl, N7q, e7h⟩ := hQ7      -- what it returned, that it wrote nothing old, and the rest of your Q3
  have N7 := Fr.app N6 N7q
  obtain ⟨fs, hr, hrun, hended, hW, hsame⟩ := X7.leave (v := some (.int (1 : Int32))) (fun h => by rw [Bd.returns] at h; cases h)
  refine ⟨_, _, pre0 _ ?_, hrun, hended, _, _, rfl, ?_, ⟨_, rfl⟩, hW, hsame.mono (by decide) (by decide)⟩
  -- 4. STEPS
  · show Steps p.tables e below (s₁.setTop (mkF m 0 #[.val (.int p1), .val (.int p2), .val (.int p3), .unset, .unset, .unset, .unset, .unset, .unset, .unset, .unset] [])) _
    refine XS.iloadN X0.here hx rfl (hb hby at_0) rfl ?_
    show Steps p.tables e below (s₁.setTop (mkF m 1 #[.val (.int p1), .val (.int p2), .val (.int p3), .unset, .unset, .unset, .unset, .unset, .unset, .unset, .unset] [(.int p1)])) _
    refine XS.sipush X0.here hx rfl (hb hby at_1) ?_
    show Steps p.tables e below (s₁.setTop (mkF m 4 #[.val (.int p1), .val (.int p2), .val (.int p3), .unset, .unset, .unset, .unset, .unset, .unset, .unset, .unset] [(.int (255 : Int32)), (.int p1)])) _
    refine XS.iand X0.here hx rfl (hb hby at_4) rfl ?_
    show Steps p.tables e below (s₁.setTop (mkF m 5 #[.val (.int p1), .val (.int p2), .val (.int p3), .unset, .unset, .unset, .unset, .unset, .unset, .unset, .unset] [(.int (p1 &&& (255 : Int32)))])) _
    refine XS.istoreN X0.here hx rfl (hb hby at_5) rfl (l' := #[.val (.int p1), .val (.int p2), .val (.int p3), .val (.int (p1 &&& (255 : Int32))), .unset, .unset, .unset, .unset, .unset, .unset, .unset]) rfl ?_
    show Steps p.tables e below (s₁.setTop (mkF m 6 #[.val (.int p1), .val (.int p2), .val (.int p3), .val (.int (p1 &&& (255 : Int32))), .unset, .unset, .unset, .unset, .unset, .unset, .unset] [])) _
    refine XS.iloadN X0.here hx rfl (hb hby at_6) rfl ?_
    show Steps p.tables e below (s₁.setTop (mkF m 7 #[.val (.int p1), .val (.int p2), .val (.int p3), .val (.int (p1 &&& (255 : Int32))), .unset, .unset, .unset, .unset, .unset, .unset, .unset] [(.int p2)])) _
    refine X0.ldcInt hx hown (mvT hZ (hw _ (List.mem_of_getElem? (i := 0) rfl))) (g := (mkF m 7 #[.val (.int p1), .val (.int p2), .val (.int p3), .val (.int (p1 &&& (255 : Int32))), .unset, .unset, .unset, .unset, .unset, .unset, .unset] [(.int p2)])) rfl (hb hby at_7) _ ?_
    show Steps p.tables e below (s₁.setTop (mkF m 9 #[.val (.int p1), .val (.int p2), .val (.int p3), .val (.int (p1 &&& (255 : Int32))), .unset, .unset, .unset, .unset, .unset, .unset, .unset] [(.int (2147483647 : Int32)), (.int p2)])) _
    refine XS.iand X0.here hx rfl (hb hby at_9) rfl ?_
    show Steps p.tables e below (s₁.setTop (mkF m 10 #[.val (.int p1), .val (.int p2), .val (.int p3), .val (.int (p1 &&& (255 : Int32))), .unset, .unset, .unset, .unset, .unset, .unset, .unset] [(.int (p2 &&& (2147483647 : Int32)))])) _
    refine XS.bipush X0.here hx rfl (hb hby at_10) ?_
    show Steps p.tables e below (s₁.setTop (mkF m 12 #[.val (.int p1), .val (.int p2), .val (.int p3), .val (.int (p1 &&& (255 : Int32))), .unset, .unset, .unset, .unset, .unset, .unset, .unset] [(.int (31 : Int32)), (.int (p2 &&& (2147483647 : Int32)))])) _
    refine XS.irem X0.here hx rfl (hb hby at_12) rfl hnz12 ?_
    show Steps p.tables e below (s₁.setTop (mkF m 13 #[.val (.int p1), .val (.int p2), .val (.int p3), .val (.int (p1 &&& (255 : Int32))), .unset, .unset, .unset, .unset, .unset, .unset, .unset] [(.int (own_n p2))])) _
    refine XS.istore X0.here hx rfl (hb hby at_13) rfl (l' := #[.val (.int p1), .val (.int p2), .val (.int p3), .val (.int (p1 &&& (255 : Int32))), .val (.int (own_n p2)), .unset, .unset, .unset, .unset, .unset, .unset]) rfl ?_
    show Steps p.tables e below (s₁.setTop (mkF m 15 #[.val (.int p1), .val (.int p2), .val (.int p3), .val (.int (p1 &&& (255 : Int32))), .val (.int (own_n p2)), .unset, .unset, .unset, .unset, .unset, .unset] [])) _
    refine XS.iloadN X0.here hx rfl (hb hby at_15) rfl ?_
    show Steps p.tables e below (s₁.setTop (mkF m 16 #[.val (.int p1), .val (.int p2), .val (.int p3), .val (.int (p1 &&& (255 : Int32))), .val (.int (own_n p2)), .unset, .unset, .unset, .unset, .unset, .unset] [(.int p3)])) _
    refine XS.iconst X0.here hx rfl (hb hby at_16) ?_
    show Steps p.tables e below (s₁.setTop (mkF m 17 #[.val (.int p1), .val (.int p2), .val (.int p3), .val (.int (p1 &&& (255 : Int32))), .val (.int (own_n p2)), .unset, .unset, .unset, .unset, .unset, .unset] [(.int (3 : Int32)), (.int p3)])) _
    refine XS.iand X0.here hx rfl (hb hby at_17) rfl ?_
    show Steps p.tables e below (s₁.setTop (mkF m 18 #[.val (.int p1), .val (.int p2), .val (.int p3), .val (.int (p1 &&& (255 : Int32))), .val (.int (own_n p2)), .unset, .unset, .unset, .unset, .unset, .unset] [(.int (p3 &&& (3 : Int32)))])) _
    refine XS.istore X0.here hx rfl (hb hby at_18) rfl (l' := #[.val (.int p1), .val (.int p2), .val (.int p3), .val (.int (p1 &&& (255 : Int32))), .val (.int (own_n p2)), .val (.int (p3 &&& (3 : Int32))), .unset, .unset, .unset, .unset, .unset]) rfl ?_
    show Steps p.tables e below (s₁.setTop (mkF m 20 #[.val (.int p1), .val (.int p2), .val (.int p3), .val (.int (p1 &&& (255 : Int32))), .val (.int (own_n p2)), .val (.int (p3 &&& (3 : Int32))), .unset, .unset, .unset, .unset, .unset] [])) _
    refine XS.iload X0.here hx rfl (hb hby at_20) rfl ?_
    show Steps p.tables e below (s₁.setTop (mkF m 22 #[.val (.int p1), .val (.int p2), .val (.int p3), .val (.int (p1 &&& (255 : Int32))), .val (.int (own_n p2)), .val (.int (p3 &&& (3 : Int32))), .unset, .unset, .unset, .unset, .unset] [(.int (p3 &&& (3 : Int32)))])) _
    refine XS.ifYes X0.here hx rfl (pc0 := 22) (pc' := 38) rfl (hb hby at_22) rfl ((if0 _ _).trans (feq hc22).2) (by decide) (by decide) ?_
    show Steps p.tables e below (s₁.setTop (mkF m 38 #[.val (.int p1), .val (.int p2), .val (.int p3), .val (.int (p1 &&& (255 : Int32))), .val (.int (own_n p2)), .val (.int (p3 &&& (3 : Int32))), .unset, .unset, .unset, .unset, .unset] [])) _
    refine XS.iload X0.here hx rfl (hb hby at_38) rfl ?_
    show Steps p.tables e below (s₁.setTop (mkF m 40 #[.val (.int p1), .val (.int p2), .val (.int p3), .val (.int (p1 &&& (255 : Int32))), .val (.int (own_n p2)), .val (.int (p3 &&& (3 : Int32))), .unset, .unset, .unset, .unset, .unset] [(.int (p3 &&& (3 : Int32)))])) _
    refine XS.iconst X0.here hx rfl (hb hby at_40) ?_
    show Steps p.tables e below (s₁.setTop (mkF m 41 #[.val (.int p1), .val (.int p2), .val (.int p3), .val (.int (p1 &&& (255 : Int32))), .val (.int (own_n p2)), .val (.int (p3 &&& (3 : Int32))), .unset, .unset, .unset, .unset, .unset] [(.int (1 : Int32)), (.int (p3 &&& (3 : Int32)))])) _
    refine XS.icmpYes X0.here hx rfl (pc0 := 41) (pc' := 57) rfl (hb hby at_41) rfl (feq hc41).2 (by decide) (by decide) ?_
    show Steps p.tables e below (s₁.setTop (mkF m 57 #[.val (.int p1), .val (.int p2), .val (.int p3), .val (.int (p1 &&& (255 : Int32))), .val (.int (own_n p2)), .val (.int (p3 &&& (3 : Int32))), .unset, .unset, .unset, .unset, .unset] [])) _
    refine XS.iload X0.here hx rfl (hb hby at_57) rfl ?_
    show Steps p.tables e below (s₁.setTop (mkF m 59 #[.val (.int p1), .val (.int p2), .val (.int p3), .val (.int (p1 &&& (255 : Int32))), .val (.int (own_n p2)), .val (.int (p3 &&& (3 : Int32))), .unset, .unset, .unset, .unset, .unset] [(.int (p3 &&& (3 : Int32)))])) _
    refine XS.iconst X0.here hx rfl (hb hby at_59) ?_
    show Steps p.tables e below (s₁.setTop (mkF m 60 #[.val (.int p1), .val (.int p2), .val (.int p3), .val (.int (p1 &&& (255 : Int32))), .val (.int (own_n p2)), .val (.int (p3 &&& (3 : Int32))), .unset, .unset, .unset, .unset, .unset] [(.int (2 : Int32)), (.int (p3 &&& (3 : Int32)))])) _
    refine XS.icmpNo X0.here hx rfl (hb hby at_60) rfl (teq hc60).2 ?_
    show Steps p.tables e below (s₁.setTop (mkF m 63 #[.val (.int p1), .val (.int p2), .val (.int p3), .val (.int (p1 &&& (255 : Int32))), .val (.int (own_n p2)), .val (.int (p3 &&& (3 : Int32))), .unset, .unset, .unset, .unset, .unset] [])) _
    refine XS.iload X0.here hx rfl (hb hby at_63) rfl ?_
    show Steps p.tables e below (s₁.setTop (mkF m 65 #[.val (.int p1), .val (.int p2), .val (.int p3), .val (.int (p1 &&& (255 : Int32))), .val (.int (own_n p2)), .val (.int (p3 &&& (3 : Int32))), .unset, .unset, .unset, .unset, .unset] [(.int (own_n p2))])) _
    refine st4 _ ?_
    show Steps p.tables e below (T4.setTop (mkF m 68 #[.val (.int p1), .val (.int p2), .val (.int p3), .val (.int (p1 &&& (255 : Int32))), .val (.int (own_n p2)), .val (.int (p3 &&& (3 : Int32))), .unset, .unset, .unset, .unset, .unset] [(.int ((128 : Int32) ||| (own_n p2)))])) _
    refine XS.istore X4.here hx rfl (hb hby at_68) rfl (l' := #[.val (.int p1), .val (.int p2), .val (.int p3), .val (.int (p1 &&& (255 : Int32))), .val (.int (own_n p2)), .val (.int (p3 &&& (3 : Int32))), .val (.int ((128 : Int32) ||| (own_n p2))), .unset, .unset, .unset, .unset]) rfl ?_
    show Steps p.tables e below (T4.setTop (mkF m 70 #[.val (.int p1), .val (.int p2), .val (.int p3), .val (.int (p1 &&& (255 : Int32))), .val (.int (own_n p2)), .val (.int (p3 &&& (3 : Int32))), .val (.int ((128 : Int32) ||| (own_n p2))), .unset, .unset, .unset, .unset] [])) _
    refine XS.iconst X4.here hx rfl (hb hby at_70) ?_
    show Steps p.tables e below (T4.setTop (mkF m 71 #[.val (.int p1), .val (.int p2), .val (.int p3), .val (.int (p1 &&& (255 : Int32))), .val (.int (own_n p2)), .val (.int (p3 &&& (3 : Int32))), .val (.int ((128 : Int32) ||| (own_n p2))), .unset, .unset, .unset, .unset] [(.int (0 : Int32))])) _
    refine XS.istore X4.here hx rfl (hb hby at_71) rfl (l' := #[.val (.int p1), .val (.int p2), .val (.int p3), .val (.int (p1 &&& (255 : Int32))), .val (.int (own_n p2)), .val (.int (p3 &&& (3 : Int32))), .val (.int ((128 : Int32) ||| (own_n p2))), .val (.int (0 : Int32)), .unset, .unset, .unset]) rfl ?_
    show Steps p.tables e below (T4.setTop (mkF m 73 #[.val (.int p1), .val (.int p2), .val (.int p3), .val (.int (p1 &&& (255 : Int32))), .val (.int (own_n p2)), .val (.int (p3 &&& (3 : Int32))), .val (.int ((128 : Int32) ||| (own_n p2))), .val (.int (0 : Int32)), .unset, .unset, .unset] [])) _
    refine XS.goto X4.here hx rfl (pc0 := 73) (pc' := 86) rfl (hb hby at_73) (by decide) (by decide) ?_
    show Steps p.tables e below (T4.setTop (mkF m 86 #[.val (.int p1), .val (.int p2), .val (.int p3), .val (.int (p1 &&& (255 : Int32))), .val (.int (own_n p2)), .val (.int (p3 &&& (3 : Int32))), .val (.int ((128 : Int32) ||| (own_n p2))), .val (.int (0 : Int32)), .unset, .unset, .unset] [])) _
    refine XS.iloadN X4.here hx rfl (hb hby at_86) rfl ?_
    show Steps p.tables e below (T4.setTop (mkF m 87 #[.val (.int p1), .val (.int p2), .val (.int p3), .val (.int (p1 &&& (255 : Int32))), .val (.int (own_n p2)), .val (.int (p3 &&& (3 : Int32))), .val (.int ((128 : Int32) ||| (own_n p2))), .val (.int (0 : Int32)), .unset, .unset, .unset] [(.int (p1 &&& (255 : Int32)))])) _
    refine XS.bipush X4.here hx rfl (hb hby at_87) ?_
    show Steps p.tables e below (T4.setTop (mkF m 89 #[.val (.int p1), .val (.int p2), .val (.int p3), .val (.int (p1 &&& (255 : Int32))), .val (.int (own_n p2)), .val (.int (p3 &&& (3 : Int32))), .val (.int ((128 : Int32) ||| (own_n p2))), .val (.int (0 : Int32)), .unset, .unset, .unset] [(.int (32 : Int32)), (.int (p1 &&& (255 : Int32)))])) _
    refine XS.ior X4.here hx rfl (hb hby at_89) rfl ?_
    show Steps p.tables e below (T4.setTop (mkF m 90 #[.val (.int p1), .val (.int p2), .val (.int p3), .val (.int (p1 &&& (255 : Int32))), .val (.int (own_n p2)), .val (.int (p3 &&& (3 : Int32))), .val (.int ((128 : Int32) ||| (own_n p2))), .val (.int (0 : Int32)), .unset, .unset, .unset] [(.int ((p1 &&& (255 : Int32)) ||| (32 : Int32)))])) _
    refine st5 _ ?_
    show Steps p.tables e below (T5.setTop (mkF m 93 #[.val (.int p1), .val (.int p2), .val (.int p3), .val (.int (p1 &&& (255 : Int32))), .val (.int (own_n p2)), .val (.int (p3 &&& (3 : Int32))), .val (.int ((128 : Int32) ||| (own_n p2))), .val (.int (0 : Int32)), .unset, .unset, .unset] [(.int (own_ic ((p1 &&& (255 : Int32)) ||| (32 : Int32))))])) _
    refine XS.istore X5.here hx rfl (hb hby at_93) rfl (l' := #[.val (.int p1), .val (.int p2), .val (.int p3), .val (.int (p1 &&& (255 : Int32))), .val (.int (own_n p2)), .val (.int (p3 &&& (3 : Int32))), .val (.int ((128 : Int32) ||| (own_n p2))), .val (.int (0 : Int32)), .val (.int (own_ic ((p1 &&& (255 : Int32)) ||| (32 : Int32)))), .unset, .unset]) rfl ?_
    show Steps p.tables e below (T5.setTop (mkF m 95 #[.val (.int p1), .val (.int p2), .val (.int p3), .val (.int (p1 &&& (255 : Int32))), .val (.int (own_n p2)), .val (.int (p3 &&& (3 : Int32))), .val (.int ((128 : Int32) ||| (own_n p2))), .val (.int (0 : Int32)), .val (.int (own_ic ((p1 &&& (255 : Int32)) ||| (32 : Int32)))), .unset, .unset] [])) _
    refine XS.iloadN X5.here hx rfl (hb hby at_95) rfl ?_
    show Steps p.tables e below (T5.setTop (mkF m 96 #[.val (.int p1), .val (.int p2), .val (.int p3), .val (.int (p1 &&& (255 : Int32))), .val (.int (own_n p2)), .val (.int (p3 &&& (3 : Int32))), .val (.int ((128 : Int32) ||| (own_n p2))), .val (.int (0 : Int32)), .val (.int (own_ic ((p1 &&& (255 : Int32)) ||| (32 : Int32)))), .unset, .unset] [(.int (p1 &&& (255 : Int32)))])) _
    refine XS.sipush X5.here hx rfl (hb hby at_96) ?_
    show Steps p.tables e below (T5.setTop (mkF m 99 #[.val (.int p1), .val (.int p2), .val (.int p3), .val (.int (p1 &&& (255 : Int32))), .val (.int (own_n p2)), .val (.int (p3 &&& (3 : Int32))), .val (.int ((128 : Int32) ||| (own_n p2))), .val (.int (0 : Int32)), .val (.int (own_ic ((p1 &&& (255 : Int32)) ||| (32 : Int32)))), .unset, .unset] [(.int (223 : Int32)), (.int (p1 &&& (255 : Int32)))])) _
    refine XS.iand X5.here hx rfl (hb hby at_99) rfl ?_
    show Steps p.tables e below (T5.setTop (mkF m 100 #[.val (.int p1), .val (.int p2), .val (.int p3), .val (.int (p1 &&& (255 : Int32))), .val (.int (own_n p2)), .val (.int (p3 &&& (3 : Int32))), .val (.int ((128 : Int32) ||| (own_n p2))), .val (.int (0 : Int32)), .val (.int (own_ic ((p1 &&& (255 : Int32)) ||| (32 : Int32)))), .unset, .unset] [(.int ((p1 &&& (255 : Int32)) &&& (223 : Int32)))])) _
    refine st6 _ ?_
    show Steps p.tables e below (T6.setTop (mkF m 103 #[.val (.int p1), .val (.int p2), .val (.int p3), .val (.int (p1 &&& (255 : Int32))), .val (.int (own_n p2)), .val (.int (p3 &&& (3 : Int32))), .val (.int ((128 : Int32) ||| (own_n p2))), .val (.int (0 : Int32)), .val (.int (own_ic ((p1 &&& (255 : Int32)) ||| (32 : Int32)))), .unset, .unset] [(.int (own_ic ((p1 &&& (255 : Int32)) &&& (223 : Int32))))])) _
    refine XS.istore X6.here hx rfl (hb hby at_103) rfl (l' := #[.val (.int p1), .val (.int p2), .val (.int p3), .val (.int (p1 &&& (255 : Int32))), .val (.int (own_n p2)), .val (.int (p3 &&& (3 : Int32))), .val (.int ((128 : Int32) ||| (own_n p2))), .val (.int (0 : Int32)), .val (.int (own_ic ((p1 &&& (255 : Int32)) ||| (32 : Int32)))), .val (.int (own_ic ((p1 &&& (255 : Int32)) &&& (223 : Int32)))), .unset]) rfl ?_
    show Steps p.tables e below (T6.setTop (mkF m 105 #[.val (.int p1), .val (.int p2), .val (.int p3), .val (.int (p1 &&& (255 : Int32))), .val (.int (own_n p2)), .val (.int (p3 &&& (3 : Int32))), .val (.int ((128 : Int32) ||| (own_n p2))), .val (.int (0 : Int32)), .val (.int (own_ic ((p1 &&& (255 : Int32)) ||| (32 : Int32)))), .val (.int (own_ic ((p1 &&& (255 : Int32)) &&& (223 : Int32)))), .unset] [])) _
    refine XS.iload X6.here hx rfl (hb hby at_105) rfl ?_
    show Steps p.tables e below (T6.setTop (mkF m 107 #[.val (.int p1), .val (.int p2), .val (.int p3), .val (.int (p1 &&& (255 : Int32))), .val (.int (own_n p2)), .val (.int (p3 &&& (3 : Int32))), .val (.int ((128 : Int32) ||| (own_n p2))), .val (.int (0 : Int32)), .val (.int (own_ic ((p1 &&& (255 : Int32)) ||| (32 : Int32)))), .val (.int (own_ic ((p1 &&& (255 : Int32)) &&& (223 : Int32)))), .unset] [(.int ((128 : Int32) ||| (own_n p2)))])) _
    refine st7 _ ?_
    show Steps p.tables e below (T7.setTop (mkF m 110 #[.val (.int p1), .val (.int p2), .val (.int p3), .val (.int (p1 &&& (255 : Int32))), .val (.int (own_n p2)), .val (.int (p3 &&& (3 : Int32))), .val (.int ((128 : Int32) ||| (own_n p2))), .val (.int (0 : Int32)), .val (.int (own_ic ((p1 &&& (255 : Int32)) ||| (32 : Int32)))), .val (.int (own_ic ((p1 &&& (255 : Int32)) &&& (223 : Int32)))), .unset] [(.int (own_ic ((128 : Int32) ||| (own_n p2))))])) _
    refine XS.iload X7.here hx rfl (hb hby at_110) rfl ?_
    show Steps p.tables e below (T7.setTop (mkF m 112 #[.val (.int p1), .val (.int p2), .val (.int p3), .val (.int (p1 &&& (255 : Int32))), .val (.int (own_n p2)), .val (.int (p3 &&& (3 : Int32))), .val (.int ((128 : Int32) ||| (own_n p2))), .val (.int (0 : Int32)), .val (.int (own_ic ((p1 &&& (255 : Int32)) ||| (32 : Int32)))), .val (.int (own_ic ((p1 &&& (255 : Int32)) &&& (223 : Int32)))), .unset] [(.int (0 : Int32)), (.int (own_ic ((128 : Int32) ||| (own_n p2))))])) _
    refine XS.icmpNo X7.here hx rfl (hb hby at_112) rfl (teq ((own_built p2).2.2.1 : (own_ic ((128 : Int32) ||| (own_n p2))) = (0 : Int32))).2 ?_
    show Steps p.tables e below (T7.setTop (mkF m 115 #[.val (.int p1), .val (.int p2), .val (.int p3), .val (.int (p1 &&& (255 : Int32))), .val (.int (own_n p2)), .val (.int (p3 &&& (3 : Int32))), .val (.int ((128 : Int32) ||| (own_n p2))), .val (.int (0 : Int32)), .val (.int (own_ic ((p1 &&& (255 : Int32)) ||| (32 : Int32)))), .val (.int (own_ic ((p1 &&& (255 : Int32)) &&& (223 : Int32)))), .unset] [])) _
    refine XS.iconst X7.here hx rfl (hb hby at_115) ?_
    show Steps p.tables e below (T7.setTop (mkF m 116 #[.val (.int p1), .val (.int p2), .val (.int p3), .val (.int (p1 &&& (255 : Int32))), .val (.int (own_n p2)), .val (.int (p3 &&& (3 : Int32))), .val (.int ((128 : Int32) ||| (own_n p2))), .val (.int (0 : Int32)), .val (.int (own_ic ((p1 &&& (255 : Int32)) ||| (32 : Int32)))), .val (.int (own_ic ((p1 &&& (255 : Int32)) &&& (223 : Int32)))), .unset] [(.int (1 : Int32))])) _
    refine XS.goto X7.here hx rfl (pc0 := 116) (pc' := 120) rfl (hb hby at_116) (by decide) (by decide) ?_
    show Steps p.tables e below (T7.setTop (mkF m 120 #[.val (.int p1), .val (.int p2), .val (.int p3), .val (.int (p1 &&& (255 : Int32))), .val (.int (own_n p2)), .val (.int (p3 &&& (3 : Int32))), .val (.int ((128 : Int32) ||| (own_n p2))), .val (.int (0 : Int32)), .val (.int (own_ic ((p1 &&& (255 : Int32)) ||| (32 : Int32)))), .val (.int (own_ic ((p1 &&& (255 : Int32)) &&& (223 : Int32)))), .unset] [(.int (1 : Int32))])) _
    refine XS.istore X7.here hx rfl (hb hby at_120) rfl (l' := #[.val (.int p1), .val (.int p2), .val (.int p3), .val (.int (p1 &&& (255 : Int32))), .val (.int (own_n p2)), .val (.int (p3 &&& (3 : Int32))), .val (.int ((128 : Int32) ||| (own_n p2))), .val (.int (0 : Int32)), .val (.int (own_ic ((p1 &&& (255 : Int32)) ||| (32 : Int32)))), .val (.int (own_ic ((p1 &&& (255 : Int32)) &&& (223 : Int32)))), .val (.int (1 : Int32))]) rfl ?_
    show Steps p.tables e below (T7.setTop (mkF m 122 #[.val (.int p1), .val (.int p2), .val (.int p3), .val (.int (p1 &&& (255 : Int32))), .val (.int (own_n p2)), .val (.int (p3 &&& (3 : Int32))), .val (.int ((128 : Int32) ||| (own_n p2))), .val (.int (0 : Int32)), .val (.int (own_ic ((p1 &&& (255 : Int32)) ||| (32 : Int32)))), .val (.int (own_ic ((p1 &&& (255 : Int32)) &&& (223 : Int32)))), .val (.int (1 : Int32))] [])) _
    refine XS.iload X7.here hx rfl (hb hby at_122) rfl ?_
    show Steps p.tables e below (T7.setTop (mkF m 124 #[.val (.int p1), .val (.int p2), .val (.int p3), .val (.int (p1 &&& (255 : Int32))), .val (.int (own_n p2)), .val (.int (p3 &&& (3 : Int32))), .val (.int ((128 : Int32) ||| (own_n p2))), .val (.int (0 : Int32)), .val (.int (own_ic ((p1 &&& (255 : Int32)) ||| (32 : Int32)))), .val (.int (own_ic ((p1 &&& (255 : Int32)) &&& (223 : Int32)))), .val (.int (1 : Int32))] [(.int (own_ic ((p1 &&& (255 : Int32)) ||| (32 : Int32))))])) _
    refine XS.ifNo X7.here hx rfl (hb hby at_124) rfl ((if0 _ _).trans (feq (own_i1 _ : ¬ ((own_ic ((p1 &&& (255 : Int32)) ||| (32 : Int32))) = (0 : Int32)))).1) ?_
    show Steps p.tables e below (T7.setTop (mkF m 127 #[.val (.int p1), .val (.int p2), .val (.int p3), .val (.int (p1 &&& (255 : Int32))), .val (.int (own_n p2)), .val (.int (p3 &&& (3 : Int32))), .val (.int ((128 : Int32) ||| (own_n p2))), .val (.int (0 : Int32)), .val (.int (own_ic ((p1 &&& (255 : Int32)) ||| (32 : Int32)))), .val (.int (own_ic ((p1 &&& (255 : Int32)) &&& (223 : Int32)))), .val (.int (1 : Int32))] [])) _
    refine XS.iload X7.here hx rfl (hb hby at_127) rfl ?_
    show Steps p.tables e below (T7.setTop (mkF m 129 #[.val (.int p1), .val (.int p2), .val (.int p3), .val (.int (p1 &&& (255 : Int32))), .val (.int (own_n p2)), .val (.int (p3 &&& (3 : Int32))), .val (.int ((128 : Int32) ||| (own_n p2))), .val (.int (0 : Int32)), .val (.int (own_ic ((p1 &&& (255 : Int32)) ||| (32 : Int32)))), .val (.int (own_ic ((p1 &&& (255 : Int32)) &&& (223 : Int32)))), .val (.int (1 : Int32))] [(.int (own_ic ((p1 &&& (255 : Int32)) &&& (223 : Int32))))])) _
    refine XS.ifNo X7.here hx rfl (hb hby at_129) rfl ((if0 _ _).trans (teq (own_i2 _ : (own_ic ((p1 &&& (255 : Int32)) &&& (223 : Int32))) = (0 : Int32))).2) ?_
    show Steps p.tables e below (T7.setTop (mkF m 132 #[.val (.int p1), .val (.int p2), .val (.int p3), .val (.int (p1 &&& (255 : Int32))), .val (.int (own_n p2)), .val (.int (p3 &&& (3 : Int32))), .val (.int ((128 : Int32) ||| (own_n p2))), .val (.int (0 : Int32)), .val (.int (own_ic ((p1 &&& (255 : Int32)) ||| (32 : Int32)))), .val (.int (own_ic ((p1 &&& (255 : Int32)) &&& (223 : Int32)))), .val (.int (1 : Int32))] [])) _
    refine XS.iload X7.here hx rfl (hb hby at_132) rfl ?_
    show Steps p.tables e below (T7.setTop (mkF m 134 #[.val (.int p1), .val (.int p2), .val (.int p3), .val (.int (p1 &&& (255 : Int32))), .val (.int (own_n p2)), .val (.int (p3 &&& (3 : Int32))), .val (.int ((128 : Int32) ||| (own_n p2))), .val (.int (0 : Int32)), .val (.int (own_ic ((p1 &&& (255 : Int32)) ||| (32 : Int32)))), .val (.int (own_ic ((p1 &&& (255 : Int32)) &&& (223 : Int32)))), .val (.int (1 : Int32))] [(.int (1 : Int32))])) _
    refine XS.ifNo X7.here hx rfl (hb hby at_134) rfl ((if0 _ _).trans (feq hc134).1) ?_
    show Steps p.tables e below (T7.setTop (mkF m 137 #[.val (.int p1), .val (.int p2), .val (.int p3), .val (.int (p1 &&& (255 : Int32))), .val (.int (own_n p2)), .val (.int (p3 &&& (3 : Int32))), .val (.int ((128 : Int32) ||| (own_n p2))), .val (.int (0 : Int32)), .val (.int (own_ic ((p1 &&& (255 : Int32)) ||| (32 : Int32)))), .val (.int (own_ic ((p1 &&& (255 : Int32)) &&& (223 : Int32)))), .val (.int (1 : Int32))] [])) _
    refine XS.iconst X7.here hx rfl (hb hby at_137) ?_
    show Steps p.tables e below (T7.setTop (mkF m 138 #[.val (.int p1), .val (.int p2), .val (.int p3), .val (.int (p1 &&& (255 : Int32))), .val (.int (own_n p2)), .val (.int (p3 &&& (3 : Int32))), .val (.int ((128 : Int32) ||| (own_n p2))), .val (.int (0 : Int32)), .val (.int (own_ic ((p1 &&& (255 : Int32)) ||| (32 : Int32)))), .val (.int (own_ic ((p1 &&& (255 : Int32)) &&& (223 : Int32)))), .val (.int (1 : Int32))] [(.int (1 : Int32))])) _
    refine XS.goto X7.here hx rfl (pc0 := 138) (pc' := 142) rfl (hb hby at_138) (by decide) (by decide) ?_
    show Steps p.tables e below (T7.setTop (mkF m 142 #[.val (.int p1), .val (.int p2), .val (.int p3), .val (.int (p1 &&& (255 : Int32))), .val (.int (own_n p2)), .val (.int (p3 &&& (3 : Int32))), .val (.int ((128 : Int32) ||| (own_n p2))), .val (.int (0 : Int32)), .val (.int (own_ic ((p1 &&& (255 : Int32)) ||| (32 : Int32)))), .val (.int (own_ic ((p1 &&& (255 : Int32)) &&& (223 : Int32)))), .val (.int (1 : Int32))] [(.int (1 : Int32))])) _
    exact retN X7 hx (t := .boolean) Bd.returns (by simp) (hb hby at_142) hr
  · show Q0 Z p1 p2 p3 h0 n0 _ T7.heap _
    exact ⟨rfl, N7⟩
set_option maxRecDepth 65536 in
set_option maxHeartbeats 40000000 in
theorem rm0d (l : Launch) (Z : State) (a0 : Array Value) (hw : ∀ d ∈ tables_1, d.before a0 Z = true) (ws : List Jvm.Cond) (p1 : Int32) (p2 : Int32) (p3 : Int32) (h0 : Heap) (n0 : Nat) (Z0 : n0 ≤ h0.size) (hnz12 : ¬ ((31 : Int32) = (0 : Int32))) (hc22 : ¬ ((p3 &&& (3 : Int32)) = (0 : Int32))) (hc41 : ¬ ((p3 &&& (3 : Int32)) = (1 : Int32))) (hc60 : ¬ ((p3 &&& (3 : Int32)) = (2 : Int32))) (hc134 : ¬ ((1 : Int32) = (0 : Int32))) :
    MetFree l x (head1 (Jvm.Cond.code x code maxLocals ret :: ws) room_1) (fun a U => a = #[(.int p1), (.int p2), (.int p3)] ∧ Z.Warmed39 U.vm ∧ U.heap = h0) (fun _ _ _ _ _ => True) (fun _ U o U' => ∃ v L, o = .returned v ∧ Q0 Z p1 p2 p3 h0 n0 v U'.heap L ∧ FrameEnd U o U' L room_1.cells room_1.slots) := by
  refine MetFree.of_bodySF (plainFor_of_name pn_0) hisR ?_
  intro p e s m args below meth c s₁ Bd hml0 hP hK
  obtain ⟨rfl, hZ, hh⟩ := hP
  have hx := Bd.exec
  have hby := Bd.bytes
  have hml : c.maxLocals = 11 := hml0
  have hown : s.vm.findClass "com/example/bindery/bindery/ber/BerTagIsConstructedPinLaw" = some m.cls := findClass_of_methodNamed Bd.named
  have hnm := (name_of_methodNamed Bd.named Bd.method).1
  have X0 : Stand p l e room_1 s m #[(.int p1), (.int p2), (.int p3)] below meth c s₁ [] 0 0 := Stand.of_body Bd
  have e0 : s₁.heap = h0 := by rw [← hh, Bd.state]; rfl
  have N0 := Fr.nil n0
  have pre0 : ∀ t, Steps p.tables e below (s₁.setTop (mkF m 0 #[.val (.int p1), .val (.int p2), .val (.int p3), .unset, .unset, .unset, .unset, .unset, .unset, .unset, .unset] [])) t → Steps p.tables e below (s₁.setTop (entryFrame m #[(.int p1), (.int p2), (.int p3)] maxLocals)) t := fun t k => castTop (ef_0 m p1 p2 p3) k
  -- 3. LAWS
  -- pc 78: com/example/bindery/bindery/ber/BerTag.contextConstructed by its contract rm4
  obtain ⟨_, _, ⟨T4, L4, k4, n4⟩, -, X4, ⟨Lc4, hQ4, l4, y4, z4⟩, st4⟩ := Jvm.LawKit.callS X0 hx (y := (⟨"com/example/bindery/bindery/ber/BerTag", "contextConstructed", "(I)I"⟩ : MethodName)) hown (mvT hZ (hw _ (List.mem_of_getElem? (i := 11) rfl))) (mvT hZ (hw _ (List.mem_of_getElem? (i := 12) rfl))) (mvT hZ (hw _ (List.mem_of_getElem? (i := 3) rfl))) (mvT hZ (hw _ (List.mem_of_getElem? (i := 13) rfl))) (by decide) (backOf (W := 0) (rm4 l Z a0 hw [] (own_n p2) h0 n0 Z0 (own_n_lo p2) (own_n_hi p2)) hZ (hw _ (List.mem_of_getElem? (i := 13) rfl)) (hw _ (List.mem_of_getElem? (i := 3) rfl)) (by decide) (by decide)) (g := (mkF m 78 #[.val (.int p1), .val (.int p2), .val (.int p3), .val (.int (p1 &&& (255 : Int32))), .val (.int (own_n p2)), .val (.int (p3 &&& (3 : Int32))), .unset, .unset, .unset, .unset, .unset] [(.int (own_n p2))])) rfl (by rw [hml]; rfl) (argsL := [(.int (own_n p2))]) (rest := []) (lenOf pd_0_0 rfl) rfl (by show 2 * 0 + _ ≤ _; exact Nat.le_of_eq rfl) (hb hby at_78) (fun _ _ => ⟨rfl, e0, (by decide : 0 + 0 ≤ _), (by decide : 0 + 0 ≤ _)⟩)
  dsimp only [Pt.U, Pt.locs, Pt.cells, Pt.slots] at X4 l4 y4 z4 st4 hQ4
  subst l4 y4 z4
  obtain ⟨rfl, N4q, e4h⟩ := hQ4      -- what it returned, that it wrote nothing old, and the rest of your Q4
  have N4 := Fr.app N0 N4q
  -- pc 90: com/example/bindery/bindery/ber/BerTag.isConstructed by its contract rm3
  obtain ⟨_, _, ⟨T5, L5, k5, n5⟩, -, X5, ⟨Lc5, hQ5, l5, y5, z5⟩, st5⟩ := Jvm.LawKit.callS X4 hx (y := (⟨"com/example/bindery/bindery/ber/BerTag", "isConstructed", "(I)Z"⟩ : MethodName)) hown (mvT hZ (hw _ (List.mem_of_getElem? (i := 8) rfl))) (mvT hZ (hw _ (List.mem_of_getElem? (i := 9) rfl))) (mvT hZ (hw _ (List.mem_of_getElem? (i := 3) rfl))) (mvT hZ (hw _ (List.mem_of_getElem? (i := 10) rfl))) (by decide) (backOf (W := 0) (rm3 l Z a0 hw [] ((p1 &&& (255 : Int32)) ||| (32 : Int32)) T4.heap n0 (by rw [e4h]; exact Z0)) hZ (hw _ (List.mem_of_getElem? (i := 10) rfl)) (hw _ (List.mem_of_getElem? (i := 3) rfl)) (by decide) (by decide)) (g := (mkF m 90 #[.val (.int p1), .val (.int p2), .val (.int p3), .val (.int (p1 &&& (255 : Int32))), .val (.int (own_n p2)), .val (.int (p3 &&& (3 : Int32))), .val (.int ((160 : Int32) ||| (own_n p2))), .val (.int (1 : Int32)), .unset, .unset, .unset] [(.int ((p1 &&& (255 : Int32)) ||| (32 : Int32)))])) rfl (by rw [hml]; rfl) (argsL := [(.int ((p1 &&& (255 : Int32)) ||| (32 : Int32)))]) (rest := []) (lenOf pd_0_1 rfl) rfl (by show 2 * 0 + _ ≤ _; exact Nat.le_of_eq rfl) (hb hby at_90) (fun _ _ => ⟨rfl, rfl, (by decide : 0 + 0 ≤ _), (by decide : 0 + 0 ≤ _)⟩)
  dsimp only [Pt.U, Pt.locs, Pt.cells, Pt.slots] at X5 l5 y5 z5 st5 hQ5
  subst l5 y5 z5
  obtain ⟨rfl, N5q, e5h⟩ := hQ5      -- what it returned, that it wrote nothing old, and the rest of your Q3
  have N5 := Fr.app N4 N5q
  -- pc 100: com/example/bindery/bindery/ber/BerTag.isConstructed by its contract rm3
  obtain ⟨_, _, ⟨T6, L6, k6, n6⟩, -, X6, ⟨Lc6, hQ6, l6, y6, z6⟩, st6⟩ := Jvm.LawKit.callS X5 hx (y := (⟨"com/example/bindery/bindery/ber/BerTag", "isConstructed", "(I)Z"⟩ : MethodName)) hown (mvT hZ (hw _ (List.mem_of_getElem? (i := 8) rfl))) (mvT hZ (hw _ (List.mem_of_getElem? (i := 9) rfl))) (mvT hZ (hw _ (List.mem_of_getElem? (i := 3) rfl))) (mvT hZ (hw _ (List.mem_of_getElem? (i := 10) rfl))) (by decide) (backOf (W := 0) (rm3 l Z a0 hw [] ((p1 &&& (255 : Int32)) &&& (223 : Int32)) T5.heap n0 (by rw [e5h, e4h]; exact Z0)) hZ (hw _ (List.mem_of_getElem? (i := 10) rfl)) (hw _ (List.mem_of_getElem? (i := 3) rfl)) (by decide) (by decide)) (g := (mkF m 100 #[.val (.int p1), .val (.int p2), .val (.int p3), .val (.int (p1 &&& (255 : Int32))), .val (.int (own_n p2)), .val (.int (p3 &&& (3 : Int32))), .val (.int ((160 : Int32) ||| (own_n p2))), .val (.int (1 : Int32)), .val (.int (own_ic ((p1 &&& (255 : Int32)) ||| (32 : Int32)))), .unset, .unset] [(.int ((p1 &&& (255 : Int32)) &&& (223 : Int32)))])) rfl (by rw [hml]; rfl) (argsL := [(.int ((p1 &&& (255 : Int32)) &&& (223 : Int32)))]) (rest := []) (lenOf pd_0_1 rfl) rfl (by show 2 * 0 + _ ≤ _; exact Nat.le_of_eq rfl) (hb hby at_100) (fun _ _ => ⟨rfl, rfl, (by decide : 0 + 0 ≤ _), (by decide : 0 + 0 ≤ _)⟩)
  dsimp only [Pt.U, Pt.locs, Pt.cells, Pt.slots] at X6 l6 y6 z6 st6 hQ6
  subst l6 y6 z6
  obtain ⟨rfl, N6q, e6h⟩ := hQ6      -- what it returned, that it wrote nothing old, and the rest of your Q3
  have N6 := Fr.app N5 N6q
  -- pc 107: com/example/bindery/bindery/ber/BerTag.isConstructed by its contract rm3
  obtain ⟨_, _, ⟨T7, L7, k7, n7⟩, -, X7, ⟨Lc7, hQ7, l7, y7, z7⟩, st7⟩ := Jvm.LawKit.callS X6 hx (y := (⟨"com/example/bindery/bindery/ber/BerTag", "isConstructed", "(I)Z"⟩ : MethodName)) hown (mvT hZ (hw _ (List.mem_of_getElem? (i := 8) rfl))) (mvT hZ (hw _ (List.mem_of_getElem? (i := 9) rfl))) (mvT hZ (hw _ (List.mem_of_getElem? (i := 3) rfl))) (mvT hZ (hw _ (List.mem_of_getElem? (i := 10) rfl))) (by decide) (backOf (W := 0) (rm3 l Z a0 hw [] ((160 : Int32) ||| (own_n p2)) T6.heap n0 (by rw [e6h, e5h, e4h]; exact Z0)) hZ (hw _ (List.mem_of_getElem? (i := 10) rfl)) (hw _ (List.mem_of_getElem? (i := 3) rfl)) (by decide) (by decide)) (g := (mkF m 107 #[.val (.int p1), .val (.int p2), .val (.int p3), .val (.int (p1 &&& (255 : Int32))), .val (.int (own_n p2)), .val (.int (p3 &&& (3 : Int32))), .val (.int ((160 : Int32) ||| (own_n p2))), .val (.int (1 : Int32)), .val (.int (own_ic ((p1 &&& (255 : Int32)) ||| (32 : Int32)))), .val (.int (own_ic ((p1 &&& (255 : Int32)) &&& (223 : Int32)))), .unset] [(.int ((160 : Int32) ||| (own_n p2)))])) rfl (by rw [hml]; rfl) (argsL := [(.int ((160 : Int32) ||| (own_n p2)))]) (rest := []) (lenOf pd_0_1 rfl) rfl (by show 2 * 0 + _ ≤ _; exact Nat.le_of_eq rfl) (hb hby at_107) (fun _ _ => ⟨rfl, rfl, (by decide : 0 + 0 ≤ _), (by decide : 0 + 0 ≤ _)⟩)
  dsimp only [Pt.U, Pt.locs, Pt.cells, Pt.slots] at X7 l7 y7 z7 st7 hQ7
  subst l7 y7 z7
  obtain ⟨rfl, N7q, e7h⟩ := hQ7      -- what it returned, that it wrote nothing old, and the rest of your Q3
  have N7 := Fr.app N6 N7q
  obtain ⟨fs, hr, hrun, hended, hW, hsame⟩ := X7.leave (v := some (.int (1 : Int32))) (fun h => by rw [Bd.returns] at h; cases h)
  refine ⟨_, _, pre0 _ ?_, hrun, hended, _, _, rfl, ?_, ⟨_, rfl⟩, hW, hsame.mono (by decide) (by decide)⟩
  -- 4. STEPS
  · show Steps p.tables e below (s₁.setTop (mkF m 0 #[.val (.int p1), .val (.int p2), .val (.int p3), .unset, .unset, .unset, .unset, .unset, .unset, .unset, .unset] [])) _
    refine XS.iloadN X0.here hx rfl (hb hby at_0) rfl ?_
    show Steps p.tables e below (s₁.setTop (mkF m 1 #[.val (.int p1), .val (.int p2), .val (.int p3), .unset, .unset, .unset, .unset, .unset, .unset, .unset, .unset] [(.int p1)])) _
    refine XS.sipush X0.here hx rfl (hb hby at_1) ?_
    show Steps p.tables e below (s₁.setTop (mkF m 4 #[.val (.int p1), .val (.int p2), .val (.int p3), .unset, .unset, .unset, .unset, .unset, .unset, .unset, .unset] [(.int (255 : Int32)), (.int p1)])) _
    refine XS.iand X0.here hx rfl (hb hby at_4) rfl ?_
    show Steps p.tables e below (s₁.setTop (mkF m 5 #[.val (.int p1), .val (.int p2), .val (.int p3), .unset, .unset, .unset, .unset, .unset, .unset, .unset, .unset] [(.int (p1 &&& (255 : Int32)))])) _
    refine XS.istoreN X0.here hx rfl (hb hby at_5) rfl (l' := #[.val (.int p1), .val (.int p2), .val (.int p3), .val (.int (p1 &&& (255 : Int32))), .unset, .unset, .unset, .unset, .unset, .unset, .unset]) rfl ?_
    show Steps p.tables e below (s₁.setTop (mkF m 6 #[.val (.int p1), .val (.int p2), .val (.int p3), .val (.int (p1 &&& (255 : Int32))), .unset, .unset, .unset, .unset, .unset, .unset, .unset] [])) _
    refine XS.iloadN X0.here hx rfl (hb hby at_6) rfl ?_
    show Steps p.tables e below (s₁.setTop (mkF m 7 #[.val (.int p1), .val (.int p2), .val (.int p3), .val (.int (p1 &&& (255 : Int32))), .unset, .unset, .unset, .unset, .unset, .unset, .unset] [(.int p2)])) _
    refine X0.ldcInt hx hown (mvT hZ (hw _ (List.mem_of_getElem? (i := 0) rfl))) (g := (mkF m 7 #[.val (.int p1), .val (.int p2), .val (.int p3), .val (.int (p1 &&& (255 : Int32))), .unset, .unset, .unset, .unset, .unset, .unset, .unset] [(.int p2)])) rfl (hb hby at_7) _ ?_
    show Steps p.tables e below (s₁.setTop (mkF m 9 #[.val (.int p1), .val (.int p2), .val (.int p3), .val (.int (p1 &&& (255 : Int32))), .unset, .unset, .unset, .unset, .unset, .unset, .unset] [(.int (2147483647 : Int32)), (.int p2)])) _
    refine XS.iand X0.here hx rfl (hb hby at_9) rfl ?_
    show Steps p.tables e below (s₁.setTop (mkF m 10 #[.val (.int p1), .val (.int p2), .val (.int p3), .val (.int (p1 &&& (255 : Int32))), .unset, .unset, .unset, .unset, .unset, .unset, .unset] [(.int (p2 &&& (2147483647 : Int32)))])) _
    refine XS.bipush X0.here hx rfl (hb hby at_10) ?_
    show Steps p.tables e below (s₁.setTop (mkF m 12 #[.val (.int p1), .val (.int p2), .val (.int p3), .val (.int (p1 &&& (255 : Int32))), .unset, .unset, .unset, .unset, .unset, .unset, .unset] [(.int (31 : Int32)), (.int (p2 &&& (2147483647 : Int32)))])) _
    refine XS.irem X0.here hx rfl (hb hby at_12) rfl hnz12 ?_
    show Steps p.tables e below (s₁.setTop (mkF m 13 #[.val (.int p1), .val (.int p2), .val (.int p3), .val (.int (p1 &&& (255 : Int32))), .unset, .unset, .unset, .unset, .unset, .unset, .unset] [(.int (own_n p2))])) _
    refine XS.istore X0.here hx rfl (hb hby at_13) rfl (l' := #[.val (.int p1), .val (.int p2), .val (.int p3), .val (.int (p1 &&& (255 : Int32))), .val (.int (own_n p2)), .unset, .unset, .unset, .unset, .unset, .unset]) rfl ?_
    show Steps p.tables e below (s₁.setTop (mkF m 15 #[.val (.int p1), .val (.int p2), .val (.int p3), .val (.int (p1 &&& (255 : Int32))), .val (.int (own_n p2)), .unset, .unset, .unset, .unset, .unset, .unset] [])) _
    refine XS.iloadN X0.here hx rfl (hb hby at_15) rfl ?_
    show Steps p.tables e below (s₁.setTop (mkF m 16 #[.val (.int p1), .val (.int p2), .val (.int p3), .val (.int (p1 &&& (255 : Int32))), .val (.int (own_n p2)), .unset, .unset, .unset, .unset, .unset, .unset] [(.int p3)])) _
    refine XS.iconst X0.here hx rfl (hb hby at_16) ?_
    show Steps p.tables e below (s₁.setTop (mkF m 17 #[.val (.int p1), .val (.int p2), .val (.int p3), .val (.int (p1 &&& (255 : Int32))), .val (.int (own_n p2)), .unset, .unset, .unset, .unset, .unset, .unset] [(.int (3 : Int32)), (.int p3)])) _
    refine XS.iand X0.here hx rfl (hb hby at_17) rfl ?_
    show Steps p.tables e below (s₁.setTop (mkF m 18 #[.val (.int p1), .val (.int p2), .val (.int p3), .val (.int (p1 &&& (255 : Int32))), .val (.int (own_n p2)), .unset, .unset, .unset, .unset, .unset, .unset] [(.int (p3 &&& (3 : Int32)))])) _
    refine XS.istore X0.here hx rfl (hb hby at_18) rfl (l' := #[.val (.int p1), .val (.int p2), .val (.int p3), .val (.int (p1 &&& (255 : Int32))), .val (.int (own_n p2)), .val (.int (p3 &&& (3 : Int32))), .unset, .unset, .unset, .unset, .unset]) rfl ?_
    show Steps p.tables e below (s₁.setTop (mkF m 20 #[.val (.int p1), .val (.int p2), .val (.int p3), .val (.int (p1 &&& (255 : Int32))), .val (.int (own_n p2)), .val (.int (p3 &&& (3 : Int32))), .unset, .unset, .unset, .unset, .unset] [])) _
    refine XS.iload X0.here hx rfl (hb hby at_20) rfl ?_
    show Steps p.tables e below (s₁.setTop (mkF m 22 #[.val (.int p1), .val (.int p2), .val (.int p3), .val (.int (p1 &&& (255 : Int32))), .val (.int (own_n p2)), .val (.int (p3 &&& (3 : Int32))), .unset, .unset, .unset, .unset, .unset] [(.int (p3 &&& (3 : Int32)))])) _
    refine XS.ifYes X0.here hx rfl (pc0 := 22) (pc' := 38) rfl (hb hby at_22) rfl ((if0 _ _).trans (feq hc22).2) (by decide) (by decide) ?_
    show Steps p.tables e below (s₁.setTop (mkF m 38 #[.val (.int p1), .val (.int p2), .val (.int p3), .val (.int (p1 &&& (255 : Int32))), .val (.int (own_n p2)), .val (.int (p3 &&& (3 : Int32))), .unset, .unset, .unset, .unset, .unset] [])) _
    refine XS.iload X0.here hx rfl (hb hby at_38) rfl ?_
    show Steps p.tables e below (s₁.setTop (mkF m 40 #[.val (.int p1), .val (.int p2), .val (.int p3), .val (.int (p1 &&& (255 : Int32))), .val (.int (own_n p2)), .val (.int (p3 &&& (3 : Int32))), .unset, .unset, .unset, .unset, .unset] [(.int (p3 &&& (3 : Int32)))])) _
    refine XS.iconst X0.here hx rfl (hb hby at_40) ?_
    show Steps p.tables e below (s₁.setTop (mkF m 41 #[.val (.int p1), .val (.int p2), .val (.int p3), .val (.int (p1 &&& (255 : Int32))), .val (.int (own_n p2)), .val (.int (p3 &&& (3 : Int32))), .unset, .unset, .unset, .unset, .unset] [(.int (1 : Int32)), (.int (p3 &&& (3 : Int32)))])) _
    refine XS.icmpYes X0.here hx rfl (pc0 := 41) (pc' := 57) rfl (hb hby at_41) rfl (feq hc41).2 (by decide) (by decide) ?_
    show Steps p.tables e below (s₁.setTop (mkF m 57 #[.val (.int p1), .val (.int p2), .val (.int p3), .val (.int (p1 &&& (255 : Int32))), .val (.int (own_n p2)), .val (.int (p3 &&& (3 : Int32))), .unset, .unset, .unset, .unset, .unset] [])) _
    refine XS.iload X0.here hx rfl (hb hby at_57) rfl ?_
    show Steps p.tables e below (s₁.setTop (mkF m 59 #[.val (.int p1), .val (.int p2), .val (.int p3), .val (.int (p1 &&& (255 : Int32))), .val (.int (own_n p2)), .val (.int (p3 &&& (3 : Int32))), .unset, .unset, .unset, .unset, .unset] [(.int (p3 &&& (3 : Int32)))])) _
    refine XS.iconst X0.here hx rfl (hb hby at_59) ?_
    show Steps p.tables e below (s₁.setTop (mkF m 60 #[.val (.int p1), .val (.int p2), .val (.int p3), .val (.int (p1 &&& (255 : Int32))), .val (.int (own_n p2)), .val (.int (p3 &&& (3 : Int32))), .unset, .unset, .unset, .unset, .unset] [(.int (2 : Int32)), (.int (p3 &&& (3 : Int32)))])) _
    refine XS.icmpYes X0.here hx rfl (pc0 := 60) (pc' := 76) rfl (hb hby at_60) rfl (feq hc60).2 (by decide) (by decide) ?_
    show Steps p.tables e below (s₁.setTop (mkF m 76 #[.val (.int p1), .val (.int p2), .val (.int p3), .val (.int (p1 &&& (255 : Int32))), .val (.int (own_n p2)), .val (.int (p3 &&& (3 : Int32))), .unset, .unset, .unset, .unset, .unset] [])) _
    refine XS.iload X0.here hx rfl (hb hby at_76) rfl ?_
    show Steps p.tables e below (s₁.setTop (mkF m 78 #[.val (.int p1), .val (.int p2), .val (.int p3), .val (.int (p1 &&& (255 : Int32))), .val (.int (own_n p2)), .val (.int (p3 &&& (3 : Int32))), .unset, .unset, .unset, .unset, .unset] [(.int (own_n p2))])) _
    refine st4 _ ?_
    show Steps p.tables e below (T4.setTop (mkF m 81 #[.val (.int p1), .val (.int p2), .val (.int p3), .val (.int (p1 &&& (255 : Int32))), .val (.int (own_n p2)), .val (.int (p3 &&& (3 : Int32))), .unset, .unset, .unset, .unset, .unset] [(.int ((160 : Int32) ||| (own_n p2)))])) _
    refine XS.istore X4.here hx rfl (hb hby at_81) rfl (l' := #[.val (.int p1), .val (.int p2), .val (.int p3), .val (.int (p1 &&& (255 : Int32))), .val (.int (own_n p2)), .val (.int (p3 &&& (3 : Int32))), .val (.int ((160 : Int32) ||| (own_n p2))), .unset, .unset, .unset, .unset]) rfl ?_
    show Steps p.tables e below (T4.setTop (mkF m 83 #[.val (.int p1), .val (.int p2), .val (.int p3), .val (.int (p1 &&& (255 : Int32))), .val (.int (own_n p2)), .val (.int (p3 &&& (3 : Int32))), .val (.int ((160 : Int32) ||| (own_n p2))), .unset, .unset, .unset, .unset] [])) _
    refine XS.iconst X4.here hx rfl (hb hby at_83) ?_
    show Steps p.tables e below (T4.setTop (mkF m 84 #[.val (.int p1), .val (.int p2), .val (.int p3), .val (.int (p1 &&& (255 : Int32))), .val (.int (own_n p2)), .val (.int (p3 &&& (3 : Int32))), .val (.int ((160 : Int32) ||| (own_n p2))), .unset, .unset, .unset, .unset] [(.int (1 : Int32))])) _
    refine XS.istore X4.here hx rfl (hb hby at_84) rfl (l' := #[.val (.int p1), .val (.int p2), .val (.int p3), .val (.int (p1 &&& (255 : Int32))), .val (.int (own_n p2)), .val (.int (p3 &&& (3 : Int32))), .val (.int ((160 : Int32) ||| (own_n p2))), .val (.int (1 : Int32)), .unset, .unset, .unset]) rfl ?_
    show Steps p.tables e below (T4.setTop (mkF m 86 #[.val (.int p1), .val (.int p2), .val (.int p3), .val (.int (p1 &&& (255 : Int32))), .val (.int (own_n p2)), .val (.int (p3 &&& (3 : Int32))), .val (.int ((160 : Int32) ||| (own_n p2))), .val (.int (1 : Int32)), .unset, .unset, .unset] [])) _
    refine XS.iloadN X4.here hx rfl (hb hby at_86) rfl ?_
    show Steps p.tables e below (T4.setTop (mkF m 87 #[.val (.int p1), .val (.int p2), .val (.int p3), .val (.int (p1 &&& (255 : Int32))), .val (.int (own_n p2)), .val (.int (p3 &&& (3 : Int32))), .val (.int ((160 : Int32) ||| (own_n p2))), .val (.int (1 : Int32)), .unset, .unset, .unset] [(.int (p1 &&& (255 : Int32)))])) _
    refine XS.bipush X4.here hx rfl (hb hby at_87) ?_
    show Steps p.tables e below (T4.setTop (mkF m 89 #[.val (.int p1), .val (.int p2), .val (.int p3), .val (.int (p1 &&& (255 : Int32))), .val (.int (own_n p2)), .val (.int (p3 &&& (3 : Int32))), .val (.int ((160 : Int32) ||| (own_n p2))), .val (.int (1 : Int32)), .unset, .unset, .unset] [(.int (32 : Int32)), (.int (p1 &&& (255 : Int32)))])) _
    refine XS.ior X4.here hx rfl (hb hby at_89) rfl ?_
    show Steps p.tables e below (T4.setTop (mkF m 90 #[.val (.int p1), .val (.int p2), .val (.int p3), .val (.int (p1 &&& (255 : Int32))), .val (.int (own_n p2)), .val (.int (p3 &&& (3 : Int32))), .val (.int ((160 : Int32) ||| (own_n p2))), .val (.int (1 : Int32)), .unset, .unset, .unset] [(.int ((p1 &&& (255 : Int32)) ||| (32 : Int32)))])) _
    refine st5 _ ?_
    show Steps p.tables e below (T5.setTop (mkF m 93 #[.val (.int p1), .val (.int p2), .val (.int p3), .val (.int (p1 &&& (255 : Int32))), .val (.int (own_n p2)), .val (.int (p3 &&& (3 : Int32))), .val (.int ((160 : Int32) ||| (own_n p2))), .val (.int (1 : Int32)), .unset, .unset, .unset] [(.int (own_ic ((p1 &&& (255 : Int32)) ||| (32 : Int32))))])) _
    refine XS.istore X5.here hx rfl (hb hby at_93) rfl (l' := #[.val (.int p1), .val (.int p2), .val (.int p3), .val (.int (p1 &&& (255 : Int32))), .val (.int (own_n p2)), .val (.int (p3 &&& (3 : Int32))), .val (.int ((160 : Int32) ||| (own_n p2))), .val (.int (1 : Int32)), .val (.int (own_ic ((p1 &&& (255 : Int32)) ||| (32 : Int32)))), .unset, .unset]) rfl ?_
    show Steps p.tables e below (T5.setTop (mkF m 95 #[.val (.int p1), .val (.int p2), .val (.int p3), .val (.int (p1 &&& (255 : Int32))), .val (.int (own_n p2)), .val (.int (p3 &&& (3 : Int32))), .val (.int ((160 : Int32) ||| (own_n p2))), .val (.int (1 : Int32)), .val (.int (own_ic ((p1 &&& (255 : Int32)) ||| (32 : Int32)))), .unset, .unset] [])) _
    refine XS.iloadN X5.here hx rfl (hb hby at_95) rfl ?_
    show Steps p.tables e below (T5.setTop (mkF m 96 #[.val (.int p1), .val (.int p2), .val (.int p3), .val (.int (p1 &&& (255 : Int32))), .val (.int (own_n p2)), .val (.int (p3 &&& (3 : Int32))), .val (.int ((160 : Int32) ||| (own_n p2))), .val (.int (1 : Int32)), .val (.int (own_ic ((p1 &&& (255 : Int32)) ||| (32 : Int32)))), .unset, .unset] [(.int (p1 &&& (255 : Int32)))])) _
    refine XS.sipush X5.here hx rfl (hb hby at_96) ?_
    show Steps p.tables e below (T5.setTop (mkF m 99 #[.val (.int p1), .val (.int p2), .val (.int p3), .val (.int (p1 &&& (255 : Int32))), .val (.int (own_n p2)), .val (.int (p3 &&& (3 : Int32))), .val (.int ((160 : Int32) ||| (own_n p2))), .val (.int (1 : Int32)), .val (.int (own_ic ((p1 &&& (255 : Int32)) ||| (32 : Int32)))), .unset, .unset] [(.int (223 : Int32)), (.int (p1 &&& (255 : Int32)))])) _
    refine XS.iand X5.here hx rfl (hb hby at_99) rfl ?_
    show Steps p.tables e below (T5.setTop (mkF m 100 #[.val (.int p1), .val (.int p2), .val (.int p3), .val (.int (p1 &&& (255 : Int32))), .val (.int (own_n p2)), .val (.int (p3 &&& (3 : Int32))), .val (.int ((160 : Int32) ||| (own_n p2))), .val (.int (1 : Int32)), .val (.int (own_ic ((p1 &&& (255 : Int32)) ||| (32 : Int32)))), .unset, .unset] [(.int ((p1 &&& (255 : Int32)) &&& (223 : Int32)))])) _
    refine st6 _ ?_
    show Steps p.tables e below (T6.setTop (mkF m 103 #[.val (.int p1), .val (.int p2), .val (.int p3), .val (.int (p1 &&& (255 : Int32))), .val (.int (own_n p2)), .val (.int (p3 &&& (3 : Int32))), .val (.int ((160 : Int32) ||| (own_n p2))), .val (.int (1 : Int32)), .val (.int (own_ic ((p1 &&& (255 : Int32)) ||| (32 : Int32)))), .unset, .unset] [(.int (own_ic ((p1 &&& (255 : Int32)) &&& (223 : Int32))))])) _
    refine XS.istore X6.here hx rfl (hb hby at_103) rfl (l' := #[.val (.int p1), .val (.int p2), .val (.int p3), .val (.int (p1 &&& (255 : Int32))), .val (.int (own_n p2)), .val (.int (p3 &&& (3 : Int32))), .val (.int ((160 : Int32) ||| (own_n p2))), .val (.int (1 : Int32)), .val (.int (own_ic ((p1 &&& (255 : Int32)) ||| (32 : Int32)))), .val (.int (own_ic ((p1 &&& (255 : Int32)) &&& (223 : Int32)))), .unset]) rfl ?_
    show Steps p.tables e below (T6.setTop (mkF m 105 #[.val (.int p1), .val (.int p2), .val (.int p3), .val (.int (p1 &&& (255 : Int32))), .val (.int (own_n p2)), .val (.int (p3 &&& (3 : Int32))), .val (.int ((160 : Int32) ||| (own_n p2))), .val (.int (1 : Int32)), .val (.int (own_ic ((p1 &&& (255 : Int32)) ||| (32 : Int32)))), .val (.int (own_ic ((p1 &&& (255 : Int32)) &&& (223 : Int32)))), .unset] [])) _
    refine XS.iload X6.here hx rfl (hb hby at_105) rfl ?_
    show Steps p.tables e below (T6.setTop (mkF m 107 #[.val (.int p1), .val (.int p2), .val (.int p3), .val (.int (p1 &&& (255 : Int32))), .val (.int (own_n p2)), .val (.int (p3 &&& (3 : Int32))), .val (.int ((160 : Int32) ||| (own_n p2))), .val (.int (1 : Int32)), .val (.int (own_ic ((p1 &&& (255 : Int32)) ||| (32 : Int32)))), .val (.int (own_ic ((p1 &&& (255 : Int32)) &&& (223 : Int32)))), .unset] [(.int ((160 : Int32) ||| (own_n p2)))])) _
    refine st7 _ ?_
    show Steps p.tables e below (T7.setTop (mkF m 110 #[.val (.int p1), .val (.int p2), .val (.int p3), .val (.int (p1 &&& (255 : Int32))), .val (.int (own_n p2)), .val (.int (p3 &&& (3 : Int32))), .val (.int ((160 : Int32) ||| (own_n p2))), .val (.int (1 : Int32)), .val (.int (own_ic ((p1 &&& (255 : Int32)) ||| (32 : Int32)))), .val (.int (own_ic ((p1 &&& (255 : Int32)) &&& (223 : Int32)))), .unset] [(.int (own_ic ((160 : Int32) ||| (own_n p2))))])) _
    refine XS.iload X7.here hx rfl (hb hby at_110) rfl ?_
    show Steps p.tables e below (T7.setTop (mkF m 112 #[.val (.int p1), .val (.int p2), .val (.int p3), .val (.int (p1 &&& (255 : Int32))), .val (.int (own_n p2)), .val (.int (p3 &&& (3 : Int32))), .val (.int ((160 : Int32) ||| (own_n p2))), .val (.int (1 : Int32)), .val (.int (own_ic ((p1 &&& (255 : Int32)) ||| (32 : Int32)))), .val (.int (own_ic ((p1 &&& (255 : Int32)) &&& (223 : Int32)))), .unset] [(.int (1 : Int32)), (.int (own_ic ((160 : Int32) ||| (own_n p2))))])) _
    refine XS.icmpNo X7.here hx rfl (hb hby at_112) rfl (teq ((own_built p2).2.2.2 : (own_ic ((160 : Int32) ||| (own_n p2))) = (1 : Int32))).2 ?_
    show Steps p.tables e below (T7.setTop (mkF m 115 #[.val (.int p1), .val (.int p2), .val (.int p3), .val (.int (p1 &&& (255 : Int32))), .val (.int (own_n p2)), .val (.int (p3 &&& (3 : Int32))), .val (.int ((160 : Int32) ||| (own_n p2))), .val (.int (1 : Int32)), .val (.int (own_ic ((p1 &&& (255 : Int32)) ||| (32 : Int32)))), .val (.int (own_ic ((p1 &&& (255 : Int32)) &&& (223 : Int32)))), .unset] [])) _
    refine XS.iconst X7.here hx rfl (hb hby at_115) ?_
    show Steps p.tables e below (T7.setTop (mkF m 116 #[.val (.int p1), .val (.int p2), .val (.int p3), .val (.int (p1 &&& (255 : Int32))), .val (.int (own_n p2)), .val (.int (p3 &&& (3 : Int32))), .val (.int ((160 : Int32) ||| (own_n p2))), .val (.int (1 : Int32)), .val (.int (own_ic ((p1 &&& (255 : Int32)) ||| (32 : Int32)))), .val (.int (own_ic ((p1 &&& (255 : Int32)) &&& (223 : Int32)))), .unset] [(.int (1 : Int32))])) _
    refine XS.goto X7.here hx rfl (pc0 := 116) (pc' := 120) rfl (hb hby at_116) (by decide) (by decide) ?_
    show Steps p.tables e below (T7.setTop (mkF m 120 #[.val (.int p1), .val (.int p2), .val (.int p3), .val (.int (p1 &&& (255 : Int32))), .val (.int (own_n p2)), .val (.int (p3 &&& (3 : Int32))), .val (.int ((160 : Int32) ||| (own_n p2))), .val (.int (1 : Int32)), .val (.int (own_ic ((p1 &&& (255 : Int32)) ||| (32 : Int32)))), .val (.int (own_ic ((p1 &&& (255 : Int32)) &&& (223 : Int32)))), .unset] [(.int (1 : Int32))])) _
    refine XS.istore X7.here hx rfl (hb hby at_120) rfl (l' := #[.val (.int p1), .val (.int p2), .val (.int p3), .val (.int (p1 &&& (255 : Int32))), .val (.int (own_n p2)), .val (.int (p3 &&& (3 : Int32))), .val (.int ((160 : Int32) ||| (own_n p2))), .val (.int (1 : Int32)), .val (.int (own_ic ((p1 &&& (255 : Int32)) ||| (32 : Int32)))), .val (.int (own_ic ((p1 &&& (255 : Int32)) &&& (223 : Int32)))), .val (.int (1 : Int32))]) rfl ?_
    show Steps p.tables e below (T7.setTop (mkF m 122 #[.val (.int p1), .val (.int p2), .val (.int p3), .val (.int (p1 &&& (255 : Int32))), .val (.int (own_n p2)), .val (.int (p3 &&& (3 : Int32))), .val (.int ((160 : Int32) ||| (own_n p2))), .val (.int (1 : Int32)), .val (.int (own_ic ((p1 &&& (255 : Int32)) ||| (32 : Int32)))), .val (.int (own_ic ((p1 &&& (255 : Int32)) &&& (223 : Int32)))), .val (.int (1 : Int32))] [])) _
    refine XS.iload X7.here hx rfl (hb hby at_122) rfl ?_
    show Steps p.tables e below (T7.setTop (mkF m 124 #[.val (.int p1), .val (.int p2), .val (.int p3), .val (.int (p1 &&& (255 : Int32))), .val (.int (own_n p2)), .val (.int (p3 &&& (3 : Int32))), .val (.int ((160 : Int32) ||| (own_n p2))), .val (.int (1 : Int32)), .val (.int (own_ic ((p1 &&& (255 : Int32)) ||| (32 : Int32)))), .val (.int (own_ic ((p1 &&& (255 : Int32)) &&& (223 : Int32)))), .val (.int (1 : Int32))] [(.int (own_ic ((p1 &&& (255 : Int32)) ||| (32 : Int32))))])) _
    refine XS.ifNo X7.here hx rfl (hb hby at_124) rfl ((if0 _ _).trans (feq (own_i1 _ : ¬ ((own_ic ((p1 &&& (255 : Int32)) ||| (32 : Int32))) = (0 : Int32)))).1) ?_
    show Steps p.tables e below (T7.setTop (mkF m 127 #[.val (.int p1), .val (.int p2), .val (.int p3), .val (.int (p1 &&& (255 : Int32))), .val (.int (own_n p2)), .val (.int (p3 &&& (3 : Int32))), .val (.int ((160 : Int32) ||| (own_n p2))), .val (.int (1 : Int32)), .val (.int (own_ic ((p1 &&& (255 : Int32)) ||| (32 : Int32)))), .val (.int (own_ic ((p1 &&& (255 : Int32)) &&& (223 : Int32)))), .val (.int (1 : Int32))] [])) _
    refine XS.iload X7.here hx rfl (hb hby at_127) rfl ?_
    show Steps p.tables e below (T7.setTop (mkF m 129 #[.val (.int p1), .val (.int p2), .val (.int p3), .val (.int (p1 &&& (255 : Int32))), .val (.int (own_n p2)), .val (.int (p3 &&& (3 : Int32))), .val (.int ((160 : Int32) ||| (own_n p2))), .val (.int (1 : Int32)), .val (.int (own_ic ((p1 &&& (255 : Int32)) ||| (32 : Int32)))), .val (.int (own_ic ((p1 &&& (255 : Int32)) &&& (223 : Int32)))), .val (.int (1 : Int32))] [(.int (own_ic ((p1 &&& (255 : Int32)) &&& (223 : Int32))))])) _
    refine XS.ifNo X7.here hx rfl (hb hby at_129) rfl ((if0 _ _).trans (teq (own_i2 _ : (own_ic ((p1 &&& (255 : Int32)) &&& (223 : Int32))) = (0 : Int32))).2) ?_
    show Steps p.tables e below (T7.setTop (mkF m 132 #[.val (.int p1), .val (.int p2), .val (.int p3), .val (.int (p1 &&& (255 : Int32))), .val (.int (own_n p2)), .val (.int (p3 &&& (3 : Int32))), .val (.int ((160 : Int32) ||| (own_n p2))), .val (.int (1 : Int32)), .val (.int (own_ic ((p1 &&& (255 : Int32)) ||| (32 : Int32)))), .val (.int (own_ic ((p1 &&& (255 : Int32)) &&& (223 : Int32)))), .val (.int (1 : Int32))] [])) _
    refine XS.iload X7.here hx rfl (hb hby at_132) rfl ?_
    show Steps p.tables e below (T7.setTop (mkF m 134 #[.val (.int p1), .val (.int p2), .val (.int p3), .val (.int (p1 &&& (255 : Int32))), .val (.int (own_n p2)), .val (.int (p3 &&& (3 : Int32))), .val (.int ((160 : Int32) ||| (own_n p2))), .val (.int (1 : Int32)), .val (.int (own_ic ((p1 &&& (255 : Int32)) ||| (32 : Int32)))), .val (.int (own_ic ((p1 &&& (255 : Int32)) &&& (223 : Int32)))), .val (.int (1 : Int32))] [(.int (1 : Int32))])) _
    refine XS.ifNo X7.here hx rfl (hb hby at_134) rfl ((if0 _ _).trans (feq hc134).1) ?_
    show Steps p.tables e below (T7.setTop (mkF m 137 #[.val (.int p1), .val (.int p2), .val (.int p3), .val (.int (p1 &&& (255 : Int32))), .val (.int (own_n p2)), .val (.int (p3 &&& (3 : Int32))), .val (.int ((160 : Int32) ||| (own_n p2))), .val (.int (1 : Int32)), .val (.int (own_ic ((p1 &&& (255 : Int32)) ||| (32 : Int32)))), .val (.int (own_ic ((p1 &&& (255 : Int32)) &&& (223 : Int32)))), .val (.int (1 : Int32))] [])) _
    refine XS.iconst X7.here hx rfl (hb hby at_137) ?_
    show Steps p.tables e below (T7.setTop (mkF m 138 #[.val (.int p1), .val (.int p2), .val (.int p3), .val (.int (p1 &&& (255 : Int32))), .val (.int (own_n p2)), .val (.int (p3 &&& (3 : Int32))), .val (.int ((160 : Int32) ||| (own_n p2))), .val (.int (1 : Int32)), .val (.int (own_ic ((p1 &&& (255 : Int32)) ||| (32 : Int32)))), .val (.int (own_ic ((p1 &&& (255 : Int32)) &&& (223 : Int32)))), .val (.int (1 : Int32))] [(.int (1 : Int32))])) _
    refine XS.goto X7.here hx rfl (pc0 := 138) (pc' := 142) rfl (hb hby at_138) (by decide) (by decide) ?_
    show Steps p.tables e below (T7.setTop (mkF m 142 #[.val (.int p1), .val (.int p2), .val (.int p3), .val (.int (p1 &&& (255 : Int32))), .val (.int (own_n p2)), .val (.int (p3 &&& (3 : Int32))), .val (.int ((160 : Int32) ||| (own_n p2))), .val (.int (1 : Int32)), .val (.int (own_ic ((p1 &&& (255 : Int32)) ||| (32 : Int32)))), .val (.int (own_ic ((p1 &&& (255 : Int32)) &&& (223 : Int32)))), .val (.int (1 : Int32))] [(.int (1 : Int32))])) _
    exact retN X7 hx (t := .boolean) Bd.returns (by simp) (hb hby at_142) hr
  · show Q0 Z p1 p2 p3 h0 n0 _ T7.heap _
    exact ⟨rfl, N7⟩
theorem rm0 (l : Launch) (Z : State) (a0 : Array Value) (hw : ∀ d ∈ tables_1, d.before a0 Z = true) (ws : List Jvm.Cond) (p1 : Int32) (p2 : Int32) (p3 : Int32) (h0 : Heap) (n0 : Nat) (Z0 : n0 ≤ h0.size) :
    MetFree l x (head1 (Jvm.Cond.code x code maxLocals ret :: ws) room_1) (fun a U => a = #[(.int p1), (.int p2), (.int p3)] ∧ Z.Warmed39 U.vm ∧ U.heap = h0) (fun _ _ _ _ _ => True) (fun _ U o U' => ∃ v L, o = .returned v ∧ Q0 Z p1 p2 p3 h0 n0 v U'.heap L ∧ FrameEnd U o U' L room_1.cells room_1.slots) := by
  by_cases h1 : (p3 &&& (3 : Int32)) = (0 : Int32)
  · exact rm0a l Z a0 hw ws p1 p2 p3 h0 n0 Z0 (by decide) h1 (by decide)
  · by_cases h2 : (p3 &&& (3 : Int32)) = (1 : Int32)
    · exact rm0b l Z a0 hw ws p1 p2 p3 h0 n0 Z0 (by decide) h1 h2 (by decide)
    · by_cases h3 : (p3 &&& (3 : Int32)) = (2 : Int32)
      · exact rm0c l Z a0 hw ws p1 p2 p3 h0 n0 Z0 (by decide) h1 h2 h3 (by decide)
      · exact rm0d l Z a0 hw ws p1 p2 p3 h0 n0 Z0 (by decide) h1 h2 h3 (by decide)
set_option maxRecDepth 65536 in
set_option maxHeartbeats 40000000 in
theorem comes_1 {Post : Tables → Env → Array Value → State → Outcome → State → Prop} (hpost : ∀ tb e args s v u, (limb_1_1.after args s (.returned v) u = true ∧ limb_1_2.after args s (.returned v) u = true ∧ True) → FrameEnd s (.returned v) u (Jvm.fieldLocs frame_1_writes args s ++ Jvm.arrayLocs frame_1_arrays args s ++ Jvm.staticLocs frame_1_statics s) 0 0 → Post tb e args s (.returned v) u) :
    ArmFor flags0 classFile x code maxLocals ret World_1 tables_1 room_1 Calls_1 rest_1 Pre_1 Post := by
  intro l hfl _ _ p e ha hc hk s m args below hf hA hF happ hP
  obtain ⟨hcalls, hrest, hpre⟩ := hP
  obtain ⟨-, -, -, hnamed, -, -, -, hat⟩ := (Spec.applies_iff hf).mp happ
  obtain ⟨hg, hn⟩ := and_e (Cond.before_iff.mp (show (Jvm.Cond.and given_1 narrow_1).before args s = true from hpre))
  obtain ⟨g8, g9⟩ := and_e hg
  obtain ⟨g10, g11⟩ := and_e g9
  obtain ⟨g12, g13⟩ := and_e g11
  obtain ⟨w0, w1, w2, rfl⟩ : ∃ w0 w1 w2 : Value, args = #[w0, w1, w2] := by
    have hs : args.size = 3 := by simpa [Cond.value, given_1] using g8
    obtain ⟨L⟩ := args
    match L, hs with
    | [w0, w1, w2], _ => exact ⟨w0, w1, w2, rfl⟩
  have hw := fun d (hd : d ∈ tables_1) => atoms_spec (ws := Jvm.Cond.code x code maxLocals ret :: tables_1) hat d (List.mem_cons_of_mem _ hd)
  have hfit : Fit s := fun {y c} hc i hi => by
    obtain ⟨ha, rfl⟩ := Array.getElem?_eq_some_iff.mp hc
    have q := List.all_eq_true.mp ((Array.all_eq_true_iff_forall_mem.mp hF) _ (Array.getElem_mem ha)) i (List.mem_range.mpr hi)
    simpa [Array.getElem?_eq_getElem hi] using q
  obtain ⟨i0, ei0⟩ := is_v g10
  obtain rfl : w0 = (.int i0) := Option.some.inj ei0
  obtain ⟨i1, ei1⟩ := is_v g12
  obtain rfl : w1 = (.int i1) := Option.some.inj ei1
  obtain ⟨i2, ei2⟩ := is_v g13
  obtain rfl : w2 = (.int i2) := Option.some.inj ei2
  obtain ⟨n, o, h1, h2, h3, _, L, rfl, ⟨rfl, N⟩, hq⟩ := rm0 l s _ hw tables_1 i0 i1 i2 s.heap s.heap.size (Nat.le_refl _)  p e ha hc hk s m _ below hf ((Spec.applies_iff_loose hf).mp happ).1 ⟨rfl, State.Warmed39.refl s, rfl⟩ trivial
  refine ⟨n, _, h1, h2, h3, hpost _ _ _ _ _ _ ⟨Cond.after_iff.mpr rfl, Cond.after_iff.mpr (eq_i res_at (Term.int_eval (1)) rfl), trivial⟩ ⟨hq.1, hq.2.1, (hq.2.2.sift fun y hy => Or.inr (N y hy)).mono (by decide) (by decide)⟩⟩
theorem main_1_1 : Claimed_1_1 := comes_1 fun _ _ _ _ _ _ h hF => ⟨h.1, hF⟩
theorem main_1_2 : Claimed_1_2 := comes_1 fun _ _ _ _ _ _ h hF => ⟨h.2.1, hF⟩
end Jvm.Pilot.@@N@@
namespace Jvm.Pilot.@@N@@
open Jvm Jvm.ClassFile Sem Op Lib Jvm.Free Jvm.Stand Jvm.Pilot.@@N@@.Jvm.D
/-! MADE BY PROGRAM (witnessworld.py) out of the Statement's table words and the real class files: 9 classes; the members and pool entries that the words name. The judged class is class 1, her method 1. -/
namespace start1
open Jvm.ClassFile
def u (s : String) : CpInfo := .utf8 (stringToUtf16 s)
/-- a pool by its gaps: so many unusable entries, then the entry; so many at the end -/
def gap : Nat → List CpInfo → List CpInfo
  | 0, r => r
  | n + 1, r => .unusable :: gap n r
def poolList (es : List (Nat × CpInfo)) (last : Nat) : List CpInfo := es.foldr (fun e r => gap e.1 (e.2 :: r)) (gap last [])
def pool (es : List (Nat × CpInfo)) (last : Nat) : Array CpInfo := ⟨poolList es last⟩
def fileOf (pool : Array CpInfo) (this : Nat) (attrs : Array Attribute := #[]) (ms : Array MethodInfo := #[]) (fl : Nat := 33) (sup : Nat := 0) (ifs : Array Nat := #[]) (fds : Array FieldInfo := #[]) : ClassFile where
  minorVersion := 0
  majorVersion := 65
  constantPool := pool
  accessFlags := fl
  thisClass := this
  superClass := sup
  interfaces := ifs
  fields := fds
  methods := ms
  attributes := attrs
def plain (name : String) (sup : Option ClassId) : Class where
  name := name
  kind := .ordinary
  loader := none
  accessFlags := 33
  super := sup
  interfaces := #[]
  cf := none
  fields := #[]
  methods := #[]
  instanceTypes := #[]
  staticTypes := #[]
  resolved := #[]
  callSites := []
  init := .initialized
  statics := none
  mirror := none

def pool0 : Array CpInfo := pool [(5, u "<init>"), (0, u "()V"), (1, .class_ 10), (1, u "java/lang/Object")] 113

def k0m0 : Method := { name := "<init>", desc := "()V", sig := { parameters := [], returnType := none }, accessFlags := 1, code := none }
/-- java/lang/Object -/
def k0 : Class := { plain "java/lang/Object" none with
  accessFlags := 33
  interfaces := #[]
  cf := some (fileOf pool0 8 #[] #[{ accessFlags := 1, nameIndex := 5, descriptorIndex := 6, attributes := #[] }] 33 0 #[] #[])
  fields := #[]
  methods := #[k0m0]
  instanceTypes := #[]
  staticTypes := #[]
  resolved := Array.replicate 124 none
  statics := none }

def pool1 : Array CpInfo := pool [(2, .class_ 4), (1, u "java/lang/Object"), (0, u "<init>"), (0, u "()V"), (0, .integer 2147483647), (0, .methodref 9 10), (0, .class_ 11), (0, .nameAndType 12 13), (0, u "com/example/bindery/bindery/ber/BerTag"), (0, u "applicationPrimitive"), (0, u "(I)I"), (0, .methodref 9 15), (0, .nameAndType 16 13), (0, u "applicationConstructed"), (0, .methodref 9 18), (0, .nameAndType 19 13), (0, u "contextPrimitive"), (0, .methodref 9 21), (0, .nameAndType 22 13), (0, u "contextConstructed"), (0, .methodref 9 24), (0, .nameAndType 25 26), (0, u "isConstructed"), (0, u "(I)Z"), (0, .class_ 28), (0, u "com/example/bindery/bindery/ber/BerTagIsConstructedPinLaw"), (2, u "law"), (0, u "(III)Z")] 3

def k1m0 : Method := { name := "<init>", desc := "()V", sig := { parameters := [], returnType := none }, accessFlags := 2, code := none }
def k1c1 : Code := { maxStack := 2, maxLocals := 11, code := code, exceptionTable := #[], attributes := #[] }
def k1m1 : Method := { name := "law", desc := "(III)Z", sig := { parameters := [.int, .int, .int], returnType := some .boolean }, accessFlags := 9, code := some k1c1 }
/-- com/example/bindery/bindery/ber/BerTagIsConstructedPinLaw -/
def k1 : Class := { plain "com/example/bindery/bindery/ber/BerTagIsConstructedPinLaw" (some 0) with
  accessFlags := 49
  interfaces := #[]
  cf := some (fileOf pool1 27 #[] #[{ accessFlags := 2, nameIndex := 5, descriptorIndex := 6, attributes := #[] }, { accessFlags := 9, nameIndex := 31, descriptorIndex := 32, attributes := #[] }] 49 2 #[] #[])
  fields := #[]
  methods := #[k1m0, k1m1]
  instanceTypes := #[]
  staticTypes := #[]
  resolved := Array.replicate 36 none
  statics := none }

def pool2 : Array CpInfo := pool [(2, .class_ 4), (1, u "java/lang/Object"), (0, u "<init>"), (0, u "()V"), (0, .class_ 8), (0, u "com/example/bindery/bindery/ber/BerTag"), (0, .methodref 7 10), (0, .nameAndType 11 12), (0, u "checkNumber"), (0, u "(I)I"), (9, u "BOOLEAN"), (0, u "I"), (2, u "INTEGER"), (1, u "OCTET_STRING"), (1, u "NULL"), (1, u "ENUMERATED"), (1, u "SEQUENCE"), (1, u "SET"), (1, u "APPLICATION_CLASS"), (1, u "CONTEXT_CLASS"), (1, u "CONSTRUCTED"), (1, u "NUMBER_BITS"), (1, u "MAX_NUMBER"), (3, u "applicationPrimitive"), (0, u "applicationConstructed"), (0, u "contextPrimitive"), (0, u "contextConstructed"), (1, u "(I)Z"), (1, u "isConstructed")] 17

def k2m0 : Method := { name := "<init>", desc := "()V", sig := { parameters := [], returnType := none }, accessFlags := 2, code := none }
def k2c1 : Code := { maxStack := 2, maxLocals := 1, code := prog_9_method_2_code, exceptionTable := #[], attributes := #[] }
def k2m1 : Method := { name := "applicationPrimitive", desc := "(I)I", sig := { parameters := [.int], returnType := some .int }, accessFlags := 9, code := some k2c1 }
def k2c2 : Code := { maxStack := 2, maxLocals := 1, code := prog_9_method_3_code, exceptionTable := #[], attributes := #[] }
def k2m2 : Method := { name := "applicationConstructed", desc := "(I)I", sig := { parameters := [.int], returnType := some .int }, accessFlags := 9, code := some k2c2 }
def k2c3 : Code := { maxStack := 2, maxLocals := 1, code := prog_9_method_4_code, exceptionTable := #[], attributes := #[] }
def k2m3 : Method := { name := "contextPrimitive", desc := "(I)I", sig := { parameters := [.int], returnType := some .int }, accessFlags := 9, code := some k2c3 }
def k2c4 : Code := { maxStack := 2, maxLocals := 1, code := prog_9_method_5_code, exceptionTable := #[], attributes := #[] }
def k2m4 : Method := { name := "contextConstructed", desc := "(I)I", sig := { parameters := [.int], returnType := some .int }, accessFlags := 9, code := some k2c4 }
def k2c5 : Code := { maxStack := 2, maxLocals := 1, code := prog_9_method_7_code, exceptionTable := #[], attributes := #[] }
def k2m5 : Method := { name := "isConstructed", desc := "(I)Z", sig := { parameters := [.int], returnType := some .boolean }, accessFlags := 8, code := some k2c5 }
def k2c6 : Code := { maxStack := 3, maxLocals := 1, code := prog_9_method_8_code, exceptionTable := #[], attributes := #[] }
def k2m6 : Method := { name := "checkNumber", desc := "(I)I", sig := { parameters := [.int], returnType := some .int }, accessFlags := 10, code := some k2c6 }
/-- com/example/bindery/bindery/ber/BerTag -/
def k2 : Class := { plain "com/example/bindery/bindery/ber/BerTag" (some 0) with
  accessFlags := 49
  interfaces := #[]
  cf := some (fileOf pool2 7 #[] #[{ accessFlags := 2, nameIndex := 5, descriptorIndex := 6, attributes := #[] }, { accessFlags := 9, nameIndex := 50, descriptorIndex := 12, attributes := #[] }, { accessFlags := 9, nameIndex := 51, descriptorIndex := 12, attributes := #[] }, { accessFlags := 9, nameIndex := 52, descriptorIndex := 12, attributes := #[] }, { accessFlags := 9, nameIndex := 53, descriptorIndex := 12, attributes := #[] }, { accessFlags := 8, nameIndex := 57, descriptorIndex := 55, attributes := #[] }, { accessFlags := 10, nameIndex := 11, descriptorIndex := 12, attributes := #[] }] 49 2 #[] #[{ accessFlags := 25, nameIndex := 22, descriptorIndex := 23, attributes := #[] }, { accessFlags := 25, nameIndex := 26, descriptorIndex := 23, attributes := #[] }, { accessFlags := 25, nameIndex := 28, descriptorIndex := 23, attributes := #[] }, { accessFlags := 25, nameIndex := 30, descriptorIndex := 23, attributes := #[] }, { accessFlags := 25, nameIndex := 32, descriptorIndex := 23, attributes := #[] }, { accessFlags := 25, nameIndex := 34, descriptorIndex := 23, attributes := #[] }, { accessFlags := 25, nameIndex := 36, descriptorIndex := 23, attributes := #[] }, { accessFlags := 26, nameIndex := 38, descriptorIndex := 23, attributes := #[] }, { accessFlags := 26, nameIndex := 40, descriptorIndex := 23, attributes := #[] }, { accessFlags := 26, nameIndex := 42, descriptorIndex := 23, attributes := #[] }, { accessFlags := 26, nameIndex := 44, descriptorIndex := 23, attributes := #[] }, { accessFlags := 26, nameIndex := 46, descriptorIndex := 23, attributes := #[] }])
  fields := #[{ name := "BOOLEAN", type := .int, accessFlags := 25, slot := 0, constantValue := 0 }, { name := "INTEGER", type := .int, accessFlags := 25, slot := 1, constantValue := 0 }, { name := "OCTET_STRING", type := .int, accessFlags := 25, slot := 2, constantValue := 0 }, { name := "NULL", type := .int, accessFlags := 25, slot := 3, constantValue := 0 }, { name := "ENUMERATED", type := .int, accessFlags := 25, slot := 4, constantValue := 0 }, { name := "SEQUENCE", type := .int, accessFlags := 25, slot := 5, constantValue := 0 }, { name := "SET", type := .int, accessFlags := 25, slot := 6, constantValue := 0 }, { name := "APPLICATION_CLASS", type := .int, accessFlags := 26, slot := 7, constantValue := 0 }, { name := "CONTEXT_CLASS", type := .int, accessFlags := 26, slot := 8, constantValue := 0 }, { name := "CONSTRUCTED", type := .int, accessFlags := 26, slot := 9, constantValue := 0 }, { name := "NUMBER_BITS", type := .int, accessFlags := 26, slot := 10, constantValue := 0 }, { name := "MAX_NUMBER", type := .int, accessFlags := 26, slot := 11, constantValue := 0 }]
  methods := #[k2m0, k2m1, k2m2, k2m3, k2m4, k2m5, k2m6]
  instanceTypes := #[]
  staticTypes := #[.int, .int, .int, .int, .int, .int, .int, .int, .int, .int, .int, .int]
  resolved := Array.replicate 75 none
  statics := none }

def pool3 : Array CpInfo := pool [(1, u "java/lang/Cloneable"), (0, .class_ 1), (0, u "java/lang/Object"), (0, .class_ 3)] 3

/-- java/lang/Cloneable -/
def k3 : Class := { plain "java/lang/Cloneable" (some 0) with
  accessFlags := 1537
  interfaces := #[]
  cf := some (fileOf pool3 2 #[] #[] 1537 4 #[] #[])
  fields := #[]
  methods := #[]
  instanceTypes := #[]
  staticTypes := #[]
  resolved := Array.replicate 8 none
  statics := none }

def pool4 : Array CpInfo := pool [(1, u "java/io/Serializable"), (0, .class_ 1), (0, u "java/lang/Object"), (0, .class_ 3)] 3

/-- java/io/Serializable -/
def k4 : Class := { plain "java/io/Serializable" (some 0) with
  accessFlags := 1537
  interfaces := #[]
  cf := some (fileOf pool4 2 #[] #[] 1537 4 #[] #[])
  fields := #[]
  methods := #[]
  instanceTypes := #[]
  staticTypes := #[]
  resolved := Array.replicate 8 none
  statics := none }

/-- the primitive byte -/
def k5 : Class := { plain "byte" none with kind := .primitive 'B', accessFlags := 0x411 }
/-- [B -/
def k6 : Class := { plain "[B" (some 0) with kind := .array 5 .byte, interfaces := #[3, 4], accessFlags := 1041 }

/-- the primitive int -/
def k7 : Class := { plain "int" none with kind := .primitive 'I', accessFlags := 0x411 }
/-- [I -/
def k8 : Class := { plain "[I" (some 0) with kind := .array 7 .int, interfaces := #[3, 4], accessFlags := 1041 }

def heap : Heap := #[]
def classes : Array Class := #[k0, k1, k2, k3, k4, k5, k6, k7, k8]
def interned : List (Array UInt16 × Addr) := []
def slotsUsed : Nat := 0
def theMethod : MethodId := ⟨1, 1⟩
def args0 : Array Value := #[.int 1, .int 12, .int 3]
def aboutOver (below : List Frame) : State where
  vm := { classes := classes, interned := interned.toArray }
  heap := heap
  slotsUsed := slotsUsed
  threads := #[{ frames := .invoking theMethod args0 :: below }]
def below0 : List Frame := [.native { method := ⟨0, 0⟩, args := #[] }]
def about1 : State := aboutOver below0
def p0 : Program := .bare "" "" ""
def e0 : Env := launch0.env 0 0 0
theorem w_frames : about1.frames = Frame.invoking theMethod args0 :: below0 := rfl
set_option maxRecDepth 65536 in
theorem w_args : argsFit about1.vm theMethod args0 = true := by decide +kernel
set_option maxRecDepth 65536 in
theorem w_heap : heapFits about1 = true := by decide +kernel
set_option maxRecDepth 65536 in
theorem w_runnable : about1.curStatus? = some .runnable := by decide +kernel
set_option maxRecDepth 65536 in
theorem w_alone : about1.alone = true := by decide +kernel
set_option maxRecDepth 65536 in
theorem w_named : about1.methodNamed? x = some theMethod := by decide +kernel
set_option maxRecDepth 65536 in
theorem w_hears : about1.hears theMethod below0 = true := by decide +kernel
set_option maxRecDepth 65536 in
theorem w_ripe : about1.ripe theMethod args0 below0 = true := by decide +kernel
theorem w_running : about1.status = .running := rfl
set_option maxRecDepth 65536 in
theorem w_room : about1.hasRoom e0.platform room_1 = true :=
  launch0.hasRoom_least _ room_1 (by decide +kernel) (by decide +kernel) (by decide +kernel) (by decide +kernel) (by decide +kernel) (by decide +kernel)
theorem allAtoms_all (ts : List Jvm.Cond) (a : Array Jvm.Value) (st : Jvm.State) : (allAtoms ts).before a st = ts.all (fun c => c.before a st) := by
  induction ts with
  | nil => rfl
  | cons c t ih =>
    show (Jvm.Cond.and c (allAtoms t)).before a st = _
    rw [Jvm.Cond.before_and, ih, List.all_cons]
def words1 : List Jvm.Cond := Jvm.Cond.code x code maxLocals ret :: tables_1
/-- a 'code' word, met by the world's own term for the bytes: nothing is compared byte by byte -/
theorem code_word {y : MethodName} {bytes : ByteArray} {mx : Nat} {rt : Option FieldType} {a : Array Value} {s : State} {m : MethodId} {meth : Method} {c : Code} (h1 : s.methodNamed? y = some m) (h2 : s.vm.method? m = some meth) (h3 : meth.code = some c) (h4 : c.code = bytes)
    (h5 : (c.maxLocals == mx && c.exceptionTable.isEmpty && decide (c.maxStack ≤ mostOperands) && decide (meth.sig.returnType = rt) && !meth.locks && decide (parseMethodDescriptor y.desc = some meth.sig)) = true) : (Jvm.Cond.code y bytes mx rt).before a s = true := by
  simp only [Bool.and_eq_true, beq_iff_eq, Bool.not_eq_true', decide_eq_true_eq] at h5
  obtain ⟨⟨⟨⟨⟨g1, g2⟩, g3⟩, g4⟩, g5⟩, g6⟩ := h5
  simp [Cond.before, Cond.holds, Cond.value, h1, h2, h3, h4, g1, g2, g3, g4, g5, g6]
def isCode : Jvm.Cond → Bool
  | .code _ _ _ _ => true
  | _ => false
theorem all_split {L : List Jvm.Cond} {P : Jvm.Cond → Bool} (h1 : L.all (fun c => isCode c || P c) = true) (h2 : ∀ c ∈ L.filter isCode, P c = true) : L.all P = true := by
  refine List.all_eq_true.mpr fun c hc => ?_
  have h := List.all_eq_true.mp h1 c hc
  rcases Bool.eq_false_or_eq_true (isCode c) with hi | hi
  · exact h2 c (List.mem_filter.mpr ⟨hc, hi⟩)
  · simpa [hi] using h
set_option maxRecDepth 65536 in
theorem w_c0 : (Jvm.Cond.code x code maxLocals ret).before args0 about1 = true := code_word (m := ⟨1, 1⟩) (meth := k1m1) (c := k1c1) (by decide +kernel) rfl rfl rfl (by decide +kernel)
set_option maxRecDepth 65536 in
theorem w_c1 : (Jvm.Cond.code ({ cls := "com/example/bindery/bindery/ber/BerTag", name := "contextPrimitive", desc := "(I)I" } : Jvm.MethodName) prog_9_method_4_code (1 : Nat) (Option.some Jvm.ClassFile.FieldType.int)).before args0 about1 = true := code_word (m := ⟨2, 3⟩) (meth := k2m3) (c := k2c3) (by decide +kernel) rfl rfl rfl (by decide +kernel)
set_option maxRecDepth 65536 in
theorem w_c2 : (Jvm.Cond.code ({ cls := "com/example/bindery/bindery/ber/BerTag", name := "checkNumber", desc := "(I)I" } : Jvm.MethodName) prog_9_method_8_code (1 : Nat) (Option.some Jvm.ClassFile.FieldType.int)).before args0 about1 = true := code_word (m := ⟨2, 6⟩) (meth := k2m6) (c := k2c6) (by decide +kernel) rfl rfl rfl (by decide +kernel)
set_option maxRecDepth 65536 in
theorem w_c3 : (Jvm.Cond.code ({ cls := "com/example/bindery/bindery/ber/BerTag", name := "isConstructed", desc := "(I)Z" } : Jvm.MethodName) prog_9_method_7_code (1 : Nat) (Option.some Jvm.ClassFile.FieldType.boolean)).before args0 about1 = true := code_word (m := ⟨2, 5⟩) (meth := k2m5) (c := k2c5) (by decide +kernel) rfl rfl rfl (by decide +kernel)
set_option maxRecDepth 65536 in
theorem w_c4 : (Jvm.Cond.code ({ cls := "com/example/bindery/bindery/ber/BerTag", name := "contextConstructed", desc := "(I)I" } : Jvm.MethodName) prog_9_method_5_code (1 : Nat) (Option.some Jvm.ClassFile.FieldType.int)).before args0 about1 = true := code_word (m := ⟨2, 4⟩) (meth := k2m4) (c := k2c4) (by decide +kernel) rfl rfl rfl (by decide +kernel)
set_option maxRecDepth 65536 in
theorem w_c5 : (Jvm.Cond.code ({ cls := "com/example/bindery/bindery/ber/BerTag", name := "applicationConstructed", desc := "(I)I" } : Jvm.MethodName) prog_9_method_3_code (1 : Nat) (Option.some Jvm.ClassFile.FieldType.int)).before args0 about1 = true := code_word (m := ⟨2, 2⟩) (meth := k2m2) (c := k2c2) (by decide +kernel) rfl rfl rfl (by decide +kernel)
set_option maxRecDepth 65536 in
theorem w_c6 : (Jvm.Cond.code ({ cls := "com/example/bindery/bindery/ber/BerTag", name := "applicationPrimitive", desc := "(I)I" } : Jvm.MethodName) prog_9_method_2_code (1 : Nat) (Option.some Jvm.ClassFile.FieldType.int)).before args0 about1 = true := code_word (m := ⟨2, 1⟩) (meth := k2m1) (c := k2c1) (by decide +kernel) rfl rfl rfl (by decide +kernel)
def codes1 : List Jvm.Cond := [Jvm.Cond.code x code maxLocals ret, Jvm.Cond.code ({ cls := "com/example/bindery/bindery/ber/BerTag", name := "contextPrimitive", desc := "(I)I" } : Jvm.MethodName) prog_9_method_4_code (1 : Nat) (Option.some Jvm.ClassFile.FieldType.int), Jvm.Cond.code ({ cls := "com/example/bindery/bindery/ber/BerTag", name := "checkNumber", desc := "(I)I" } : Jvm.MethodName) prog_9_method_8_code (1 : Nat) (Option.some Jvm.ClassFile.FieldType.int), Jvm.Cond.code ({ cls := "com/example/bindery/bindery/ber/BerTag", name := "isConstructed", desc := "(I)Z" } : Jvm.MethodName) prog_9_method_7_code (1 : Nat) (Option.some Jvm.ClassFile.FieldType.boolean), Jvm.Cond.code ({ cls := "com/example/bindery/bindery/ber/BerTag", name := "contextConstructed", desc := "(I)I" } : Jvm.MethodName) prog_9_method_5_code (1 : Nat) (Option.some Jvm.ClassFile.FieldType.int), Jvm.Cond.code ({ cls := "com/example/bindery/bindery/ber/BerTag", name := "applicationConstructed", desc := "(I)I" } : Jvm.MethodName) prog_9_method_3_code (1 : Nat) (Option.some Jvm.ClassFile.FieldType.int), Jvm.Cond.code ({ cls := "com/example/bindery/bindery/ber/BerTag", name := "applicationPrimitive", desc := "(I)I" } : Jvm.MethodName) prog_9_method_2_code (1 : Nat) (Option.some Jvm.ClassFile.FieldType.int)]
set_option maxRecDepth 65536 in
theorem codes_eq : words1.filter isCode = codes1 := rfl
theorem w_codes : ∀ c ∈ words1.filter isCode, c.before args0 about1 = true := by
  rw [codes_eq]
  intro c hc
  simp only [codes1, List.mem_cons, List.not_mem_nil, or_false] at hc
  rcases hc with rfl | rfl | rfl | rfl | rfl | rfl | rfl
  · exact w_c0
  · exact w_c1
  · exact w_c2
  · exact w_c3
  · exact w_c4
  · exact w_c5
  · exact w_c6
set_option maxRecDepth 65536 in
theorem w_t1 : words1.all (fun c => isCode c || c.before args0 about1) = true := by decide +kernel
theorem w_tables : (allAtoms (Jvm.Cond.code x code maxLocals ret :: tables_1)).before args0 about1 = true := by
  rw [allAtoms_all]
  show words1.all (fun c => c.before args0 about1) = true
  refine all_split ?_ w_codes
  rw [w_t1]
set_option maxRecDepth 65536 in
theorem w_case : (Jvm.Cond.and given_1 narrow_1).before args0 about1 = true := by decide +kernel
theorem w_applies : (headSpec (Jvm.Cond.code x code maxLocals ret :: tables_1) room_1).applies x e0.platform about1 = true :=
  (Spec.applies_iff w_frames).mpr ⟨w_running, w_runnable, w_alone, w_named, w_hears, w_ripe, w_room, w_tables⟩
theorem atStart : AtStart classFile x code maxLocals ret World_1 tables_1 room_1 Calls_1 rest_1 Pre_1 launch0 p0 e0 about1 theMethod args0 below0 :=
  ⟨lists_1, trivial, launch0.admits_env _ _ _, launch0.least_env, fairChoices_fair.cas, fairChoices_fair.clock, w_frames, w_args, w_heap, w_applies, trivial, trivial, w_case⟩
end start1
theorem witness_1 : WitnessClaimed_1 := ⟨start1.p0, start1.e0, start1.about1, start1.theMethod, start1.args0, start1.below0, start1.atStart⟩
end Jvm.Pilot.@@N@@
