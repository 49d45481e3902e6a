import JvmDerived
import JvmDerived.Pilot.@@N@@Statement
import JvmDerived.Pilot.@@N@@Code
set_option linter.unusedVariables false
set_option linter.unusedSimpArgs false
@@BLOCK:NumsL.lean.txt@@
namespace Jvm.RoadKit
open Sem ClassFile Op Lib Jvm.Stand Jvm.Free Jvm.LawKit
section New
variable {p : Program} {l : Launch} {e : Env} {R : Room} {s : State} {m : MethodId} {args : Array Value} {below : List Frame} {meth : Method} {c : Code} {T : State} {locs : List Loc} {cells slots : Nat}
theorem retI (X : Stand p l e R s m args below meth c T locs cells slots) (hx : p.tables.exec = Jvm.exec) {pc : Nat} {Ls : Array Slot} {z : Int32} {rest : List Value} (hret : meth.sig.returnType = some .int) (hd : decode c.code pc = .ok (.ireturn, 1)) {fs : List Frame}
    (hl : ∀ (f : JFrame) (acts : List Action), f.method = m → f.locked = none → f.entered = [] → (doReturn e (T.setTop f) acts (some (.int z))).1 = T.setFrames fs) : Steps p.tables e below (T.setTop (mkF m pc Ls (.int z :: rest))) (T.setFrames fs) := by
  have hm' : T.vm.method? m = some meth := X.method'
  have hn : narrow .int (.int z) = .int z := rfl
  show Steps p.tables e below (T.setTop { method := m, pc := pc, locals := Ls, stack := _ :: rest, locked := none }) _
  jvm_step X.here [X.here.top, hx, hd, hm', hret, hn]
  first | (intro acts; rw [hl _ acts rfl rfl rfl]) | rw [hl _ _ rfl rfl rfl]
  exact Steps.refl _
end New
end Jvm.RoadKit
namespace Jvm.Pilot.@@N@@
open Jvm Jvm.ClassFile Sem Op Lib Jvm.Free Jvm.Stand Jvm.LawKit Jvm.RoadKit Bundle Jvm.Pilot.@@N@@.Jvm.D
def own_rem (x y : Int32) : Int32 := x - (x / y) * y
theorem own_rem_int (x y : Int32) (hx : 0 ≤ x.toInt) (hy : 0 < y.toInt) : (own_rem x y).toInt = x.toInt % y.toInt := by
  have hd : (x / y).toInt = x.toInt / y.toInt := by
    rw [Jvm.Kit.i32_div (by omega), Int.tdiv_eq_ediv_of_nonneg hx]
  have h1 := Int.emod_add_mul_ediv x.toInt y.toInt
  have h2 := Int.emod_nonneg x.toInt (by omega : y.toInt ≠ 0)
  have h3 : 0 ≤ x.toInt / y.toInt := Int.ediv_nonneg hx (by omega)
  have h4 : 0 ≤ y.toInt * (x.toInt / y.toInt) := Int.mul_nonneg (by omega) h3
  have h5 := x.toInt_lt
  rw [Int.mul_comm] at h1 h4
  unfold own_rem
  have hm : ((x / y) * y).toInt = x.toInt / y.toInt * y.toInt := by
    rw [Jvm.Kit.i32_mul (by rw [hd]; omega) (by rw [hd]; omega), hd]
  rw [Jvm.Kit.i32_sub (by rw [hm]; omega) (by rw [hm]; omega), hm]
  omega
theorem own_pos (x : Int32) : (x &&& (2147483647 : Int32)).toInt = x.toInt % 2147483648 := Jvm.Kit.i32_mask x 2147483647 (k := 31) (by decide) (by decide)
def own_pick (p1 p2 p3 : Int32) : Int32 := if (((p1.toUInt32 >>> (p2 &&& 31).toUInt32).toInt32) &&& (1 : Int32)) = (0 : Int32) then (10 : Int32) else (((p3.toUInt32 >>> (((8 : Int32) * p2) &&& 31).toUInt32).toInt32).toInt8.toInt32)
theorem own_nar_b (x : Int32) : nar .byte (x.toInt8.toInt32) = x.toInt8.toInt32 := by
  show (x.toInt8.toInt32).toInt8.toInt32 = _
  rw [Int8.toInt8_toInt32]
theorem own_nar_p (p1 p2 p3 : Int32) : nar .byte (own_pick p1 p2 p3) = own_pick p1 p2 p3 := by
  unfold own_pick
  split
  · decide
  · exact own_nar_b _
def own_scan (f : Nat → Int32) : Nat → Nat → Nat
  | 0, i => i
  | k + 1, i => if f i = 10 then i else own_scan f k (i + 1)
def own_g (b0 b1 b2 b3 : Int32) : Nat → Int32
  | 0 => b0
  | 1 => b1
  | 2 => b2
  | _ => b3
def own_step (k b len st ex : Int32) : Int32 := if k < st then ex else if k < len then (if b = 10 then k else ex) else ex
def own_exp (len st b0 b1 b2 b3 : Int32) : Int32 := own_step 0 b0 len st (own_step 1 b1 len st (own_step 2 b2 len st (own_step 3 b3 len st len)))
theorem own_plain (b0 b1 b2 b3 : Int32) : ∀ (n i : Nat), n ≤ 4 → i ≤ n → Int32.ofNat (own_scan (own_g b0 b1 b2 b3) (n - i) i) = own_exp (Int32.ofNat n) (Int32.ofNat i) b0 b1 b2 b3 := by
  intro n i hn hi
  have c01 : (0 : Int32) < 1 := by decide
  rcases (by omega : n = 0 ∨ n = 1 ∨ n = 2 ∨ n = 3 ∨ n = 4) with rfl | rfl | rfl | rfl | rfl
  · obtain rfl : i = 0 := by omega
    simp +decide [own_scan, own_exp, own_step, own_g]
  · rcases (by omega : i = 0 ∨ i = 1) with rfl | rfl <;> simp +decide [own_scan, own_exp, own_step, own_g] <;> (repeat' split) <;> simp_all
  · rcases (by omega : i = 0 ∨ i = 1 ∨ i = 2) with rfl | rfl | rfl <;> simp +decide [own_scan, own_exp, own_step, own_g] <;> (repeat' split) <;> simp_all
  · rcases (by omega : i = 0 ∨ i = 1 ∨ i = 2 ∨ i = 3) with rfl | rfl | rfl | rfl <;> simp +decide [own_scan, own_exp, own_step, own_g] <;> (repeat' split) <;> simp_all
  · rcases (by omega : i = 0 ∨ i = 1 ∨ i = 2 ∨ i = 3 ∨ i = 4) with rfl | rfl | rfl | rfl | rfl <;> simp +decide [own_scan, own_exp, own_step, own_g] <;> (repeat' split) <;> simp_all
theorem own_int {n : Nat} (h : n ≤ 5) : (Int32.ofNat n).toInt = (n : Int) := Int32.toInt_ofNat_of_lt (by omega)
theorem own_n32 {n : Nat} (h : n ≤ 5) : (Int32.ofNat n).toNatClampNeg = n := by
  show (Int32.ofNat n).toInt.toNat = n
  rw [own_int h]; omega
theorem own_nn {n : Nat} (h : n ≤ 5) : ¬ (Int32.ofNat n) < 0 := by
  rw [Int32.lt_iff_toInt_lt, own_int h]
  have : (0 : Int32).toInt = 0 := by decide
  omega
theorem own_ltn {i n : Nat} (hi : i < n) (h : n ≤ 5) : Int32.ofNat i < Int32.ofNat n := by
  rw [Int32.lt_iff_toInt_lt, own_int h, own_int (by omega)]; omega
theorem own_one (i : Nat) : Int32.ofNat i + 1 = Int32.ofNat (i + 1) := Int32.ofNat_succ i
theorem own_back {x : Int32} {b : Int} (h0 : 0 ≤ x.toInt) : x = Int32.ofNat x.toInt.toNat := by
  apply Int32.toInt_inj.mp
  have h1 := x.toInt_lt
  rw [Int32.toInt_ofNat_of_lt (by omega)]
  omega
theorem own_len (k : Int32) : ∃ n : Nat, n ≤ 4 ∧ own_rem (k &&& (7 : Int32)) (5 : Int32) = Int32.ofNat n := by
  have e : (k &&& (7 : Int32)).toInt = k.toInt % 8 := Jvm.Kit.i32_mask k 7 (k := 3) (by decide) (by decide)
  have e5 : (5 : Int32).toInt = 5 := by decide
  have h := own_rem_int (k &&& (7 : Int32)) (5 : Int32) (by rw [e]; omega) (by decide)
  rw [e5] at h
  exact ⟨_, by omega, own_back (b := 0) (by omega)⟩
theorem own_start (q : Int32) {n : Nat} (hn : n ≤ 4) : ∃ i : Nat, i ≤ n ∧ own_rem (q &&& (2147483647 : Int32)) (Int32.ofNat n + (1 : Int32)) = Int32.ofNat i := by
  rw [own_one]
  have h := own_rem_int (q &&& (2147483647 : Int32)) (Int32.ofNat (n + 1)) (by rw [own_pos]; omega) (by rw [own_int (by omega)]; omega)
  rw [own_int (by omega)] at h
  have h1 := Int.emod_nonneg (q &&& (2147483647 : Int32)).toInt (by omega : ((n + 1 : Nat) : Int) ≠ 0)
  have h2 := Int.emod_lt_of_pos (q &&& (2147483647 : Int32)).toInt (by omega : (0 : Int) < ((n + 1 : Nat) : Int))
  exact ⟨_, by omega, own_back (b := 0) (by omega)⟩
theorem own_nz {n : Nat} (hn : n ≤ 4) : ¬ (Int32.ofNat n + (1 : Int32)) = (0 : Int32) := by
  rw [own_one]
  intro h
  have h' := congrArg Int32.toInt h
  rw [own_int (by omega)] at h'
  have : (0 : Int32).toInt = 0 := by decide
  omega
def Q1 (r : Int32) (Z : State) (p1 : Int32) (p2 : Int32) (p3 : Int32) (h0 : Heap) (n0 : Nat) (v : Option Value) (h : Heap) (L : List Loc) : Prop := v = some (.int r) ∧ Fr n0 L ∧ h = h0
theorem d1_0 : decode method_3_code 0 = .ok (.iload_n 0, 1) := by decide +kernel
theorem d1_1 : decode method_3_code 1 = .ok (.iload_n 1, 1) := by decide +kernel
theorem d1_2 : decode method_3_code 2 = .ok (.iushr, 1) := by decide +kernel
theorem d1_3 : decode method_3_code 3 = .ok (.iconst 1, 1) := by decide +kernel
theorem d1_4 : decode method_3_code 4 = .ok (.iand, 1) := by decide +kernel
theorem d1_5 : decode method_3_code 5 = .ok (.ifCond .ne 6, 3) := by decide +kernel
theorem d1_8 : decode method_3_code 8 = .ok (.bipush 10, 2) := by decide +kernel
theorem d1_10 : decode method_3_code 10 = .ok (.ireturn, 1) := by decide +kernel
theorem pn_1 : plainName "com/example/lading/lading/io/AlgorithmLineEndPinLaw" = true := by first | (simp [plainName, overriddenIn]; done) | decide +kernel
theorem ef_1 (m : MethodId) (x0 : Int32) (x1 : Int32) (x2 : Int32) : entryFrame m #[(.int x0), (.int x1), (.int x2)] 3 = mkF m 0 #[.val (.int x0), .val (.int x1), .val (.int x2)] [] := by first | (simp [entryFrame, mkF, argsToLocals, Value.category]; done) | rfl
set_option maxRecDepth 65536 in
set_option maxHeartbeats 40000000 in
theorem rm1a (l : Launch) (Z : State) (a0 : Array Value) (hw : ∀ d ∈ tables_1, d.before a0 Z = true) (ws : List Jvm.Cond) (p1 : Int32) (p2 : Int32) (p3 : Int32) (h0 : Heap) (n0 : Nat) (Z0 : n0 ≤ h0.size) (hc5 : (((p1.toUInt32 >>> (p2 &&& 31).toUInt32).toInt32) &&& (1 : Int32)) = (0 : Int32)) :
    MetFree l (⟨"com/example/lading/lading/io/AlgorithmLineEndPinLaw", "pick", "(III)B"⟩ : MethodName) (head1 (Jvm.Cond.code (⟨"com/example/lading/lading/io/AlgorithmLineEndPinLaw", "pick", "(III)B"⟩ : MethodName) method_3_code 3 (some .byte) :: ws) ({ frames := 0, cells := 0, slots := 0, locals := 0 } : Room)) (fun a U => a = #[(.int p1), (.int p2), (.int p3)] ∧ Z.Warmed39 U.vm ∧ U.heap = h0) (fun _ _ _ _ _ => True) (fun _ U o U' => ∃ v L, o = .returned v ∧ Q1 (10 : Int32) Z p1 p2 p3 h0 n0 v U'.heap L ∧ FrameEnd U o U' L ({ frames := 0, cells := 0, slots := 0, locals := 0 } : Room).cells ({ frames := 0, cells := 0, slots := 0, locals := 0 } : Room).slots) := by
  refine MetFree.of_bodySF (plainFor_of_name pn_1) hisR ?_
  intro p e s m args below meth c s₁ Bd hml0 hP hK
  obtain ⟨rfl, hZ, hh⟩ := hP
  have hx := Bd.exec
  have hby := Bd.bytes
  have hml : c.maxLocals = 3 := hml0
  have hown : s.vm.findClass "com/example/lading/lading/io/AlgorithmLineEndPinLaw" = some m.cls := findClass_of_methodNamed Bd.named
  have hnm := (name_of_methodNamed Bd.named Bd.method).1
  have X0 : Stand p l e ({ frames := 0, cells := 0, slots := 0, locals := 0 } : Room) s m #[(.int p1), (.int p2), (.int p3)] below meth c s₁ [] 0 0 := Stand.of_body Bd
  have e0 : s₁.heap = h0 := by rw [← hh, Bd.state]; rfl
  have N0 := Fr.nil n0
  have pre0 : ∀ t, Steps p.tables e below (s₁.setTop (mkF m 0 #[.val (.int p1), .val (.int p2), .val (.int p3)] [])) t → Steps p.tables e below (s₁.setTop (entryFrame m #[(.int p1), (.int p2), (.int p3)] 3)) t := fun t k => castTop (ef_1 m p1 p2 p3) k
  -- 3. LAWS

  obtain ⟨fs, hr, hrun, hended, hW, hsame⟩ := X0.leave (v := some (.int (10 : Int32))) (fun h => by rw [Bd.returns] at h; cases h)
  refine ⟨_, _, pre0 _ ?_, hrun, hended, _, _, rfl, ?_, ⟨_, rfl⟩, hW, hsame.mono (by decide) (by decide)⟩
  -- 4. STEPS
  · show Steps p.tables e below (s₁.setTop (mkF m 0 #[.val (.int p1), .val (.int p2), .val (.int p3)] [])) _
    refine XS.iloadN X0.here hx rfl (hb hby d1_0) rfl ?_
    show Steps p.tables e below (s₁.setTop (mkF m 1 #[.val (.int p1), .val (.int p2), .val (.int p3)] [(.int p1)])) _
    refine XS.iloadN X0.here hx rfl (hb hby d1_1) rfl ?_
    show Steps p.tables e below (s₁.setTop (mkF m 2 #[.val (.int p1), .val (.int p2), .val (.int p3)] [(.int p2), (.int p1)])) _
    refine XS.iushr X0.here hx rfl (hb hby d1_2) rfl ?_
    show Steps p.tables e below (s₁.setTop (mkF m 3 #[.val (.int p1), .val (.int p2), .val (.int p3)] [(.int ((p1.toUInt32 >>> (p2 &&& 31).toUInt32).toInt32))])) _
    refine XS.iconst X0.here hx rfl (hb hby d1_3) ?_
    show Steps p.tables e below (s₁.setTop (mkF m 4 #[.val (.int p1), .val (.int p2), .val (.int p3)] [(.int (1 : Int32)), (.int ((p1.toUInt32 >>> (p2 &&& 31).toUInt32).toInt32))])) _
    refine XS.iand X0.here hx rfl (hb hby d1_4) rfl ?_
    show Steps p.tables e below (s₁.setTop (mkF m 5 #[.val (.int p1), .val (.int p2), .val (.int p3)] [(.int (((p1.toUInt32 >>> (p2 &&& 31).toUInt32).toInt32) &&& (1 : Int32)))])) _
    refine XS.ifNo X0.here hx rfl (hb hby d1_5) rfl ((if0 _ _).trans (teq hc5).2) ?_
    show Steps p.tables e below (s₁.setTop (mkF m 8 #[.val (.int p1), .val (.int p2), .val (.int p3)] [])) _
    refine XS.bipush X0.here hx rfl (hb hby d1_8) ?_
    show Steps p.tables e below (s₁.setTop (mkF m 10 #[.val (.int p1), .val (.int p2), .val (.int p3)] [(.int (10 : Int32))])) _
    exact retN X0 hx (t := .byte) Bd.returns (by simp) (hb hby d1_10) hr
  · show Q1 (10 : Int32) Z p1 p2 p3 h0 n0 _ s₁.heap _
    rw [e0]
    exact ⟨rfl, N0, rfl⟩
theorem d1_11 : decode method_3_code 11 = .ok (.iload_n 2, 1) := by decide +kernel
theorem d1_12 : decode method_3_code 12 = .ok (.bipush 8, 2) := by decide +kernel
theorem d1_14 : decode method_3_code 14 = .ok (.iload_n 1, 1) := by decide +kernel
theorem d1_15 : decode method_3_code 15 = .ok (.imul, 1) := by decide +kernel
theorem d1_16 : decode method_3_code 16 = .ok (.iushr, 1) := by decide +kernel
theorem d1_17 : decode method_3_code 17 = .ok (.i2b, 1) := by decide +kernel
theorem d1_18 : decode method_3_code 18 = .ok (.ireturn, 1) := by decide +kernel
set_option maxRecDepth 65536 in
set_option maxHeartbeats 40000000 in
theorem rm1b (l : Launch) (Z : State) (a0 : Array Value) (hw : ∀ d ∈ tables_1, d.before a0 Z = true) (ws : List Jvm.Cond) (p1 : Int32) (p2 : Int32) (p3 : Int32) (h0 : Heap) (n0 : Nat) (Z0 : n0 ≤ h0.size) (hc5 : ¬ ((((p1.toUInt32 >>> (p2 &&& 31).toUInt32).toInt32) &&& (1 : Int32)) = (0 : Int32))) :
    MetFree l (⟨"com/example/lading/lading/io/AlgorithmLineEndPinLaw", "pick", "(III)B"⟩ : MethodName) (head1 (Jvm.Cond.code (⟨"com/example/lading/lading/io/AlgorithmLineEndPinLaw", "pick", "(III)B"⟩ : MethodName) method_3_code 3 (some .byte) :: ws) ({ frames := 0, cells := 0, slots := 0, locals := 0 } : Room)) (fun a U => a = #[(.int p1), (.int p2), (.int p3)] ∧ Z.Warmed39 U.vm ∧ U.heap = h0) (fun _ _ _ _ _ => True) (fun _ U o U' => ∃ v L, o = .returned v ∧ Q1 (((p3.toUInt32 >>> (((8 : Int32) * p2) &&& 31).toUInt32).toInt32).toInt8.toInt32) Z p1 p2 p3 h0 n0 v U'.heap L ∧ FrameEnd U o U' L ({ frames := 0, cells := 0, slots := 0, locals := 0 } : Room).cells ({ frames := 0, cells := 0, slots := 0, locals := 0 } : Room).slots) := by
  refine MetFree.of_bodySF (plainFor_of_name pn_1) hisR ?_
  intro p e s m args below meth c s₁ Bd hml0 hP hK
  obtain ⟨rfl, hZ, hh⟩ := hP
  have hx := Bd.exec
  have hby := Bd.bytes
  have hml : c.maxLocals = 3 := hml0
  have hown : s.vm.findClass "com/example/lading/lading/io/AlgorithmLineEndPinLaw" = some m.cls := findClass_of_methodNamed Bd.named
  have hnm := (name_of_methodNamed Bd.named Bd.method).1
  have X0 : Stand p l e ({ frames := 0, cells := 0, slots := 0, locals := 0 } : Room) s m #[(.int p1), (.int p2), (.int p3)] below meth c s₁ [] 0 0 := Stand.of_body Bd
  have e0 : s₁.heap = h0 := by rw [← hh, Bd.state]; rfl
  have N0 := Fr.nil n0
  have pre0 : ∀ t, Steps p.tables e below (s₁.setTop (mkF m 0 #[.val (.int p1), .val (.int p2), .val (.int p3)] [])) t → Steps p.tables e below (s₁.setTop (entryFrame m #[(.int p1), (.int p2), (.int p3)] 3)) t := fun t k => castTop (ef_1 m p1 p2 p3) k
  -- 3. LAWS

  obtain ⟨fs, hr, hrun, hended, hW, hsame⟩ := X0.leave (v := some (.int (((p3.toUInt32 >>> (((8 : Int32) * p2) &&& 31).toUInt32).toInt32).toInt8.toInt32))) (fun h => by rw [Bd.returns] at h; cases h)
  refine ⟨_, _, pre0 _ ?_, hrun, hended, _, _, rfl, ?_, ⟨_, rfl⟩, hW, hsame.mono (by decide) (by decide)⟩
  -- 4. STEPS
  · show Steps p.tables e below (s₁.setTop (mkF m 0 #[.val (.int p1), .val (.int p2), .val (.int p3)] [])) _
    refine XS.iloadN X0.here hx rfl (hb hby d1_0) rfl ?_
    show Steps p.tables e below (s₁.setTop (mkF m 1 #[.val (.int p1), .val (.int p2), .val (.int p3)] [(.int p1)])) _
    refine XS.iloadN X0.here hx rfl (hb hby d1_1) rfl ?_
    show Steps p.tables e below (s₁.setTop (mkF m 2 #[.val (.int p1), .val (.int p2), .val (.int p3)] [(.int p2), (.int p1)])) _
    refine XS.iushr X0.here hx rfl (hb hby d1_2) rfl ?_
    show Steps p.tables e below (s₁.setTop (mkF m 3 #[.val (.int p1), .val (.int p2), .val (.int p3)] [(.int ((p1.toUInt32 >>> (p2 &&& 31).toUInt32).toInt32))])) _
    refine XS.iconst X0.here hx rfl (hb hby d1_3) ?_
    show Steps p.tables e below (s₁.setTop (mkF m 4 #[.val (.int p1), .val (.int p2), .val (.int p3)] [(.int (1 : Int32)), (.int ((p1.toUInt32 >>> (p2 &&& 31).toUInt32).toInt32))])) _
    refine XS.iand X0.here hx rfl (hb hby d1_4) rfl ?_
    show Steps p.tables e below (s₁.setTop (mkF m 5 #[.val (.int p1), .val (.int p2), .val (.int p3)] [(.int (((p1.toUInt32 >>> (p2 &&& 31).toUInt32).toInt32) &&& (1 : Int32)))])) _
    refine XS.ifYes X0.here hx rfl (pc0 := 5) (pc' := 11) rfl (hb hby d1_5) rfl ((if0 _ _).trans (feq hc5).2) (by decide) (by decide) ?_
    show Steps p.tables e below (s₁.setTop (mkF m 11 #[.val (.int p1), .val (.int p2), .val (.int p3)] [])) _
    refine XS.iloadN X0.here hx rfl (hb hby d1_11) rfl ?_
    show Steps p.tables e below (s₁.setTop (mkF m 12 #[.val (.int p1), .val (.int p2), .val (.int p3)] [(.int p3)])) _
    refine XS.bipush X0.here hx rfl (hb hby d1_12) ?_
    show Steps p.tables e below (s₁.setTop (mkF m 14 #[.val (.int p1), .val (.int p2), .val (.int p3)] [(.int (8 : Int32)), (.int p3)])) _
    refine XS.iloadN X0.here hx rfl (hb hby d1_14) rfl ?_
    show Steps p.tables e below (s₁.setTop (mkF m 15 #[.val (.int p1), .val (.int p2), .val (.int p3)] [(.int p2), (.int (8 : Int32)), (.int p3)])) _
    refine XS.imul X0.here hx rfl (hb hby d1_15) rfl ?_
    show Steps p.tables e below (s₁.setTop (mkF m 16 #[.val (.int p1), .val (.int p2), .val (.int p3)] [(.int ((8 : Int32) * p2)), (.int p3)])) _
    refine XS.iushr X0.here hx rfl (hb hby d1_16) rfl ?_
    show Steps p.tables e below (s₁.setTop (mkF m 17 #[.val (.int p1), .val (.int p2), .val (.int p3)] [(.int ((p3.toUInt32 >>> (((8 : Int32) * p2) &&& 31).toUInt32).toInt32))])) _
    refine XS.i2b X0.here hx rfl (hb hby d1_17) rfl ?_
    show Steps p.tables e below (s₁.setTop (mkF m 18 #[.val (.int p1), .val (.int p2), .val (.int p3)] [(.int (((p3.toUInt32 >>> (((8 : Int32) * p2) &&& 31).toUInt32).toInt32).toInt8.toInt32))])) _
    exact retN X0 hx (t := .byte) Bd.returns (by simp) (hb hby d1_18) (by rw [own_nar_b]; exact hr)
  · show Q1 (((p3.toUInt32 >>> (((8 : Int32) * p2) &&& 31).toUInt32).toInt32).toInt8.toInt32) Z p1 p2 p3 h0 n0 _ s₁.heap _
    rw [e0]
    exact ⟨rfl, N0, rfl⟩
theorem rm1 (l : Launch) (Z : State) (a0 : Array Value) (hw : ∀ d ∈ tables_1, d.before a0 Z = true) (ws : List Jvm.Cond) (p1 : Int32) (p2 : Int32) (p3 : Int32) (h0 : Heap) (n0 : Nat) (Z0 : n0 ≤ h0.size) :
    MetFree l (⟨"com/example/lading/lading/io/AlgorithmLineEndPinLaw", "pick", "(III)B"⟩ : MethodName) (head1 (Jvm.Cond.code (⟨"com/example/lading/lading/io/AlgorithmLineEndPinLaw", "pick", "(III)B"⟩ : MethodName) method_3_code 3 (some .byte) :: ws) ({ frames := 0, cells := 0, slots := 0, locals := 0 } : Room)) (fun a U => a = #[(.int p1), (.int p2), (.int p3)] ∧ Z.Warmed39 U.vm ∧ U.heap = h0) (fun _ _ _ _ _ => True) (fun _ U o U' => ∃ v L, o = .returned v ∧ Q1 (own_pick p1 p2 p3) Z p1 p2 p3 h0 n0 v U'.heap L ∧ FrameEnd U o U' L ({ frames := 0, cells := 0, slots := 0, locals := 0 } : Room).cells ({ frames := 0, cells := 0, slots := 0, locals := 0 } : Room).slots) := by
  unfold own_pick
  by_cases h1 : (((p1.toUInt32 >>> (p2 &&& 31).toUInt32).toInt32) &&& (1 : Int32)) = (0 : Int32)
  · rw [if_pos h1]; exact rm1a l Z a0 hw ws p1 p2 p3 h0 n0 Z0 h1
  · rw [if_neg h1]; exact rm1b l Z a0 hw ws p1 p2 p3 h0 n0 Z0 h1
theorem d2_2 : decode prog_3_method_2_code 2 = .ok (.iload_n 2, 1) := by decide +kernel
theorem d2_3 : decode prog_3_method_2_code 3 = .ok (.aload_n 0, 1) := by decide +kernel
theorem d2_4 : decode prog_3_method_2_code 4 = .ok (.arraylength, 1) := by decide +kernel
theorem d2_5 : decode prog_3_method_2_code 5 = .ok (.if_icmp .ge 17, 3) := by decide +kernel
theorem d2_8 : decode prog_3_method_2_code 8 = .ok (.aload_n 0, 1) := by decide +kernel
theorem d2_9 : decode prog_3_method_2_code 9 = .ok (.iload_n 2, 1) := by decide +kernel
theorem d2_10 : decode prog_3_method_2_code 10 = .ok (.baload, 1) := by decide +kernel
theorem d2_11 : decode prog_3_method_2_code 11 = .ok (.bipush 10, 2) := by decide +kernel
theorem d2_13 : decode prog_3_method_2_code 13 = .ok (.if_icmp .eq 9, 3) := by decide +kernel
theorem d2_16 : decode prog_3_method_2_code 16 = .ok (.iinc 2 1, 3) := by decide +kernel
theorem d2_19 : decode prog_3_method_2_code 19 = .ok (.goto (-17), 3) := by decide +kernel
set_option maxRecDepth 65536 in
set_option maxHeartbeats 40000000 in
theorem turn2 {p : Program} {l : Launch} {e : Env} {R : Room} {s : State} {m : MethodId} {args : Array Value} {below : List Frame} {meth : Method} {c : Code} {T0 : State} {locs : List Loc} {cells slots : Nat} {Z : State} {a0 : Array Value} {h0 : Heap} (o0 : Addr) (s1 : Slot) (i2 : Int32) (cl_o0 : Cell) (z_o0 : Int32) (w3 : Int32)
    (X0 : Stand p l e R s m args below meth c T0 locs cells slots) (hx : p.tables.exec = Jvm.exec) (hZ : Z.Warmed39 s.vm) (hw : ∀ d ∈ tables_1, d.before a0 Z = true) (hby : c.code = prog_3_method_2_code) (hml : c.maxLocals = 3) (hown : s.vm.findClass "com/example/lading/lading/io/AlgorithmLine" = some m.cls) (e0 : T0.heap = h0) (Ar_o0 : Arr Z h0 o0 cl_o0 .byte) (S_o0 : cl_o0.slots.size = z_o0.toNatClampNeg) (N_o0 : ¬ z_o0 < 0) (hin10 : ¬ (i2 < 0 ∨ cl_o0.slots.size ≤ (i2).toNatClampNeg)) (hat10 : cl_o0.slots[(i2).toNatClampNeg]? = some (.int w3)) (hc5 : i2 < z_o0) (hc13 : ¬ (w3 = (10 : Int32))) :
    ∃ (T' : State), Stand p l e R s m args below meth c T' locs cells slots ∧ T'.heap = h0 ∧
      ∀ target, Steps p.tables e below (T'.setTop (mkF m 2 #[.val (.ref o0), s1, .val (.int (i2 + (1 : Int32)))] [])) target → Steps p.tables e below (T0.setTop (mkF m 2 #[.val (.ref o0), s1, .val (.int i2)] [])) target := by

  refine ⟨T0, X0, e0, fun target kt => ?_⟩
  show Steps p.tables e below (T0.setTop (mkF m 2 #[.val (.ref o0), s1, .val (.int i2)] [])) _
  refine XS.iloadN X0.here hx rfl (hb hby d2_2) rfl ?_
  show Steps p.tables e below (T0.setTop (mkF m 3 #[.val (.ref o0), s1, .val (.int i2)] [(.int i2)])) _
  refine XS.aloadN X0.here hx rfl (hb hby d2_3) rfl rfl ?_
  show Steps p.tables e below (T0.setTop (mkF m 4 #[.val (.ref o0), s1, .val (.int i2)] [(.ref o0), (.int i2)])) _
  refine X0.arraylength hx (by rw [e0]; exact Ar_o0.1) (State.isArrayOf_alike hZ.alike Ar_o0.2.1) (g := (mkF m 4 #[.val (.ref o0), s1, .val (.int i2)] [(.ref o0), (.int i2)])) rfl rfl (hb hby d2_4) _ ?_
  rw [len_of S_o0 N_o0]
  show Steps p.tables e below (T0.setTop (mkF m 5 #[.val (.ref o0), s1, .val (.int i2)] [(.int z_o0), (.int i2)])) _
  refine XS.icmpNo X0.here hx rfl (hb hby d2_5) rfl (tlt hc5).2.1 ?_
  show Steps p.tables e below (T0.setTop (mkF m 8 #[.val (.ref o0), s1, .val (.int i2)] [])) _
  refine XS.aloadN X0.here hx rfl (hb hby d2_8) rfl rfl ?_
  show Steps p.tables e below (T0.setTop (mkF m 9 #[.val (.ref o0), s1, .val (.int i2)] [(.ref o0)])) _
  refine XS.iloadN X0.here hx rfl (hb hby d2_9) rfl ?_
  show Steps p.tables e below (T0.setTop (mkF m 10 #[.val (.ref o0), s1, .val (.int i2)] [(.int i2), (.ref o0)])) _
  refine X0.baloadBytes hx (j := i2) (v := (.int w3)) (by rw [e0]; exact Ar_o0.1) (State.isArrayOf_alike hZ.alike Ar_o0.2.1) Ar_o0.2.2 hin10 hat10 (g := (mkF m 10 #[.val (.ref o0), s1, .val (.int i2)] [(.int i2), (.ref o0)])) rfl rfl (hb hby d2_10) _ ?_
  show Steps p.tables e below (T0.setTop (mkF m 11 #[.val (.ref o0), s1, .val (.int i2)] [(.int w3)])) _
  refine XS.bipush X0.here hx rfl (hb hby d2_11) ?_
  show Steps p.tables e below (T0.setTop (mkF m 13 #[.val (.ref o0), s1, .val (.int i2)] [(.int (10 : Int32)), (.int w3)])) _
  refine XS.icmpNo X0.here hx rfl (hb hby d2_13) rfl (feq hc13).1 ?_
  show Steps p.tables e below (T0.setTop (mkF m 16 #[.val (.ref o0), s1, .val (.int i2)] [])) _
  refine XS.iinc X0.here hx rfl (hb hby d2_16) rfl (l' := #[.val (.ref o0), s1, .val (.int (i2 + (1 : Int32)))]) rfl ?_
  show Steps p.tables e below (T0.setTop (mkF m 19 #[.val (.ref o0), s1, .val (.int (i2 + (1 : Int32)))] [])) _
  refine XS.goto X0.here hx rfl (pc0 := 19) (pc' := 2) rfl (hb hby d2_19) (by decide) (by decide) ?_
  exact kt
set_option maxRecDepth 65536 in
set_option maxHeartbeats 40000000 in
theorem found2 {p : Program} {l : Launch} {e : Env} {R : Room} {s : State} {m : MethodId} {args : Array Value} {below : List Frame} {meth : Method} {c : Code} {T0 : State} {locs : List Loc} {cells slots : Nat} {Z : State} {a0 : Array Value} {h0 : Heap} (o0 : Addr) (s1 : Slot) (i2 : Int32) (cl_o0 : Cell) (z_o0 : Int32) (w3 : Int32)
    (X0 : Stand p l e R s m args below meth c T0 locs cells slots) (hx : p.tables.exec = Jvm.exec) (hZ : Z.Warmed39 s.vm) (hw : ∀ d ∈ tables_1, d.before a0 Z = true) (hby : c.code = prog_3_method_2_code) (hml : c.maxLocals = 3) (hown : s.vm.findClass "com/example/lading/lading/io/AlgorithmLine" = some m.cls) (e0 : T0.heap = h0) (Ar_o0 : Arr Z h0 o0 cl_o0 .byte) (S_o0 : cl_o0.slots.size = z_o0.toNatClampNeg) (N_o0 : ¬ z_o0 < 0) (hin10 : ¬ (i2 < 0 ∨ cl_o0.slots.size ≤ (i2).toNatClampNeg)) (hat10 : cl_o0.slots[(i2).toNatClampNeg]? = some (.int w3)) (hc5 : i2 < z_o0) (hc13 : w3 = (10 : Int32)) :
    ∃ (T' : State), Stand p l e R s m args below meth c T' locs cells slots ∧ T'.heap = h0 ∧
      ∀ target, Steps p.tables e below (T'.setTop (mkF m 22 #[.val (.ref o0), s1, .val (.int i2)] [])) target → Steps p.tables e below (T0.setTop (mkF m 2 #[.val (.ref o0), s1, .val (.int i2)] [])) target := by

  refine ⟨T0, X0, e0, fun target kt => ?_⟩
  show Steps p.tables e below (T0.setTop (mkF m 2 #[.val (.ref o0), s1, .val (.int i2)] [])) _
  refine XS.iloadN X0.here hx rfl (hb hby d2_2) rfl ?_
  show Steps p.tables e below (T0.setTop (mkF m 3 #[.val (.ref o0), s1, .val (.int i2)] [(.int i2)])) _
  refine XS.aloadN X0.here hx rfl (hb hby d2_3) rfl rfl ?_
  show Steps p.tables e below (T0.setTop (mkF m 4 #[.val (.ref o0), s1, .val (.int i2)] [(.ref o0), (.int i2)])) _
  refine X0.arraylength hx (by rw [e0]; exact Ar_o0.1) (State.isArrayOf_alike hZ.alike Ar_o0.2.1) (g := (mkF m 4 #[.val (.ref o0), s1, .val (.int i2)] [(.ref o0), (.int i2)])) rfl rfl (hb hby d2_4) _ ?_
  rw [len_of S_o0 N_o0]
  show Steps p.tables e below (T0.setTop (mkF m 5 #[.val (.ref o0), s1, .val (.int i2)] [(.int z_o0), (.int i2)])) _
  refine XS.icmpNo X0.here hx rfl (hb hby d2_5) rfl (tlt hc5).2.1 ?_
  show Steps p.tables e below (T0.setTop (mkF m 8 #[.val (.ref o0), s1, .val (.int i2)] [])) _
  refine XS.aloadN X0.here hx rfl (hb hby d2_8) rfl rfl ?_
  show Steps p.tables e below (T0.setTop (mkF m 9 #[.val (.ref o0), s1, .val (.int i2)] [(.ref o0)])) _
  refine XS.iloadN X0.here hx rfl (hb hby d2_9) rfl ?_
  show Steps p.tables e below (T0.setTop (mkF m 10 #[.val (.ref o0), s1, .val (.int i2)] [(.int i2), (.ref o0)])) _
  refine X0.baloadBytes hx (j := i2) (v := (.int w3)) (by rw [e0]; exact Ar_o0.1) (State.isArrayOf_alike hZ.alike Ar_o0.2.1) Ar_o0.2.2 hin10 hat10 (g := (mkF m 10 #[.val (.ref o0), s1, .val (.int i2)] [(.int i2), (.ref o0)])) rfl rfl (hb hby d2_10) _ ?_
  show Steps p.tables e below (T0.setTop (mkF m 11 #[.val (.ref o0), s1, .val (.int i2)] [(.int w3)])) _
  refine XS.bipush X0.here hx rfl (hb hby d2_11) ?_
  show Steps p.tables e below (T0.setTop (mkF m 13 #[.val (.ref o0), s1, .val (.int i2)] [(.int (10 : Int32)), (.int w3)])) _
  refine XS.icmpYes X0.here hx rfl (pc0 := 13) (pc' := 22) rfl (hb hby d2_13) rfl (teq hc13).1 (by decide) (by decide) ?_
  exact kt
set_option maxRecDepth 65536 in
set_option maxHeartbeats 40000000 in
theorem out2 {p : Program} {l : Launch} {e : Env} {R : Room} {s : State} {m : MethodId} {args : Array Value} {below : List Frame} {meth : Method} {c : Code} {T0 : State} {locs : List Loc} {cells slots : Nat} {Z : State} {a0 : Array Value} {h0 : Heap} (o0 : Addr) (s1 : Slot) (i2 : Int32) (cl_o0 : Cell) (z_o0 : Int32)
    (X0 : Stand p l e R s m args below meth c T0 locs cells slots) (hx : p.tables.exec = Jvm.exec) (hZ : Z.Warmed39 s.vm) (hw : ∀ d ∈ tables_1, d.before a0 Z = true) (hby : c.code = prog_3_method_2_code) (hml : c.maxLocals = 3) (hown : s.vm.findClass "com/example/lading/lading/io/AlgorithmLine" = some m.cls) (e0 : T0.heap = h0) (Ar_o0 : Arr Z h0 o0 cl_o0 .byte) (S_o0 : cl_o0.slots.size = z_o0.toNatClampNeg) (N_o0 : ¬ z_o0 < 0) (hc5 : ¬ (i2 < z_o0)) :
    ∃ (T' : State), Stand p l e R s m args below meth c T' locs cells slots ∧ T'.heap = h0 ∧
      ∀ target, Steps p.tables e below (T'.setTop (mkF m 22 #[.val (.ref o0), s1, .val (.int i2)] [])) target → Steps p.tables e below (T0.setTop (mkF m 2 #[.val (.ref o0), s1, .val (.int i2)] [])) target := by

  refine ⟨T0, X0, e0, fun target kt => ?_⟩
  show Steps p.tables e below (T0.setTop (mkF m 2 #[.val (.ref o0), s1, .val (.int i2)] [])) _
  refine XS.iloadN X0.here hx rfl (hb hby d2_2) rfl ?_
  show Steps p.tables e below (T0.setTop (mkF m 3 #[.val (.ref o0), s1, .val (.int i2)] [(.int i2)])) _
  refine XS.aloadN X0.here hx rfl (hb hby d2_3) rfl rfl ?_
  show Steps p.tables e below (T0.setTop (mkF m 4 #[.val (.ref o0), s1, .val (.int i2)] [(.ref o0), (.int i2)])) _
  refine X0.arraylength hx (by rw [e0]; exact Ar_o0.1) (State.isArrayOf_alike hZ.alike Ar_o0.2.1) (g := (mkF m 4 #[.val (.ref o0), s1, .val (.int i2)] [(.ref o0), (.int i2)])) rfl rfl (hb hby d2_4) _ ?_
  rw [len_of S_o0 N_o0]
  show Steps p.tables e below (T0.setTop (mkF m 5 #[.val (.ref o0), s1, .val (.int i2)] [(.int z_o0), (.int i2)])) _
  refine XS.icmpYes X0.here hx rfl (pc0 := 5) (pc' := 22) rfl (hb hby d2_5) rfl (flt hc5).2.1 (by decide) (by decide) ?_
  exact kt
theorem loop2 {p : Program} {l : Launch} {e : Env} {R : Room} {s : State} {m : MethodId} {args : Array Value} {below : List Frame} {meth : Method} {c : Code} {locs : List Loc} {cells slots : Nat} {Z : State} {a0 : Array Value} {h0 : Heap} (o0 : Addr) (s1 : Slot) (f : Nat → Int32) (n : Nat) (hn : n ≤ 4) (hx : p.tables.exec = Jvm.exec) (hZ : Z.Warmed39 s.vm) (hw : ∀ d ∈ tables_1, d.before a0 Z = true) (hby : c.code = prog_3_method_2_code) (hml : c.maxLocals = 3) (hown : s.vm.findClass "com/example/lading/lading/io/AlgorithmLine" = some m.cls) (cl_o0 : Cell) (Ar_o0 : Arr Z h0 o0 cl_o0 .byte) (S_o0 : cl_o0.slots.size = (Int32.ofNat n).toNatClampNeg) (hat : ∀ j, j < n → cl_o0.slots[j]? = some (.int (f j))) :
    ∀ (k i : Nat) (T0 : State), i + k = n → Stand p l e R s m args below meth c T0 locs cells slots → T0.heap = h0 →
      ∃ (T' : State), Stand p l e R s m args below meth c T' locs cells slots ∧ T'.heap = h0 ∧
        ∀ target, Steps p.tables e below (T'.setTop (mkF m 22 #[.val (.ref o0), s1, .val (.int (Int32.ofNat (own_scan f k i)))] [])) target → Steps p.tables e below (T0.setTop (mkF m 2 #[.val (.ref o0), s1, .val (.int (Int32.ofNat i))] [])) target := by
  intro k
  induction k with
  | zero =>
    intro i T0 hi X0 e0
    have hi' : i = n := by omega
    subst hi'
    exact out2 o0 s1 (Int32.ofNat i) cl_o0 (Int32.ofNat i) X0 hx hZ hw hby hml hown e0 Ar_o0 S_o0 (own_nn (by omega)) Int32.lt_irrefl
  | succ k ih =>
    intro i T0 hi X0 e0
    have hin : ¬ (Int32.ofNat i < 0 ∨ cl_o0.slots.size ≤ (Int32.ofNat i).toNatClampNeg) := by
      rw [S_o0, own_n32 (by omega), own_n32 (by omega)]
      exact fun q => q.elim (own_nn (by omega)) (fun q => by omega)
    have hai : cl_o0.slots[(Int32.ofNat i).toNatClampNeg]? = some (.int (f i)) := by rw [own_n32 (by omega)]; exact hat i (by omega)
    have hlt : Int32.ofNat i < Int32.ofNat n := own_ltn (by omega) (by omega)
    by_cases hf : f i = 10
    · have hs : own_scan f (k + 1) i = i := by rw [own_scan, if_pos hf]
      rw [hs]
      exact found2 o0 s1 (Int32.ofNat i) cl_o0 (Int32.ofNat n) (f i) X0 hx hZ hw hby hml hown e0 Ar_o0 S_o0 (own_nn (by omega)) hin hai hlt hf
    · have hs : own_scan f (k + 1) i = own_scan f k (i + 1) := by rw [own_scan, if_neg hf]
      rw [hs]
      obtain ⟨T1, X1, e1, st1⟩ := turn2 o0 s1 (Int32.ofNat i) cl_o0 (Int32.ofNat n) (f i) X0 hx hZ hw hby hml hown e0 Ar_o0 S_o0 (own_nn (by omega)) hin hai hlt hf
      obtain ⟨T', X', e', st⟩ := ih (i + 1) T1 (by omega) X1 e1
      refine ⟨T', X', e', fun target h => st1 target ?_⟩
      rw [own_one]
      exact st target h
theorem d2_0 : decode prog_3_method_2_code 0 = .ok (.iload_n 1, 1) := by decide +kernel
theorem d2_1 : decode prog_3_method_2_code 1 = .ok (.istore_n 2, 1) := by decide +kernel
theorem d2_22 : decode prog_3_method_2_code 22 = .ok (.iload_n 2, 1) := by decide +kernel
theorem d2_23 : decode prog_3_method_2_code 23 = .ok (.ireturn, 1) := by decide +kernel
theorem pn_2 : plainName "com/example/lading/lading/io/AlgorithmLine" = true := by first | (simp [plainName, overriddenIn]; done) | decide +kernel
theorem ef_2 (m : MethodId) (x0 : Addr) (x1 : Int32) : entryFrame m #[(.ref x0), (.int x1)] 3 = mkF m 0 #[.val (.ref x0), .val (.int x1), .unset] [] := by first | (simp [entryFrame, mkF, argsToLocals, Value.category]; done) | rfl
def Q2 (f : Nat → Int32) (n i : Nat) (h0 : Heap) (n0 : Nat) (v : Option Value) (h : Heap) (L : List Loc) : Prop := v = some (.int (Int32.ofNat (own_scan f (n - i) i))) ∧ Fr n0 L ∧ h = h0
set_option maxRecDepth 65536 in
set_option maxHeartbeats 40000000 in
theorem rm2 (l : Launch) (Z : State) (a0 : Array Value) (hw : ∀ d ∈ tables_1, d.before a0 Z = true) (ws : List Jvm.Cond) (a1 : Addr) (f : Nat → Int32) (n : Nat) (i : Nat) (cl_a1 : Cell) (h0 : Heap) (n0 : Nat) (Z0 : n0 ≤ h0.size) (hn : n ≤ 4) (hi : i ≤ n) (Ar_a1 : Arr Z h0 a1 cl_a1 .byte) (S_a1 : cl_a1.slots.size = (Int32.ofNat n).toNatClampNeg) (hat : ∀ j, j < n → cl_a1.slots[j]? = some (.int (f j))) :
    MetFree l (⟨"com/example/lading/lading/io/AlgorithmLine", "end", "([BI)I"⟩ : MethodName) (head1 (Jvm.Cond.code (⟨"com/example/lading/lading/io/AlgorithmLine", "end", "([BI)I"⟩ : MethodName) prog_3_method_2_code 3 (some .int) :: ws) ({ frames := 0, cells := 0, slots := 0, locals := 0 } : Room)) (fun a U => a = #[(.ref a1), (.int (Int32.ofNat i))] ∧ Z.Warmed39 U.vm ∧ U.heap = h0) (fun _ _ _ _ _ => True) (fun _ U o U' => ∃ v L, o = .returned v ∧ Q2 f n i h0 n0 v U'.heap L ∧ FrameEnd U o U' L ({ frames := 0, cells := 0, slots := 0, locals := 0 } : Room).cells ({ frames := 0, cells := 0, slots := 0, locals := 0 } : Room).slots) := by
  refine MetFree.of_bodySF (plainFor_of_name pn_2) hisR ?_
  intro p e s m args below meth c s₁ Bd hml0 hP hK
  obtain ⟨rfl, hZ, hh⟩ := hP
  have hx := Bd.exec
  have hby := Bd.bytes
  have hml : c.maxLocals = 3 := hml0
  have hown : s.vm.findClass "com/example/lading/lading/io/AlgorithmLine" = some m.cls := findClass_of_methodNamed Bd.named
  have hnm := (name_of_methodNamed Bd.named Bd.method).1
  have X0 : Stand p l e ({ frames := 0, cells := 0, slots := 0, locals := 0 } : Room) s m #[(.ref a1), (.int (Int32.ofNat i))] below meth c s₁ [] 0 0 := Stand.of_body Bd
  have e0 : s₁.heap = h0 := by rw [← hh, Bd.state]; rfl
  have N0 := Fr.nil n0
  have pre0 : ∀ t, Steps p.tables e below (s₁.setTop (mkF m 0 #[.val (.ref a1), .val (.int (Int32.ofNat i)), .unset] [])) t → Steps p.tables e below (s₁.setTop (entryFrame m #[(.ref a1), (.int (Int32.ofNat i))] 3)) t := fun t k => castTop (ef_2 m a1 (Int32.ofNat i)) k
  obtain ⟨T1, X1, e1, st1⟩ := loop2 a1 (.val (.int (Int32.ofNat i))) f n hn hx hZ hw hby hml hown cl_a1 Ar_a1 S_a1 hat (n - i) i s₁ (by omega) X0 e0
  obtain ⟨fs, hr, hrun, hended, hW, hsame⟩ := X1.leave (v := some (.int (Int32.ofNat (own_scan f (n - i) i)))) (fun h => by rw [Bd.returns] at h; cases h)
  refine ⟨_, _, pre0 _ ?_, hrun, hended, _, _, rfl, ?_, ⟨_, rfl⟩, hW, hsame.mono (by decide) (by decide)⟩
  · show Steps p.tables e below (s₁.setTop (mkF m 0 #[.val (.ref a1), .val (.int (Int32.ofNat i)), .unset] [])) _
    refine XS.iloadN X0.here hx rfl (hb hby d2_0) rfl ?_
    show Steps p.tables e below (s₁.setTop (mkF m 1 #[.val (.ref a1), .val (.int (Int32.ofNat i)), .unset] [(.int (Int32.ofNat i))])) _
    refine XS.istoreN X0.here hx rfl (hb hby d2_1) rfl (l' := #[.val (.ref a1), .val (.int (Int32.ofNat i)), .val (.int (Int32.ofNat i))]) rfl ?_
    show Steps p.tables e below (s₁.setTop (mkF m 2 #[.val (.ref a1), .val (.int (Int32.ofNat i)), .val (.int (Int32.ofNat i))] [])) _
    refine st1 _ ?_
    show Steps p.tables e below (T1.setTop (mkF m 22 #[.val (.ref a1), .val (.int (Int32.ofNat i)), .val (.int (Int32.ofNat (own_scan f (n - i) i)))] [])) _
    refine XS.iloadN X1.here hx rfl (hb hby d2_22) rfl ?_
    show Steps p.tables e below (T1.setTop (mkF m 23 #[.val (.ref a1), .val (.int (Int32.ofNat i)), .val (.int (Int32.ofNat (own_scan f (n - i) i)))] [(.int (Int32.ofNat (own_scan f (n - i) i)))])) _
    exact retI X1 hx Bd.returns (hb hby d2_23) hr
  · show Q2 f n i h0 n0 _ T1.heap _
    rw [e1]
    exact ⟨rfl, N0, rfl⟩
theorem os0_48_mk0 {s0 : Slot} {s1 : Slot} {s2 : Slot} {s3 : Slot} {z4 : Value} {s5 : Slot} {s6 : Slot} {s7 : Slot} {s8 : Slot} {s9 : Slot} {s10 : Slot} {s11 : Slot} {v : Addr} (h : One s9) : storeLocals #[s0, s1, s2, s3, .val z4, s5, s6, s7, s8, s9, s10, s11] 9 (.ref v) = some #[s0, s1, s2, s3, .val z4, s5, s6, s7, s8, .val (.ref v), s10, s11] := by
  rcases h with rfl | ⟨w, rfl, hw⟩
  · rfl
  · cases w <;> first | rfl | (simp [Value.category] at hw)
set_option maxRecDepth 65536 in
set_option maxHeartbeats 40000000 in
theorem mk0 {p : Program} {l : Launch} {e : Env} {R : Room} {s : State} {m : MethodId} {args : Array Value} {below : List Frame} {meth : Method} {c : Code} {T0 : State} {locs : List Loc} {cells slots : Nat} {Z : State} {a0 : Array Value} {h0 : Heap} (s0 : Slot) (s1 : Slot) (s2 : Slot) (s3 : Slot) (i4 : Int32) (s5 : Slot) (s6 : Slot) (s7 : Slot) (s8 : Slot) (s9 : Slot) (s10 : Slot) (s11 : Slot)
    (X0 : Stand p l e R s m args below meth c T0 locs cells slots) (hx : p.tables.exec = Jvm.exec) (hZ : Z.Warmed39 s.vm) (hw : ∀ d ∈ tables_1, d.before a0 Z = true) (hby : c.code = code) (hml : c.maxLocals = 12) (hown : s.vm.findClass "com/example/lading/lading/io/AlgorithmLineEndPinLaw" = some m.cls) (e0 : T0.heap = h0) {n0 : Nat} (Z0 : n0 ≤ h0.size) (N0 : Fr n0 locs) (hR1 : cells + 1 ≤ R.cells) (hR2 : slots + 4 ≤ R.slots) (hs9 : One s9) (hc42 : i4 = (0 : Int32)) :
    ∃ (T' : State) (h' : Heap) (L' : List Loc) (b : Addr) (k : ClassId), Stand p l e R s m args below meth c T' L' (cells + 1) (slots + 4) ∧ T'.heap = h' ∧ Fr n0 L' ∧ n0 ≤ h'.size ∧ Arv Z h' b k .byte (0 : Int32) [] (.int (0 : Int32)) ∧
      ∀ target, Steps p.tables e below (T'.setTop (mkF m 150 #[s0, s1, s2, s3, .val (.int i4), s5, s6, s7, s8, .val (.ref b), s10, s11] [])) target → Steps p.tables e below (T0.setTop (mkF m 40 #[s0, s1, s2, s3, .val (.int i4), s5, s6, s7, s8, s9, s10, s11] [])) target := by
  obtain ⟨T5, h5, k5, X5, e5, E5, A5, st5⟩ := newP X0 hx hZ (hw _ (List.mem_of_getElem? (i := 4) rfl)) e0 (g := (mkF m 46 #[s0, s1, s2, s3, .val (.int i4), s5, s6, s7, s8, s9, s10, s11] [(.int (0 : Int32))])) rfl (hb hby at_46) rfl (by decide) (cap := 4) (by decide) (by decide) hR1 hR2
  obtain ⟨b5, g5⟩ : ∃ z, z = h0.size := ⟨_, rfl⟩
  rw [← g5] at A5 st5
  have V_b5 : Arv Z h5 b5 k5 .byte (0 : Int32) [] (.int (0 : Int32)) := Arv.new A5 (by decide)
  have g_b5 : n0 ≤ b5 := Nat.le_trans Z0 (Nat.le_of_eq g5.symm)
  have sz_b5 : h0.size ≤ b5 := (Nat.le_trans (Keep.refl h0 []).1 (Nat.le_of_eq g5.symm))
  have K5 : Keep h0 h5 [] := (Keep.refl h0 []).ext E5
  refine ⟨T5, _, _, b5, k5, X5, e5, N0, Nat.le_trans Z0 K5.1, V_b5, fun target kt => ?_⟩
  show Steps p.tables e below (T0.setTop (mkF m 40 #[s0, s1, s2, s3, .val (.int i4), s5, s6, s7, s8, s9, s10, s11] [])) _
  refine XS.iload X0.here hx rfl (hb hby at_40) rfl ?_
  show Steps p.tables e below (T0.setTop (mkF m 42 #[s0, s1, s2, s3, .val (.int i4), s5, s6, s7, s8, s9, s10, s11] [(.int i4)])) _
  refine XS.ifNo X0.here hx rfl (hb hby at_42) rfl ((if0 _ _).trans (teq hc42).2) ?_
  show Steps p.tables e below (T0.setTop (mkF m 45 #[s0, s1, s2, s3, .val (.int i4), s5, s6, s7, s8, s9, s10, s11] [])) _
  refine XS.iconst X0.here hx rfl (hb hby at_45) ?_
  show Steps p.tables e below (T0.setTop (mkF m 46 #[s0, s1, s2, s3, .val (.int i4), s5, s6, s7, s8, s9, s10, s11] [(.int (0 : Int32))])) _
  refine st5 _ ?_
  show Steps p.tables e below (T5.setTop (mkF m 48 #[s0, s1, s2, s3, .val (.int i4), s5, s6, s7, s8, s9, s10, s11] [(.ref b5)])) _
  refine XS.astore X5.here hx rfl (hb hby at_48) rfl rfl (l' := #[s0, s1, s2, s3, .val (.int i4), s5, s6, s7, s8, .val (.ref b5), s10, s11]) (os0_48_mk0 hs9) ?_
  show Steps p.tables e below (T5.setTop (mkF m 50 #[s0, s1, s2, s3, .val (.int i4), s5, s6, s7, s8, .val (.ref b5), s10, s11] [])) _
  refine XS.goto X5.here hx rfl (pc0 := 50) (pc' := 150) rfl (hb hby at_50) (by decide) (by decide) ?_
  exact kt
theorem os0_67_mk1 {s0 : Slot} {s1 : Slot} {s2 : Slot} {s3 : Slot} {z4 : Value} {z5 : Value} {s6 : Slot} {s7 : Slot} {s8 : Slot} {s9 : Slot} {s10 : Slot} {s11 : Slot} {v : Addr} (h : One s9) : storeLocals #[s0, s1, s2, s3, .val z4, .val z5, s6, s7, s8, s9, s10, s11] 9 (.ref v) = some #[s0, s1, s2, s3, .val z4, .val z5, s6, s7, s8, .val (.ref v), s10, s11] := by
  rcases h with rfl | ⟨w, rfl, hw⟩
  · rfl
  · cases w <;> first | rfl | (simp [Value.category] at hw)
set_option maxRecDepth 65536 in
set_option maxHeartbeats 40000000 in
theorem mk1 {p : Program} {l : Launch} {e : Env} {R : Room} {s : State} {m : MethodId} {args : Array Value} {below : List Frame} {meth : Method} {c : Code} {T0 : State} {locs : List Loc} {cells slots : Nat} {Z : State} {a0 : Array Value} {h0 : Heap} (s0 : Slot) (s1 : Slot) (s2 : Slot) (s3 : Slot) (i4 : Int32) (i5 : Int32) (s6 : Slot) (s7 : Slot) (s8 : Slot) (s9 : Slot) (s10 : Slot) (s11 : Slot)
    (X0 : Stand p l e R s m args below meth c T0 locs cells slots) (hx : p.tables.exec = Jvm.exec) (hZ : Z.Warmed39 s.vm) (hw : ∀ d ∈ tables_1, d.before a0 Z = true) (hby : c.code = code) (hml : c.maxLocals = 12) (hown : s.vm.findClass "com/example/lading/lading/io/AlgorithmLineEndPinLaw" = some m.cls) (e0 : T0.heap = h0) {n0 : Nat} (Z0 : n0 ≤ h0.size) (N0 : Fr n0 locs) (hR1 : cells + 1 ≤ R.cells) (hR2 : slots + 4 ≤ R.slots) (hs9 : One s9) (hc42 : ¬ (i4 = (0 : Int32))) (hc56 : i4 = (1 : Int32)) :
    ∃ (T' : State) (h' : Heap) (L' : List Loc) (b : Addr) (k : ClassId), Stand p l e R s m args below meth c T' L' (cells + 1) (slots + 4) ∧ T'.heap = h' ∧ Fr n0 L' ∧ n0 ≤ h'.size ∧ Arv Z h' b k .byte (1 : Int32) [(.int (nar .byte i5))] (.int (0 : Int32)) ∧
      ∀ target, Steps p.tables e below (T'.setTop (mkF m 150 #[s0, s1, s2, s3, .val (.int i4), .val (.int i5), s6, s7, s8, .val (.ref b), s10, s11] [])) target → Steps p.tables e below (T0.setTop (mkF m 40 #[s0, s1, s2, s3, .val (.int i4), .val (.int i5), s6, s7, s8, s9, s10, s11] [])) target := by
  obtain ⟨T5, h5, k5, X5, e5, E5, A5, st5⟩ := newP X0 hx hZ (hw _ (List.mem_of_getElem? (i := 4) rfl)) e0 (g := (mkF m 60 #[s0, s1, s2, s3, .val (.int i4), .val (.int i5), s6, s7, s8, s9, s10, s11] [(.int (1 : Int32))])) rfl (hb hby at_60) rfl (by decide) (cap := 4) (by decide) (by decide) hR1 hR2
  obtain ⟨b5, g5⟩ : ∃ z, z = h0.size := ⟨_, rfl⟩
  rw [← g5] at A5 st5
  have V_b5 : Arv Z h5 b5 k5 .byte (1 : Int32) [(.int (0 : Int32))] (.int (0 : Int32)) := (Arv.new A5 (by decide)).pad (pad_rep [] (.int (0 : Int32)) 1)
  have g_b5 : n0 ≤ b5 := Nat.le_trans Z0 (Nat.le_of_eq g5.symm)
  have sz_b5 : h0.size ≤ b5 := (Nat.le_trans (Keep.refl h0 []).1 (Nat.le_of_eq g5.symm))
  have K5 : Keep h0 h5 [] := (Keep.refl h0 []).ext E5
  obtain ⟨cl_b5_66, Ar_b5, q_b5, S_b5, N_b5, H_b5, G_b5⟩ := V_b5
  have hin66 : ¬ ((0 : Int32) < 0 ∨ cl_b5_66.slots.size ≤ ((0 : Int32)).toNatClampNeg) := inb_of S_b5 ⟨by decide, by decide⟩
  obtain ⟨T6, h6, X6, e6, W6, st6⟩ := stB X5 hx hZ e5 Ar_b5 (j := (0 : Int32)) hin66 (g := (mkF m 66 #[s0, s1, s2, s3, .val (.int i4), .val (.int i5), s6, s7, s8, s9, s10, s11] [(.int i5), (.int (0 : Int32)), (.ref b5), (.ref b5)])) rfl rfl (hb hby at_66)
  have V_b5_6 := Arv.set Ar_b5 q_b5 S_b5 N_b5 H_b5 G_b5 (fits_nar_byte _) W6 0 rfl (Nat.le_of_ble_eq_true rfl)
  have K6 : Keep h0 h6 [] := K5.wr W6 (Or.inr sz_b5)
  have N6 := Fr.snoc X6 N0 g_b5
  refine ⟨T6, _, _, b5, k5, X6, e6, N6, Nat.le_trans Z0 K6.1, V_b5_6, fun target kt => ?_⟩
  show Steps p.tables e below (T0.setTop (mkF m 40 #[s0, s1, s2, s3, .val (.int i4), .val (.int i5), s6, s7, s8, s9, s10, s11] [])) _
  refine XS.iload X0.here hx rfl (hb hby at_40) rfl ?_
  show Steps p.tables e below (T0.setTop (mkF m 42 #[s0, s1, s2, s3, .val (.int i4), .val (.int i5), s6, s7, s8, s9, s10, s11] [(.int i4)])) _
  refine XS.ifYes X0.here hx rfl (pc0 := 42) (pc' := 53) rfl (hb hby at_42) rfl ((if0 _ _).trans (feq hc42).2) (by decide) (by decide) ?_
  show Steps p.tables e below (T0.setTop (mkF m 53 #[s0, s1, s2, s3, .val (.int i4), .val (.int i5), s6, s7, s8, s9, s10, s11] [])) _
  refine XS.iload X0.here hx rfl (hb hby at_53) rfl ?_
  show Steps p.tables e below (T0.setTop (mkF m 55 #[s0, s1, s2, s3, .val (.int i4), .val (.int i5), s6, s7, s8, s9, s10, s11] [(.int i4)])) _
  refine XS.iconst X0.here hx rfl (hb hby at_55) ?_
  show Steps p.tables e below (T0.setTop (mkF m 56 #[s0, s1, s2, s3, .val (.int i4), .val (.int i5), s6, s7, s8, s9, s10, s11] [(.int (1 : Int32)), (.int i4)])) _
  refine XS.icmpNo X0.here hx rfl (hb hby at_56) rfl (teq hc56).2 ?_
  show Steps p.tables e below (T0.setTop (mkF m 59 #[s0, s1, s2, s3, .val (.int i4), .val (.int i5), s6, s7, s8, s9, s10, s11] [])) _
  refine XS.iconst X0.here hx rfl (hb hby at_59) ?_
  show Steps p.tables e below (T0.setTop (mkF m 60 #[s0, s1, s2, s3, .val (.int i4), .val (.int i5), s6, s7, s8, s9, s10, s11] [(.int (1 : Int32))])) _
  refine st5 _ ?_
  show Steps p.tables e below (T5.setTop (mkF m 62 #[s0, s1, s2, s3, .val (.int i4), .val (.int i5), s6, s7, s8, s9, s10, s11] [(.ref b5)])) _
  refine XS.dup X5.here hx rfl (hb hby at_62) rfl rfl ?_
  show Steps p.tables e below (T5.setTop (mkF m 63 #[s0, s1, s2, s3, .val (.int i4), .val (.int i5), s6, s7, s8, s9, s10, s11] [(.ref b5), (.ref b5)])) _
  refine XS.iconst X5.here hx rfl (hb hby at_63) ?_
  show Steps p.tables e below (T5.setTop (mkF m 64 #[s0, s1, s2, s3, .val (.int i4), .val (.int i5), s6, s7, s8, s9, s10, s11] [(.int (0 : Int32)), (.ref b5), (.ref b5)])) _
  refine XS.iload X5.here hx rfl (hb hby at_64) rfl ?_
  show Steps p.tables e below (T5.setTop (mkF m 66 #[s0, s1, s2, s3, .val (.int i4), .val (.int i5), s6, s7, s8, s9, s10, s11] [(.int i5), (.int (0 : Int32)), (.ref b5), (.ref b5)])) _
  refine st6 _ ?_
  show Steps p.tables e below (T6.setTop (mkF m 67 #[s0, s1, s2, s3, .val (.int i4), .val (.int i5), s6, s7, s8, s9, s10, s11] [(.ref b5)])) _
  refine XS.astore X6.here hx rfl (hb hby at_67) rfl rfl (l' := #[s0, s1, s2, s3, .val (.int i4), .val (.int i5), s6, s7, s8, .val (.ref b5), s10, s11]) (os0_67_mk1 hs9) ?_
  show Steps p.tables e below (T6.setTop (mkF m 69 #[s0, s1, s2, s3, .val (.int i4), .val (.int i5), s6, s7, s8, .val (.ref b5), s10, s11] [])) _
  refine XS.goto X6.here hx rfl (pc0 := 69) (pc' := 150) rfl (hb hby at_69) (by decide) (by decide) ?_
  exact kt
theorem os0_91_mk2 {s0 : Slot} {s1 : Slot} {s2 : Slot} {s3 : Slot} {z4 : Value} {z5 : Value} {z6 : Value} {s7 : Slot} {s8 : Slot} {s9 : Slot} {s10 : Slot} {s11 : Slot} {v : Addr} (h : One s9) : storeLocals #[s0, s1, s2, s3, .val z4, .val z5, .val z6, s7, s8, s9, s10, s11] 9 (.ref v) = some #[s0, s1, s2, s3, .val z4, .val z5, .val z6, s7, s8, .val (.ref v), s10, s11] := by
  rcases h with rfl | ⟨w, rfl, hw⟩
  · rfl
  · cases w <;> first | rfl | (simp [Value.category] at hw)
set_option maxRecDepth 65536 in
set_option maxHeartbeats 40000000 in
theorem mk2 {p : Program} {l : Launch} {e : Env} {R : Room} {s : State} {m : MethodId} {args : Array Value} {below : List Frame} {meth : Method} {c : Code} {T0 : State} {locs : List Loc} {cells slots : Nat} {Z : State} {a0 : Array Value} {h0 : Heap} (s0 : Slot) (s1 : Slot) (s2 : Slot) (s3 : Slot) (i4 : Int32) (i5 : Int32) (i6 : Int32) (s7 : Slot) (s8 : Slot) (s9 : Slot) (s10 : Slot) (s11 : Slot)
    (X0 : Stand p l e R s m args below meth c T0 locs cells slots) (hx : p.tables.exec = Jvm.exec) (hZ : Z.Warmed39 s.vm) (hw : ∀ d ∈ tables_1, d.before a0 Z = true) (hby : c.code = code) (hml : c.maxLocals = 12) (hown : s.vm.findClass "com/example/lading/lading/io/AlgorithmLineEndPinLaw" = some m.cls) (e0 : T0.heap = h0) {n0 : Nat} (Z0 : n0 ≤ h0.size) (N0 : Fr n0 locs) (hR1 : cells + 1 ≤ R.cells) (hR2 : slots + 4 ≤ R.slots) (hs9 : One s9) (hc42 : ¬ (i4 = (0 : Int32))) (hc56 : ¬ (i4 = (1 : Int32))) (hc75 : i4 = (2 : Int32)) :
    ∃ (T' : State) (h' : Heap) (L' : List Loc) (b : Addr) (k : ClassId), Stand p l e R s m args below meth c T' L' (cells + 1) (slots + 4) ∧ T'.heap = h' ∧ Fr n0 L' ∧ n0 ≤ h'.size ∧ Arv Z h' b k .byte (2 : Int32) [(.int (nar .byte i5)), (.int (nar .byte i6))] (.int (0 : Int32)) ∧
      ∀ target, Steps p.tables e below (T'.setTop (mkF m 150 #[s0, s1, s2, s3, .val (.int i4), .val (.int i5), .val (.int i6), s7, s8, .val (.ref b), s10, s11] [])) target → Steps p.tables e below (T0.setTop (mkF m 40 #[s0, s1, s2, s3, .val (.int i4), .val (.int i5), .val (.int i6), s7, s8, s9, s10, s11] [])) target := by
  obtain ⟨T5, h5, k5, X5, e5, E5, A5, st5⟩ := newP X0 hx hZ (hw _ (List.mem_of_getElem? (i := 4) rfl)) e0 (g := (mkF m 79 #[s0, s1, s2, s3, .val (.int i4), .val (.int i5), .val (.int i6), s7, s8, s9, s10, s11] [(.int (2 : Int32))])) rfl (hb hby at_79) rfl (by decide) (cap := 4) (by decide) (by decide) hR1 hR2
  obtain ⟨b5, g5⟩ : ∃ z, z = h0.size := ⟨_, rfl⟩
  rw [← g5] at A5 st5
  have V_b5 : Arv Z h5 b5 k5 .byte (2 : Int32) [(.int (0 : Int32)), (.int (0 : Int32))] (.int (0 : Int32)) := (Arv.new A5 (by decide)).pad (pad_rep [] (.int (0 : Int32)) 2)
  have g_b5 : n0 ≤ b5 := Nat.le_trans Z0 (Nat.le_of_eq g5.symm)
  have sz_b5 : h0.size ≤ b5 := (Nat.le_trans (Keep.refl h0 []).1 (Nat.le_of_eq g5.symm))
  have K5 : Keep h0 h5 [] := (Keep.refl h0 []).ext E5
  obtain ⟨cl_b5_85, Ar_b5, q_b5, S_b5, N_b5, H_b5, G_b5⟩ := V_b5
  have hin85 : ¬ ((0 : Int32) < 0 ∨ cl_b5_85.slots.size ≤ ((0 : Int32)).toNatClampNeg) := inb_of S_b5 ⟨by decide, by decide⟩
  obtain ⟨T6, h6, X6, e6, W6, st6⟩ := stB X5 hx hZ e5 Ar_b5 (j := (0 : Int32)) hin85 (g := (mkF m 85 #[s0, s1, s2, s3, .val (.int i4), .val (.int i5), .val (.int i6), s7, s8, s9, s10, s11] [(.int i5), (.int (0 : Int32)), (.ref b5), (.ref b5)])) rfl rfl (hb hby at_85)
  have V_b5_6 := Arv.set Ar_b5 q_b5 S_b5 N_b5 H_b5 G_b5 (fits_nar_byte _) W6 0 rfl (Nat.le_of_ble_eq_true rfl)
  have K6 : Keep h0 h6 [] := K5.wr W6 (Or.inr sz_b5)
  have N6 := Fr.snoc X6 N0 g_b5
  obtain ⟨cl_b5_90, Ar_b5, q_b5, S_b5, N_b5, H_b5, G_b5⟩ := V_b5_6
  have hin90 : ¬ ((1 : Int32) < 0 ∨ cl_b5_90.slots.size ≤ ((1 : Int32)).toNatClampNeg) := inb_of S_b5 ⟨by decide, by decide⟩
  obtain ⟨T7, h7, X7, e7, W7, st7⟩ := stB X6 hx hZ e6 Ar_b5 (j := (1 : Int32)) hin90 (g := (mkF m 90 #[s0, s1, s2, s3, .val (.int i4), .val (.int i5), .val (.int i6), s7, s8, s9, s10, s11] [(.int i6), (.int (1 : Int32)), (.ref b5), (.ref b5)])) rfl rfl (hb hby at_90)
  have V_b5_7 := Arv.set Ar_b5 q_b5 S_b5 N_b5 H_b5 G_b5 (fits_nar_byte _) W7 1 rfl (Nat.le_of_ble_eq_true rfl)
  have K7 : Keep h0 h7 [] := K6.wr W7 (Or.inr sz_b5)
  have N7 := Fr.snoc X7 N6 g_b5
  refine ⟨T7, _, _, b5, k5, X7, e7, N7, Nat.le_trans Z0 K7.1, V_b5_7, fun target kt => ?_⟩
  show Steps p.tables e below (T0.setTop (mkF m 40 #[s0, s1, s2, s3, .val (.int i4), .val (.int i5), .val (.int i6), s7, s8, s9, s10, s11] [])) _
  refine XS.iload X0.here hx rfl (hb hby at_40) rfl ?_
  show Steps p.tables e below (T0.setTop (mkF m 42 #[s0, s1, s2, s3, .val (.int i4), .val (.int i5), .val (.int i6), s7, s8, s9, s10, s11] [(.int i4)])) _
  refine XS.ifYes X0.here hx rfl (pc0 := 42) (pc' := 53) rfl (hb hby at_42) rfl ((if0 _ _).trans (feq hc42).2) (by decide) (by decide) ?_
  show Steps p.tables e below (T0.setTop (mkF m 53 #[s0, s1, s2, s3, .val (.int i4), .val (.int i5), .val (.int i6), s7, s8, s9, s10, s11] [])) _
  refine XS.iload X0.here hx rfl (hb hby at_53) rfl ?_
  show Steps p.tables e below (T0.setTop (mkF m 55 #[s0, s1, s2, s3, .val (.int i4), .val (.int i5), .val (.int i6), s7, s8, s9, s10, s11] [(.int i4)])) _
  refine XS.iconst X0.here hx rfl (hb hby at_55) ?_
  show Steps p.tables e below (T0.setTop (mkF m 56 #[s0, s1, s2, s3, .val (.int i4), .val (.int i5), .val (.int i6), s7, s8, s9, s10, s11] [(.int (1 : Int32)), (.int i4)])) _
  refine XS.icmpYes X0.here hx rfl (pc0 := 56) (pc' := 72) rfl (hb hby at_56) rfl (feq hc56).2 (by decide) (by decide) ?_
  show Steps p.tables e below (T0.setTop (mkF m 72 #[s0, s1, s2, s3, .val (.int i4), .val (.int i5), .val (.int i6), s7, s8, s9, s10, s11] [])) _
  refine XS.iload X0.here hx rfl (hb hby at_72) rfl ?_
  show Steps p.tables e below (T0.setTop (mkF m 74 #[s0, s1, s2, s3, .val (.int i4), .val (.int i5), .val (.int i6), s7, s8, s9, s10, s11] [(.int i4)])) _
  refine XS.iconst X0.here hx rfl (hb hby at_74) ?_
  show Steps p.tables e below (T0.setTop (mkF m 75 #[s0, s1, s2, s3, .val (.int i4), .val (.int i5), .val (.int i6), s7, s8, s9, s10, s11] [(.int (2 : Int32)), (.int i4)])) _
  refine XS.icmpNo X0.here hx rfl (hb hby at_75) rfl (teq hc75).2 ?_
  show Steps p.tables e below (T0.setTop (mkF m 78 #[s0, s1, s2, s3, .val (.int i4), .val (.int i5), .val (.int i6), s7, s8, s9, s10, s11] [])) _
  refine XS.iconst X0.here hx rfl (hb hby at_78) ?_
  show Steps p.tables e below (T0.setTop (mkF m 79 #[s0, s1, s2, s3, .val (.int i4), .val (.int i5), .val (.int i6), s7, s8, s9, s10, s11] [(.int (2 : Int32))])) _
  refine st5 _ ?_
  show Steps p.tables e below (T5.setTop (mkF m 81 #[s0, s1, s2, s3, .val (.int i4), .val (.int i5), .val (.int i6), s7, s8, s9, s10, s11] [(.ref b5)])) _
  refine XS.dup X5.here hx rfl (hb hby at_81) rfl rfl ?_
  show Steps p.tables e below (T5.setTop (mkF m 82 #[s0, s1, s2, s3, .val (.int i4), .val (.int i5), .val (.int i6), s7, s8, s9, s10, s11] [(.ref b5), (.ref b5)])) _
  refine XS.iconst X5.here hx rfl (hb hby at_82) ?_
  show Steps p.tables e below (T5.setTop (mkF m 83 #[s0, s1, s2, s3, .val (.int i4), .val (.int i5), .val (.int i6), s7, s8, s9, s10, s11] [(.int (0 : Int32)), (.ref b5), (.ref b5)])) _
  refine XS.iload X5.here hx rfl (hb hby at_83) rfl ?_
  show Steps p.tables e below (T5.setTop (mkF m 85 #[s0, s1, s2, s3, .val (.int i4), .val (.int i5), .val (.int i6), s7, s8, s9, s10, s11] [(.int i5), (.int (0 : Int32)), (.ref b5), (.ref b5)])) _
  refine st6 _ ?_
  show Steps p.tables e below (T6.setTop (mkF m 86 #[s0, s1, s2, s3, .val (.int i4), .val (.int i5), .val (.int i6), s7, s8, s9, s10, s11] [(.ref b5)])) _
  refine XS.dup X6.here hx rfl (hb hby at_86) rfl rfl ?_
  show Steps p.tables e below (T6.setTop (mkF m 87 #[s0, s1, s2, s3, .val (.int i4), .val (.int i5), .val (.int i6), s7, s8, s9, s10, s11] [(.ref b5), (.ref b5)])) _
  refine XS.iconst X6.here hx rfl (hb hby at_87) ?_
  show Steps p.tables e below (T6.setTop (mkF m 88 #[s0, s1, s2, s3, .val (.int i4), .val (.int i5), .val (.int i6), s7, s8, s9, s10, s11] [(.int (1 : Int32)), (.ref b5), (.ref b5)])) _
  refine XS.iload X6.here hx rfl (hb hby at_88) rfl ?_
  show Steps p.tables e below (T6.setTop (mkF m 90 #[s0, s1, s2, s3, .val (.int i4), .val (.int i5), .val (.int i6), s7, s8, s9, s10, s11] [(.int i6), (.int (1 : Int32)), (.ref b5), (.ref b5)])) _
  refine st7 _ ?_
  show Steps p.tables e below (T7.setTop (mkF m 91 #[s0, s1, s2, s3, .val (.int i4), .val (.int i5), .val (.int i6), s7, s8, s9, s10, s11] [(.ref b5)])) _
  refine XS.astore X7.here hx rfl (hb hby at_91) rfl rfl (l' := #[s0, s1, s2, s3, .val (.int i4), .val (.int i5), .val (.int i6), s7, s8, .val (.ref b5), s10, s11]) (os0_91_mk2 hs9) ?_
  show Steps p.tables e below (T7.setTop (mkF m 93 #[s0, s1, s2, s3, .val (.int i4), .val (.int i5), .val (.int i6), s7, s8, .val (.ref b5), s10, s11] [])) _
  refine XS.goto X7.here hx rfl (pc0 := 93) (pc' := 150) rfl (hb hby at_93) (by decide) (by decide) ?_
  exact kt
theorem os0_120_mk3 {s0 : Slot} {s1 : Slot} {s2 : Slot} {s3 : Slot} {z4 : Value} {z5 : Value} {z6 : Value} {z7 : Value} {s8 : Slot} {s9 : Slot} {s10 : Slot} {s11 : Slot} {v : Addr} (h : One s9) : storeLocals #[s0, s1, s2, s3, .val z4, .val z5, .val z6, .val z7, s8, s9, s10, s11] 9 (.ref v) = some #[s0, s1, s2, s3, .val z4, .val z5, .val z6, .val z7, s8, .val (.ref v), s10, s11] := by
  rcases h with rfl | ⟨w, rfl, hw⟩
  · rfl
  · cases w <;> first | rfl | (simp [Value.category] at hw)
set_option maxRecDepth 65536 in
set_option maxHeartbeats 40000000 in
theorem mk3 {p : Program} {l : Launch} {e : Env} {R : Room} {s : State} {m : MethodId} {args : Array Value} {below : List Frame} {meth : Method} {c : Code} {T0 : State} {locs : List Loc} {cells slots : Nat} {Z : State} {a0 : Array Value} {h0 : Heap} (s0 : Slot) (s1 : Slot) (s2 : Slot) (s3 : Slot) (i4 : Int32) (i5 : Int32) (i6 : Int32) (i7 : Int32) (s8 : Slot) (s9 : Slot) (s10 : Slot) (s11 : Slot)
    (X0 : Stand p l e R s m args below meth c T0 locs cells slots) (hx : p.tables.exec = Jvm.exec) (hZ : Z.Warmed39 s.vm) (hw : ∀ d ∈ tables_1, d.before a0 Z = true) (hby : c.code = code) (hml : c.maxLocals = 12) (hown : s.vm.findClass "com/example/lading/lading/io/AlgorithmLineEndPinLaw" = some m.cls) (e0 : T0.heap = h0) {n0 : Nat} (Z0 : n0 ≤ h0.size) (N0 : Fr n0 locs) (hR1 : cells + 1 ≤ R.cells) (hR2 : slots + 4 ≤ R.slots) (hs9 : One s9) (hc42 : ¬ (i4 = (0 : Int32))) (hc56 : ¬ (i4 = (1 : Int32))) (hc75 : ¬ (i4 = (2 : Int32))) (hc99 : i4 = (3 : Int32)) :
    ∃ (T' : State) (h' : Heap) (L' : List Loc) (b : Addr) (k : ClassId), Stand p l e R s m args below meth c T' L' (cells + 1) (slots + 4) ∧ T'.heap = h' ∧ Fr n0 L' ∧ n0 ≤ h'.size ∧ Arv Z h' b k .byte (3 : Int32) [(.int (nar .byte i5)), (.int (nar .byte i6)), (.int (nar .byte i7))] (.int (0 : Int32)) ∧
      ∀ target, Steps p.tables e below (T'.setTop (mkF m 150 #[s0, s1, s2, s3, .val (.int i4), .val (.int i5), .val (.int i6), .val (.int i7), s8, .val (.ref b), s10, s11] [])) target → Steps p.tables e below (T0.setTop (mkF m 40 #[s0, s1, s2, s3, .val (.int i4), .val (.int i5), .val (.int i6), .val (.int i7), s8, s9, s10, s11] [])) target := by
  obtain ⟨T5, h5, k5, X5, e5, E5, A5, st5⟩ := newP X0 hx hZ (hw _ (List.mem_of_getElem? (i := 4) rfl)) e0 (g := (mkF m 103 #[s0, s1, s2, s3, .val (.int i4), .val (.int i5), .val (.int i6), .val (.int i7), s8, s9, s10, s11] [(.int (3 : Int32))])) rfl (hb hby at_103) rfl (by decide) (cap := 4) (by decide) (by decide) hR1 hR2
  obtain ⟨b5, g5⟩ : ∃ z, z = h0.size := ⟨_, rfl⟩
  rw [← g5] at A5 st5
  have V_b5 : Arv Z h5 b5 k5 .byte (3 : Int32) [(.int (0 : Int32)), (.int (0 : Int32)), (.int (0 : Int32))] (.int (0 : Int32)) := (Arv.new A5 (by decide)).pad (pad_rep [] (.int (0 : Int32)) 3)
  have g_b5 : n0 ≤ b5 := Nat.le_trans Z0 (Nat.le_of_eq g5.symm)
  have sz_b5 : h0.size ≤ b5 := (Nat.le_trans (Keep.refl h0 []).1 (Nat.le_of_eq g5.symm))
  have K5 : Keep h0 h5 [] := (Keep.refl h0 []).ext E5
  obtain ⟨cl_b5_109, Ar_b5, q_b5, S_b5, N_b5, H_b5, G_b5⟩ := V_b5
  have hin109 : ¬ ((0 : Int32) < 0 ∨ cl_b5_109.slots.size ≤ ((0 : Int32)).toNatClampNeg) := inb_of S_b5 ⟨by decide, by decide⟩
  obtain ⟨T6, h6, X6, e6, W6, st6⟩ := stB X5 hx hZ e5 Ar_b5 (j := (0 : Int32)) hin109 (g := (mkF m 109 #[s0, s1, s2, s3, .val (.int i4), .val (.int i5), .val (.int i6), .val (.int i7), s8, s9, s10, s11] [(.int i5), (.int (0 : Int32)), (.ref b5), (.ref b5)])) rfl rfl (hb hby at_109)
  have V_b5_6 := Arv.set Ar_b5 q_b5 S_b5 N_b5 H_b5 G_b5 (fits_nar_byte _) W6 0 rfl (Nat.le_of_ble_eq_true rfl)
  have K6 : Keep h0 h6 [] := K5.wr W6 (Or.inr sz_b5)
  have N6 := Fr.snoc X6 N0 g_b5
  obtain ⟨cl_b5_114, Ar_b5, q_b5, S_b5, N_b5, H_b5, G_b5⟩ := V_b5_6
  have hin114 : ¬ ((1 : Int32) < 0 ∨ cl_b5_114.slots.size ≤ ((1 : Int32)).toNatClampNeg) := inb_of S_b5 ⟨by decide, by decide⟩
  obtain ⟨T7, h7, X7, e7, W7, st7⟩ := stB X6 hx hZ e6 Ar_b5 (j := (1 : Int32)) hin114 (g := (mkF m 114 #[s0, s1, s2, s3, .val (.int i4), .val (.int i5), .val (.int i6), .val (.int i7), s8, s9, s10, s11] [(.int i6), (.int (1 : Int32)), (.ref b5), (.ref b5)])) rfl rfl (hb hby at_114)
  have V_b5_7 := Arv.set Ar_b5 q_b5 S_b5 N_b5 H_b5 G_b5 (fits_nar_byte _) W7 1 rfl (Nat.le_of_ble_eq_true rfl)
  have K7 : Keep h0 h7 [] := K6.wr W7 (Or.inr sz_b5)
  have N7 := Fr.snoc X7 N6 g_b5
  obtain ⟨cl_b5_119, Ar_b5, q_b5, S_b5, N_b5, H_b5, G_b5⟩ := V_b5_7
  have hin119 : ¬ ((2 : Int32) < 0 ∨ cl_b5_119.slots.size ≤ ((2 : Int32)).toNatClampNeg) := inb_of S_b5 ⟨by decide, by decide⟩
  obtain ⟨T8, h8, X8, e8, W8, st8⟩ := stB X7 hx hZ e7 Ar_b5 (j := (2 : Int32)) hin119 (g := (mkF m 119 #[s0, s1, s2, s3, .val (.int i4), .val (.int i5), .val (.int i6), .val (.int i7), s8, s9, s10, s11] [(.int i7), (.int (2 : Int32)), (.ref b5), (.ref b5)])) rfl rfl (hb hby at_119)
  have V_b5_8 := Arv.set Ar_b5 q_b5 S_b5 N_b5 H_b5 G_b5 (fits_nar_byte _) W8 2 rfl (Nat.le_of_ble_eq_true rfl)
  have K8 : Keep h0 h8 [] := K7.wr W8 (Or.inr sz_b5)
  have N8 := Fr.snoc X8 N7 g_b5
  refine ⟨T8, _, _, b5, k5, X8, e8, N8, Nat.le_trans Z0 K8.1, V_b5_8, fun target kt => ?_⟩
  show Steps p.tables e below (T0.setTop (mkF m 40 #[s0, s1, s2, s3, .val (.int i4), .val (.int i5), .val (.int i6), .val (.int i7), s8, s9, s10, s11] [])) _
  refine XS.iload X0.here hx rfl (hb hby at_40) rfl ?_
  show Steps p.tables e below (T0.setTop (mkF m 42 #[s0, s1, s2, s3, .val (.int i4), .val (.int i5), .val (.int i6), .val (.int i7), s8, s9, s10, s11] [(.int i4)])) _
  refine XS.ifYes X0.here hx rfl (pc0 := 42) (pc' := 53) rfl (hb hby at_42) rfl ((if0 _ _).trans (feq hc42).2) (by decide) (by decide) ?_
  show Steps p.tables e below (T0.setTop (mkF m 53 #[s0, s1, s2, s3, .val (.int i4), .val (.int i5), .val (.int i6), .val (.int i7), s8, s9, s10, s11] [])) _
  refine XS.iload X0.here hx rfl (hb hby at_53) rfl ?_
  show Steps p.tables e below (T0.setTop (mkF m 55 #[s0, s1, s2, s3, .val (.int i4), .val (.int i5), .val (.int i6), .val (.int i7), s8, s9, s10, s11] [(.int i4)])) _
  refine XS.iconst X0.here hx rfl (hb hby at_55) ?_
  show Steps p.tables e below (T0.setTop (mkF m 56 #[s0, s1, s2, s3, .val (.int i4), .val (.int i5), .val (.int i6), .val (.int i7), s8, s9, s10, s11] [(.int (1 : Int32)), (.int i4)])) _
  refine XS.icmpYes X0.here hx rfl (pc0 := 56) (pc' := 72) rfl (hb hby at_56) rfl (feq hc56).2 (by decide) (by decide) ?_
  show Steps p.tables e below (T0.setTop (mkF m 72 #[s0, s1, s2, s3, .val (.int i4), .val (.int i5), .val (.int i6), .val (.int i7), s8, s9, s10, s11] [])) _
  refine XS.iload X0.here hx rfl (hb hby at_72) rfl ?_
  show Steps p.tables e below (T0.setTop (mkF m 74 #[s0, s1, s2, s3, .val (.int i4), .val (.int i5), .val (.int i6), .val (.int i7), s8, s9, s10, s11] [(.int i4)])) _
  refine XS.iconst X0.here hx rfl (hb hby at_74) ?_
  show Steps p.tables e below (T0.setTop (mkF m 75 #[s0, s1, s2, s3, .val (.int i4), .val (.int i5), .val (.int i6), .val (.int i7), s8, s9, s10, s11] [(.int (2 : Int32)), (.int i4)])) _
  refine XS.icmpYes X0.here hx rfl (pc0 := 75) (pc' := 96) rfl (hb hby at_75) rfl (feq hc75).2 (by decide) (by decide) ?_
  show Steps p.tables e below (T0.setTop (mkF m 96 #[s0, s1, s2, s3, .val (.int i4), .val (.int i5), .val (.int i6), .val (.int i7), s8, s9, s10, s11] [])) _
  refine XS.iload X0.here hx rfl (hb hby at_96) rfl ?_
  show Steps p.tables e below (T0.setTop (mkF m 98 #[s0, s1, s2, s3, .val (.int i4), .val (.int i5), .val (.int i6), .val (.int i7), s8, s9, s10, s11] [(.int i4)])) _
  refine XS.iconst X0.here hx rfl (hb hby at_98) ?_
  show Steps p.tables e below (T0.setTop (mkF m 99 #[s0, s1, s2, s3, .val (.int i4), .val (.int i5), .val (.int i6), .val (.int i7), s8, s9, s10, s11] [(.int (3 : Int32)), (.int i4)])) _
  refine XS.icmpNo X0.here hx rfl (hb hby at_99) rfl (teq hc99).2 ?_
  show Steps p.tables e below (T0.setTop (mkF m 102 #[s0, s1, s2, s3, .val (.int i4), .val (.int i5), .val (.int i6), .val (.int i7), s8, s9, s10, s11] [])) _
  refine XS.iconst X0.here hx rfl (hb hby at_102) ?_
  show Steps p.tables e below (T0.setTop (mkF m 103 #[s0, s1, s2, s3, .val (.int i4), .val (.int i5), .val (.int i6), .val (.int i7), s8, s9, s10, s11] [(.int (3 : Int32))])) _
  refine st5 _ ?_
  show Steps p.tables e below (T5.setTop (mkF m 105 #[s0, s1, s2, s3, .val (.int i4), .val (.int i5), .val (.int i6), .val (.int i7), s8, s9, s10, s11] [(.ref b5)])) _
  refine XS.dup X5.here hx rfl (hb hby at_105) rfl rfl ?_
  show Steps p.tables e below (T5.setTop (mkF m 106 #[s0, s1, s2, s3, .val (.int i4), .val (.int i5), .val (.int i6), .val (.int i7), s8, s9, s10, s11] [(.ref b5), (.ref b5)])) _
  refine XS.iconst X5.here hx rfl (hb hby at_106) ?_
  show Steps p.tables e below (T5.setTop (mkF m 107 #[s0, s1, s2, s3, .val (.int i4), .val (.int i5), .val (.int i6), .val (.int i7), s8, s9, s10, s11] [(.int (0 : Int32)), (.ref b5), (.ref b5)])) _
  refine XS.iload X5.here hx rfl (hb hby at_107) rfl ?_
  show Steps p.tables e below (T5.setTop (mkF m 109 #[s0, s1, s2, s3, .val (.int i4), .val (.int i5), .val (.int i6), .val (.int i7), s8, s9, s10, s11] [(.int i5), (.int (0 : Int32)), (.ref b5), (.ref b5)])) _
  refine st6 _ ?_
  show Steps p.tables e below (T6.setTop (mkF m 110 #[s0, s1, s2, s3, .val (.int i4), .val (.int i5), .val (.int i6), .val (.int i7), s8, s9, s10, s11] [(.ref b5)])) _
  refine XS.dup X6.here hx rfl (hb hby at_110) rfl rfl ?_
  show Steps p.tables e below (T6.setTop (mkF m 111 #[s0, s1, s2, s3, .val (.int i4), .val (.int i5), .val (.int i6), .val (.int i7), s8, s9, s10, s11] [(.ref b5), (.ref b5)])) _
  refine XS.iconst X6.here hx rfl (hb hby at_111) ?_
  show Steps p.tables e below (T6.setTop (mkF m 112 #[s0, s1, s2, s3, .val (.int i4), .val (.int i5), .val (.int i6), .val (.int i7), s8, s9, s10, s11] [(.int (1 : Int32)), (.ref b5), (.ref b5)])) _
  refine XS.iload X6.here hx rfl (hb hby at_112) rfl ?_
  show Steps p.tables e below (T6.setTop (mkF m 114 #[s0, s1, s2, s3, .val (.int i4), .val (.int i5), .val (.int i6), .val (.int i7), s8, s9, s10, s11] [(.int i6), (.int (1 : Int32)), (.ref b5), (.ref b5)])) _
  refine st7 _ ?_
  show Steps p.tables e below (T7.setTop (mkF m 115 #[s0, s1, s2, s3, .val (.int i4), .val (.int i5), .val (.int i6), .val (.int i7), s8, s9, s10, s11] [(.ref b5)])) _
  refine XS.dup X7.here hx rfl (hb hby at_115) rfl rfl ?_
  show Steps p.tables e below (T7.setTop (mkF m 116 #[s0, s1, s2, s3, .val (.int i4), .val (.int i5), .val (.int i6), .val (.int i7), s8, s9, s10, s11] [(.ref b5), (.ref b5)])) _
  refine XS.iconst X7.here hx rfl (hb hby at_116) ?_
  show Steps p.tables e below (T7.setTop (mkF m 117 #[s0, s1, s2, s3, .val (.int i4), .val (.int i5), .val (.int i6), .val (.int i7), s8, s9, s10, s11] [(.int (2 : Int32)), (.ref b5), (.ref b5)])) _
  refine XS.iload X7.here hx rfl (hb hby at_117) rfl ?_
  show Steps p.tables e below (T7.setTop (mkF m 119 #[s0, s1, s2, s3, .val (.int i4), .val (.int i5), .val (.int i6), .val (.int i7), s8, s9, s10, s11] [(.int i7), (.int (2 : Int32)), (.ref b5), (.ref b5)])) _
  refine st8 _ ?_
  show Steps p.tables e below (T8.setTop (mkF m 120 #[s0, s1, s2, s3, .val (.int i4), .val (.int i5), .val (.int i6), .val (.int i7), s8, s9, s10, s11] [(.ref b5)])) _
  refine XS.astore X8.here hx rfl (hb hby at_120) rfl rfl (l' := #[s0, s1, s2, s3, .val (.int i4), .val (.int i5), .val (.int i6), .val (.int i7), s8, .val (.ref b5), s10, s11]) (os0_120_mk3 hs9) ?_
  show Steps p.tables e below (T8.setTop (mkF m 122 #[s0, s1, s2, s3, .val (.int i4), .val (.int i5), .val (.int i6), .val (.int i7), s8, .val (.ref b5), s10, s11] [])) _
  refine XS.goto X8.here hx rfl (pc0 := 122) (pc' := 150) rfl (hb hby at_122) (by decide) (by decide) ?_
  exact kt
theorem os0_148_mk4 {s0 : Slot} {s1 : Slot} {s2 : Slot} {s3 : Slot} {z4 : Value} {z5 : Value} {z6 : Value} {z7 : Value} {z8 : Value} {s9 : Slot} {s10 : Slot} {s11 : Slot} {v : Addr} (h : One s9) : storeLocals #[s0, s1, s2, s3, .val z4, .val z5, .val z6, .val z7, .val z8, s9, s10, s11] 9 (.ref v) = some #[s0, s1, s2, s3, .val z4, .val z5, .val z6, .val z7, .val z8, .val (.ref v), s10, s11] := by
  rcases h with rfl | ⟨w, rfl, hw⟩
  · rfl
  · cases w <;> first | rfl | (simp [Value.category] at hw)
set_option maxRecDepth 65536 in
set_option maxHeartbeats 40000000 in
theorem mk4 {p : Program} {l : Launch} {e : Env} {R : Room} {s : State} {m : MethodId} {args : Array Value} {below : List Frame} {meth : Method} {c : Code} {T0 : State} {locs : List Loc} {cells slots : Nat} {Z : State} {a0 : Array Value} {h0 : Heap} (s0 : Slot) (s1 : Slot) (s2 : Slot) (s3 : Slot) (i4 : Int32) (i5 : Int32) (i6 : Int32) (i7 : Int32) (i8 : Int32) (s9 : Slot) (s10 : Slot) (s11 : Slot)
    (X0 : Stand p l e R s m args below meth c T0 locs cells slots) (hx : p.tables.exec = Jvm.exec) (hZ : Z.Warmed39 s.vm) (hw : ∀ d ∈ tables_1, d.before a0 Z = true) (hby : c.code = code) (hml : c.maxLocals = 12) (hown : s.vm.findClass "com/example/lading/lading/io/AlgorithmLineEndPinLaw" = some m.cls) (e0 : T0.heap = h0) {n0 : Nat} (Z0 : n0 ≤ h0.size) (N0 : Fr n0 locs) (hR1 : cells + 1 ≤ R.cells) (hR2 : slots + 4 ≤ R.slots) (hs9 : One s9) (hc42 : ¬ (i4 = (0 : Int32))) (hc56 : ¬ (i4 = (1 : Int32))) (hc75 : ¬ (i4 = (2 : Int32))) (hc99 : ¬ (i4 = (3 : Int32))) :
    ∃ (T' : State) (h' : Heap) (L' : List Loc) (b : Addr) (k : ClassId), Stand p l e R s m args below meth c T' L' (cells + 1) (slots + 4) ∧ T'.heap = h' ∧ Fr n0 L' ∧ n0 ≤ h'.size ∧ Arv Z h' b k .byte (4 : Int32) [(.int (nar .byte i5)), (.int (nar .byte i6)), (.int (nar .byte i7)), (.int (nar .byte i8))] (.int (0 : Int32)) ∧
      ∀ target, Steps p.tables e below (T'.setTop (mkF m 150 #[s0, s1, s2, s3, .val (.int i4), .val (.int i5), .val (.int i6), .val (.int i7), .val (.int i8), .val (.ref b), s10, s11] [])) target → Steps p.tables e below (T0.setTop (mkF m 40 #[s0, s1, s2, s3, .val (.int i4), .val (.int i5), .val (.int i6), .val (.int i7), .val (.int i8), s9, s10, s11] [])) target := by
  obtain ⟨T5, h5, k5, X5, e5, E5, A5, st5⟩ := newP X0 hx hZ (hw _ (List.mem_of_getElem? (i := 4) rfl)) e0 (g := (mkF m 126 #[s0, s1, s2, s3, .val (.int i4), .val (.int i5), .val (.int i6), .val (.int i7), .val (.int i8), s9, s10, s11] [(.int (4 : Int32))])) rfl (hb hby at_126) rfl (by decide) (cap := 4) (by decide) (by decide) hR1 hR2
  obtain ⟨b5, g5⟩ : ∃ z, z = h0.size := ⟨_, rfl⟩
  rw [← g5] at A5 st5
  have V_b5 : Arv Z h5 b5 k5 .byte (4 : Int32) [(.int (0 : Int32)), (.int (0 : Int32)), (.int (0 : Int32)), (.int (0 : Int32))] (.int (0 : Int32)) := (Arv.new A5 (by decide)).pad (pad_rep [] (.int (0 : Int32)) 4)
  have g_b5 : n0 ≤ b5 := Nat.le_trans Z0 (Nat.le_of_eq g5.symm)
  have sz_b5 : h0.size ≤ b5 := (Nat.le_trans (Keep.refl h0 []).1 (Nat.le_of_eq g5.symm))
  have K5 : Keep h0 h5 [] := (Keep.refl h0 []).ext E5
  obtain ⟨cl_b5_132, Ar_b5, q_b5, S_b5, N_b5, H_b5, G_b5⟩ := V_b5
  have hin132 : ¬ ((0 : Int32) < 0 ∨ cl_b5_132.slots.size ≤ ((0 : Int32)).toNatClampNeg) := inb_of S_b5 ⟨by decide, by decide⟩
  obtain ⟨T6, h6, X6, e6, W6, st6⟩ := stB X5 hx hZ e5 Ar_b5 (j := (0 : Int32)) hin132 (g := (mkF m 132 #[s0, s1, s2, s3, .val (.int i4), .val (.int i5), .val (.int i6), .val (.int i7), .val (.int i8), s9, s10, s11] [(.int i5), (.int (0 : Int32)), (.ref b5), (.ref b5)])) rfl rfl (hb hby at_132)
  have V_b5_6 := Arv.set Ar_b5 q_b5 S_b5 N_b5 H_b5 G_b5 (fits_nar_byte _) W6 0 rfl (Nat.le_of_ble_eq_true rfl)
  have K6 : Keep h0 h6 [] := K5.wr W6 (Or.inr sz_b5)
  have N6 := Fr.snoc X6 N0 g_b5
  obtain ⟨cl_b5_137, Ar_b5, q_b5, S_b5, N_b5, H_b5, G_b5⟩ := V_b5_6
  have hin137 : ¬ ((1 : Int32) < 0 ∨ cl_b5_137.slots.size ≤ ((1 : Int32)).toNatClampNeg) := inb_of S_b5 ⟨by decide, by decide⟩
  obtain ⟨T7, h7, X7, e7, W7, st7⟩ := stB X6 hx hZ e6 Ar_b5 (j := (1 : Int32)) hin137 (g := (mkF m 137 #[s0, s1, s2, s3, .val (.int i4), .val (.int i5), .val (.int i6), .val (.int i7), .val (.int i8), s9, s10, s11] [(.int i6), (.int (1 : Int32)), (.ref b5), (.ref b5)])) rfl rfl (hb hby at_137)
  have V_b5_7 := Arv.set Ar_b5 q_b5 S_b5 N_b5 H_b5 G_b5 (fits_nar_byte _) W7 1 rfl (Nat.le_of_ble_eq_true rfl)
  have K7 : Keep h0 h7 [] := K6.wr W7 (Or.inr sz_b5)
  have N7 := Fr.snoc X7 N6 g_b5
  obtain ⟨cl_b5_142, Ar_b5, q_b5, S_b5, N_b5, H_b5, G_b5⟩ := V_b5_7
  have hin142 : ¬ ((2 : Int32) < 0 ∨ cl_b5_142.slots.size ≤ ((2 : Int32)).toNatClampNeg) := inb_of S_b5 ⟨by decide, by decide⟩
  obtain ⟨T8, h8, X8, e8, W8, st8⟩ := stB X7 hx hZ e7 Ar_b5 (j := (2 : Int32)) hin142 (g := (mkF m 142 #[s0, s1, s2, s3, .val (.int i4), .val (.int i5), .val (.int i6), .val (.int i7), .val (.int i8), s9, s10, s11] [(.int i7), (.int (2 : Int32)), (.ref b5), (.ref b5)])) rfl rfl (hb hby at_142)
  have V_b5_8 := Arv.set Ar_b5 q_b5 S_b5 N_b5 H_b5 G_b5 (fits_nar_byte _) W8 2 rfl (Nat.le_of_ble_eq_true rfl)
  have K8 : Keep h0 h8 [] := K7.wr W8 (Or.inr sz_b5)
  have N8 := Fr.snoc X8 N7 g_b5
  obtain ⟨cl_b5_147, Ar_b5, q_b5, S_b5, N_b5, H_b5, G_b5⟩ := V_b5_8
  have hin147 : ¬ ((3 : Int32) < 0 ∨ cl_b5_147.slots.size ≤ ((3 : Int32)).toNatClampNeg) := inb_of S_b5 ⟨by decide, by decide⟩
  obtain ⟨T9, h9, X9, e9, W9, st9⟩ := stB X8 hx hZ e8 Ar_b5 (j := (3 : Int32)) hin147 (g := (mkF m 147 #[s0, s1, s2, s3, .val (.int i4), .val (.int i5), .val (.int i6), .val (.int i7), .val (.int i8), s9, s10, s11] [(.int i8), (.int (3 : Int32)), (.ref b5), (.ref b5)])) rfl rfl (hb hby at_147)
  have V_b5_9 := Arv.set Ar_b5 q_b5 S_b5 N_b5 H_b5 G_b5 (fits_nar_byte _) W9 3 rfl (Nat.le_of_ble_eq_true rfl)
  have K9 : Keep h0 h9 [] := K8.wr W9 (Or.inr sz_b5)
  have N9 := Fr.snoc X9 N8 g_b5
  refine ⟨T9, _, _, b5, k5, X9, e9, N9, Nat.le_trans Z0 K9.1, V_b5_9, fun target kt => ?_⟩
  show Steps p.tables e below (T0.setTop (mkF m 40 #[s0, s1, s2, s3, .val (.int i4), .val (.int i5), .val (.int i6), .val (.int i7), .val (.int i8), s9, s10, s11] [])) _
  refine XS.iload X0.here hx rfl (hb hby at_40) rfl ?_
  show Steps p.tables e below (T0.setTop (mkF m 42 #[s0, s1, s2, s3, .val (.int i4), .val (.int i5), .val (.int i6), .val (.int i7), .val (.int i8), s9, s10, s11] [(.int i4)])) _
  refine XS.ifYes X0.here hx rfl (pc0 := 42) (pc' := 53) rfl (hb hby at_42) rfl ((if0 _ _).trans (feq hc42).2) (by decide) (by decide) ?_
  show Steps p.tables e below (T0.setTop (mkF m 53 #[s0, s1, s2, s3, .val (.int i4), .val (.int i5), .val (.int i6), .val (.int i7), .val (.int i8), s9, s10, s11] [])) _
  refine XS.iload X0.here hx rfl (hb hby at_53) rfl ?_
  show Steps p.tables e below (T0.setTop (mkF m 55 #[s0, s1, s2, s3, .val (.int i4), .val (.int i5), .val (.int i6), .val (.int i7), .val (.int i8), s9, s10, s11] [(.int i4)])) _
  refine XS.iconst X0.here hx rfl (hb hby at_55) ?_
  show Steps p.tables e below (T0.setTop (mkF m 56 #[s0, s1, s2, s3, .val (.int i4), .val (.int i5), .val (.int i6), .val (.int i7), .val (.int i8), s9, s10, s11] [(.int (1 : Int32)), (.int i4)])) _
  refine XS.icmpYes X0.here hx rfl (pc0 := 56) (pc' := 72) rfl (hb hby at_56) rfl (feq hc56).2 (by decide) (by decide) ?_
  show Steps p.tables e below (T0.setTop (mkF m 72 #[s0, s1, s2, s3, .val (.int i4), .val (.int i5), .val (.int i6), .val (.int i7), .val (.int i8), s9, s10, s11] [])) _
  refine XS.iload X0.here hx rfl (hb hby at_72) rfl ?_
  show Steps p.tables e below (T0.setTop (mkF m 74 #[s0, s1, s2, s3, .val (.int i4), .val (.int i5), .val (.int i6), .val (.int i7), .val (.int i8), s9, s10, s11] [(.int i4)])) _
  refine XS.iconst X0.here hx rfl (hb hby at_74) ?_
  show Steps p.tables e below (T0.setTop (mkF m 75 #[s0, s1, s2, s3, .val (.int i4), .val (.int i5), .val (.int i6), .val (.int i7), .val (.int i8), s9, s10, s11] [(.int (2 : Int32)), (.int i4)])) _
  refine XS.icmpYes X0.here hx rfl (pc0 := 75) (pc' := 96) rfl (hb hby at_75) rfl (feq hc75).2 (by decide) (by decide) ?_
  show Steps p.tables e below (T0.setTop (mkF m 96 #[s0, s1, s2, s3, .val (.int i4), .val (.int i5), .val (.int i6), .val (.int i7), .val (.int i8), s9, s10, s11] [])) _
  refine XS.iload X0.here hx rfl (hb hby at_96) rfl ?_
  show Steps p.tables e below (T0.setTop (mkF m 98 #[s0, s1, s2, s3, .val (.int i4), .val (.int i5), .val (.int i6), .val (.int i7), .val (.int i8), s9, s10, s11] [(.int i4)])) _
  refine XS.iconst X0.here hx rfl (hb hby at_98) ?_
  show Steps p.tables e below (T0.setTop (mkF m 99 #[s0, s1, s2, s3, .val (.int i4), .val (.int i5), .val (.int i6), .val (.int i7), .val (.int i8), s9, s10, s11] [(.int (3 : Int32)), (.int i4)])) _
  refine XS.icmpYes X0.here hx rfl (pc0 := 99) (pc' := 125) rfl (hb hby at_99) rfl (feq hc99).2 (by decide) (by decide) ?_
  show Steps p.tables e below (T0.setTop (mkF m 125 #[s0, s1, s2, s3, .val (.int i4), .val (.int i5), .val (.int i6), .val (.int i7), .val (.int i8), s9, s10, s11] [])) _
  refine XS.iconst X0.here hx rfl (hb hby at_125) ?_
  show Steps p.tables e below (T0.setTop (mkF m 126 #[s0, s1, s2, s3, .val (.int i4), .val (.int i5), .val (.int i6), .val (.int i7), .val (.int i8), s9, s10, s11] [(.int (4 : Int32))])) _
  refine st5 _ ?_
  show Steps p.tables e below (T5.setTop (mkF m 128 #[s0, s1, s2, s3, .val (.int i4), .val (.int i5), .val (.int i6), .val (.int i7), .val (.int i8), s9, s10, s11] [(.ref b5)])) _
  refine XS.dup X5.here hx rfl (hb hby at_128) rfl rfl ?_
  show Steps p.tables e below (T5.setTop (mkF m 129 #[s0, s1, s2, s3, .val (.int i4), .val (.int i5), .val (.int i6), .val (.int i7), .val (.int i8), s9, s10, s11] [(.ref b5), (.ref b5)])) _
  refine XS.iconst X5.here hx rfl (hb hby at_129) ?_
  show Steps p.tables e below (T5.setTop (mkF m 130 #[s0, s1, s2, s3, .val (.int i4), .val (.int i5), .val (.int i6), .val (.int i7), .val (.int i8), s9, s10, s11] [(.int (0 : Int32)), (.ref b5), (.ref b5)])) _
  refine XS.iload X5.here hx rfl (hb hby at_130) rfl ?_
  show Steps p.tables e below (T5.setTop (mkF m 132 #[s0, s1, s2, s3, .val (.int i4), .val (.int i5), .val (.int i6), .val (.int i7), .val (.int i8), s9, s10, s11] [(.int i5), (.int (0 : Int32)), (.ref b5), (.ref b5)])) _
  refine st6 _ ?_
  show Steps p.tables e below (T6.setTop (mkF m 133 #[s0, s1, s2, s3, .val (.int i4), .val (.int i5), .val (.int i6), .val (.int i7), .val (.int i8), s9, s10, s11] [(.ref b5)])) _
  refine XS.dup X6.here hx rfl (hb hby at_133) rfl rfl ?_
  show Steps p.tables e below (T6.setTop (mkF m 134 #[s0, s1, s2, s3, .val (.int i4), .val (.int i5), .val (.int i6), .val (.int i7), .val (.int i8), s9, s10, s11] [(.ref b5), (.ref b5)])) _
  refine XS.iconst X6.here hx rfl (hb hby at_134) ?_
  show Steps p.tables e below (T6.setTop (mkF m 135 #[s0, s1, s2, s3, .val (.int i4), .val (.int i5), .val (.int i6), .val (.int i7), .val (.int i8), s9, s10, s11] [(.int (1 : Int32)), (.ref b5), (.ref b5)])) _
  refine XS.iload X6.here hx rfl (hb hby at_135) rfl ?_
  show Steps p.tables e below (T6.setTop (mkF m 137 #[s0, s1, s2, s3, .val (.int i4), .val (.int i5), .val (.int i6), .val (.int i7), .val (.int i8), s9, s10, s11] [(.int i6), (.int (1 : Int32)), (.ref b5), (.ref b5)])) _
  refine st7 _ ?_
  show Steps p.tables e below (T7.setTop (mkF m 138 #[s0, s1, s2, s3, .val (.int i4), .val (.int i5), .val (.int i6), .val (.int i7), .val (.int i8), s9, s10, s11] [(.ref b5)])) _
  refine XS.dup X7.here hx rfl (hb hby at_138) rfl rfl ?_
  show Steps p.tables e below (T7.setTop (mkF m 139 #[s0, s1, s2, s3, .val (.int i4), .val (.int i5), .val (.int i6), .val (.int i7), .val (.int i8), s9, s10, s11] [(.ref b5), (.ref b5)])) _
  refine XS.iconst X7.here hx rfl (hb hby at_139) ?_
  show Steps p.tables e below (T7.setTop (mkF m 140 #[s0, s1, s2, s3, .val (.int i4), .val (.int i5), .val (.int i6), .val (.int i7), .val (.int i8), s9, s10, s11] [(.int (2 : Int32)), (.ref b5), (.ref b5)])) _
  refine XS.iload X7.here hx rfl (hb hby at_140) rfl ?_
  show Steps p.tables e below (T7.setTop (mkF m 142 #[s0, s1, s2, s3, .val (.int i4), .val (.int i5), .val (.int i6), .val (.int i7), .val (.int i8), s9, s10, s11] [(.int i7), (.int (2 : Int32)), (.ref b5), (.ref b5)])) _
  refine st8 _ ?_
  show Steps p.tables e below (T8.setTop (mkF m 143 #[s0, s1, s2, s3, .val (.int i4), .val (.int i5), .val (.int i6), .val (.int i7), .val (.int i8), s9, s10, s11] [(.ref b5)])) _
  refine XS.dup X8.here hx rfl (hb hby at_143) rfl rfl ?_
  show Steps p.tables e below (T8.setTop (mkF m 144 #[s0, s1, s2, s3, .val (.int i4), .val (.int i5), .val (.int i6), .val (.int i7), .val (.int i8), s9, s10, s11] [(.ref b5), (.ref b5)])) _
  refine XS.iconst X8.here hx rfl (hb hby at_144) ?_
  show Steps p.tables e below (T8.setTop (mkF m 145 #[s0, s1, s2, s3, .val (.int i4), .val (.int i5), .val (.int i6), .val (.int i7), .val (.int i8), s9, s10, s11] [(.int (3 : Int32)), (.ref b5), (.ref b5)])) _
  refine XS.iload X8.here hx rfl (hb hby at_145) rfl ?_
  show Steps p.tables e below (T8.setTop (mkF m 147 #[s0, s1, s2, s3, .val (.int i4), .val (.int i5), .val (.int i6), .val (.int i7), .val (.int i8), s9, s10, s11] [(.int i8), (.int (3 : Int32)), (.ref b5), (.ref b5)])) _
  refine st9 _ ?_
  show Steps p.tables e below (T9.setTop (mkF m 148 #[s0, s1, s2, s3, .val (.int i4), .val (.int i5), .val (.int i6), .val (.int i7), .val (.int i8), s9, s10, s11] [(.ref b5)])) _
  refine XS.astore X9.here hx rfl (hb hby at_148) rfl rfl (l' := #[s0, s1, s2, s3, .val (.int i4), .val (.int i5), .val (.int i6), .val (.int i7), .val (.int i8), .val (.ref b5), s10, s11]) (os0_148_mk4 hs9) ?_
  exact kt
theorem own_at {vs : List Value} {d : Value} {cl : Cell} {n : Nat} {f : Nat → Int32} (S : cl.slots.size = n) (H : Has cl vs d) (h : ∀ j, j < n → vs.getD j d = .int (f j)) : ∀ j, j < n → cl.slots[j]? = some (.int (f j)) := fun j hj => by
  rw [H j (by omega), h j hj]
theorem mkAll {p : Program} {l : Launch} {e : Env} {R : Room} {s : State} {m : MethodId} {args : Array Value} {below : List Frame} {meth : Method} {c : Code} {T0 : State} {locs : List Loc} {cells slots : Nat} {Z : State} {a0 : Array Value} {h0 : Heap} (p1 p2 p3 p4 i5 i6 i7 i8 : Int32) (n : Nat) (hn : n ≤ 4) (X0 : Stand p l e R s m args below meth c T0 locs cells slots) (hx : p.tables.exec = Jvm.exec) (hZ : Z.Warmed39 s.vm) (hw : ∀ d ∈ tables_1, d.before a0 Z = true) (hby : c.code = code) (hml : c.maxLocals = 12) (hown : s.vm.findClass "com/example/lading/lading/io/AlgorithmLineEndPinLaw" = some m.cls) (e0 : T0.heap = h0) {n0 : Nat} (Z0 : n0 ≤ h0.size) (N0 : Fr n0 locs) (hR1 : cells + 1 ≤ R.cells) (hR2 : slots + 4 ≤ R.slots) :
    ∃ (T' : State) (h' : Heap) (L' : List Loc) (b : Addr) (cl : Cell), Stand p l e R s m args below meth c T' L' (cells + 1) (slots + 4) ∧ T'.heap = h' ∧ Fr n0 L' ∧ n0 ≤ h'.size ∧ Arr Z h' b cl .byte ∧ cl.slots.size = (Int32.ofNat n).toNatClampNeg ∧ (∀ j, j < n → cl.slots[j]? = some (.int (own_g (nar .byte i5) (nar .byte i6) (nar .byte i7) (nar .byte i8) j))) ∧
      ∀ target, Steps p.tables e below (T'.setTop (mkF m 150 #[.val (.int p1), .val (.int p2), .val (.int p3), .val (.int p4), .val (.int (Int32.ofNat n)), .val (.int i5), .val (.int i6), .val (.int i7), .val (.int i8), .val (.ref b), .unset, .unset] [])) target → Steps p.tables e below (T0.setTop (mkF m 40 #[.val (.int p1), .val (.int p2), .val (.int p3), .val (.int p4), .val (.int (Int32.ofNat n)), .val (.int i5), .val (.int i6), .val (.int i7), .val (.int i8), .unset, .unset, .unset] [])) target := by
  rcases (by omega : n = 0 ∨ n = 1 ∨ n = 2 ∨ n = 3 ∨ n = 4) with rfl | rfl | rfl | rfl | rfl
  · obtain ⟨T', h', L', b, k, X', e', NL, Zh, V, st⟩ := mk0 (.val (.int p1)) (.val (.int p2)) (.val (.int p3)) (.val (.int p4)) (Int32.ofNat 0) (.val (.int i5)) (.val (.int i6)) (.val (.int i7)) (.val (.int i8)) .unset .unset .unset X0 hx hZ hw hby hml hown e0 Z0 N0 hR1 hR2 (hs9 := One.u) (hc42 := by decide)
    obtain ⟨cl, Ar, q, S, Nn, H, G⟩ := V
    exact ⟨T', h', L', b, cl, X', e', NL, Zh, Ar, S, own_at (n := 0) S H (fun j hj => by
      omega), st⟩
  · obtain ⟨T', h', L', b, k, X', e', NL, Zh, V, st⟩ := mk1 (.val (.int p1)) (.val (.int p2)) (.val (.int p3)) (.val (.int p4)) (Int32.ofNat 1) i5 (.val (.int i6)) (.val (.int i7)) (.val (.int i8)) .unset .unset .unset X0 hx hZ hw hby hml hown e0 Z0 N0 hR1 hR2 (hs9 := One.u) (hc42 := by decide) (hc56 := by decide)
    obtain ⟨cl, Ar, q, S, Nn, H, G⟩ := V
    exact ⟨T', h', L', b, cl, X', e', NL, Zh, Ar, S, own_at (n := 1) S H (fun j hj => by
      rcases (by omega : j = 0) with rfl <;> rfl), st⟩
  · obtain ⟨T', h', L', b, k, X', e', NL, Zh, V, st⟩ := mk2 (.val (.int p1)) (.val (.int p2)) (.val (.int p3)) (.val (.int p4)) (Int32.ofNat 2) i5 i6 (.val (.int i7)) (.val (.int i8)) .unset .unset .unset X0 hx hZ hw hby hml hown e0 Z0 N0 hR1 hR2 (hs9 := One.u) (hc42 := by decide) (hc56 := by decide) (hc75 := by decide)
    obtain ⟨cl, Ar, q, S, Nn, H, G⟩ := V
    exact ⟨T', h', L', b, cl, X', e', NL, Zh, Ar, S, own_at (n := 2) S H (fun j hj => by
      rcases (by omega : j = 0 ∨ j = 1) with rfl | rfl <;> rfl), st⟩
  · obtain ⟨T', h', L', b, k, X', e', NL, Zh, V, st⟩ := mk3 (.val (.int p1)) (.val (.int p2)) (.val (.int p3)) (.val (.int p4)) (Int32.ofNat 3) i5 i6 i7 (.val (.int i8)) .unset .unset .unset X0 hx hZ hw hby hml hown e0 Z0 N0 hR1 hR2 (hs9 := One.u) (hc42 := by decide) (hc56 := by decide) (hc75 := by decide) (hc99 := by decide)
    obtain ⟨cl, Ar, q, S, Nn, H, G⟩ := V
    exact ⟨T', h', L', b, cl, X', e', NL, Zh, Ar, S, own_at (n := 3) S H (fun j hj => by
      rcases (by omega : j = 0 ∨ j = 1 ∨ j = 2) with rfl | rfl | rfl <;> rfl), st⟩
  · obtain ⟨T', h', L', b, k, X', e', NL, Zh, V, st⟩ := mk4 (.val (.int p1)) (.val (.int p2)) (.val (.int p3)) (.val (.int p4)) (Int32.ofNat 4) i5 i6 i7 i8 .unset .unset .unset X0 hx hZ hw hby hml hown e0 Z0 N0 hR1 hR2 (hs9 := One.u) (hc42 := by decide) (hc56 := by decide) (hc75 := by decide) (hc99 := by decide)
    obtain ⟨cl, Ar, q, S, Nn, H, G⟩ := V
    exact ⟨T', h', L', b, cl, X', e', NL, Zh, Ar, S, own_at (n := 4) S H (fun j hj => by
      rcases (by omega : j = 0 ∨ j = 1 ∨ j = 2 ∨ j = 3) with rfl | rfl | rfl | rfl <;> rfl), st⟩
theorem os0_159_seg150 {s0 : Slot} {z1 : Value} {s2 : Slot} {s3 : Slot} {z4 : Value} {s5 : Slot} {s6 : Slot} {s7 : Slot} {s8 : Slot} {s9 : Slot} {s10 : Slot} {s11 : Slot} {v : Int32} (h : One s10) : storeLocals #[s0, .val z1, s2, s3, .val z4, s5, s6, s7, s8, s9, s10, s11] 10 (.int v) = some #[s0, .val z1, s2, s3, .val z4, s5, s6, s7, s8, s9, .val (.int v), s11] := by
  rcases h with rfl | ⟨w, rfl, hw⟩
  · rfl
  · cases w <;> first | rfl | (simp [Value.category] at hw)
theorem os0_163_seg150 {s0 : Slot} {z1 : Value} {s2 : Slot} {s3 : Slot} {z4 : Value} {s5 : Slot} {s6 : Slot} {s7 : Slot} {s8 : Slot} {s9 : Slot} {z10 : Value} {s11 : Slot} {v : Int32} (h : One s11) : storeLocals #[s0, .val z1, s2, s3, .val z4, s5, s6, s7, s8, s9, .val z10, s11] 11 (.int v) = some #[s0, .val z1, s2, s3, .val z4, s5, s6, s7, s8, s9, .val z10, .val (.int v)] := by
  rcases h with rfl | ⟨w, rfl, hw⟩
  · rfl
  · cases w <;> first | rfl | (simp [Value.category] at hw)
set_option maxRecDepth 65536 in
set_option maxHeartbeats 40000000 in
theorem seg150 {p : Program} {l : Launch} {e : Env} {R : Room} {s : State} {m : MethodId} {args : Array Value} {below : List Frame} {meth : Method} {c : Code} {T0 : State} {locs : List Loc} {cells slots : Nat} {Z : State} {a0 : Array Value} {h0 : Heap} (s0 : Slot) (i1 : Int32) (s2 : Slot) (s3 : Slot) (i4 : Int32) (s5 : Slot) (s6 : Slot) (s7 : Slot) (s8 : Slot) (s9 : Slot) (s10 : Slot) (s11 : Slot)
    (X0 : Stand p l e R s m args below meth c T0 locs cells slots) (hx : p.tables.exec = Jvm.exec) (hZ : Z.Warmed39 s.vm) (hw : ∀ d ∈ tables_1, d.before a0 Z = true) (hby : c.code = code) (hml : c.maxLocals = 12) (hown : s.vm.findClass "com/example/lading/lading/io/AlgorithmLineEndPinLaw" = some m.cls) (e0 : T0.heap = h0) (hs10 : One s10) (hs11 : One s11) (hnz158 : ¬ ((i4 + (1 : Int32)) = (0 : Int32))) :
    ∃ (T' : State), Stand p l e R s m args below meth c T' locs cells slots ∧ T'.heap = h0 ∧
      ∀ target, Steps p.tables e below (T'.setTop (mkF m 165 #[s0, .val (.int i1), s2, s3, .val (.int i4), s5, s6, s7, s8, s9, .val (.int (own_rem (i1 &&& (2147483647 : Int32)) (i4 + (1 : Int32)))), .val (.int i4)] [])) target → Steps p.tables e below (T0.setTop (mkF m 150 #[s0, .val (.int i1), s2, s3, .val (.int i4), s5, s6, s7, s8, s9, s10, s11] [])) target := by

  refine ⟨T0, X0, e0, fun target kt => ?_⟩
  show Steps p.tables e below (T0.setTop (mkF m 150 #[s0, .val (.int i1), s2, s3, .val (.int i4), s5, s6, s7, s8, s9, s10, s11] [])) _
  refine XS.iloadN X0.here hx rfl (hb hby at_150) rfl ?_
  show Steps p.tables e below (T0.setTop (mkF m 151 #[s0, .val (.int i1), s2, s3, .val (.int i4), s5, s6, s7, s8, s9, s10, s11] [(.int i1)])) _
  refine X0.ldcInt hx hown (mvT hZ (hw _ (List.mem_of_getElem? (i := 5) rfl))) (g := (mkF m 151 #[s0, .val (.int i1), s2, s3, .val (.int i4), s5, s6, s7, s8, s9, s10, s11] [(.int i1)])) rfl (hb hby at_151) _ ?_
  show Steps p.tables e below (T0.setTop (mkF m 153 #[s0, .val (.int i1), s2, s3, .val (.int i4), s5, s6, s7, s8, s9, s10, s11] [(.int (2147483647 : Int32)), (.int i1)])) _
  refine XS.iand X0.here hx rfl (hb hby at_153) rfl ?_
  show Steps p.tables e below (T0.setTop (mkF m 154 #[s0, .val (.int i1), s2, s3, .val (.int i4), s5, s6, s7, s8, s9, s10, s11] [(.int (i1 &&& (2147483647 : Int32)))])) _
  refine XS.iload X0.here hx rfl (hb hby at_154) rfl ?_
  show Steps p.tables e below (T0.setTop (mkF m 156 #[s0, .val (.int i1), s2, s3, .val (.int i4), s5, s6, s7, s8, s9, s10, s11] [(.int i4), (.int (i1 &&& (2147483647 : Int32)))])) _
  refine XS.iconst X0.here hx rfl (hb hby at_156) ?_
  show Steps p.tables e below (T0.setTop (mkF m 157 #[s0, .val (.int i1), s2, s3, .val (.int i4), s5, s6, s7, s8, s9, s10, s11] [(.int (1 : Int32)), (.int i4), (.int (i1 &&& (2147483647 : Int32)))])) _
  refine XS.iadd X0.here hx rfl (hb hby at_157) rfl ?_
  show Steps p.tables e below (T0.setTop (mkF m 158 #[s0, .val (.int i1), s2, s3, .val (.int i4), s5, s6, s7, s8, s9, s10, s11] [(.int (i4 + (1 : Int32))), (.int (i1 &&& (2147483647 : Int32)))])) _
  refine XS.irem X0.here hx rfl (hb hby at_158) rfl hnz158 ?_
  show Steps p.tables e below (T0.setTop (mkF m 159 #[s0, .val (.int i1), s2, s3, .val (.int i4), s5, s6, s7, s8, s9, s10, s11] [(.int (own_rem (i1 &&& (2147483647 : Int32)) (i4 + (1 : Int32))))])) _
  refine XS.istore X0.here hx rfl (hb hby at_159) rfl (l' := #[s0, .val (.int i1), s2, s3, .val (.int i4), s5, s6, s7, s8, s9, .val (.int (own_rem (i1 &&& (2147483647 : Int32)) (i4 + (1 : Int32)))), s11]) (os0_159_seg150 hs10) ?_
  show Steps p.tables e below (T0.setTop (mkF m 161 #[s0, .val (.int i1), s2, s3, .val (.int i4), s5, s6, s7, s8, s9, .val (.int (own_rem (i1 &&& (2147483647 : Int32)) (i4 + (1 : Int32)))), s11] [])) _
  refine XS.iload X0.here hx rfl (hb hby at_161) rfl ?_
  show Steps p.tables e below (T0.setTop (mkF m 163 #[s0, .val (.int i1), s2, s3, .val (.int i4), s5, s6, s7, s8, s9, .val (.int (own_rem (i1 &&& (2147483647 : Int32)) (i4 + (1 : Int32)))), s11] [(.int i4)])) _
  refine XS.istore X0.here hx rfl (hb hby at_163) rfl (l' := #[s0, .val (.int i1), s2, s3, .val (.int i4), s5, s6, s7, s8, s9, .val (.int (own_rem (i1 &&& (2147483647 : Int32)) (i4 + (1 : Int32)))), .val (.int i4)]) (os0_163_seg150 hs11) ?_
  exact kt
set_option maxRecDepth 65536 in
set_option maxHeartbeats 40000000 in
theorem blk3t {p : Program} {l : Launch} {e : Env} {R : Room} {s : State} {m : MethodId} {args : Array Value} {below : List Frame} {meth : Method} {c : Code} {T0 : State} {locs : List Loc} {cells slots : Nat} {Z : State} {a0 : Array Value} {h0 : Heap} (s0 : Slot) (s1 : Slot) (s2 : Slot) (s3 : Slot) (s4 : Slot) (s5 : Slot) (s6 : Slot) (s7 : Slot) (s8 : Slot) (s9 : Slot) (i10 : Int32) (s11 : Slot)
    (X0 : Stand p l e R s m args below meth c T0 locs cells slots) (hx : p.tables.exec = Jvm.exec) (hZ : Z.Warmed39 s.vm) (hw : ∀ d ∈ tables_1, d.before a0 Z = true) (hby : c.code = code) (hml : c.maxLocals = 12) (hown : s.vm.findClass "com/example/lading/lading/io/AlgorithmLineEndPinLaw" = some m.cls) (e0 : T0.heap = h0) (hc168 : (3 : Int32) < i10) :
    ∃ (T' : State), Stand p l e R s m args below meth c T' locs cells slots ∧ T'.heap = h0 ∧
      ∀ target, Steps p.tables e below (T'.setTop (mkF m 187 #[s0, s1, s2, s3, s4, s5, s6, s7, s8, s9, .val (.int i10), s11] [])) target → Steps p.tables e below (T0.setTop (mkF m 165 #[s0, s1, s2, s3, s4, s5, s6, s7, s8, s9, .val (.int i10), s11] [])) target := by

  refine ⟨T0, X0, e0, fun target kt => ?_⟩
  show Steps p.tables e below (T0.setTop (mkF m 165 #[s0, s1, s2, s3, s4, s5, s6, s7, s8, s9, .val (.int i10), s11] [])) _
  refine XS.iconst X0.here hx rfl (hb hby at_165) ?_
  show Steps p.tables e below (T0.setTop (mkF m 166 #[s0, s1, s2, s3, s4, s5, s6, s7, s8, s9, .val (.int i10), s11] [(.int (3 : Int32))])) _
  refine XS.iload X0.here hx rfl (hb hby at_166) rfl ?_
  show Steps p.tables e below (T0.setTop (mkF m 168 #[s0, s1, s2, s3, s4, s5, s6, s7, s8, s9, .val (.int i10), s11] [(.int i10), (.int (3 : Int32))])) _
  refine XS.icmpYes X0.here hx rfl (pc0 := 168) (pc' := 187) rfl (hb hby at_168) rfl (tlt hc168).1 (by decide) (by decide) ?_
  exact kt
set_option maxRecDepth 65536 in
set_option maxHeartbeats 40000000 in
theorem blk3ft {p : Program} {l : Launch} {e : Env} {R : Room} {s : State} {m : MethodId} {args : Array Value} {below : List Frame} {meth : Method} {c : Code} {T0 : State} {locs : List Loc} {cells slots : Nat} {Z : State} {a0 : Array Value} {h0 : Heap} (s0 : Slot) (s1 : Slot) (s2 : Slot) (s3 : Slot) (i4 : Int32) (s5 : Slot) (s6 : Slot) (s7 : Slot) (s8 : Slot) (s9 : Slot) (i10 : Int32) (s11 : Slot)
    (X0 : Stand p l e R s m args below meth c T0 locs cells slots) (hx : p.tables.exec = Jvm.exec) (hZ : Z.Warmed39 s.vm) (hw : ∀ d ∈ tables_1, d.before a0 Z = true) (hby : c.code = code) (hml : c.maxLocals = 12) (hown : s.vm.findClass "com/example/lading/lading/io/AlgorithmLineEndPinLaw" = some m.cls) (e0 : T0.heap = h0) (hc168 : ¬ ((3 : Int32) < i10)) (hc174 : ¬ ((3 : Int32) < i4)) :
    ∃ (T' : State), Stand p l e R s m args below meth c T' locs cells slots ∧ T'.heap = h0 ∧
      ∀ target, Steps p.tables e below (T'.setTop (mkF m 187 #[s0, s1, s2, s3, .val (.int i4), s5, s6, s7, s8, s9, .val (.int i10), s11] [])) target → Steps p.tables e below (T0.setTop (mkF m 165 #[s0, s1, s2, s3, .val (.int i4), s5, s6, s7, s8, s9, .val (.int i10), s11] [])) target := by

  refine ⟨T0, X0, e0, fun target kt => ?_⟩
  show Steps p.tables e below (T0.setTop (mkF m 165 #[s0, s1, s2, s3, .val (.int i4), s5, s6, s7, s8, s9, .val (.int i10), s11] [])) _
  refine XS.iconst X0.here hx rfl (hb hby at_165) ?_
  show Steps p.tables e below (T0.setTop (mkF m 166 #[s0, s1, s2, s3, .val (.int i4), s5, s6, s7, s8, s9, .val (.int i10), s11] [(.int (3 : Int32))])) _
  refine XS.iload X0.here hx rfl (hb hby at_166) rfl ?_
  show Steps p.tables e below (T0.setTop (mkF m 168 #[s0, s1, s2, s3, .val (.int i4), s5, s6, s7, s8, s9, .val (.int i10), s11] [(.int i10), (.int (3 : Int32))])) _
  refine XS.icmpNo X0.here hx rfl (hb hby at_168) rfl (flt hc168).1 ?_
  show Steps p.tables e below (T0.setTop (mkF m 171 #[s0, s1, s2, s3, .val (.int i4), s5, s6, s7, s8, s9, .val (.int i10), s11] [])) _
  refine XS.iconst X0.here hx rfl (hb hby at_171) ?_
  show Steps p.tables e below (T0.setTop (mkF m 172 #[s0, s1, s2, s3, .val (.int i4), s5, s6, s7, s8, s9, .val (.int i10), s11] [(.int (3 : Int32))])) _
  refine XS.iload X0.here hx rfl (hb hby at_172) rfl ?_
  show Steps p.tables e below (T0.setTop (mkF m 174 #[s0, s1, s2, s3, .val (.int i4), s5, s6, s7, s8, s9, .val (.int i10), s11] [(.int i4), (.int (3 : Int32))])) _
  refine XS.icmpYes X0.here hx rfl (pc0 := 174) (pc' := 187) rfl (hb hby at_174) rfl (flt hc174).2.1 (by decide) (by decide) ?_
  exact kt
set_option maxRecDepth 65536 in
set_option maxHeartbeats 40000000 in
theorem blk3fft {p : Program} {l : Launch} {e : Env} {R : Room} {s : State} {m : MethodId} {args : Array Value} {below : List Frame} {meth : Method} {c : Code} {T0 : State} {locs : List Loc} {cells slots : Nat} {Z : State} {a0 : Array Value} {h0 : Heap} (s0 : Slot) (s1 : Slot) (s2 : Slot) (s3 : Slot) (i4 : Int32) (s5 : Slot) (s6 : Slot) (s7 : Slot) (i8 : Int32) (s9 : Slot) (i10 : Int32) (s11 : Slot)
    (X0 : Stand p l e R s m args below meth c T0 locs cells slots) (hx : p.tables.exec = Jvm.exec) (hZ : Z.Warmed39 s.vm) (hw : ∀ d ∈ tables_1, d.before a0 Z = true) (hby : c.code = code) (hml : c.maxLocals = 12) (hown : s.vm.findClass "com/example/lading/lading/io/AlgorithmLineEndPinLaw" = some m.cls) (e0 : T0.heap = h0) (hc168 : ¬ ((3 : Int32) < i10)) (hc174 : (3 : Int32) < i4) (hc181 : ¬ (i8 = (10 : Int32))) :
    ∃ (T' : State), Stand p l e R s m args below meth c T' locs cells slots ∧ T'.heap = h0 ∧
      ∀ target, Steps p.tables e below (T'.setTop (mkF m 187 #[s0, s1, s2, s3, .val (.int i4), s5, s6, s7, .val (.int i8), s9, .val (.int i10), s11] [])) target → Steps p.tables e below (T0.setTop (mkF m 165 #[s0, s1, s2, s3, .val (.int i4), s5, s6, s7, .val (.int i8), s9, .val (.int i10), s11] [])) target := by

  refine ⟨T0, X0, e0, fun target kt => ?_⟩
  show Steps p.tables e below (T0.setTop (mkF m 165 #[s0, s1, s2, s3, .val (.int i4), s5, s6, s7, .val (.int i8), s9, .val (.int i10), s11] [])) _
  refine XS.iconst X0.here hx rfl (hb hby at_165) ?_
  show Steps p.tables e below (T0.setTop (mkF m 166 #[s0, s1, s2, s3, .val (.int i4), s5, s6, s7, .val (.int i8), s9, .val (.int i10), s11] [(.int (3 : Int32))])) _
  refine XS.iload X0.here hx rfl (hb hby at_166) rfl ?_
  show Steps p.tables e below (T0.setTop (mkF m 168 #[s0, s1, s2, s3, .val (.int i4), s5, s6, s7, .val (.int i8), s9, .val (.int i10), s11] [(.int i10), (.int (3 : Int32))])) _
  refine XS.icmpNo X0.here hx rfl (hb hby at_168) rfl (flt hc168).1 ?_
  show Steps p.tables e below (T0.setTop (mkF m 171 #[s0, s1, s2, s3, .val (.int i4), s5, s6, s7, .val (.int i8), s9, .val (.int i10), s11] [])) _
  refine XS.iconst X0.here hx rfl (hb hby at_171) ?_
  show Steps p.tables e below (T0.setTop (mkF m 172 #[s0, s1, s2, s3, .val (.int i4), s5, s6, s7, .val (.int i8), s9, .val (.int i10), s11] [(.int (3 : Int32))])) _
  refine XS.iload X0.here hx rfl (hb hby at_172) rfl ?_
  show Steps p.tables e below (T0.setTop (mkF m 174 #[s0, s1, s2, s3, .val (.int i4), s5, s6, s7, .val (.int i8), s9, .val (.int i10), s11] [(.int i4), (.int (3 : Int32))])) _
  refine XS.icmpNo X0.here hx rfl (hb hby at_174) rfl (tlt hc174).2.1 ?_
  show Steps p.tables e below (T0.setTop (mkF m 177 #[s0, s1, s2, s3, .val (.int i4), s5, s6, s7, .val (.int i8), s9, .val (.int i10), s11] [])) _
  refine XS.iload X0.here hx rfl (hb hby at_177) rfl ?_
  show Steps p.tables e below (T0.setTop (mkF m 179 #[s0, s1, s2, s3, .val (.int i4), s5, s6, s7, .val (.int i8), s9, .val (.int i10), s11] [(.int i8)])) _
  refine XS.bipush X0.here hx rfl (hb hby at_179) ?_
  show Steps p.tables e below (T0.setTop (mkF m 181 #[s0, s1, s2, s3, .val (.int i4), s5, s6, s7, .val (.int i8), s9, .val (.int i10), s11] [(.int (10 : Int32)), (.int i8)])) _
  refine XS.icmpYes X0.here hx rfl (pc0 := 181) (pc' := 187) rfl (hb hby at_181) rfl (feq hc181).2 (by decide) (by decide) ?_
  exact kt
theorem os0_185_blk3fff {s0 : Slot} {s1 : Slot} {s2 : Slot} {s3 : Slot} {z4 : Value} {s5 : Slot} {s6 : Slot} {s7 : Slot} {z8 : Value} {s9 : Slot} {z10 : Value} {s11 : Slot} {v : Int32} (h : One s11) : storeLocals #[s0, s1, s2, s3, .val z4, s5, s6, s7, .val z8, s9, .val z10, s11] 11 (.int v) = some #[s0, s1, s2, s3, .val z4, s5, s6, s7, .val z8, s9, .val z10, .val (.int v)] := by
  rcases h with rfl | ⟨w, rfl, hw⟩
  · rfl
  · cases w <;> first | rfl | (simp [Value.category] at hw)
set_option maxRecDepth 65536 in
set_option maxHeartbeats 40000000 in
theorem blk3fff {p : Program} {l : Launch} {e : Env} {R : Room} {s : State} {m : MethodId} {args : Array Value} {below : List Frame} {meth : Method} {c : Code} {T0 : State} {locs : List Loc} {cells slots : Nat} {Z : State} {a0 : Array Value} {h0 : Heap} (s0 : Slot) (s1 : Slot) (s2 : Slot) (s3 : Slot) (i4 : Int32) (s5 : Slot) (s6 : Slot) (s7 : Slot) (i8 : Int32) (s9 : Slot) (i10 : Int32) (s11 : Slot)
    (X0 : Stand p l e R s m args below meth c T0 locs cells slots) (hx : p.tables.exec = Jvm.exec) (hZ : Z.Warmed39 s.vm) (hw : ∀ d ∈ tables_1, d.before a0 Z = true) (hby : c.code = code) (hml : c.maxLocals = 12) (hown : s.vm.findClass "com/example/lading/lading/io/AlgorithmLineEndPinLaw" = some m.cls) (e0 : T0.heap = h0) (hs11 : One s11) (hc168 : ¬ ((3 : Int32) < i10)) (hc174 : (3 : Int32) < i4) (hc181 : i8 = (10 : Int32)) :
    ∃ (T' : State), Stand p l e R s m args below meth c T' locs cells slots ∧ T'.heap = h0 ∧
      ∀ target, Steps p.tables e below (T'.setTop (mkF m 187 #[s0, s1, s2, s3, .val (.int i4), s5, s6, s7, .val (.int i8), s9, .val (.int i10), .val (.int (3 : Int32))] [])) target → Steps p.tables e below (T0.setTop (mkF m 165 #[s0, s1, s2, s3, .val (.int i4), s5, s6, s7, .val (.int i8), s9, .val (.int i10), s11] [])) target := by

  refine ⟨T0, X0, e0, fun target kt => ?_⟩
  show Steps p.tables e below (T0.setTop (mkF m 165 #[s0, s1, s2, s3, .val (.int i4), s5, s6, s7, .val (.int i8), s9, .val (.int i10), s11] [])) _
  refine XS.iconst X0.here hx rfl (hb hby at_165) ?_
  show Steps p.tables e below (T0.setTop (mkF m 166 #[s0, s1, s2, s3, .val (.int i4), s5, s6, s7, .val (.int i8), s9, .val (.int i10), s11] [(.int (3 : Int32))])) _
  refine XS.iload X0.here hx rfl (hb hby at_166) rfl ?_
  show Steps p.tables e below (T0.setTop (mkF m 168 #[s0, s1, s2, s3, .val (.int i4), s5, s6, s7, .val (.int i8), s9, .val (.int i10), s11] [(.int i10), (.int (3 : Int32))])) _
  refine XS.icmpNo X0.here hx rfl (hb hby at_168) rfl (flt hc168).1 ?_
  show Steps p.tables e below (T0.setTop (mkF m 171 #[s0, s1, s2, s3, .val (.int i4), s5, s6, s7, .val (.int i8), s9, .val (.int i10), s11] [])) _
  refine XS.iconst X0.here hx rfl (hb hby at_171) ?_
  show Steps p.tables e below (T0.setTop (mkF m 172 #[s0, s1, s2, s3, .val (.int i4), s5, s6, s7, .val (.int i8), s9, .val (.int i10), s11] [(.int (3 : Int32))])) _
  refine XS.iload X0.here hx rfl (hb hby at_172) rfl ?_
  show Steps p.tables e below (T0.setTop (mkF m 174 #[s0, s1, s2, s3, .val (.int i4), s5, s6, s7, .val (.int i8), s9, .val (.int i10), s11] [(.int i4), (.int (3 : Int32))])) _
  refine XS.icmpNo X0.here hx rfl (hb hby at_174) rfl (tlt hc174).2.1 ?_
  show Steps p.tables e below (T0.setTop (mkF m 177 #[s0, s1, s2, s3, .val (.int i4), s5, s6, s7, .val (.int i8), s9, .val (.int i10), s11] [])) _
  refine XS.iload X0.here hx rfl (hb hby at_177) rfl ?_
  show Steps p.tables e below (T0.setTop (mkF m 179 #[s0, s1, s2, s3, .val (.int i4), s5, s6, s7, .val (.int i8), s9, .val (.int i10), s11] [(.int i8)])) _
  refine XS.bipush X0.here hx rfl (hb hby at_179) ?_
  show Steps p.tables e below (T0.setTop (mkF m 181 #[s0, s1, s2, s3, .val (.int i4), s5, s6, s7, .val (.int i8), s9, .val (.int i10), s11] [(.int (10 : Int32)), (.int i8)])) _
  refine XS.icmpNo X0.here hx rfl (hb hby at_181) rfl (teq hc181).2 ?_
  show Steps p.tables e below (T0.setTop (mkF m 184 #[s0, s1, s2, s3, .val (.int i4), s5, s6, s7, .val (.int i8), s9, .val (.int i10), s11] [])) _
  refine XS.iconst X0.here hx rfl (hb hby at_184) ?_
  show Steps p.tables e below (T0.setTop (mkF m 185 #[s0, s1, s2, s3, .val (.int i4), s5, s6, s7, .val (.int i8), s9, .val (.int i10), s11] [(.int (3 : Int32))])) _
  refine XS.istore X0.here hx rfl (hb hby at_185) rfl (l' := #[s0, s1, s2, s3, .val (.int i4), s5, s6, s7, .val (.int i8), s9, .val (.int i10), .val (.int (3 : Int32))]) (os0_185_blk3fff hs11) ?_
  exact kt
theorem blk3 {p : Program} {l : Launch} {e : Env} {R : Room} {s : State} {m : MethodId} {args : Array Value} {below : List Frame} {meth : Method} {c : Code} {T0 : State} {locs : List Loc} {cells slots : Nat} {Z : State} {a0 : Array Value} {h0 : Heap} (p1 p2 p3 p4 i4 i5 i6 i7 i8 : Int32) (b : Addr) (st ex : Int32) (X0 : Stand p l e R s m args below meth c T0 locs cells slots) (hx : p.tables.exec = Jvm.exec) (hZ : Z.Warmed39 s.vm) (hw : ∀ d ∈ tables_1, d.before a0 Z = true) (hby : c.code = code) (hml : c.maxLocals = 12) (hown : s.vm.findClass "com/example/lading/lading/io/AlgorithmLineEndPinLaw" = some m.cls) (e0 : T0.heap = h0) :
    ∃ (T' : State), Stand p l e R s m args below meth c T' locs cells slots ∧ T'.heap = h0 ∧
      ∀ target, Steps p.tables e below (T'.setTop (mkF m 187 #[.val (.int p1), .val (.int p2), .val (.int p3), .val (.int p4), .val (.int i4), .val (.int i5), .val (.int i6), .val (.int i7), .val (.int i8), .val (.ref b), .val (.int st), .val (.int (own_step 3 i8 i4 st ex))] [])) target → Steps p.tables e below (T0.setTop (mkF m 165 #[.val (.int p1), .val (.int p2), .val (.int p3), .val (.int p4), .val (.int i4), .val (.int i5), .val (.int i6), .val (.int i7), .val (.int i8), .val (.ref b), .val (.int st), .val (.int ex)] [])) target := by
  unfold own_step
  by_cases h1 : (3 : Int32) < st
  · rw [if_pos h1]; exact blk3t (.val (.int p1)) (.val (.int p2)) (.val (.int p3)) (.val (.int p4)) (.val (.int i4)) (.val (.int i5)) (.val (.int i6)) (.val (.int i7)) (.val (.int i8)) (.val (.ref b)) st (.val (.int ex)) X0 hx hZ hw hby hml hown e0 (hc168 := h1)
  · rw [if_neg h1]
    by_cases h2 : (3 : Int32) < i4
    · rw [if_pos h2]
      by_cases h3 : i8 = 10
      · rw [if_pos h3]; exact blk3fff (.val (.int p1)) (.val (.int p2)) (.val (.int p3)) (.val (.int p4)) i4 (.val (.int i5)) (.val (.int i6)) (.val (.int i7)) i8 (.val (.ref b)) st (.val (.int ex)) X0 hx hZ hw hby hml hown e0 (hs11 := One.val rfl) (hc168 := h1) (hc174 := h2) (hc181 := h3)
      · rw [if_neg h3]; exact blk3fft (.val (.int p1)) (.val (.int p2)) (.val (.int p3)) (.val (.int p4)) i4 (.val (.int i5)) (.val (.int i6)) (.val (.int i7)) i8 (.val (.ref b)) st (.val (.int ex)) X0 hx hZ hw hby hml hown e0 (hc168 := h1) (hc174 := h2) (hc181 := h3)
    · rw [if_neg h2]; exact blk3ft (.val (.int p1)) (.val (.int p2)) (.val (.int p3)) (.val (.int p4)) i4 (.val (.int i5)) (.val (.int i6)) (.val (.int i7)) (.val (.int i8)) (.val (.ref b)) st (.val (.int ex)) X0 hx hZ hw hby hml hown e0 (hc168 := h1) (hc174 := h2)
set_option maxRecDepth 65536 in
set_option maxHeartbeats 40000000 in
theorem blk2t {p : Program} {l : Launch} {e : Env} {R : Room} {s : State} {m : MethodId} {args : Array Value} {below : List Frame} {meth : Method} {c : Code} {T0 : State} {locs : List Loc} {cells slots : Nat} {Z : State} {a0 : Array Value} {h0 : Heap} (s0 : Slot) (s1 : Slot) (s2 : Slot) (s3 : Slot) (s4 : Slot) (s5 : Slot) (s6 : Slot) (s7 : Slot) (s8 : Slot) (s9 : Slot) (i10 : Int32) (s11 : Slot)
    (X0 : Stand p l e R s m args below meth c T0 locs cells slots) (hx : p.tables.exec = Jvm.exec) (hZ : Z.Warmed39 s.vm) (hw : ∀ d ∈ tables_1, d.before a0 Z = true) (hby : c.code = code) (hml : c.maxLocals = 12) (hown : s.vm.findClass "com/example/lading/lading/io/AlgorithmLineEndPinLaw" = some m.cls) (e0 : T0.heap = h0) (hc190 : (2 : Int32) < i10) :
    ∃ (T' : State), Stand p l e R s m args below meth c T' locs cells slots ∧ T'.heap = h0 ∧
      ∀ target, Steps p.tables e below (T'.setTop (mkF m 209 #[s0, s1, s2, s3, s4, s5, s6, s7, s8, s9, .val (.int i10), s11] [])) target → Steps p.tables e below (T0.setTop (mkF m 187 #[s0, s1, s2, s3, s4, s5, s6, s7, s8, s9, .val (.int i10), s11] [])) target := by

  refine ⟨T0, X0, e0, fun target kt => ?_⟩
  show Steps p.tables e below (T0.setTop (mkF m 187 #[s0, s1, s2, s3, s4, s5, s6, s7, s8, s9, .val (.int i10), s11] [])) _
  refine XS.iconst X0.here hx rfl (hb hby at_187) ?_
  show Steps p.tables e below (T0.setTop (mkF m 188 #[s0, s1, s2, s3, s4, s5, s6, s7, s8, s9, .val (.int i10), s11] [(.int (2 : Int32))])) _
  refine XS.iload X0.here hx rfl (hb hby at_188) rfl ?_
  show Steps p.tables e below (T0.setTop (mkF m 190 #[s0, s1, s2, s3, s4, s5, s6, s7, s8, s9, .val (.int i10), s11] [(.int i10), (.int (2 : Int32))])) _
  refine XS.icmpYes X0.here hx rfl (pc0 := 190) (pc' := 209) rfl (hb hby at_190) rfl (tlt hc190).1 (by decide) (by decide) ?_
  exact kt
set_option maxRecDepth 65536 in
set_option maxHeartbeats 40000000 in
theorem blk2ft {p : Program} {l : Launch} {e : Env} {R : Room} {s : State} {m : MethodId} {args : Array Value} {below : List Frame} {meth : Method} {c : Code} {T0 : State} {locs : List Loc} {cells slots : Nat} {Z : State} {a0 : Array Value} {h0 : Heap} (s0 : Slot) (s1 : Slot) (s2 : Slot) (s3 : Slot) (i4 : Int32) (s5 : Slot) (s6 : Slot) (s7 : Slot) (s8 : Slot) (s9 : Slot) (i10 : Int32) (s11 : Slot)
    (X0 : Stand p l e R s m args below meth c T0 locs cells slots) (hx : p.tables.exec = Jvm.exec) (hZ : Z.Warmed39 s.vm) (hw : ∀ d ∈ tables_1, d.before a0 Z = true) (hby : c.code = code) (hml : c.maxLocals = 12) (hown : s.vm.findClass "com/example/lading/lading/io/AlgorithmLineEndPinLaw" = some m.cls) (e0 : T0.heap = h0) (hc190 : ¬ ((2 : Int32) < i10)) (hc196 : ¬ ((2 : Int32) < i4)) :
    ∃ (T' : State), Stand p l e R s m args below meth c T' locs cells slots ∧ T'.heap = h0 ∧
      ∀ target, Steps p.tables e below (T'.setTop (mkF m 209 #[s0, s1, s2, s3, .val (.int i4), s5, s6, s7, s8, s9, .val (.int i10), s11] [])) target → Steps p.tables e below (T0.setTop (mkF m 187 #[s0, s1, s2, s3, .val (.int i4), s5, s6, s7, s8, s9, .val (.int i10), s11] [])) target := by

  refine ⟨T0, X0, e0, fun target kt => ?_⟩
  show Steps p.tables e below (T0.setTop (mkF m 187 #[s0, s1, s2, s3, .val (.int i4), s5, s6, s7, s8, s9, .val (.int i10), s11] [])) _
  refine XS.iconst X0.here hx rfl (hb hby at_187) ?_
  show Steps p.tables e below (T0.setTop (mkF m 188 #[s0, s1, s2, s3, .val (.int i4), s5, s6, s7, s8, s9, .val (.int i10), s11] [(.int (2 : Int32))])) _
  refine XS.iload X0.here hx rfl (hb hby at_188) rfl ?_
  show Steps p.tables e below (T0.setTop (mkF m 190 #[s0, s1, s2, s3, .val (.int i4), s5, s6, s7, s8, s9, .val (.int i10), s11] [(.int i10), (.int (2 : Int32))])) _
  refine XS.icmpNo X0.here hx rfl (hb hby at_190) rfl (flt hc190).1 ?_
  show Steps p.tables e below (T0.setTop (mkF m 193 #[s0, s1, s2, s3, .val (.int i4), s5, s6, s7, s8, s9, .val (.int i10), s11] [])) _
  refine XS.iconst X0.here hx rfl (hb hby at_193) ?_
  show Steps p.tables e below (T0.setTop (mkF m 194 #[s0, s1, s2, s3, .val (.int i4), s5, s6, s7, s8, s9, .val (.int i10), s11] [(.int (2 : Int32))])) _
  refine XS.iload X0.here hx rfl (hb hby at_194) rfl ?_
  show Steps p.tables e below (T0.setTop (mkF m 196 #[s0, s1, s2, s3, .val (.int i4), s5, s6, s7, s8, s9, .val (.int i10), s11] [(.int i4), (.int (2 : Int32))])) _
  refine XS.icmpYes X0.here hx rfl (pc0 := 196) (pc' := 209) rfl (hb hby at_196) rfl (flt hc196).2.1 (by decide) (by decide) ?_
  exact kt
set_option maxRecDepth 65536 in
set_option maxHeartbeats 40000000 in
theorem blk2fft {p : Program} {l : Launch} {e : Env} {R : Room} {s : State} {m : MethodId} {args : Array Value} {below : List Frame} {meth : Method} {c : Code} {T0 : State} {locs : List Loc} {cells slots : Nat} {Z : State} {a0 : Array Value} {h0 : Heap} (s0 : Slot) (s1 : Slot) (s2 : Slot) (s3 : Slot) (i4 : Int32) (s5 : Slot) (s6 : Slot) (i7 : Int32) (s8 : Slot) (s9 : Slot) (i10 : Int32) (s11 : Slot)
    (X0 : Stand p l e R s m args below meth c T0 locs cells slots) (hx : p.tables.exec = Jvm.exec) (hZ : Z.Warmed39 s.vm) (hw : ∀ d ∈ tables_1, d.before a0 Z = true) (hby : c.code = code) (hml : c.maxLocals = 12) (hown : s.vm.findClass "com/example/lading/lading/io/AlgorithmLineEndPinLaw" = some m.cls) (e0 : T0.heap = h0) (hc190 : ¬ ((2 : Int32) < i10)) (hc196 : (2 : Int32) < i4) (hc203 : ¬ (i7 = (10 : Int32))) :
    ∃ (T' : State), Stand p l e R s m args below meth c T' locs cells slots ∧ T'.heap = h0 ∧
      ∀ target, Steps p.tables e below (T'.setTop (mkF m 209 #[s0, s1, s2, s3, .val (.int i4), s5, s6, .val (.int i7), s8, s9, .val (.int i10), s11] [])) target → Steps p.tables e below (T0.setTop (mkF m 187 #[s0, s1, s2, s3, .val (.int i4), s5, s6, .val (.int i7), s8, s9, .val (.int i10), s11] [])) target := by

  refine ⟨T0, X0, e0, fun target kt => ?_⟩
  show Steps p.tables e below (T0.setTop (mkF m 187 #[s0, s1, s2, s3, .val (.int i4), s5, s6, .val (.int i7), s8, s9, .val (.int i10), s11] [])) _
  refine XS.iconst X0.here hx rfl (hb hby at_187) ?_
  show Steps p.tables e below (T0.setTop (mkF m 188 #[s0, s1, s2, s3, .val (.int i4), s5, s6, .val (.int i7), s8, s9, .val (.int i10), s11] [(.int (2 : Int32))])) _
  refine XS.iload X0.here hx rfl (hb hby at_188) rfl ?_
  show Steps p.tables e below (T0.setTop (mkF m 190 #[s0, s1, s2, s3, .val (.int i4), s5, s6, .val (.int i7), s8, s9, .val (.int i10), s11] [(.int i10), (.int (2 : Int32))])) _
  refine XS.icmpNo X0.here hx rfl (hb hby at_190) rfl (flt hc190).1 ?_
  show Steps p.tables e below (T0.setTop (mkF m 193 #[s0, s1, s2, s3, .val (.int i4), s5, s6, .val (.int i7), s8, s9, .val (.int i10), s11] [])) _
  refine XS.iconst X0.here hx rfl (hb hby at_193) ?_
  show Steps p.tables e below (T0.setTop (mkF m 194 #[s0, s1, s2, s3, .val (.int i4), s5, s6, .val (.int i7), s8, s9, .val (.int i10), s11] [(.int (2 : Int32))])) _
  refine XS.iload X0.here hx rfl (hb hby at_194) rfl ?_
  show Steps p.tables e below (T0.setTop (mkF m 196 #[s0, s1, s2, s3, .val (.int i4), s5, s6, .val (.int i7), s8, s9, .val (.int i10), s11] [(.int i4), (.int (2 : Int32))])) _
  refine XS.icmpNo X0.here hx rfl (hb hby at_196) rfl (tlt hc196).2.1 ?_
  show Steps p.tables e below (T0.setTop (mkF m 199 #[s0, s1, s2, s3, .val (.int i4), s5, s6, .val (.int i7), s8, s9, .val (.int i10), s11] [])) _
  refine XS.iload X0.here hx rfl (hb hby at_199) rfl ?_
  show Steps p.tables e below (T0.setTop (mkF m 201 #[s0, s1, s2, s3, .val (.int i4), s5, s6, .val (.int i7), s8, s9, .val (.int i10), s11] [(.int i7)])) _
  refine XS.bipush X0.here hx rfl (hb hby at_201) ?_
  show Steps p.tables e below (T0.setTop (mkF m 203 #[s0, s1, s2, s3, .val (.int i4), s5, s6, .val (.int i7), s8, s9, .val (.int i10), s11] [(.int (10 : Int32)), (.int i7)])) _
  refine XS.icmpYes X0.here hx rfl (pc0 := 203) (pc' := 209) rfl (hb hby at_203) rfl (feq hc203).2 (by decide) (by decide) ?_
  exact kt
theorem os0_207_blk2fff {s0 : Slot} {s1 : Slot} {s2 : Slot} {s3 : Slot} {z4 : Value} {s5 : Slot} {s6 : Slot} {z7 : Value} {s8 : Slot} {s9 : Slot} {z10 : Value} {s11 : Slot} {v : Int32} (h : One s11) : storeLocals #[s0, s1, s2, s3, .val z4, s5, s6, .val z7, s8, s9, .val z10, s11] 11 (.int v) = some #[s0, s1, s2, s3, .val z4, s5, s6, .val z7, s8, s9, .val z10, .val (.int v)] := by
  rcases h with rfl | ⟨w, rfl, hw⟩
  · rfl
  · cases w <;> first | rfl | (simp [Value.category] at hw)
set_option maxRecDepth 65536 in
set_option maxHeartbeats 40000000 in
theorem blk2fff {p : Program} {l : Launch} {e : Env} {R : Room} {s : State} {m : MethodId} {args : Array Value} {below : List Frame} {meth : Method} {c : Code} {T0 : State} {locs : List Loc} {cells slots : Nat} {Z : State} {a0 : Array Value} {h0 : Heap} (s0 : Slot) (s1 : Slot) (s2 : Slot) (s3 : Slot) (i4 : Int32) (s5 : Slot) (s6 : Slot) (i7 : Int32) (s8 : Slot) (s9 : Slot) (i10 : Int32) (s11 : Slot)
    (X0 : Stand p l e R s m args below meth c T0 locs cells slots) (hx : p.tables.exec = Jvm.exec) (hZ : Z.Warmed39 s.vm) (hw : ∀ d ∈ tables_1, d.before a0 Z = true) (hby : c.code = code) (hml : c.maxLocals = 12) (hown : s.vm.findClass "com/example/lading/lading/io/AlgorithmLineEndPinLaw" = some m.cls) (e0 : T0.heap = h0) (hs11 : One s11) (hc190 : ¬ ((2 : Int32) < i10)) (hc196 : (2 : Int32) < i4) (hc203 : i7 = (10 : Int32)) :
    ∃ (T' : State), Stand p l e R s m args below meth c T' locs cells slots ∧ T'.heap = h0 ∧
      ∀ target, Steps p.tables e below (T'.setTop (mkF m 209 #[s0, s1, s2, s3, .val (.int i4), s5, s6, .val (.int i7), s8, s9, .val (.int i10), .val (.int (2 : Int32))] [])) target → Steps p.tables e below (T0.setTop (mkF m 187 #[s0, s1, s2, s3, .val (.int i4), s5, s6, .val (.int i7), s8, s9, .val (.int i10), s11] [])) target := by

  refine ⟨T0, X0, e0, fun target kt => ?_⟩
  show Steps p.tables e below (T0.setTop (mkF m 187 #[s0, s1, s2, s3, .val (.int i4), s5, s6, .val (.int i7), s8, s9, .val (.int i10), s11] [])) _
  refine XS.iconst X0.here hx rfl (hb hby at_187) ?_
  show Steps p.tables e below (T0.setTop (mkF m 188 #[s0, s1, s2, s3, .val (.int i4), s5, s6, .val (.int i7), s8, s9, .val (.int i10), s11] [(.int (2 : Int32))])) _
  refine XS.iload X0.here hx rfl (hb hby at_188) rfl ?_
  show Steps p.tables e below (T0.setTop (mkF m 190 #[s0, s1, s2, s3, .val (.int i4), s5, s6, .val (.int i7), s8, s9, .val (.int i10), s11] [(.int i10), (.int (2 : Int32))])) _
  refine XS.icmpNo X0.here hx rfl (hb hby at_190) rfl (flt hc190).1 ?_
  show Steps p.tables e below (T0.setTop (mkF m 193 #[s0, s1, s2, s3, .val (.int i4), s5, s6, .val (.int i7), s8, s9, .val (.int i10), s11] [])) _
  refine XS.iconst X0.here hx rfl (hb hby at_193) ?_
  show Steps p.tables e below (T0.setTop (mkF m 194 #[s0, s1, s2, s3, .val (.int i4), s5, s6, .val (.int i7), s8, s9, .val (.int i10), s11] [(.int (2 : Int32))])) _
  refine XS.iload X0.here hx rfl (hb hby at_194) rfl ?_
  show Steps p.tables e below (T0.setTop (mkF m 196 #[s0, s1, s2, s3, .val (.int i4), s5, s6, .val (.int i7), s8, s9, .val (.int i10), s11] [(.int i4), (.int (2 : Int32))])) _
  refine XS.icmpNo X0.here hx rfl (hb hby at_196) rfl (tlt hc196).2.1 ?_
  show Steps p.tables e below (T0.setTop (mkF m 199 #[s0, s1, s2, s3, .val (.int i4), s5, s6, .val (.int i7), s8, s9, .val (.int i10), s11] [])) _
  refine XS.iload X0.here hx rfl (hb hby at_199) rfl ?_
  show Steps p.tables e below (T0.setTop (mkF m 201 #[s0, s1, s2, s3, .val (.int i4), s5, s6, .val (.int i7), s8, s9, .val (.int i10), s11] [(.int i7)])) _
  refine XS.bipush X0.here hx rfl (hb hby at_201) ?_
  show Steps p.tables e below (T0.setTop (mkF m 203 #[s0, s1, s2, s3, .val (.int i4), s5, s6, .val (.int i7), s8, s9, .val (.int i10), s11] [(.int (10 : Int32)), (.int i7)])) _
  refine XS.icmpNo X0.here hx rfl (hb hby at_203) rfl (teq hc203).2 ?_
  show Steps p.tables e below (T0.setTop (mkF m 206 #[s0, s1, s2, s3, .val (.int i4), s5, s6, .val (.int i7), s8, s9, .val (.int i10), s11] [])) _
  refine XS.iconst X0.here hx rfl (hb hby at_206) ?_
  show Steps p.tables e below (T0.setTop (mkF m 207 #[s0, s1, s2, s3, .val (.int i4), s5, s6, .val (.int i7), s8, s9, .val (.int i10), s11] [(.int (2 : Int32))])) _
  refine XS.istore X0.here hx rfl (hb hby at_207) rfl (l' := #[s0, s1, s2, s3, .val (.int i4), s5, s6, .val (.int i7), s8, s9, .val (.int i10), .val (.int (2 : Int32))]) (os0_207_blk2fff hs11) ?_
  exact kt
theorem blk2 {p : Program} {l : Launch} {e : Env} {R : Room} {s : State} {m : MethodId} {args : Array Value} {below : List Frame} {meth : Method} {c : Code} {T0 : State} {locs : List Loc} {cells slots : Nat} {Z : State} {a0 : Array Value} {h0 : Heap} (p1 p2 p3 p4 i4 i5 i6 i7 i8 : Int32) (b : Addr) (st ex : Int32) (X0 : Stand p l e R s m args below meth c T0 locs cells slots) (hx : p.tables.exec = Jvm.exec) (hZ : Z.Warmed39 s.vm) (hw : ∀ d ∈ tables_1, d.before a0 Z = true) (hby : c.code = code) (hml : c.maxLocals = 12) (hown : s.vm.findClass "com/example/lading/lading/io/AlgorithmLineEndPinLaw" = some m.cls) (e0 : T0.heap = h0) :
    ∃ (T' : State), Stand p l e R s m args below meth c T' locs cells slots ∧ T'.heap = h0 ∧
      ∀ target, Steps p.tables e below (T'.setTop (mkF m 209 #[.val (.int p1), .val (.int p2), .val (.int p3), .val (.int p4), .val (.int i4), .val (.int i5), .val (.int i6), .val (.int i7), .val (.int i8), .val (.ref b), .val (.int st), .val (.int (own_step 2 i7 i4 st ex))] [])) target → Steps p.tables e below (T0.setTop (mkF m 187 #[.val (.int p1), .val (.int p2), .val (.int p3), .val (.int p4), .val (.int i4), .val (.int i5), .val (.int i6), .val (.int i7), .val (.int i8), .val (.ref b), .val (.int st), .val (.int ex)] [])) target := by
  unfold own_step
  by_cases h1 : (2 : Int32) < st
  · rw [if_pos h1]; exact blk2t (.val (.int p1)) (.val (.int p2)) (.val (.int p3)) (.val (.int p4)) (.val (.int i4)) (.val (.int i5)) (.val (.int i6)) (.val (.int i7)) (.val (.int i8)) (.val (.ref b)) st (.val (.int ex)) X0 hx hZ hw hby hml hown e0 (hc190 := h1)
  · rw [if_neg h1]
    by_cases h2 : (2 : Int32) < i4
    · rw [if_pos h2]
      by_cases h3 : i7 = 10
      · rw [if_pos h3]; exact blk2fff (.val (.int p1)) (.val (.int p2)) (.val (.int p3)) (.val (.int p4)) i4 (.val (.int i5)) (.val (.int i6)) i7 (.val (.int i8)) (.val (.ref b)) st (.val (.int ex)) X0 hx hZ hw hby hml hown e0 (hs11 := One.val rfl) (hc190 := h1) (hc196 := h2) (hc203 := h3)
      · rw [if_neg h3]; exact blk2fft (.val (.int p1)) (.val (.int p2)) (.val (.int p3)) (.val (.int p4)) i4 (.val (.int i5)) (.val (.int i6)) i7 (.val (.int i8)) (.val (.ref b)) st (.val (.int ex)) X0 hx hZ hw hby hml hown e0 (hc190 := h1) (hc196 := h2) (hc203 := h3)
    · rw [if_neg h2]; exact blk2ft (.val (.int p1)) (.val (.int p2)) (.val (.int p3)) (.val (.int p4)) i4 (.val (.int i5)) (.val (.int i6)) (.val (.int i7)) (.val (.int i8)) (.val (.ref b)) st (.val (.int ex)) X0 hx hZ hw hby hml hown e0 (hc190 := h1) (hc196 := h2)
set_option maxRecDepth 65536 in
set_option maxHeartbeats 40000000 in
theorem blk1t {p : Program} {l : Launch} {e : Env} {R : Room} {s : State} {m : MethodId} {args : Array Value} {below : List Frame} {meth : Method} {c : Code} {T0 : State} {locs : List Loc} {cells slots : Nat} {Z : State} {a0 : Array Value} {h0 : Heap} (s0 : Slot) (s1 : Slot) (s2 : Slot) (s3 : Slot) (s4 : Slot) (s5 : Slot) (s6 : Slot) (s7 : Slot) (s8 : Slot) (s9 : Slot) (i10 : Int32) (s11 : Slot)
    (X0 : Stand p l e R s m args below meth c T0 locs cells slots) (hx : p.tables.exec = Jvm.exec) (hZ : Z.Warmed39 s.vm) (hw : ∀ d ∈ tables_1, d.before a0 Z = true) (hby : c.code = code) (hml : c.maxLocals = 12) (hown : s.vm.findClass "com/example/lading/lading/io/AlgorithmLineEndPinLaw" = some m.cls) (e0 : T0.heap = h0) (hc212 : (1 : Int32) < i10) :
    ∃ (T' : State), Stand p l e R s m args below meth c T' locs cells slots ∧ T'.heap = h0 ∧
      ∀ target, Steps p.tables e below (T'.setTop (mkF m 231 #[s0, s1, s2, s3, s4, s5, s6, s7, s8, s9, .val (.int i10), s11] [])) target → Steps p.tables e below (T0.setTop (mkF m 209 #[s0, s1, s2, s3, s4, s5, s6, s7, s8, s9, .val (.int i10), s11] [])) target := by

  refine ⟨T0, X0, e0, fun target kt => ?_⟩
  show Steps p.tables e below (T0.setTop (mkF m 209 #[s0, s1, s2, s3, s4, s5, s6, s7, s8, s9, .val (.int i10), s11] [])) _
  refine XS.iconst X0.here hx rfl (hb hby at_209) ?_
  show Steps p.tables e below (T0.setTop (mkF m 210 #[s0, s1, s2, s3, s4, s5, s6, s7, s8, s9, .val (.int i10), s11] [(.int (1 : Int32))])) _
  refine XS.iload X0.here hx rfl (hb hby at_210) rfl ?_
  show Steps p.tables e below (T0.setTop (mkF m 212 #[s0, s1, s2, s3, s4, s5, s6, s7, s8, s9, .val (.int i10), s11] [(.int i10), (.int (1 : Int32))])) _
  refine XS.icmpYes X0.here hx rfl (pc0 := 212) (pc' := 231) rfl (hb hby at_212) rfl (tlt hc212).1 (by decide) (by decide) ?_
  exact kt
set_option maxRecDepth 65536 in
set_option maxHeartbeats 40000000 in
theorem blk1ft {p : Program} {l : Launch} {e : Env} {R : Room} {s : State} {m : MethodId} {args : Array Value} {below : List Frame} {meth : Method} {c : Code} {T0 : State} {locs : List Loc} {cells slots : Nat} {Z : State} {a0 : Array Value} {h0 : Heap} (s0 : Slot) (s1 : Slot) (s2 : Slot) (s3 : Slot) (i4 : Int32) (s5 : Slot) (s6 : Slot) (s7 : Slot) (s8 : Slot) (s9 : Slot) (i10 : Int32) (s11 : Slot)
    (X0 : Stand p l e R s m args below meth c T0 locs cells slots) (hx : p.tables.exec = Jvm.exec) (hZ : Z.Warmed39 s.vm) (hw : ∀ d ∈ tables_1, d.before a0 Z = true) (hby : c.code = code) (hml : c.maxLocals = 12) (hown : s.vm.findClass "com/example/lading/lading/io/AlgorithmLineEndPinLaw" = some m.cls) (e0 : T0.heap = h0) (hc212 : ¬ ((1 : Int32) < i10)) (hc218 : ¬ ((1 : Int32) < i4)) :
    ∃ (T' : State), Stand p l e R s m args below meth c T' locs cells slots ∧ T'.heap = h0 ∧
      ∀ target, Steps p.tables e below (T'.setTop (mkF m 231 #[s0, s1, s2, s3, .val (.int i4), s5, s6, s7, s8, s9, .val (.int i10), s11] [])) target → Steps p.tables e below (T0.setTop (mkF m 209 #[s0, s1, s2, s3, .val (.int i4), s5, s6, s7, s8, s9, .val (.int i10), s11] [])) target := by

  refine ⟨T0, X0, e0, fun target kt => ?_⟩
  show Steps p.tables e below (T0.setTop (mkF m 209 #[s0, s1, s2, s3, .val (.int i4), s5, s6, s7, s8, s9, .val (.int i10), s11] [])) _
  refine XS.iconst X0.here hx rfl (hb hby at_209) ?_
  show Steps p.tables e below (T0.setTop (mkF m 210 #[s0, s1, s2, s3, .val (.int i4), s5, s6, s7, s8, s9, .val (.int i10), s11] [(.int (1 : Int32))])) _
  refine XS.iload X0.here hx rfl (hb hby at_210) rfl ?_
  show Steps p.tables e below (T0.setTop (mkF m 212 #[s0, s1, s2, s3, .val (.int i4), s5, s6, s7, s8, s9, .val (.int i10), s11] [(.int i10), (.int (1 : Int32))])) _
  refine XS.icmpNo X0.here hx rfl (hb hby at_212) rfl (flt hc212).1 ?_
  show Steps p.tables e below (T0.setTop (mkF m 215 #[s0, s1, s2, s3, .val (.int i4), s5, s6, s7, s8, s9, .val (.int i10), s11] [])) _
  refine XS.iconst X0.here hx rfl (hb hby at_215) ?_
  show Steps p.tables e below (T0.setTop (mkF m 216 #[s0, s1, s2, s3, .val (.int i4), s5, s6, s7, s8, s9, .val (.int i10), s11] [(.int (1 : Int32))])) _
  refine XS.iload X0.here hx rfl (hb hby at_216) rfl ?_
  show Steps p.tables e below (T0.setTop (mkF m 218 #[s0, s1, s2, s3, .val (.int i4), s5, s6, s7, s8, s9, .val (.int i10), s11] [(.int i4), (.int (1 : Int32))])) _
  refine XS.icmpYes X0.here hx rfl (pc0 := 218) (pc' := 231) rfl (hb hby at_218) rfl (flt hc218).2.1 (by decide) (by decide) ?_
  exact kt
set_option maxRecDepth 65536 in
set_option maxHeartbeats 40000000 in
theorem blk1fft {p : Program} {l : Launch} {e : Env} {R : Room} {s : State} {m : MethodId} {args : Array Value} {below : List Frame} {meth : Method} {c : Code} {T0 : State} {locs : List Loc} {cells slots : Nat} {Z : State} {a0 : Array Value} {h0 : Heap} (s0 : Slot) (s1 : Slot) (s2 : Slot) (s3 : Slot) (i4 : Int32) (s5 : Slot) (i6 : Int32) (s7 : Slot) (s8 : Slot) (s9 : Slot) (i10 : Int32) (s11 : Slot)
    (X0 : Stand p l e R s m args below meth c T0 locs cells slots) (hx : p.tables.exec = Jvm.exec) (hZ : Z.Warmed39 s.vm) (hw : ∀ d ∈ tables_1, d.before a0 Z = true) (hby : c.code = code) (hml : c.maxLocals = 12) (hown : s.vm.findClass "com/example/lading/lading/io/AlgorithmLineEndPinLaw" = some m.cls) (e0 : T0.heap = h0) (hc212 : ¬ ((1 : Int32) < i10)) (hc218 : (1 : Int32) < i4) (hc225 : ¬ (i6 = (10 : Int32))) :
    ∃ (T' : State), Stand p l e R s m args below meth c T' locs cells slots ∧ T'.heap = h0 ∧
      ∀ target, Steps p.tables e below (T'.setTop (mkF m 231 #[s0, s1, s2, s3, .val (.int i4), s5, .val (.int i6), s7, s8, s9, .val (.int i10), s11] [])) target → Steps p.tables e below (T0.setTop (mkF m 209 #[s0, s1, s2, s3, .val (.int i4), s5, .val (.int i6), s7, s8, s9, .val (.int i10), s11] [])) target := by

  refine ⟨T0, X0, e0, fun target kt => ?_⟩
  show Steps p.tables e below (T0.setTop (mkF m 209 #[s0, s1, s2, s3, .val (.int i4), s5, .val (.int i6), s7, s8, s9, .val (.int i10), s11] [])) _
  refine XS.iconst X0.here hx rfl (hb hby at_209) ?_
  show Steps p.tables e below (T0.setTop (mkF m 210 #[s0, s1, s2, s3, .val (.int i4), s5, .val (.int i6), s7, s8, s9, .val (.int i10), s11] [(.int (1 : Int32))])) _
  refine XS.iload X0.here hx rfl (hb hby at_210) rfl ?_
  show Steps p.tables e below (T0.setTop (mkF m 212 #[s0, s1, s2, s3, .val (.int i4), s5, .val (.int i6), s7, s8, s9, .val (.int i10), s11] [(.int i10), (.int (1 : Int32))])) _
  refine XS.icmpNo X0.here hx rfl (hb hby at_212) rfl (flt hc212).1 ?_
  show Steps p.tables e below (T0.setTop (mkF m 215 #[s0, s1, s2, s3, .val (.int i4), s5, .val (.int i6), s7, s8, s9, .val (.int i10), s11] [])) _
  refine XS.iconst X0.here hx rfl (hb hby at_215) ?_
  show Steps p.tables e below (T0.setTop (mkF m 216 #[s0, s1, s2, s3, .val (.int i4), s5, .val (.int i6), s7, s8, s9, .val (.int i10), s11] [(.int (1 : Int32))])) _
  refine XS.iload X0.here hx rfl (hb hby at_216) rfl ?_
  show Steps p.tables e below (T0.setTop (mkF m 218 #[s0, s1, s2, s3, .val (.int i4), s5, .val (.int i6), s7, s8, s9, .val (.int i10), s11] [(.int i4), (.int (1 : Int32))])) _
  refine XS.icmpNo X0.here hx rfl (hb hby at_218) rfl (tlt hc218).2.1 ?_
  show Steps p.tables e below (T0.setTop (mkF m 221 #[s0, s1, s2, s3, .val (.int i4), s5, .val (.int i6), s7, s8, s9, .val (.int i10), s11] [])) _
  refine XS.iload X0.here hx rfl (hb hby at_221) rfl ?_
  show Steps p.tables e below (T0.setTop (mkF m 223 #[s0, s1, s2, s3, .val (.int i4), s5, .val (.int i6), s7, s8, s9, .val (.int i10), s11] [(.int i6)])) _
  refine XS.bipush X0.here hx rfl (hb hby at_223) ?_
  show Steps p.tables e below (T0.setTop (mkF m 225 #[s0, s1, s2, s3, .val (.int i4), s5, .val (.int i6), s7, s8, s9, .val (.int i10), s11] [(.int (10 : Int32)), (.int i6)])) _
  refine XS.icmpYes X0.here hx rfl (pc0 := 225) (pc' := 231) rfl (hb hby at_225) rfl (feq hc225).2 (by decide) (by decide) ?_
  exact kt
theorem os0_229_blk1fff {s0 : Slot} {s1 : Slot} {s2 : Slot} {s3 : Slot} {z4 : Value} {s5 : Slot} {z6 : Value} {s7 : Slot} {s8 : Slot} {s9 : Slot} {z10 : Value} {s11 : Slot} {v : Int32} (h : One s11) : storeLocals #[s0, s1, s2, s3, .val z4, s5, .val z6, s7, s8, s9, .val z10, s11] 11 (.int v) = some #[s0, s1, s2, s3, .val z4, s5, .val z6, s7, s8, s9, .val z10, .val (.int v)] := by
  rcases h with rfl | ⟨w, rfl, hw⟩
  · rfl
  · cases w <;> first | rfl | (simp [Value.category] at hw)
set_option maxRecDepth 65536 in
set_option maxHeartbeats 40000000 in
theorem blk1fff {p : Program} {l : Launch} {e : Env} {R : Room} {s : State} {m : MethodId} {args : Array Value} {below : List Frame} {meth : Method} {c : Code} {T0 : State} {locs : List Loc} {cells slots : Nat} {Z : State} {a0 : Array Value} {h0 : Heap} (s0 : Slot) (s1 : Slot) (s2 : Slot) (s3 : Slot) (i4 : Int32) (s5 : Slot) (i6 : Int32) (s7 : Slot) (s8 : Slot) (s9 : Slot) (i10 : Int32) (s11 : Slot)
    (X0 : Stand p l e R s m args below meth c T0 locs cells slots) (hx : p.tables.exec = Jvm.exec) (hZ : Z.Warmed39 s.vm) (hw : ∀ d ∈ tables_1, d.before a0 Z = true) (hby : c.code = code) (hml : c.maxLocals = 12) (hown : s.vm.findClass "com/example/lading/lading/io/AlgorithmLineEndPinLaw" = some m.cls) (e0 : T0.heap = h0) (hs11 : One s11) (hc212 : ¬ ((1 : Int32) < i10)) (hc218 : (1 : Int32) < i4) (hc225 : i6 = (10 : Int32)) :
    ∃ (T' : State), Stand p l e R s m args below meth c T' locs cells slots ∧ T'.heap = h0 ∧
      ∀ target, Steps p.tables e below (T'.setTop (mkF m 231 #[s0, s1, s2, s3, .val (.int i4), s5, .val (.int i6), s7, s8, s9, .val (.int i10), .val (.int (1 : Int32))] [])) target → Steps p.tables e below (T0.setTop (mkF m 209 #[s0, s1, s2, s3, .val (.int i4), s5, .val (.int i6), s7, s8, s9, .val (.int i10), s11] [])) target := by

  refine ⟨T0, X0, e0, fun target kt => ?_⟩
  show Steps p.tables e below (T0.setTop (mkF m 209 #[s0, s1, s2, s3, .val (.int i4), s5, .val (.int i6), s7, s8, s9, .val (.int i10), s11] [])) _
  refine XS.iconst X0.here hx rfl (hb hby at_209) ?_
  show Steps p.tables e below (T0.setTop (mkF m 210 #[s0, s1, s2, s3, .val (.int i4), s5, .val (.int i6), s7, s8, s9, .val (.int i10), s11] [(.int (1 : Int32))])) _
  refine XS.iload X0.here hx rfl (hb hby at_210) rfl ?_
  show Steps p.tables e below (T0.setTop (mkF m 212 #[s0, s1, s2, s3, .val (.int i4), s5, .val (.int i6), s7, s8, s9, .val (.int i10), s11] [(.int i10), (.int (1 : Int32))])) _
  refine XS.icmpNo X0.here hx rfl (hb hby at_212) rfl (flt hc212).1 ?_
  show Steps p.tables e below (T0.setTop (mkF m 215 #[s0, s1, s2, s3, .val (.int i4), s5, .val (.int i6), s7, s8, s9, .val (.int i10), s11] [])) _
  refine XS.iconst X0.here hx rfl (hb hby at_215) ?_
  show Steps p.tables e below (T0.setTop (mkF m 216 #[s0, s1, s2, s3, .val (.int i4), s5, .val (.int i6), s7, s8, s9, .val (.int i10), s11] [(.int (1 : Int32))])) _
  refine XS.iload X0.here hx rfl (hb hby at_216) rfl ?_
  show Steps p.tables e below (T0.setTop (mkF m 218 #[s0, s1, s2, s3, .val (.int i4), s5, .val (.int i6), s7, s8, s9, .val (.int i10), s11] [(.int i4), (.int (1 : Int32))])) _
  refine XS.icmpNo X0.here hx rfl (hb hby at_218) rfl (tlt hc218).2.1 ?_
  show Steps p.tables e below (T0.setTop (mkF m 221 #[s0, s1, s2, s3, .val (.int i4), s5, .val (.int i6), s7, s8, s9, .val (.int i10), s11] [])) _
  refine XS.iload X0.here hx rfl (hb hby at_221) rfl ?_
  show Steps p.tables e below (T0.setTop (mkF m 223 #[s0, s1, s2, s3, .val (.int i4), s5, .val (.int i6), s7, s8, s9, .val (.int i10), s11] [(.int i6)])) _
  refine XS.bipush X0.here hx rfl (hb hby at_223) ?_
  show Steps p.tables e below (T0.setTop (mkF m 225 #[s0, s1, s2, s3, .val (.int i4), s5, .val (.int i6), s7, s8, s9, .val (.int i10), s11] [(.int (10 : Int32)), (.int i6)])) _
  refine XS.icmpNo X0.here hx rfl (hb hby at_225) rfl (teq hc225).2 ?_
  show Steps p.tables e below (T0.setTop (mkF m 228 #[s0, s1, s2, s3, .val (.int i4), s5, .val (.int i6), s7, s8, s9, .val (.int i10), s11] [])) _
  refine XS.iconst X0.here hx rfl (hb hby at_228) ?_
  show Steps p.tables e below (T0.setTop (mkF m 229 #[s0, s1, s2, s3, .val (.int i4), s5, .val (.int i6), s7, s8, s9, .val (.int i10), s11] [(.int (1 : Int32))])) _
  refine XS.istore X0.here hx rfl (hb hby at_229) rfl (l' := #[s0, s1, s2, s3, .val (.int i4), s5, .val (.int i6), s7, s8, s9, .val (.int i10), .val (.int (1 : Int32))]) (os0_229_blk1fff hs11) ?_
  exact kt
theorem blk1 {p : Program} {l : Launch} {e : Env} {R : Room} {s : State} {m : MethodId} {args : Array Value} {below : List Frame} {meth : Method} {c : Code} {T0 : State} {locs : List Loc} {cells slots : Nat} {Z : State} {a0 : Array Value} {h0 : Heap} (p1 p2 p3 p4 i4 i5 i6 i7 i8 : Int32) (b : Addr) (st ex : Int32) (X0 : Stand p l e R s m args below meth c T0 locs cells slots) (hx : p.tables.exec = Jvm.exec) (hZ : Z.Warmed39 s.vm) (hw : ∀ d ∈ tables_1, d.before a0 Z = true) (hby : c.code = code) (hml : c.maxLocals = 12) (hown : s.vm.findClass "com/example/lading/lading/io/AlgorithmLineEndPinLaw" = some m.cls) (e0 : T0.heap = h0) :
    ∃ (T' : State), Stand p l e R s m args below meth c T' locs cells slots ∧ T'.heap = h0 ∧
      ∀ target, Steps p.tables e below (T'.setTop (mkF m 231 #[.val (.int p1), .val (.int p2), .val (.int p3), .val (.int p4), .val (.int i4), .val (.int i5), .val (.int i6), .val (.int i7), .val (.int i8), .val (.ref b), .val (.int st), .val (.int (own_step 1 i6 i4 st ex))] [])) target → Steps p.tables e below (T0.setTop (mkF m 209 #[.val (.int p1), .val (.int p2), .val (.int p3), .val (.int p4), .val (.int i4), .val (.int i5), .val (.int i6), .val (.int i7), .val (.int i8), .val (.ref b), .val (.int st), .val (.int ex)] [])) target := by
  unfold own_step
  by_cases h1 : (1 : Int32) < st
  · rw [if_pos h1]; exact blk1t (.val (.int p1)) (.val (.int p2)) (.val (.int p3)) (.val (.int p4)) (.val (.int i4)) (.val (.int i5)) (.val (.int i6)) (.val (.int i7)) (.val (.int i8)) (.val (.ref b)) st (.val (.int ex)) X0 hx hZ hw hby hml hown e0 (hc212 := h1)
  · rw [if_neg h1]
    by_cases h2 : (1 : Int32) < i4
    · rw [if_pos h2]
      by_cases h3 : i6 = 10
      · rw [if_pos h3]; exact blk1fff (.val (.int p1)) (.val (.int p2)) (.val (.int p3)) (.val (.int p4)) i4 (.val (.int i5)) i6 (.val (.int i7)) (.val (.int i8)) (.val (.ref b)) st (.val (.int ex)) X0 hx hZ hw hby hml hown e0 (hs11 := One.val rfl) (hc212 := h1) (hc218 := h2) (hc225 := h3)
      · rw [if_neg h3]; exact blk1fft (.val (.int p1)) (.val (.int p2)) (.val (.int p3)) (.val (.int p4)) i4 (.val (.int i5)) i6 (.val (.int i7)) (.val (.int i8)) (.val (.ref b)) st (.val (.int ex)) X0 hx hZ hw hby hml hown e0 (hc212 := h1) (hc218 := h2) (hc225 := h3)
    · rw [if_neg h2]; exact blk1ft (.val (.int p1)) (.val (.int p2)) (.val (.int p3)) (.val (.int p4)) i4 (.val (.int i5)) (.val (.int i6)) (.val (.int i7)) (.val (.int i8)) (.val (.ref b)) st (.val (.int ex)) X0 hx hZ hw hby hml hown e0 (hc212 := h1) (hc218 := h2)
set_option maxRecDepth 65536 in
set_option maxHeartbeats 40000000 in
theorem blk0t {p : Program} {l : Launch} {e : Env} {R : Room} {s : State} {m : MethodId} {args : Array Value} {below : List Frame} {meth : Method} {c : Code} {T0 : State} {locs : List Loc} {cells slots : Nat} {Z : State} {a0 : Array Value} {h0 : Heap} (s0 : Slot) (s1 : Slot) (s2 : Slot) (s3 : Slot) (s4 : Slot) (s5 : Slot) (s6 : Slot) (s7 : Slot) (s8 : Slot) (s9 : Slot) (i10 : Int32) (s11 : Slot)
    (X0 : Stand p l e R s m args below meth c T0 locs cells slots) (hx : p.tables.exec = Jvm.exec) (hZ : Z.Warmed39 s.vm) (hw : ∀ d ∈ tables_1, d.before a0 Z = true) (hby : c.code = code) (hml : c.maxLocals = 12) (hown : s.vm.findClass "com/example/lading/lading/io/AlgorithmLineEndPinLaw" = some m.cls) (e0 : T0.heap = h0) (hc234 : (0 : Int32) < i10) :
    ∃ (T' : State), Stand p l e R s m args below meth c T' locs cells slots ∧ T'.heap = h0 ∧
      ∀ target, Steps p.tables e below (T'.setTop (mkF m 253 #[s0, s1, s2, s3, s4, s5, s6, s7, s8, s9, .val (.int i10), s11] [])) target → Steps p.tables e below (T0.setTop (mkF m 231 #[s0, s1, s2, s3, s4, s5, s6, s7, s8, s9, .val (.int i10), s11] [])) target := by

  refine ⟨T0, X0, e0, fun target kt => ?_⟩
  show Steps p.tables e below (T0.setTop (mkF m 231 #[s0, s1, s2, s3, s4, s5, s6, s7, s8, s9, .val (.int i10), s11] [])) _
  refine XS.iconst X0.here hx rfl (hb hby at_231) ?_
  show Steps p.tables e below (T0.setTop (mkF m 232 #[s0, s1, s2, s3, s4, s5, s6, s7, s8, s9, .val (.int i10), s11] [(.int (0 : Int32))])) _
  refine XS.iload X0.here hx rfl (hb hby at_232) rfl ?_
  show Steps p.tables e below (T0.setTop (mkF m 234 #[s0, s1, s2, s3, s4, s5, s6, s7, s8, s9, .val (.int i10), s11] [(.int i10), (.int (0 : Int32))])) _
  refine XS.icmpYes X0.here hx rfl (pc0 := 234) (pc' := 253) rfl (hb hby at_234) rfl (tlt hc234).1 (by decide) (by decide) ?_
  exact kt
set_option maxRecDepth 65536 in
set_option maxHeartbeats 40000000 in
theorem blk0ft {p : Program} {l : Launch} {e : Env} {R : Room} {s : State} {m : MethodId} {args : Array Value} {below : List Frame} {meth : Method} {c : Code} {T0 : State} {locs : List Loc} {cells slots : Nat} {Z : State} {a0 : Array Value} {h0 : Heap} (s0 : Slot) (s1 : Slot) (s2 : Slot) (s3 : Slot) (i4 : Int32) (s5 : Slot) (s6 : Slot) (s7 : Slot) (s8 : Slot) (s9 : Slot) (i10 : Int32) (s11 : Slot)
    (X0 : Stand p l e R s m args below meth c T0 locs cells slots) (hx : p.tables.exec = Jvm.exec) (hZ : Z.Warmed39 s.vm) (hw : ∀ d ∈ tables_1, d.before a0 Z = true) (hby : c.code = code) (hml : c.maxLocals = 12) (hown : s.vm.findClass "com/example/lading/lading/io/AlgorithmLineEndPinLaw" = some m.cls) (e0 : T0.heap = h0) (hc234 : ¬ ((0 : Int32) < i10)) (hc240 : ¬ ((0 : Int32) < i4)) :
    ∃ (T' : State), Stand p l e R s m args below meth c T' locs cells slots ∧ T'.heap = h0 ∧
      ∀ target, Steps p.tables e below (T'.setTop (mkF m 253 #[s0, s1, s2, s3, .val (.int i4), s5, s6, s7, s8, s9, .val (.int i10), s11] [])) target → Steps p.tables e below (T0.setTop (mkF m 231 #[s0, s1, s2, s3, .val (.int i4), s5, s6, s7, s8, s9, .val (.int i10), s11] [])) target := by

  refine ⟨T0, X0, e0, fun target kt => ?_⟩
  show Steps p.tables e below (T0.setTop (mkF m 231 #[s0, s1, s2, s3, .val (.int i4), s5, s6, s7, s8, s9, .val (.int i10), s11] [])) _
  refine XS.iconst X0.here hx rfl (hb hby at_231) ?_
  show Steps p.tables e below (T0.setTop (mkF m 232 #[s0, s1, s2, s3, .val (.int i4), s5, s6, s7, s8, s9, .val (.int i10), s11] [(.int (0 : Int32))])) _
  refine XS.iload X0.here hx rfl (hb hby at_232) rfl ?_
  show Steps p.tables e below (T0.setTop (mkF m 234 #[s0, s1, s2, s3, .val (.int i4), s5, s6, s7, s8, s9, .val (.int i10), s11] [(.int i10), (.int (0 : Int32))])) _
  refine XS.icmpNo X0.here hx rfl (hb hby at_234) rfl (flt hc234).1 ?_
  show Steps p.tables e below (T0.setTop (mkF m 237 #[s0, s1, s2, s3, .val (.int i4), s5, s6, s7, s8, s9, .val (.int i10), s11] [])) _
  refine XS.iconst X0.here hx rfl (hb hby at_237) ?_
  show Steps p.tables e below (T0.setTop (mkF m 238 #[s0, s1, s2, s3, .val (.int i4), s5, s6, s7, s8, s9, .val (.int i10), s11] [(.int (0 : Int32))])) _
  refine XS.iload X0.here hx rfl (hb hby at_238) rfl ?_
  show Steps p.tables e below (T0.setTop (mkF m 240 #[s0, s1, s2, s3, .val (.int i4), s5, s6, s7, s8, s9, .val (.int i10), s11] [(.int i4), (.int (0 : Int32))])) _
  refine XS.icmpYes X0.here hx rfl (pc0 := 240) (pc' := 253) rfl (hb hby at_240) rfl (flt hc240).2.1 (by decide) (by decide) ?_
  exact kt
set_option maxRecDepth 65536 in
set_option maxHeartbeats 40000000 in
theorem blk0fft {p : Program} {l : Launch} {e : Env} {R : Room} {s : State} {m : MethodId} {args : Array Value} {below : List Frame} {meth : Method} {c : Code} {T0 : State} {locs : List Loc} {cells slots : Nat} {Z : State} {a0 : Array Value} {h0 : Heap} (s0 : Slot) (s1 : Slot) (s2 : Slot) (s3 : Slot) (i4 : Int32) (i5 : Int32) (s6 : Slot) (s7 : Slot) (s8 : Slot) (s9 : Slot) (i10 : Int32) (s11 : Slot)
    (X0 : Stand p l e R s m args below meth c T0 locs cells slots) (hx : p.tables.exec = Jvm.exec) (hZ : Z.Warmed39 s.vm) (hw : ∀ d ∈ tables_1, d.before a0 Z = true) (hby : c.code = code) (hml : c.maxLocals = 12) (hown : s.vm.findClass "com/example/lading/lading/io/AlgorithmLineEndPinLaw" = some m.cls) (e0 : T0.heap = h0) (hc234 : ¬ ((0 : Int32) < i10)) (hc240 : (0 : Int32) < i4) (hc247 : ¬ (i5 = (10 : Int32))) :
    ∃ (T' : State), Stand p l e R s m args below meth c T' locs cells slots ∧ T'.heap = h0 ∧
      ∀ target, Steps p.tables e below (T'.setTop (mkF m 253 #[s0, s1, s2, s3, .val (.int i4), .val (.int i5), s6, s7, s8, s9, .val (.int i10), s11] [])) target → Steps p.tables e below (T0.setTop (mkF m 231 #[s0, s1, s2, s3, .val (.int i4), .val (.int i5), s6, s7, s8, s9, .val (.int i10), s11] [])) target := by

  refine ⟨T0, X0, e0, fun target kt => ?_⟩
  show Steps p.tables e below (T0.setTop (mkF m 231 #[s0, s1, s2, s3, .val (.int i4), .val (.int i5), s6, s7, s8, s9, .val (.int i10), s11] [])) _
  refine XS.iconst X0.here hx rfl (hb hby at_231) ?_
  show Steps p.tables e below (T0.setTop (mkF m 232 #[s0, s1, s2, s3, .val (.int i4), .val (.int i5), s6, s7, s8, s9, .val (.int i10), s11] [(.int (0 : Int32))])) _
  refine XS.iload X0.here hx rfl (hb hby at_232) rfl ?_
  show Steps p.tables e below (T0.setTop (mkF m 234 #[s0, s1, s2, s3, .val (.int i4), .val (.int i5), s6, s7, s8, s9, .val (.int i10), s11] [(.int i10), (.int (0 : Int32))])) _
  refine XS.icmpNo X0.here hx rfl (hb hby at_234) rfl (flt hc234).1 ?_
  show Steps p.tables e below (T0.setTop (mkF m 237 #[s0, s1, s2, s3, .val (.int i4), .val (.int i5), s6, s7, s8, s9, .val (.int i10), s11] [])) _
  refine XS.iconst X0.here hx rfl (hb hby at_237) ?_
  show Steps p.tables e below (T0.setTop (mkF m 238 #[s0, s1, s2, s3, .val (.int i4), .val (.int i5), s6, s7, s8, s9, .val (.int i10), s11] [(.int (0 : Int32))])) _
  refine XS.iload X0.here hx rfl (hb hby at_238) rfl ?_
  show Steps p.tables e below (T0.setTop (mkF m 240 #[s0, s1, s2, s3, .val (.int i4), .val (.int i5), s6, s7, s8, s9, .val (.int i10), s11] [(.int i4), (.int (0 : Int32))])) _
  refine XS.icmpNo X0.here hx rfl (hb hby at_240) rfl (tlt hc240).2.1 ?_
  show Steps p.tables e below (T0.setTop (mkF m 243 #[s0, s1, s2, s3, .val (.int i4), .val (.int i5), s6, s7, s8, s9, .val (.int i10), s11] [])) _
  refine XS.iload X0.here hx rfl (hb hby at_243) rfl ?_
  show Steps p.tables e below (T0.setTop (mkF m 245 #[s0, s1, s2, s3, .val (.int i4), .val (.int i5), s6, s7, s8, s9, .val (.int i10), s11] [(.int i5)])) _
  refine XS.bipush X0.here hx rfl (hb hby at_245) ?_
  show Steps p.tables e below (T0.setTop (mkF m 247 #[s0, s1, s2, s3, .val (.int i4), .val (.int i5), s6, s7, s8, s9, .val (.int i10), s11] [(.int (10 : Int32)), (.int i5)])) _
  refine XS.icmpYes X0.here hx rfl (pc0 := 247) (pc' := 253) rfl (hb hby at_247) rfl (feq hc247).2 (by decide) (by decide) ?_
  exact kt
theorem os0_251_blk0fff {s0 : Slot} {s1 : Slot} {s2 : Slot} {s3 : Slot} {z4 : Value} {z5 : Value} {s6 : Slot} {s7 : Slot} {s8 : Slot} {s9 : Slot} {z10 : Value} {s11 : Slot} {v : Int32} (h : One s11) : storeLocals #[s0, s1, s2, s3, .val z4, .val z5, s6, s7, s8, s9, .val z10, s11] 11 (.int v) = some #[s0, s1, s2, s3, .val z4, .val z5, s6, s7, s8, s9, .val z10, .val (.int v)] := by
  rcases h with rfl | ⟨w, rfl, hw⟩
  · rfl
  · cases w <;> first | rfl | (simp [Value.category] at hw)
set_option maxRecDepth 65536 in
set_option maxHeartbeats 40000000 in
theorem blk0fff {p : Program} {l : Launch} {e : Env} {R : Room} {s : State} {m : MethodId} {args : Array Value} {below : List Frame} {meth : Method} {c : Code} {T0 : State} {locs : List Loc} {cells slots : Nat} {Z : State} {a0 : Array Value} {h0 : Heap} (s0 : Slot) (s1 : Slot) (s2 : Slot) (s3 : Slot) (i4 : Int32) (i5 : Int32) (s6 : Slot) (s7 : Slot) (s8 : Slot) (s9 : Slot) (i10 : Int32) (s11 : Slot)
    (X0 : Stand p l e R s m args below meth c T0 locs cells slots) (hx : p.tables.exec = Jvm.exec) (hZ : Z.Warmed39 s.vm) (hw : ∀ d ∈ tables_1, d.before a0 Z = true) (hby : c.code = code) (hml : c.maxLocals = 12) (hown : s.vm.findClass "com/example/lading/lading/io/AlgorithmLineEndPinLaw" = some m.cls) (e0 : T0.heap = h0) (hs11 : One s11) (hc234 : ¬ ((0 : Int32) < i10)) (hc240 : (0 : Int32) < i4) (hc247 : i5 = (10 : Int32)) :
    ∃ (T' : State), Stand p l e R s m args below meth c T' locs cells slots ∧ T'.heap = h0 ∧
      ∀ target, Steps p.tables e below (T'.setTop (mkF m 253 #[s0, s1, s2, s3, .val (.int i4), .val (.int i5), s6, s7, s8, s9, .val (.int i10), .val (.int (0 : Int32))] [])) target → Steps p.tables e below (T0.setTop (mkF m 231 #[s0, s1, s2, s3, .val (.int i4), .val (.int i5), s6, s7, s8, s9, .val (.int i10), s11] [])) target := by

  refine ⟨T0, X0, e0, fun target kt => ?_⟩
  show Steps p.tables e below (T0.setTop (mkF m 231 #[s0, s1, s2, s3, .val (.int i4), .val (.int i5), s6, s7, s8, s9, .val (.int i10), s11] [])) _
  refine XS.iconst X0.here hx rfl (hb hby at_231) ?_
  show Steps p.tables e below (T0.setTop (mkF m 232 #[s0, s1, s2, s3, .val (.int i4), .val (.int i5), s6, s7, s8, s9, .val (.int i10), s11] [(.int (0 : Int32))])) _
  refine XS.iload X0.here hx rfl (hb hby at_232) rfl ?_
  show Steps p.tables e below (T0.setTop (mkF m 234 #[s0, s1, s2, s3, .val (.int i4), .val (.int i5), s6, s7, s8, s9, .val (.int i10), s11] [(.int i10), (.int (0 : Int32))])) _
  refine XS.icmpNo X0.here hx rfl (hb hby at_234) rfl (flt hc234).1 ?_
  show Steps p.tables e below (T0.setTop (mkF m 237 #[s0, s1, s2, s3, .val (.int i4), .val (.int i5), s6, s7, s8, s9, .val (.int i10), s11] [])) _
  refine XS.iconst X0.here hx rfl (hb hby at_237) ?_
  show Steps p.tables e below (T0.setTop (mkF m 238 #[s0, s1, s2, s3, .val (.int i4), .val (.int i5), s6, s7, s8, s9, .val (.int i10), s11] [(.int (0 : Int32))])) _
  refine XS.iload X0.here hx rfl (hb hby at_238) rfl ?_
  show Steps p.tables e below (T0.setTop (mkF m 240 #[s0, s1, s2, s3, .val (.int i4), .val (.int i5), s6, s7, s8, s9, .val (.int i10), s11] [(.int i4), (.int (0 : Int32))])) _
  refine XS.icmpNo X0.here hx rfl (hb hby at_240) rfl (tlt hc240).2.1 ?_
  show Steps p.tables e below (T0.setTop (mkF m 243 #[s0, s1, s2, s3, .val (.int i4), .val (.int i5), s6, s7, s8, s9, .val (.int i10), s11] [])) _
  refine XS.iload X0.here hx rfl (hb hby at_243) rfl ?_
  show Steps p.tables e below (T0.setTop (mkF m 245 #[s0, s1, s2, s3, .val (.int i4), .val (.int i5), s6, s7, s8, s9, .val (.int i10), s11] [(.int i5)])) _
  refine XS.bipush X0.here hx rfl (hb hby at_245) ?_
  show Steps p.tables e below (T0.setTop (mkF m 247 #[s0, s1, s2, s3, .val (.int i4), .val (.int i5), s6, s7, s8, s9, .val (.int i10), s11] [(.int (10 : Int32)), (.int i5)])) _
  refine XS.icmpNo X0.here hx rfl (hb hby at_247) rfl (teq hc247).2 ?_
  show Steps p.tables e below (T0.setTop (mkF m 250 #[s0, s1, s2, s3, .val (.int i4), .val (.int i5), s6, s7, s8, s9, .val (.int i10), s11] [])) _
  refine XS.iconst X0.here hx rfl (hb hby at_250) ?_
  show Steps p.tables e below (T0.setTop (mkF m 251 #[s0, s1, s2, s3, .val (.int i4), .val (.int i5), s6, s7, s8, s9, .val (.int i10), s11] [(.int (0 : Int32))])) _
  refine XS.istore X0.here hx rfl (hb hby at_251) rfl (l' := #[s0, s1, s2, s3, .val (.int i4), .val (.int i5), s6, s7, s8, s9, .val (.int i10), .val (.int (0 : Int32))]) (os0_251_blk0fff hs11) ?_
  exact kt
theorem blk0 {p : Program} {l : Launch} {e : Env} {R : Room} {s : State} {m : MethodId} {args : Array Value} {below : List Frame} {meth : Method} {c : Code} {T0 : State} {locs : List Loc} {cells slots : Nat} {Z : State} {a0 : Array Value} {h0 : Heap} (p1 p2 p3 p4 i4 i5 i6 i7 i8 : Int32) (b : Addr) (st ex : Int32) (X0 : Stand p l e R s m args below meth c T0 locs cells slots) (hx : p.tables.exec = Jvm.exec) (hZ : Z.Warmed39 s.vm) (hw : ∀ d ∈ tables_1, d.before a0 Z = true) (hby : c.code = code) (hml : c.maxLocals = 12) (hown : s.vm.findClass "com/example/lading/lading/io/AlgorithmLineEndPinLaw" = some m.cls) (e0 : T0.heap = h0) :
    ∃ (T' : State), Stand p l e R s m args below meth c T' locs cells slots ∧ T'.heap = h0 ∧
      ∀ target, Steps p.tables e below (T'.setTop (mkF m 253 #[.val (.int p1), .val (.int p2), .val (.int p3), .val (.int p4), .val (.int i4), .val (.int i5), .val (.int i6), .val (.int i7), .val (.int i8), .val (.ref b), .val (.int st), .val (.int (own_step 0 i5 i4 st ex))] [])) target → Steps p.tables e below (T0.setTop (mkF m 231 #[.val (.int p1), .val (.int p2), .val (.int p3), .val (.int p4), .val (.int i4), .val (.int i5), .val (.int i6), .val (.int i7), .val (.int i8), .val (.ref b), .val (.int st), .val (.int ex)] [])) target := by
  unfold own_step
  by_cases h1 : (0 : Int32) < st
  · rw [if_pos h1]; exact blk0t (.val (.int p1)) (.val (.int p2)) (.val (.int p3)) (.val (.int p4)) (.val (.int i4)) (.val (.int i5)) (.val (.int i6)) (.val (.int i7)) (.val (.int i8)) (.val (.ref b)) st (.val (.int ex)) X0 hx hZ hw hby hml hown e0 (hc234 := h1)
  · rw [if_neg h1]
    by_cases h2 : (0 : Int32) < i4
    · rw [if_pos h2]
      by_cases h3 : i5 = 10
      · rw [if_pos h3]; exact blk0fff (.val (.int p1)) (.val (.int p2)) (.val (.int p3)) (.val (.int p4)) i4 i5 (.val (.int i6)) (.val (.int i7)) (.val (.int i8)) (.val (.ref b)) st (.val (.int ex)) X0 hx hZ hw hby hml hown e0 (hs11 := One.val rfl) (hc234 := h1) (hc240 := h2) (hc247 := h3)
      · rw [if_neg h3]; exact blk0fft (.val (.int p1)) (.val (.int p2)) (.val (.int p3)) (.val (.int p4)) i4 i5 (.val (.int i6)) (.val (.int i7)) (.val (.int i8)) (.val (.ref b)) st (.val (.int ex)) X0 hx hZ hw hby hml hown e0 (hc234 := h1) (hc240 := h2) (hc247 := h3)
    · rw [if_neg h2]; exact blk0ft (.val (.int p1)) (.val (.int p2)) (.val (.int p3)) (.val (.int p4)) i4 (.val (.int i5)) (.val (.int i6)) (.val (.int i7)) (.val (.int i8)) (.val (.ref b)) st (.val (.int ex)) X0 hx hZ hw hby hml hown e0 (hc234 := h1) (hc240 := h2)
theorem pn_0 : plainName "com/example/lading/lading/io/AlgorithmLineEndPinLaw" = true := by first | (simp [plainName, overriddenIn]; done) | decide +kernel
theorem pd_0_0 : parseMethodDescriptor "(III)B" = some ⟨[.int, .int, .int], some .byte⟩ := by decide +kernel
theorem pd_0_1 : parseMethodDescriptor "([BI)I" = some ⟨[(.array .byte), .int], some .int⟩ := by decide +kernel
theorem ef_0 (m : MethodId) (x0 : Int32) (x1 : Int32) (x2 : Int32) (x3 : Int32) : entryFrame m #[(.int x0), (.int x1), (.int x2), (.int x3)] maxLocals = mkF m 0 #[.val (.int x0), .val (.int x1), .val (.int x2), .val (.int x3), .unset, .unset, .unset, .unset, .unset, .unset, .unset, .unset] [] := by first | (simp [entryFrame, mkF, argsToLocals, Value.category, maxLocals]; done) | rfl
def Q0 (Z : State) (p1 : Int32) (p2 : Int32) (p3 : Int32) (p4 : Int32) (h0 : Heap) (n0 : Nat) (v : Option Value) (h : Heap) (L : List Loc) : Prop := v = some (.int 1) ∧ Fr n0 L
set_option maxRecDepth 65536 in
set_option maxHeartbeats 40000000 in
theorem rm0 (l : Launch) (Z : State) (a0 : Array Value) (hw : ∀ d ∈ tables_1, d.before a0 Z = true) (ws : List Jvm.Cond) (p1 : Int32) (p2 : Int32) (p3 : Int32) (p4 : Int32) (h0 : Heap) (n0 : Nat) (Z0 : n0 ≤ h0.size) :
    MetFree l x (head1 (Jvm.Cond.code x code maxLocals ret :: ws) room_1) (fun a U => a = #[(.int p1), (.int p2), (.int p3), (.int p4)] ∧ Z.Warmed39 U.vm ∧ U.heap = h0) (fun _ _ _ _ _ => True) (fun _ U o U' => ∃ v L, o = .returned v ∧ Q0 Z p1 p2 p3 p4 h0 n0 v U'.heap L ∧ FrameEnd U o U' L room_1.cells room_1.slots) := by
  refine MetFree.of_bodySF (plainFor_of_name pn_0) hisR ?_
  intro p e s m args below meth c s₁ Bd hml0 hP hK
  obtain ⟨rfl, hZ, hh⟩ := hP
  have hx := Bd.exec
  have hby := Bd.bytes
  have hml : c.maxLocals = 12 := hml0
  have hown : s.vm.findClass "com/example/lading/lading/io/AlgorithmLineEndPinLaw" = some m.cls := findClass_of_methodNamed Bd.named
  have hnm := (name_of_methodNamed Bd.named Bd.method).1
  have X0 : Stand p l e room_1 s m #[(.int p1), (.int p2), (.int p3), (.int p4)] below meth c s₁ [] 0 0 := Stand.of_body Bd
  have e0 : s₁.heap = h0 := by rw [← hh, Bd.state]; rfl
  have N0 := Fr.nil n0
  have pre0 : ∀ t, Steps p.tables e below (s₁.setTop (mkF m 0 #[.val (.int p1), .val (.int p2), .val (.int p3), .val (.int p4), .unset, .unset, .unset, .unset, .unset, .unset, .unset, .unset] [])) t → Steps p.tables e below (s₁.setTop (entryFrame m #[(.int p1), (.int p2), (.int p3), (.int p4)] maxLocals)) t := fun t k => castTop (ef_0 m p1 p2 p3 p4) k
  obtain ⟨n, hn, hlen⟩ := own_len p1
  obtain ⟨_, _, ⟨T5, L5, k5, n5⟩, -, X5, ⟨Lc5, hQ5, l5, y5, z5⟩, st5⟩ := Jvm.LawKit.callS X0 hx (y := (⟨"com/example/lading/lading/io/AlgorithmLineEndPinLaw", "pick", "(III)B"⟩ : MethodName)) hown (mvT hZ (hw _ (List.mem_of_getElem? (i := 0) rfl))) (mvT hZ (hw _ (List.mem_of_getElem? (i := 1) rfl))) (mvT hZ (hw _ (List.mem_of_getElem? (i := 2) rfl))) (mvT hZ (hw _ (List.mem_of_getElem? (i := 3) rfl))) (by decide) (backOf (W := 0) (rm1 l Z a0 hw [] p3 (0 : Int32) p4 h0 n0 Z0) hZ (hw _ (List.mem_of_getElem? (i := 3) rfl)) (hw _ (List.mem_of_getElem? (i := 2) rfl)) (by decide) (by decide)) (g := (mkF m 11 #[.val (.int p1), .val (.int p2), .val (.int p3), .val (.int p4), .val (.int (Int32.ofNat n)), .unset, .unset, .unset, .unset, .unset, .unset, .unset] [(.int p4), (.int (0 : Int32)), (.int p3)])) rfl (by rw [hml]; rfl) (argsL := [(.int p3), (.int (0 : Int32)), (.int p4)]) (rest := []) (lenOf pd_0_0 rfl) rfl (by show 2 * 0 + _ ≤ _; exact Nat.le_of_eq rfl) (hb hby at_11) (fun _ _ => ⟨rfl, e0, (by decide : 0 + 0 ≤ _), (by decide : 0 + 0 ≤ _)⟩)
  dsimp only [Pt.U, Pt.locs, Pt.cells, Pt.slots] at X5 l5 y5 z5 st5 hQ5
  subst l5 y5 z5
  obtain ⟨rfl, N5q, f0⟩ := hQ5
  have N5 := Fr.app N0 N5q
  obtain ⟨_, _, ⟨T6, L6, k6, n6⟩, -, X6, ⟨Lc6, hQ6, l6, y6, z6⟩, st6⟩ := Jvm.LawKit.callS X5 hx (y := (⟨"com/example/lading/lading/io/AlgorithmLineEndPinLaw", "pick", "(III)B"⟩ : MethodName)) hown (mvT hZ (hw _ (List.mem_of_getElem? (i := 0) rfl))) (mvT hZ (hw _ (List.mem_of_getElem? (i := 1) rfl))) (mvT hZ (hw _ (List.mem_of_getElem? (i := 2) rfl))) (mvT hZ (hw _ (List.mem_of_getElem? (i := 3) rfl))) (by decide) (backOf (W := 0) (rm1 l Z a0 hw [] p3 (1 : Int32) p4 T5.heap n0 (by rw [f0]; exact Z0)) hZ (hw _ (List.mem_of_getElem? (i := 3) rfl)) (hw _ (List.mem_of_getElem? (i := 2) rfl)) (by decide) (by decide)) (g := (mkF m 19 #[.val (.int p1), .val (.int p2), .val (.int p3), .val (.int p4), .val (.int (Int32.ofNat n)), .val (.int (own_pick p3 (0 : Int32) p4)), .unset, .unset, .unset, .unset, .unset, .unset] [(.int p4), (.int (1 : Int32)), (.int p3)])) rfl (by rw [hml]; rfl) (argsL := [(.int p3), (.int (1 : Int32)), (.int p4)]) (rest := []) (lenOf pd_0_0 rfl) rfl (by show 2 * 0 + _ ≤ _; exact Nat.le_of_eq rfl) (hb hby at_19) (fun _ _ => ⟨rfl, rfl, (by decide : 0 + 0 ≤ _), (by decide : 0 + 0 ≤ _)⟩)
  dsimp only [Pt.U, Pt.locs, Pt.cells, Pt.slots] at X6 l6 y6 z6 st6 hQ6
  subst l6 y6 z6
  obtain ⟨rfl, N6q, f1⟩ := hQ6
  have N6 := Fr.app N5 N6q
  obtain ⟨_, _, ⟨T7, L7, k7, n7⟩, -, X7, ⟨Lc7, hQ7, l7, y7, z7⟩, st7⟩ := Jvm.LawKit.callS X6 hx (y := (⟨"com/example/lading/lading/io/AlgorithmLineEndPinLaw", "pick", "(III)B"⟩ : MethodName)) hown (mvT hZ (hw _ (List.mem_of_getElem? (i := 0) rfl))) (mvT hZ (hw _ (List.mem_of_getElem? (i := 1) rfl))) (mvT hZ (hw _ (List.mem_of_getElem? (i := 2) rfl))) (mvT hZ (hw _ (List.mem_of_getElem? (i := 3) rfl))) (by decide) (backOf (W := 0) (rm1 l Z a0 hw [] p3 (2 : Int32) p4 T6.heap n0 (by rw [f1, f0]; exact Z0)) hZ (hw _ (List.mem_of_getElem? (i := 3) rfl)) (hw _ (List.mem_of_getElem? (i := 2) rfl)) (by decide) (by decide)) (g := (mkF m 27 #[.val (.int p1), .val (.int p2), .val (.int p3), .val (.int p4), .val (.int (Int32.ofNat n)), .val (.int (own_pick p3 (0 : Int32) p4)), .val (.int (own_pick p3 (1 : Int32) p4)), .unset, .unset, .unset, .unset, .unset] [(.int p4), (.int (2 : Int32)), (.int p3)])) rfl (by rw [hml]; rfl) (argsL := [(.int p3), (.int (2 : Int32)), (.int p4)]) (rest := []) (lenOf pd_0_0 rfl) rfl (by show 2 * 0 + _ ≤ _; exact Nat.le_of_eq rfl) (hb hby at_27) (fun _ _ => ⟨rfl, rfl, (by decide : 0 + 0 ≤ _), (by decide : 0 + 0 ≤ _)⟩)
  dsimp only [Pt.U, Pt.locs, Pt.cells, Pt.slots] at X7 l7 y7 z7 st7 hQ7
  subst l7 y7 z7
  obtain ⟨rfl, N7q, f2⟩ := hQ7
  have N7 := Fr.app N6 N7q
  obtain ⟨_, _, ⟨T8, L8, k8, n8⟩, -, X8, ⟨Lc8, hQ8, l8, y8, z8⟩, st8⟩ := Jvm.LawKit.callS X7 hx (y := (⟨"com/example/lading/lading/io/AlgorithmLineEndPinLaw", "pick", "(III)B"⟩ : MethodName)) hown (mvT hZ (hw _ (List.mem_of_getElem? (i := 0) rfl))) (mvT hZ (hw _ (List.mem_of_getElem? (i := 1) rfl))) (mvT hZ (hw _ (List.mem_of_getElem? (i := 2) rfl))) (mvT hZ (hw _ (List.mem_of_getElem? (i := 3) rfl))) (by decide) (backOf (W := 0) (rm1 l Z a0 hw [] p3 (3 : Int32) p4 T7.heap n0 (by rw [f2, f1, f0]; exact Z0)) hZ (hw _ (List.mem_of_getElem? (i := 3) rfl)) (hw _ (List.mem_of_getElem? (i := 2) rfl)) (by decide) (by decide)) (g := (mkF m 35 #[.val (.int p1), .val (.int p2), .val (.int p3), .val (.int p4), .val (.int (Int32.ofNat n)), .val (.int (own_pick p3 (0 : Int32) p4)), .val (.int (own_pick p3 (1 : Int32) p4)), .val (.int (own_pick p3 (2 : Int32) p4)), .unset, .unset, .unset, .unset] [(.int p4), (.int (3 : Int32)), (.int p3)])) rfl (by rw [hml]; rfl) (argsL := [(.int p3), (.int (3 : Int32)), (.int p4)]) (rest := []) (lenOf pd_0_0 rfl) rfl (by show 2 * 0 + _ ≤ _; exact Nat.le_of_eq rfl) (hb hby at_35) (fun _ _ => ⟨rfl, rfl, (by decide : 0 + 0 ≤ _), (by decide : 0 + 0 ≤ _)⟩)
  dsimp only [Pt.U, Pt.locs, Pt.cells, Pt.slots] at X8 l8 y8 z8 st8 hQ8
  subst l8 y8 z8
  obtain ⟨rfl, N8q, f3⟩ := hQ8
  have N8 := Fr.app N7 N8q
  have eh0 : T8.heap = h0 := by rw [f3, f2, f1, f0]
  obtain ⟨TA, h', L', b, cl, XA, eA, NL, Zh, Ar, S, hat, stA⟩ := mkAll p1 p2 p3 p4 (own_pick p3 (0 : Int32) p4) (own_pick p3 (1 : Int32) p4) (own_pick p3 (2 : Int32) p4) (own_pick p3 (3 : Int32) p4) n hn X8 hx hZ hw hby hml hown eh0 Z0 N8 (by decide) (by decide)
  simp only [own_nar_p] at hat
  obtain ⟨i, hi, hst⟩ := own_start p2 hn
  obtain ⟨TS, XS0, eS, stS⟩ := seg150 (.val (.int p1)) p2 (.val (.int p3)) (.val (.int p4)) (Int32.ofNat n) (.val (.int (own_pick p3 (0 : Int32) p4))) (.val (.int (own_pick p3 (1 : Int32) p4))) (.val (.int (own_pick p3 (2 : Int32) p4))) (.val (.int (own_pick p3 (3 : Int32) p4))) (.val (.ref b)) .unset .unset XA hx hZ hw hby hml hown eA (hs10 := One.u) (hs11 := One.u) (hnz158 := own_nz hn)
  rw [hst] at stS
  obtain ⟨TB3, XB3, eB3, stB3⟩ := blk3 p1 p2 p3 p4 (Int32.ofNat n) (own_pick p3 (0 : Int32) p4) (own_pick p3 (1 : Int32) p4) (own_pick p3 (2 : Int32) p4) (own_pick p3 (3 : Int32) p4) b (Int32.ofNat i) (Int32.ofNat n) XS0 hx hZ hw hby hml hown eS
  obtain ⟨TB2, XB2, eB2, stB2⟩ := blk2 p1 p2 p3 p4 (Int32.ofNat n) (own_pick p3 (0 : Int32) p4) (own_pick p3 (1 : Int32) p4) (own_pick p3 (2 : Int32) p4) (own_pick p3 (3 : Int32) p4) b (Int32.ofNat i) (own_step 3 (own_pick p3 (3 : Int32) p4) (Int32.ofNat n) (Int32.ofNat i) (Int32.ofNat n)) XB3 hx hZ hw hby hml hown eB3
  obtain ⟨TB1, XB1, eB1, stB1⟩ := blk1 p1 p2 p3 p4 (Int32.ofNat n) (own_pick p3 (0 : Int32) p4) (own_pick p3 (1 : Int32) p4) (own_pick p3 (2 : Int32) p4) (own_pick p3 (3 : Int32) p4) b (Int32.ofNat i) (own_step 2 (own_pick p3 (2 : Int32) p4) (Int32.ofNat n) (Int32.ofNat i) (own_step 3 (own_pick p3 (3 : Int32) p4) (Int32.ofNat n) (Int32.ofNat i) (Int32.ofNat n))) XB2 hx hZ hw hby hml hown eB2
  obtain ⟨TE, XE, eE, stE⟩ := blk0 p1 p2 p3 p4 (Int32.ofNat n) (own_pick p3 (0 : Int32) p4) (own_pick p3 (1 : Int32) p4) (own_pick p3 (2 : Int32) p4) (own_pick p3 (3 : Int32) p4) b (Int32.ofNat i) (own_step 1 (own_pick p3 (1 : Int32) p4) (Int32.ofNat n) (Int32.ofNat i) (own_step 2 (own_pick p3 (2 : Int32) p4) (Int32.ofNat n) (Int32.ofNat i) (own_step 3 (own_pick p3 (3 : Int32) p4) (Int32.ofNat n) (Int32.ofNat i) (Int32.ofNat n)))) XB1 hx hZ hw hby hml hown eB1
  obtain ⟨_, _, ⟨T10, L10, k10, n10⟩, -, X10, ⟨Lc10, hQ10, l10, y10, z10⟩, st10⟩ := Jvm.LawKit.callS XE hx (y := (⟨"com/example/lading/lading/io/AlgorithmLine", "end", "([BI)I"⟩ : MethodName)) hown (mvT hZ (hw _ (List.mem_of_getElem? (i := 6) rfl))) (mvT hZ (hw _ (List.mem_of_getElem? (i := 7) rfl))) (mvT hZ (hw _ (List.mem_of_getElem? (i := 8) rfl))) (mvT hZ (hw _ (List.mem_of_getElem? (i := 9) rfl))) (by decide) (backOf (W := 0) (rm2 l Z a0 hw [] b (own_g (own_pick p3 (0 : Int32) p4) (own_pick p3 (1 : Int32) p4) (own_pick p3 (2 : Int32) p4) (own_pick p3 (3 : Int32) p4)) n i cl h' n0 Zh hn hi Ar S hat) hZ (hw _ (List.mem_of_getElem? (i := 9) rfl)) (hw _ (List.mem_of_getElem? (i := 8) rfl)) (by decide) (by decide)) (g := (mkF m 257 #[.val (.int p1), .val (.int p2), .val (.int p3), .val (.int p4), .val (.int (Int32.ofNat n)), .val (.int (own_pick p3 (0 : Int32) p4)), .val (.int (own_pick p3 (1 : Int32) p4)), .val (.int (own_pick p3 (2 : Int32) p4)), .val (.int (own_pick p3 (3 : Int32) p4)), .val (.ref b), .val (.int (Int32.ofNat i)), .val (.int (own_exp (Int32.ofNat n) (Int32.ofNat i) (own_pick p3 (0 : Int32) p4) (own_pick p3 (1 : Int32) p4) (own_pick p3 (2 : Int32) p4) (own_pick p3 (3 : Int32) p4)))] [(.int (Int32.ofNat i)), (.ref b)])) rfl (by rw [hml]; rfl) (argsL := [(.ref b), (.int (Int32.ofNat i))]) (rest := []) (lenOf pd_0_1 rfl) rfl (by show 2 * 0 + _ ≤ _; exact Nat.le_of_eq rfl) (hb hby at_257) (fun _ _ => ⟨rfl, eE, (by decide : 1 + 0 ≤ _), (by decide : 4 + 0 ≤ _)⟩)
  dsimp only [Pt.U, Pt.locs, Pt.cells, Pt.slots] at X10 l10 y10 z10 st10 hQ10
  subst l10 y10 z10
  obtain ⟨rfl, NEq, fE⟩ := hQ10
  have NE := Fr.app NL NEq
  obtain ⟨fs, hr, hrun, hended, hW, hsame⟩ := X10.leave (v := some (.int (1 : Int32))) (fun h => by rw [Bd.returns] at h; cases h)
  refine ⟨_, _, pre0 _ ?_, hrun, hended, _, _, rfl, ?_, ⟨_, rfl⟩, hW, hsame.mono (by decide) (by decide)⟩
  · show Steps p.tables e below (s₁.setTop (mkF m 0 #[.val (.int p1), .val (.int p2), .val (.int p3), .val (.int p4), .unset, .unset, .unset, .unset, .unset, .unset, .unset, .unset] [])) _
    refine XS.iloadN X0.here hx rfl (hb hby at_0) rfl ?_
    show Steps p.tables e below (s₁.setTop (mkF m 1 #[.val (.int p1), .val (.int p2), .val (.int p3), .val (.int p4), .unset, .unset, .unset, .unset, .unset, .unset, .unset, .unset] [(.int p1)])) _
    refine XS.bipush X0.here hx rfl (hb hby at_1) ?_
    show Steps p.tables e below (s₁.setTop (mkF m 3 #[.val (.int p1), .val (.int p2), .val (.int p3), .val (.int p4), .unset, .unset, .unset, .unset, .unset, .unset, .unset, .unset] [(.int (7 : Int32)), (.int p1)])) _
    refine XS.iand X0.here hx rfl (hb hby at_3) rfl ?_
    show Steps p.tables e below (s₁.setTop (mkF m 4 #[.val (.int p1), .val (.int p2), .val (.int p3), .val (.int p4), .unset, .unset, .unset, .unset, .unset, .unset, .unset, .unset] [(.int (p1 &&& (7 : Int32)))])) _
    refine XS.iconst X0.here hx rfl (hb hby at_4) ?_
    show Steps p.tables e below (s₁.setTop (mkF m 5 #[.val (.int p1), .val (.int p2), .val (.int p3), .val (.int p4), .unset, .unset, .unset, .unset, .unset, .unset, .unset, .unset] [(.int (5 : Int32)), (.int (p1 &&& (7 : Int32)))])) _
    refine XS.irem X0.here hx rfl (hb hby at_5) rfl (by decide : ¬ ((5 : Int32) = (0 : Int32))) ?_
    rw [show ((p1 &&& (7 : Int32)) - (p1 &&& (7 : Int32)) / (5 : Int32) * (5 : Int32)) = Int32.ofNat n from hlen]
    show Steps p.tables e below (s₁.setTop (mkF m 6 #[.val (.int p1), .val (.int p2), .val (.int p3), .val (.int p4), .unset, .unset, .unset, .unset, .unset, .unset, .unset, .unset] [(.int (Int32.ofNat n))])) _
    refine XS.istore X0.here hx rfl (hb hby at_6) rfl (l' := #[.val (.int p1), .val (.int p2), .val (.int p3), .val (.int p4), .val (.int (Int32.ofNat n)), .unset, .unset, .unset, .unset, .unset, .unset, .unset]) rfl ?_
    show Steps p.tables e below (s₁.setTop (mkF m 8 #[.val (.int p1), .val (.int p2), .val (.int p3), .val (.int p4), .val (.int (Int32.ofNat n)), .unset, .unset, .unset, .unset, .unset, .unset, .unset] [])) _
    refine XS.iloadN X0.here hx rfl (hb hby at_8) rfl ?_
    show Steps p.tables e below (s₁.setTop (mkF m 9 #[.val (.int p1), .val (.int p2), .val (.int p3), .val (.int p4), .val (.int (Int32.ofNat n)), .unset, .unset, .unset, .unset, .unset, .unset, .unset] [(.int p3)])) _
    refine XS.iconst X0.here hx rfl (hb hby at_9) ?_
    show Steps p.tables e below (s₁.setTop (mkF m 10 #[.val (.int p1), .val (.int p2), .val (.int p3), .val (.int p4), .val (.int (Int32.ofNat n)), .unset, .unset, .unset, .unset, .unset, .unset, .unset] [(.int (0 : Int32)), (.int p3)])) _
    refine XS.iloadN X0.here hx rfl (hb hby at_10) rfl ?_
    show Steps p.tables e below (s₁.setTop (mkF m 11 #[.val (.int p1), .val (.int p2), .val (.int p3), .val (.int p4), .val (.int (Int32.ofNat n)), .unset, .unset, .unset, .unset, .unset, .unset, .unset] [(.int p4), (.int (0 : Int32)), (.int p3)])) _
    refine st5 _ ?_
    show Steps p.tables e below (T5.setTop (mkF m 14 #[.val (.int p1), .val (.int p2), .val (.int p3), .val (.int p4), .val (.int (Int32.ofNat n)), .unset, .unset, .unset, .unset, .unset, .unset, .unset] [(.int (own_pick p3 (0 : Int32) p4))])) _
    refine XS.istore X5.here hx rfl (hb hby at_14) rfl (l' := #[.val (.int p1), .val (.int p2), .val (.int p3), .val (.int p4), .val (.int (Int32.ofNat n)), .val (.int (own_pick p3 (0 : Int32) p4)), .unset, .unset, .unset, .unset, .unset, .unset]) rfl ?_
    show Steps p.tables e below (T5.setTop (mkF m 16 #[.val (.int p1), .val (.int p2), .val (.int p3), .val (.int p4), .val (.int (Int32.ofNat n)), .val (.int (own_pick p3 (0 : Int32) p4)), .unset, .unset, .unset, .unset, .unset, .unset] [])) _
    refine XS.iloadN X5.here hx rfl (hb hby at_16) rfl ?_
    show Steps p.tables e below (T5.setTop (mkF m 17 #[.val (.int p1), .val (.int p2), .val (.int p3), .val (.int p4), .val (.int (Int32.ofNat n)), .val (.int (own_pick p3 (0 : Int32) p4)), .unset, .unset, .unset, .unset, .unset, .unset] [(.int p3)])) _
    refine XS.iconst X5.here hx rfl (hb hby at_17) ?_
    show Steps p.tables e below (T5.setTop (mkF m 18 #[.val (.int p1), .val (.int p2), .val (.int p3), .val (.int p4), .val (.int (Int32.ofNat n)), .val (.int (own_pick p3 (0 : Int32) p4)), .unset, .unset, .unset, .unset, .unset, .unset] [(.int (1 : Int32)), (.int p3)])) _
    refine XS.iloadN X5.here hx rfl (hb hby at_18) rfl ?_
    show Steps p.tables e below (T5.setTop (mkF m 19 #[.val (.int p1), .val (.int p2), .val (.int p3), .val (.int p4), .val (.int (Int32.ofNat n)), .val (.int (own_pick p3 (0 : Int32) p4)), .unset, .unset, .unset, .unset, .unset, .unset] [(.int p4), (.int (1 : Int32)), (.int p3)])) _
    refine st6 _ ?_
    show Steps p.tables e below (T6.setTop (mkF m 22 #[.val (.int p1), .val (.int p2), .val (.int p3), .val (.int p4), .val (.int (Int32.ofNat n)), .val (.int (own_pick p3 (0 : Int32) p4)), .unset, .unset, .unset, .unset, .unset, .unset] [(.int (own_pick p3 (1 : Int32) p4))])) _
    refine XS.istore X6.here hx rfl (hb hby at_22) rfl (l' := #[.val (.int p1), .val (.int p2), .val (.int p3), .val (.int p4), .val (.int (Int32.ofNat n)), .val (.int (own_pick p3 (0 : Int32) p4)), .val (.int (own_pick p3 (1 : Int32) p4)), .unset, .unset, .unset, .unset, .unset]) rfl ?_
    show Steps p.tables e below (T6.setTop (mkF m 24 #[.val (.int p1), .val (.int p2), .val (.int p3), .val (.int p4), .val (.int (Int32.ofNat n)), .val (.int (own_pick p3 (0 : Int32) p4)), .val (.int (own_pick p3 (1 : Int32) p4)), .unset, .unset, .unset, .unset, .unset] [])) _
    refine XS.iloadN X6.here hx rfl (hb hby at_24) rfl ?_
    show Steps p.tables e below (T6.setTop (mkF m 25 #[.val (.int p1), .val (.int p2), .val (.int p3), .val (.int p4), .val (.int (Int32.ofNat n)), .val (.int (own_pick p3 (0 : Int32) p4)), .val (.int (own_pick p3 (1 : Int32) p4)), .unset, .unset, .unset, .unset, .unset] [(.int p3)])) _
    refine XS.iconst X6.here hx rfl (hb hby at_25) ?_
    show Steps p.tables e below (T6.setTop (mkF m 26 #[.val (.int p1), .val (.int p2), .val (.int p3), .val (.int p4), .val (.int (Int32.ofNat n)), .val (.int (own_pick p3 (0 : Int32) p4)), .val (.int (own_pick p3 (1 : Int32) p4)), .unset, .unset, .unset, .unset, .unset] [(.int (2 : Int32)), (.int p3)])) _
    refine XS.iloadN X6.here hx rfl (hb hby at_26) rfl ?_
    show Steps p.tables e below (T6.setTop (mkF m 27 #[.val (.int p1), .val (.int p2), .val (.int p3), .val (.int p4), .val (.int (Int32.ofNat n)), .val (.int (own_pick p3 (0 : Int32) p4)), .val (.int (own_pick p3 (1 : Int32) p4)), .unset, .unset, .unset, .unset, .unset] [(.int p4), (.int (2 : Int32)), (.int p3)])) _
    refine st7 _ ?_
    show Steps p.tables e below (T7.setTop (mkF m 30 #[.val (.int p1), .val (.int p2), .val (.int p3), .val (.int p4), .val (.int (Int32.ofNat n)), .val (.int (own_pick p3 (0 : Int32) p4)), .val (.int (own_pick p3 (1 : Int32) p4)), .unset, .unset, .unset, .unset, .unset] [(.int (own_pick p3 (2 : Int32) p4))])) _
    refine XS.istore X7.here hx rfl (hb hby at_30) rfl (l' := #[.val (.int p1), .val (.int p2), .val (.int p3), .val (.int p4), .val (.int (Int32.ofNat n)), .val (.int (own_pick p3 (0 : Int32) p4)), .val (.int (own_pick p3 (1 : Int32) p4)), .val (.int (own_pick p3 (2 : Int32) p4)), .unset, .unset, .unset, .unset]) rfl ?_
    show Steps p.tables e below (T7.setTop (mkF m 32 #[.val (.int p1), .val (.int p2), .val (.int p3), .val (.int p4), .val (.int (Int32.ofNat n)), .val (.int (own_pick p3 (0 : Int32) p4)), .val (.int (own_pick p3 (1 : Int32) p4)), .val (.int (own_pick p3 (2 : Int32) p4)), .unset, .unset, .unset, .unset] [])) _
    refine XS.iloadN X7.here hx rfl (hb hby at_32) rfl ?_
    show Steps p.tables e below (T7.setTop (mkF m 33 #[.val (.int p1), .val (.int p2), .val (.int p3), .val (.int p4), .val (.int (Int32.ofNat n)), .val (.int (own_pick p3 (0 : Int32) p4)), .val (.int (own_pick p3 (1 : Int32) p4)), .val (.int (own_pick p3 (2 : Int32) p4)), .unset, .unset, .unset, .unset] [(.int p3)])) _
    refine XS.iconst X7.here hx rfl (hb hby at_33) ?_
    show Steps p.tables e below (T7.setTop (mkF m 34 #[.val (.int p1), .val (.int p2), .val (.int p3), .val (.int p4), .val (.int (Int32.ofNat n)), .val (.int (own_pick p3 (0 : Int32) p4)), .val (.int (own_pick p3 (1 : Int32) p4)), .val (.int (own_pick p3 (2 : Int32) p4)), .unset, .unset, .unset, .unset] [(.int (3 : Int32)), (.int p3)])) _
    refine XS.iloadN X7.here hx rfl (hb hby at_34) rfl ?_
    show Steps p.tables e below (T7.setTop (mkF m 35 #[.val (.int p1), .val (.int p2), .val (.int p3), .val (.int p4), .val (.int (Int32.ofNat n)), .val (.int (own_pick p3 (0 : Int32) p4)), .val (.int (own_pick p3 (1 : Int32) p4)), .val (.int (own_pick p3 (2 : Int32) p4)), .unset, .unset, .unset, .unset] [(.int p4), (.int (3 : Int32)), (.int p3)])) _
    refine st8 _ ?_
    show Steps p.tables e below (T8.setTop (mkF m 38 #[.val (.int p1), .val (.int p2), .val (.int p3), .val (.int p4), .val (.int (Int32.ofNat n)), .val (.int (own_pick p3 (0 : Int32) p4)), .val (.int (own_pick p3 (1 : Int32) p4)), .val (.int (own_pick p3 (2 : Int32) p4)), .unset, .unset, .unset, .unset] [(.int (own_pick p3 (3 : Int32) p4))])) _
    refine XS.istore X8.here hx rfl (hb hby at_38) rfl (l' := #[.val (.int p1), .val (.int p2), .val (.int p3), .val (.int p4), .val (.int (Int32.ofNat n)), .val (.int (own_pick p3 (0 : Int32) p4)), .val (.int (own_pick p3 (1 : Int32) p4)), .val (.int (own_pick p3 (2 : Int32) p4)), .val (.int (own_pick p3 (3 : Int32) p4)), .unset, .unset, .unset]) rfl ?_
    show Steps p.tables e below (T8.setTop (mkF m 40 #[.val (.int p1), .val (.int p2), .val (.int p3), .val (.int p4), .val (.int (Int32.ofNat n)), .val (.int (own_pick p3 (0 : Int32) p4)), .val (.int (own_pick p3 (1 : Int32) p4)), .val (.int (own_pick p3 (2 : Int32) p4)), .val (.int (own_pick p3 (3 : Int32) p4)), .unset, .unset, .unset] [])) _
    refine stA _ ?_
    refine stS _ ?_
    refine stB3 _ ?_
    refine stB2 _ ?_
    refine stB1 _ ?_
    refine stE _ ?_
    show Steps p.tables e below (TE.setTop (mkF m 253 #[.val (.int p1), .val (.int p2), .val (.int p3), .val (.int p4), .val (.int (Int32.ofNat n)), .val (.int (own_pick p3 (0 : Int32) p4)), .val (.int (own_pick p3 (1 : Int32) p4)), .val (.int (own_pick p3 (2 : Int32) p4)), .val (.int (own_pick p3 (3 : Int32) p4)), .val (.ref b), .val (.int (Int32.ofNat i)), .val (.int (own_exp (Int32.ofNat n) (Int32.ofNat i) (own_pick p3 (0 : Int32) p4) (own_pick p3 (1 : Int32) p4) (own_pick p3 (2 : Int32) p4) (own_pick p3 (3 : Int32) p4)))] [])) _
    refine XS.aload XE.here hx rfl (hb hby at_253) rfl rfl ?_
    show Steps p.tables e below (TE.setTop (mkF m 255 #[.val (.int p1), .val (.int p2), .val (.int p3), .val (.int p4), .val (.int (Int32.ofNat n)), .val (.int (own_pick p3 (0 : Int32) p4)), .val (.int (own_pick p3 (1 : Int32) p4)), .val (.int (own_pick p3 (2 : Int32) p4)), .val (.int (own_pick p3 (3 : Int32) p4)), .val (.ref b), .val (.int (Int32.ofNat i)), .val (.int (own_exp (Int32.ofNat n) (Int32.ofNat i) (own_pick p3 (0 : Int32) p4) (own_pick p3 (1 : Int32) p4) (own_pick p3 (2 : Int32) p4) (own_pick p3 (3 : Int32) p4)))] [(.ref b)])) _
    refine XS.iload XE.here hx rfl (hb hby at_255) rfl ?_
    show Steps p.tables e below (TE.setTop (mkF m 257 #[.val (.int p1), .val (.int p2), .val (.int p3), .val (.int p4), .val (.int (Int32.ofNat n)), .val (.int (own_pick p3 (0 : Int32) p4)), .val (.int (own_pick p3 (1 : Int32) p4)), .val (.int (own_pick p3 (2 : Int32) p4)), .val (.int (own_pick p3 (3 : Int32) p4)), .val (.ref b), .val (.int (Int32.ofNat i)), .val (.int (own_exp (Int32.ofNat n) (Int32.ofNat i) (own_pick p3 (0 : Int32) p4) (own_pick p3 (1 : Int32) p4) (own_pick p3 (2 : Int32) p4) (own_pick p3 (3 : Int32) p4)))] [(.int (Int32.ofNat i)), (.ref b)])) _
    refine st10 _ ?_
    show Steps p.tables e below (T10.setTop (mkF m 260 #[.val (.int p1), .val (.int p2), .val (.int p3), .val (.int p4), .val (.int (Int32.ofNat n)), .val (.int (own_pick p3 (0 : Int32) p4)), .val (.int (own_pick p3 (1 : Int32) p4)), .val (.int (own_pick p3 (2 : Int32) p4)), .val (.int (own_pick p3 (3 : Int32) p4)), .val (.ref b), .val (.int (Int32.ofNat i)), .val (.int (own_exp (Int32.ofNat n) (Int32.ofNat i) (own_pick p3 (0 : Int32) p4) (own_pick p3 (1 : Int32) p4) (own_pick p3 (2 : Int32) p4) (own_pick p3 (3 : Int32) p4)))] [(.int (Int32.ofNat (own_scan (own_g (own_pick p3 (0 : Int32) p4) (own_pick p3 (1 : Int32) p4) (own_pick p3 (2 : Int32) p4) (own_pick p3 (3 : Int32) p4)) (n - i) i)))])) _
    refine XS.iload X10.here hx rfl (hb hby at_260) rfl ?_
    show Steps p.tables e below (T10.setTop (mkF m 262 #[.val (.int p1), .val (.int p2), .val (.int p3), .val (.int p4), .val (.int (Int32.ofNat n)), .val (.int (own_pick p3 (0 : Int32) p4)), .val (.int (own_pick p3 (1 : Int32) p4)), .val (.int (own_pick p3 (2 : Int32) p4)), .val (.int (own_pick p3 (3 : Int32) p4)), .val (.ref b), .val (.int (Int32.ofNat i)), .val (.int (own_exp (Int32.ofNat n) (Int32.ofNat i) (own_pick p3 (0 : Int32) p4) (own_pick p3 (1 : Int32) p4) (own_pick p3 (2 : Int32) p4) (own_pick p3 (3 : Int32) p4)))] [(.int (own_exp (Int32.ofNat n) (Int32.ofNat i) (own_pick p3 (0 : Int32) p4) (own_pick p3 (1 : Int32) p4) (own_pick p3 (2 : Int32) p4) (own_pick p3 (3 : Int32) p4))), (.int (Int32.ofNat (own_scan (own_g (own_pick p3 (0 : Int32) p4) (own_pick p3 (1 : Int32) p4) (own_pick p3 (2 : Int32) p4) (own_pick p3 (3 : Int32) p4)) (n - i) i)))])) _
    refine XS.icmpNo X10.here hx rfl (hb hby at_262) rfl (teq (own_plain (own_pick p3 (0 : Int32) p4) (own_pick p3 (1 : Int32) p4) (own_pick p3 (2 : Int32) p4) (own_pick p3 (3 : Int32) p4) n i hn hi)).2 ?_
    show Steps p.tables e below (T10.setTop (mkF m 265 #[.val (.int p1), .val (.int p2), .val (.int p3), .val (.int p4), .val (.int (Int32.ofNat n)), .val (.int (own_pick p3 (0 : Int32) p4)), .val (.int (own_pick p3 (1 : Int32) p4)), .val (.int (own_pick p3 (2 : Int32) p4)), .val (.int (own_pick p3 (3 : Int32) p4)), .val (.ref b), .val (.int (Int32.ofNat i)), .val (.int (own_exp (Int32.ofNat n) (Int32.ofNat i) (own_pick p3 (0 : Int32) p4) (own_pick p3 (1 : Int32) p4) (own_pick p3 (2 : Int32) p4) (own_pick p3 (3 : Int32) p4)))] [])) _
    refine XS.iconst X10.here hx rfl (hb hby at_265) ?_
    show Steps p.tables e below (T10.setTop (mkF m 266 #[.val (.int p1), .val (.int p2), .val (.int p3), .val (.int p4), .val (.int (Int32.ofNat n)), .val (.int (own_pick p3 (0 : Int32) p4)), .val (.int (own_pick p3 (1 : Int32) p4)), .val (.int (own_pick p3 (2 : Int32) p4)), .val (.int (own_pick p3 (3 : Int32) p4)), .val (.ref b), .val (.int (Int32.ofNat i)), .val (.int (own_exp (Int32.ofNat n) (Int32.ofNat i) (own_pick p3 (0 : Int32) p4) (own_pick p3 (1 : Int32) p4) (own_pick p3 (2 : Int32) p4) (own_pick p3 (3 : Int32) p4)))] [(.int (1 : Int32))])) _
    refine XS.goto X10.here hx rfl (pc0 := 266) (pc' := 270) rfl (hb hby at_266) (by decide) (by decide) ?_
    show Steps p.tables e below (T10.setTop (mkF m 270 #[.val (.int p1), .val (.int p2), .val (.int p3), .val (.int p4), .val (.int (Int32.ofNat n)), .val (.int (own_pick p3 (0 : Int32) p4)), .val (.int (own_pick p3 (1 : Int32) p4)), .val (.int (own_pick p3 (2 : Int32) p4)), .val (.int (own_pick p3 (3 : Int32) p4)), .val (.ref b), .val (.int (Int32.ofNat i)), .val (.int (own_exp (Int32.ofNat n) (Int32.ofNat i) (own_pick p3 (0 : Int32) p4) (own_pick p3 (1 : Int32) p4) (own_pick p3 (2 : Int32) p4) (own_pick p3 (3 : Int32) p4)))] [(.int (1 : Int32))])) _
    exact retN X10 hx (t := .boolean) Bd.returns (by simp) (hb hby at_270) hr
  · show Q0 Z p1 p2 p3 p4 h0 n0 _ T10.heap _
    exact ⟨rfl, NE⟩
set_option maxRecDepth 65536 in
set_option maxHeartbeats 40000000 in
theorem comes_1 {Post : Tables → Env → Array Value → State → Outcome → State → Prop} (hpost : ∀ tb e args s v u, (limb_1_1.after args s (.returned v) u = true ∧ limb_1_2.after args s (.returned v) u = true ∧ True) → FrameEnd s (.returned v) u (Jvm.fieldLocs frame_1_writes args s ++ Jvm.arrayLocs frame_1_arrays args s ++ Jvm.staticLocs frame_1_statics s) 16 128 → Post tb e args s (.returned v) u) :
    ArmFor flags0 classFile x code maxLocals ret World_1 tables_1 room_1 Calls_1 rest_1 Pre_1 Post := by
  intro l hfl _ _ p e ha hc hk s m args below hf hA hF happ hP
  obtain ⟨hcalls, hrest, hpre⟩ := hP
  obtain ⟨-, -, -, hnamed, -, -, -, hat⟩ := (Spec.applies_iff hf).mp happ
  obtain ⟨hg, hn⟩ := and_e (Cond.before_iff.mp (show (Jvm.Cond.and given_1 narrow_1).before args s = true from hpre))
  obtain ⟨g11, g12⟩ := and_e hg
  obtain ⟨g13, g14⟩ := and_e g12
  obtain ⟨g15, g16⟩ := and_e g14
  obtain ⟨g17, g18⟩ := and_e g16
  obtain ⟨w0, w1, w2, w3, rfl⟩ : ∃ w0 w1 w2 w3 : Value, args = #[w0, w1, w2, w3] := by
    have hs : args.size = 4 := by simpa [Cond.value, given_1] using g11
    obtain ⟨L⟩ := args
    match L, hs with
    | [w0, w1, w2, w3], _ => exact ⟨w0, w1, w2, w3, rfl⟩
  have hw := fun d (hd : d ∈ tables_1) => atoms_spec (ws := Jvm.Cond.code x code maxLocals ret :: tables_1) hat d (List.mem_cons_of_mem _ hd)
  have hfit : Fit s := fun {y c} hc i hi => by
    obtain ⟨ha, rfl⟩ := Array.getElem?_eq_some_iff.mp hc
    have q := List.all_eq_true.mp ((Array.all_eq_true_iff_forall_mem.mp hF) _ (Array.getElem_mem ha)) i (List.mem_range.mpr hi)
    simpa [Array.getElem?_eq_getElem hi] using q
  obtain ⟨i0, ei0⟩ := is_v g13
  obtain rfl : w0 = (.int i0) := Option.some.inj ei0
  obtain ⟨i1, ei1⟩ := is_v g15
  obtain rfl : w1 = (.int i1) := Option.some.inj ei1
  obtain ⟨i2, ei2⟩ := is_v g17
  obtain rfl : w2 = (.int i2) := Option.some.inj ei2
  obtain ⟨i3, ei3⟩ := is_v g18
  obtain rfl : w3 = (.int i3) := Option.some.inj ei3
  obtain ⟨n, o, h1, h2, h3, _, L, rfl, ⟨rfl, N⟩, hq⟩ := rm0 l s _ hw tables_1 i0 i1 i2 i3 s.heap s.heap.size (Nat.le_refl _)  p e ha hc hk s m _ below hf ((Spec.applies_iff_loose hf).mp happ).1 ⟨rfl, State.Warmed39.refl s, rfl⟩ trivial
  refine ⟨n, _, h1, h2, h3, hpost _ _ _ _ _ _ ⟨Cond.after_iff.mpr rfl, Cond.after_iff.mpr (eq_i res_at (Term.int_eval (1)) rfl), trivial⟩ ⟨hq.1, hq.2.1, (hq.2.2.sift fun y hy => Or.inr (N y hy)).mono (by decide) (by decide)⟩⟩
theorem main_1_1 : Claimed_1_1 := comes_1 fun _ _ _ _ _ _ h hF => ⟨h.1, hF⟩
theorem main_1_2 : Claimed_1_2 := comes_1 fun _ _ _ _ _ _ h hF => ⟨h.2.1, hF⟩
end Jvm.Pilot.@@N@@
namespace Jvm.Pilot.@@N@@
open Jvm Jvm.ClassFile Sem Op Lib Jvm.Free Jvm.Stand Jvm.Pilot.@@N@@.Jvm.D
/-! MADE BY PROGRAM (witnessworld.py) out of the Statement's table words and the real class files: 10 classes; the members and pool entries that the words name. The judged class is class 1, her method 1. -/
namespace start1
open Jvm.ClassFile
def u (s : String) : CpInfo := .utf8 (stringToUtf16 s)
/-- a pool by its gaps: so many unusable entries, then the entry; so many at the end -/
def gap : Nat → List CpInfo → List CpInfo
  | 0, r => r
  | n + 1, r => .unusable :: gap n r
def poolList (es : List (Nat × CpInfo)) (last : Nat) : List CpInfo := es.foldr (fun e r => gap e.1 (e.2 :: r)) (gap last [])
def pool (es : List (Nat × CpInfo)) (last : Nat) : Array CpInfo := ⟨poolList es last⟩
def fileOf (pool : Array CpInfo) (this : Nat) (attrs : Array Attribute := #[]) (ms : Array MethodInfo := #[]) (fl : Nat := 33) (sup : Nat := 0) (ifs : Array Nat := #[]) (fds : Array FieldInfo := #[]) : ClassFile where
  minorVersion := 0
  majorVersion := 65
  constantPool := pool
  accessFlags := fl
  thisClass := this
  superClass := sup
  interfaces := ifs
  fields := fds
  methods := ms
  attributes := attrs
def plain (name : String) (sup : Option ClassId) : Class where
  name := name
  kind := .ordinary
  loader := none
  accessFlags := 33
  super := sup
  interfaces := #[]
  cf := none
  fields := #[]
  methods := #[]
  instanceTypes := #[]
  staticTypes := #[]
  resolved := #[]
  callSites := []
  init := .initialized
  statics := none
  mirror := none

def pool0 : Array CpInfo := pool [(5, u "<init>"), (0, u "()V"), (1, .class_ 10), (1, u "java/lang/Object")] 113

def k0m0 : Method := { name := "<init>", desc := "()V", sig := { parameters := [], returnType := none }, accessFlags := 1, code := none }
/-- java/lang/Object -/
def k0 : Class := { plain "java/lang/Object" none with
  accessFlags := 33
  interfaces := #[]
  cf := some (fileOf pool0 8 #[] #[{ accessFlags := 1, nameIndex := 5, descriptorIndex := 6, attributes := #[] }] 33 0 #[] #[])
  fields := #[]
  methods := #[k0m0]
  instanceTypes := #[]
  staticTypes := #[]
  resolved := Array.replicate 124 none
  statics := none }

def pool1 : Array CpInfo := pool [(2, .class_ 4), (1, u "java/lang/Object"), (0, u "<init>"), (0, u "()V"), (0, .methodref 8 9), (0, .class_ 10), (0, .nameAndType 11 12), (0, u "com/example/lading/lading/io/AlgorithmLineEndPinLaw"), (0, u "pick"), (0, u "(III)B"), (0, .integer 2147483647), (0, .methodref 15 16), (0, .class_ 17), (0, .nameAndType 18 19), (0, u "com/example/lading/lading/io/AlgorithmLine"), (0, u "end"), (0, u "([BI)I"), (2, u "law"), (0, u "(IIII)Z")] 5

def k1m0 : Method := { name := "<init>", desc := "()V", sig := { parameters := [], returnType := none }, accessFlags := 1, code := none }
def k1c1 : Code := { maxStack := 4, maxLocals := 12, code := code, exceptionTable := #[], attributes := #[] }
def k1m1 : Method := { name := "law", desc := "(IIII)Z", sig := { parameters := [.int, .int, .int, .int], returnType := some .boolean }, accessFlags := 9, code := some k1c1 }
def k1c2 : Code := { maxStack := 3, maxLocals := 3, code := method_3_code, exceptionTable := #[], attributes := #[] }
def k1m2 : Method := { name := "pick", desc := "(III)B", sig := { parameters := [.int, .int, .int], returnType := some .byte }, accessFlags := 10, code := some k1c2 }
/-- com/example/lading/lading/io/AlgorithmLineEndPinLaw -/
def k1 : Class := { plain "com/example/lading/lading/io/AlgorithmLineEndPinLaw" (some 0) with
  accessFlags := 49
  interfaces := #[]
  cf := some (fileOf pool1 8 #[] #[{ accessFlags := 1, nameIndex := 5, descriptorIndex := 6, attributes := #[] }, { accessFlags := 9, nameIndex := 22, descriptorIndex := 23, attributes := #[] }, { accessFlags := 10, nameIndex := 11, descriptorIndex := 12, attributes := #[] }] 49 2 #[] #[])
  fields := #[]
  methods := #[k1m0, k1m1, k1m2]
  instanceTypes := #[]
  staticTypes := #[]
  resolved := Array.replicate 29 none
  statics := none }

def pool2 : Array CpInfo := pool [(2, .class_ 4), (1, u "java/lang/Object"), (0, u "<init>"), (0, u "()V"), (0, .class_ 8), (0, u "java/lang/Record")] 13

def k2m0 : Method := { name := "<init>", desc := "()V", sig := { parameters := [], returnType := none }, accessFlags := 4, code := none }
/-- java/lang/Record -/
def k2 : Class := { plain "java/lang/Record" (some 0) with
  accessFlags := 1057
  interfaces := #[]
  cf := some (fileOf pool2 7 #[] #[{ accessFlags := 4, nameIndex := 5, descriptorIndex := 6, attributes := #[] }] 1057 2 #[] #[])
  fields := #[]
  methods := #[k2m0]
  instanceTypes := #[]
  staticTypes := #[]
  resolved := Array.replicate 22 none
  statics := none }

def pool3 : Array CpInfo := pool [(2, .class_ 4), (1, u "java/lang/Record"), (3, .class_ 10), (1, u "com/example/lading/lading/io/AlgorithmLine"), (0, u "algorithm"), (0, u "Lcom/example/lading/lading/model/DigestAlgorithm;"), (2, u "name"), (0, u "Ljava/lang/String;"), (2, u "value"), (137, u "end"), (0, u "([BI)I")] 43

def k3c0 : Code := { maxStack := 2, maxLocals := 3, code := prog_3_method_2_code, exceptionTable := #[], attributes := #[] }
def k3m0 : Method := { name := "end", desc := "([BI)I", sig := { parameters := [(.array .byte), .int], returnType := some .int }, accessFlags := 8, code := some k3c0 }
/-- com/example/lading/lading/io/AlgorithmLine -/
def k3 : Class := { plain "com/example/lading/lading/io/AlgorithmLine" (some 2) with
  accessFlags := 48
  interfaces := #[]
  cf := some (fileOf pool3 8 #[] #[{ accessFlags := 8, nameIndex := 157, descriptorIndex := 158, attributes := #[] }] 48 2 #[] #[{ accessFlags := 18, nameIndex := 11, descriptorIndex := 12, attributes := #[] }, { accessFlags := 18, nameIndex := 15, descriptorIndex := 16, attributes := #[] }, { accessFlags := 18, nameIndex := 19, descriptorIndex := 16, attributes := #[] }])
  fields := #[{ name := "algorithm", type := (.object "com/example/lading/lading/model/DigestAlgorithm"), accessFlags := 18, slot := 0, constantValue := 0 }, { name := "name", type := (.object "java/lang/String"), accessFlags := 18, slot := 1, constantValue := 0 }, { name := "value", type := (.object "java/lang/String"), accessFlags := 18, slot := 2, constantValue := 0 }]
  methods := #[k3m0]
  instanceTypes := #[(.object "com/example/lading/lading/model/DigestAlgorithm"), (.object "java/lang/String"), (.object "java/lang/String")]
  staticTypes := #[]
  resolved := Array.replicate 202 none
  statics := none }

def pool4 : Array CpInfo := pool [(1, u "java/lang/Cloneable"), (0, .class_ 1), (0, u "java/lang/Object"), (0, .class_ 3)] 3

/-- java/lang/Cloneable -/
def k4 : Class := { plain "java/lang/Cloneable" (some 0) with
  accessFlags := 1537
  interfaces := #[]
  cf := some (fileOf pool4 2 #[] #[] 1537 4 #[] #[])
  fields := #[]
  methods := #[]
  instanceTypes := #[]
  staticTypes := #[]
  resolved := Array.replicate 8 none
  statics := none }

def pool5 : Array CpInfo := pool [(1, u "java/io/Serializable"), (0, .class_ 1), (0, u "java/lang/Object"), (0, .class_ 3)] 3

/-- java/io/Serializable -/
def k5 : Class := { plain "java/io/Serializable" (some 0) with
  accessFlags := 1537
  interfaces := #[]
  cf := some (fileOf pool5 2 #[] #[] 1537 4 #[] #[])
  fields := #[]
  methods := #[]
  instanceTypes := #[]
  staticTypes := #[]
  resolved := Array.replicate 8 none
  statics := none }

/-- the primitive byte -/
def k6 : Class := { plain "byte" none with kind := .primitive 'B', accessFlags := 0x411 }
/-- [B -/
def k7 : Class := { plain "[B" (some 0) with kind := .array 6 .byte, interfaces := #[4, 5], accessFlags := 1041 }

/-- the primitive int -/
def k8 : Class := { plain "int" none with kind := .primitive 'I', accessFlags := 0x411 }
/-- [I -/
def k9 : Class := { plain "[I" (some 0) with kind := .array 8 .int, interfaces := #[4, 5], accessFlags := 1041 }

def heap : Heap := #[]
def classes : Array Class := #[k0, k1, k2, k3, k4, k5, k6, k7, k8, k9]
def interned : List (Array UInt16 × Addr) := []
def slotsUsed : Nat := 0
def theMethod : MethodId := ⟨1, 1⟩
def args0 : Array Value := #[.int 1, .int 5, .int 15, .int 0]
def aboutOver (below : List Frame) : State where
  vm := { classes := classes, interned := interned.toArray }
  heap := heap
  slotsUsed := slotsUsed
  threads := #[{ frames := .invoking theMethod args0 :: below }]
def below0 : List Frame := [.native { method := ⟨0, 0⟩, args := #[] }]
def about1 : State := aboutOver below0
def p0 : Program := .bare "" "" ""
def e0 : Env := launch0.env 0 0 0
theorem w_frames : about1.frames = Frame.invoking theMethod args0 :: below0 := rfl
set_option maxRecDepth 65536 in
theorem w_args : argsFit about1.vm theMethod args0 = true := by decide +kernel
set_option maxRecDepth 65536 in
theorem w_heap : heapFits about1 = true := by decide +kernel
set_option maxRecDepth 65536 in
theorem w_runnable : about1.curStatus? = some .runnable := by decide +kernel
set_option maxRecDepth 65536 in
theorem w_alone : about1.alone = true := by decide +kernel
set_option maxRecDepth 65536 in
theorem w_named : about1.methodNamed? x = some theMethod := by decide +kernel
set_option maxRecDepth 65536 in
theorem w_hears : about1.hears theMethod below0 = true := by decide +kernel
set_option maxRecDepth 65536 in
theorem w_ripe : about1.ripe theMethod args0 below0 = true := by decide +kernel
theorem w_running : about1.status = .running := rfl
set_option maxRecDepth 65536 in
theorem w_room : about1.hasRoom e0.platform room_1 = true :=
  launch0.hasRoom_least _ room_1 (by decide +kernel) (by decide +kernel) (by decide +kernel) (by decide +kernel) (by decide +kernel) (by decide +kernel)
theorem allAtoms_all (ts : List Jvm.Cond) (a : Array Jvm.Value) (st : Jvm.State) : (allAtoms ts).before a st = ts.all (fun c => c.before a st) := by
  induction ts with
  | nil => rfl
  | cons c t ih =>
    show (Jvm.Cond.and c (allAtoms t)).before a st = _
    rw [Jvm.Cond.before_and, ih, List.all_cons]
def words1 : List Jvm.Cond := Jvm.Cond.code x code maxLocals ret :: tables_1
/-- a 'code' word, met by the world's own term for the bytes: nothing is compared byte by byte -/
theorem code_word {y : MethodName} {bytes : ByteArray} {mx : Nat} {rt : Option FieldType} {a : Array Value} {s : State} {m : MethodId} {meth : Method} {c : Code} (h1 : s.methodNamed? y = some m) (h2 : s.vm.method? m = some meth) (h3 : meth.code = some c) (h4 : c.code = bytes)
    (h5 : (c.maxLocals == mx && c.exceptionTable.isEmpty && decide (c.maxStack ≤ mostOperands) && decide (meth.sig.returnType = rt) && !meth.locks && decide (parseMethodDescriptor y.desc = some meth.sig)) = true) : (Jvm.Cond.code y bytes mx rt).before a s = true := by
  simp only [Bool.and_eq_true, beq_iff_eq, Bool.not_eq_true', decide_eq_true_eq] at h5
  obtain ⟨⟨⟨⟨⟨g1, g2⟩, g3⟩, g4⟩, g5⟩, g6⟩ := h5
  simp [Cond.before, Cond.holds, Cond.value, h1, h2, h3, h4, g1, g2, g3, g4, g5, g6]
def isCode : Jvm.Cond → Bool
  | .code _ _ _ _ => true
  | _ => false
theorem all_split {L : List Jvm.Cond} {P : Jvm.Cond → Bool} (h1 : L.all (fun c => isCode c || P c) = true) (h2 : ∀ c ∈ L.filter isCode, P c = true) : L.all P = true := by
  refine List.all_eq_true.mpr fun c hc => ?_
  have h := List.all_eq_true.mp h1 c hc
  rcases Bool.eq_false_or_eq_true (isCode c) with hi | hi
  · exact h2 c (List.mem_filter.mpr ⟨hc, hi⟩)
  · simpa [hi] using h
set_option maxRecDepth 65536 in
theorem w_c0 : (Jvm.Cond.code x code maxLocals ret).before args0 about1 = true := code_word (m := ⟨1, 1⟩) (meth := k1m1) (c := k1c1) (by decide +kernel) rfl rfl rfl (by decide +kernel)
set_option maxRecDepth 65536 in
theorem w_c1 : (Jvm.Cond.code ({ cls := "com/example/lading/lading/io/AlgorithmLineEndPinLaw", name := "pick", desc := "(III)B" } : Jvm.MethodName) method_3_code (3 : Nat) (Option.some Jvm.ClassFile.FieldType.byte)).before args0 about1 = true := code_word (m := ⟨1, 2⟩) (meth := k1m2) (c := k1c2) (by decide +kernel) rfl rfl rfl (by decide +kernel)
set_option maxRecDepth 65536 in
theorem w_c2 : (Jvm.Cond.code ({ cls := "com/example/lading/lading/io/AlgorithmLine", name := "end", desc := "([BI)I" } : Jvm.MethodName) prog_3_method_2_code (3 : Nat) (Option.some Jvm.ClassFile.FieldType.int)).before args0 about1 = true := code_word (m := ⟨3, 0⟩) (meth := k3m0) (c := k3c0) (by decide +kernel) rfl rfl rfl (by decide +kernel)
def codes1 : List Jvm.Cond := [Jvm.Cond.code x code maxLocals ret, Jvm.Cond.code ({ cls := "com/example/lading/lading/io/AlgorithmLineEndPinLaw", name := "pick", desc := "(III)B" } : Jvm.MethodName) method_3_code (3 : Nat) (Option.some Jvm.ClassFile.FieldType.byte), Jvm.Cond.code ({ cls := "com/example/lading/lading/io/AlgorithmLine", name := "end", desc := "([BI)I" } : Jvm.MethodName) prog_3_method_2_code (3 : Nat) (Option.some Jvm.ClassFile.FieldType.int)]
set_option maxRecDepth 65536 in
theorem codes_eq : words1.filter isCode = codes1 := rfl
theorem w_codes : ∀ c ∈ words1.filter isCode, c.before args0 about1 = true := by
  rw [codes_eq]
  intro c hc
  simp only [codes1, List.mem_cons, List.not_mem_nil, or_false] at hc
  rcases hc with rfl | rfl | rfl
  · exact w_c0
  · exact w_c1
  · exact w_c2
set_option maxRecDepth 65536 in
theorem w_t1 : words1.all (fun c => isCode c || c.before args0 about1) = true := by decide +kernel
theorem w_tables : (allAtoms (Jvm.Cond.code x code maxLocals ret :: tables_1)).before args0 about1 = true := by
  rw [allAtoms_all]
  show words1.all (fun c => c.before args0 about1) = true
  refine all_split ?_ w_codes
  rw [w_t1]
set_option maxRecDepth 65536 in
theorem w_case : (Jvm.Cond.and given_1 narrow_1).before args0 about1 = true := by decide +kernel
theorem w_applies : (headSpec (Jvm.Cond.code x code maxLocals ret :: tables_1) room_1).applies x e0.platform about1 = true :=
  (Spec.applies_iff w_frames).mpr ⟨w_running, w_runnable, w_alone, w_named, w_hears, w_ripe, w_room, w_tables⟩
theorem atStart : AtStart classFile x code maxLocals ret World_1 tables_1 room_1 Calls_1 rest_1 Pre_1 launch0 p0 e0 about1 theMethod args0 below0 :=
  ⟨lists_1, trivial, launch0.admits_env _ _ _, launch0.least_env, fairChoices_fair.cas, fairChoices_fair.clock, w_frames, w_args, w_heap, w_applies, trivial, trivial, w_case⟩
end start1
theorem witness_1 : WitnessClaimed_1 := ⟨start1.p0, start1.e0, start1.about1, start1.theMethod, start1.args0, start1.below0, start1.atStart⟩
end Jvm.Pilot.@@N@@
