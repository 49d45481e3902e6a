import JvmDerived
import JvmDerived.Pilot.@@N@@Statement
import JvmDerived.Pilot.@@N@@Code
set_option linter.unusedVariables false
set_option linter.unusedSimpArgs false
@@BLOCK:NumsL.lean.txt@@
namespace Jvm.RoadKit
open Sem ClassFile Op Lib Jvm.Stand Jvm.Free Jvm.LawKit
section New
variable {p : Program} {l : Launch} {e : Env} {R : Room} {s : State} {m : MethodId} {args : Array Value} {below : List Frame} {meth : Method} {c : Code} {T : State} {locs : List Loc} {cells slots : Nat}
theorem retI (X : Stand p l e R s m args below meth c T locs cells slots) (hx : p.tables.exec = Jvm.exec) {pc : Nat} {Ls : Array Slot} {z : Int32} {rest : List Value} (hret : meth.sig.returnType = some .int) (hd : decode c.code pc = .ok (.ireturn, 1)) {fs : List Frame}
    (hl : ∀ (f : JFrame) (acts : List Action), f.method = m → f.locked = none → f.entered = [] → (doReturn e (T.setTop f) acts (some (.int z))).1 = T.setFrames fs) : Steps p.tables e below (T.setTop (mkF m pc Ls (.int z :: rest))) (T.setFrames fs) := by
  have hm' : T.vm.method? m = some meth := X.method'
  have hn : narrow .int (.int z) = .int z := rfl
  show Steps p.tables e below (T.setTop { method := m, pc := pc, locals := Ls, stack := _ :: rest, locked := none }) _
  jvm_step X.here [X.here.top, hx, hd, hm', hret, hn]
  first | (intro acts; rw [hl _ acts rfl rfl rfl]) | rw [hl _ _ rfl rfl rfl]
  exact Steps.refl _
end New
end Jvm.RoadKit
namespace Jvm.Pilot.@@N@@
open Jvm Jvm.ClassFile Sem Op Lib Jvm.Free Jvm.Stand Jvm.LawKit Jvm.RoadKit Bundle Jvm.Pilot.@@N@@.Jvm.D
theorem own_nar_b (x : Int32) : nar .byte (x.toInt8.toInt32) = x.toInt8.toInt32 := by
  show (x.toInt8.toInt32).toInt8.toInt32 = _
  rw [Int8.toInt8_toInt32]
theorem own_keep_eq {h h' : Heap} (e : h' = h) (ws : List Addr) : Keep h h' ws := by rw [e]; exact Keep.refl _ _
theorem own_nm2 {a b d : Addr} (h1 : a ≠ b) (h2 : a ≠ d) : a ∉ [b, d] := by
  intro q
  rcases List.mem_cons.mp q with q | q
  · exact h1 q
  · exact h2 (List.mem_singleton.mp q)
theorem own_nm1 {a b : Addr} (h1 : a ≠ b) : a ∉ [b] := fun q => h1 (List.mem_singleton.mp q)
theorem own_keep1 {h h' : Heap} {a b : Addr} (K : Keep h h' [a]) : Keep h h' [a, b] := ⟨K.1, fun x c q r => K.2.1 x c q (fun u => r (by rw [List.mem_singleton.mp u]; exact List.mem_cons_self)), K.2.2⟩
theorem own_keep_tr {h h' h'' : Heap} {ws : List Addr} (K : Keep h h' ws) (K' : Keep h' h'' ws) : Keep h h'' ws := K.trans K' fun x hx => Or.inl hx
theorem own_z : (0 : Int32).toInt = 0 := by decide
theorem own_4 : (4 : Int32).toInt = 4 := by decide
theorem own_64 : (64 : Int32).toInt = 64 := by decide
theorem own_room (w n : Int32) (h0 : -100 ≤ w.toInt + n.toInt) (h : w.toInt + n.toInt ≤ 64) : ¬ ((0 : Int32) < (lcmpW ((w.toInt64) + (n.toInt64)) ((64 : Int32).toInt64))) := by
  have e1 : (w.toInt64 + n.toInt64).toInt = w.toInt + n.toInt := by
    rw [Jvm.Kit.i64_add (by rw [Int32.toInt_toInt64, Int32.toInt_toInt64]; omega) (by rw [Int32.toInt_toInt64, Int32.toInt_toInt64]; omega), Int32.toInt_toInt64, Int32.toInt_toInt64]
  have e2 : ((64 : Int32).toInt64).toInt = 64 := by decide
  have hg : ¬ (w.toInt64 + n.toInt64 > (64 : Int32).toInt64) := by
    show ¬ ((64 : Int32).toInt64 < w.toInt64 + n.toInt64)
    rw [Int64.lt_iff_toInt_lt, e1, e2]; omega
  show ¬ ((0 : Int32) < (if w.toInt64 + n.toInt64 > (64 : Int32).toInt64 then 1 else if w.toInt64 + n.toInt64 = (64 : Int32).toInt64 then 0 else -1))
  rw [if_neg hg]
  split <;> decide
def own_Sp (Z : State) (h : Heap) (a M : Addr) (k : ClassId) (ub uo ul : Value) (vs : List Value) : Prop :=
  Exa Z h a "satura/ntriples/Spelling" ∧ Fld Z h a "satura/ntriples/Spelling" "made" "[B" (.ref M) ∧ Fld Z h a "satura/ntriples/Spelling" "bytes" "[B" ub ∧ Fld Z h a "satura/ntriples/Spelling" "offset" "I" uo ∧ Fld Z h a "satura/ntriples/Spelling" "length" "I" ul ∧ vs.length = 64 ∧ Arv Z h M k .byte (64 : Int32) vs (.int (0 : Int32)) ∧ a ≠ M
def own_roomN : MethodName := ⟨"satura/ntriples/Spelling", "room", "(I)V"⟩
theorem own_sel {s : State} {args : Array Value} {n : Nat} (hins : (Jvm.Cond.instantiable "satura/ntriples/Spelling" n).before args s = true) (hpriv : (Jvm.Cond.privateMethod own_roomN).before args s = true) (hinst : (Jvm.Cond.instanceMethod own_roomN).before args s = true) :
    (Jvm.Cond.selects "satura/ntriples/Spelling" own_roomN own_roomN).before args s = true := by
  obtain ⟨c, k, hc, hk, -, hniab, -, -⟩ := Cond.instantiable_spec hins
  have hni : k.isInterface = false := (Bool.or_eq_false_iff.mp hniab).1
  obtain ⟨mk, methM, hnamed, hmethM, -, -⟩ := Cond.instanceMethod_spec hinst
  have hy : own_roomN.cls ≠ "java/lang/invoke/MethodHandle" ∧ own_roomN.cls ≠ "java/lang/invoke/VarHandle" := by decide
  have hfound : s.methodFound? own_roomN.cls own_roomN.name own_roomN.desc = some mk := State.methodFound?_of_named hnamed hy
  have hcls : mk.cls = c := Option.some.inj ((findClass_of_methodNamed hnamed).symm.trans hc)
  have hsel : selectMethod {} s.vm c mk = .method mk := selectMethod_private hmethM (Cond.privateMethod_at hpriv mk methM hnamed hmethM)
  simp only [Cond.before, Cond.holds, Cond.value, hc, hfound, hnamed, hsel, hcls, hk]
  simp; exact hni
theorem own_set_bytes {Z : State} {a0 : Array Value} (hw : ∀ d ∈ tables_1, d.before a0 Z = true) {h h' : Heap} {a M : Addr} {k : ClassId} {ub uo ul v : Value} {vs : List Value} (S : own_Sp Z h a M k ub uo ul vs) (W : Wr h h' a (Jvm.RoadKit.slotOf Z "satura/ntriples/Spelling" "bytes" "[B") v) : own_Sp Z h' a M k v uo ul vs := by
  obtain ⟨E, F1, F2, F3, F4, hl, V, hne⟩ := S
  exact ⟨E.wr W, F1.other W (Or.inr (slot_ne (Or.inl (hw _ (List.mem_of_getElem? (i := 15) rfl))) (Or.inl (hw _ (List.mem_of_getElem? (i := 22) rfl))) (by decide) (t := (.array .byte)) (t' := (.array .byte)) (by decide) (by decide))), F2.same W, F3.other W (Or.inr (slot_ne (Or.inl (hw _ (List.mem_of_getElem? (i := 24) rfl))) (Or.inl (hw _ (List.mem_of_getElem? (i := 22) rfl))) (by decide) (t := .int) (t' := (.array .byte)) (by decide) (by decide))), F4.other W (Or.inr (slot_ne (Or.inl (hw _ (List.mem_of_getElem? (i := 26) rfl))) (Or.inl (hw _ (List.mem_of_getElem? (i := 22) rfl))) (by decide) (t := .int) (t' := (.array .byte)) (by decide) (by decide))), hl, V.other W hne.symm, hne⟩
theorem own_set_offset {Z : State} {a0 : Array Value} (hw : ∀ d ∈ tables_1, d.before a0 Z = true) {h h' : Heap} {a M : Addr} {k : ClassId} {ub uo ul v : Value} {vs : List Value} (S : own_Sp Z h a M k ub uo ul vs) (W : Wr h h' a (Jvm.RoadKit.slotOf Z "satura/ntriples/Spelling" "offset" "I") v) : own_Sp Z h' a M k ub v ul vs := by
  obtain ⟨E, F1, F2, F3, F4, hl, V, hne⟩ := S
  exact ⟨E.wr W, F1.other W (Or.inr (slot_ne (Or.inl (hw _ (List.mem_of_getElem? (i := 15) rfl))) (Or.inl (hw _ (List.mem_of_getElem? (i := 24) rfl))) (by decide) (t := (.array .byte)) (t' := .int) (by decide) (by decide))), F2.other W (Or.inr (slot_ne (Or.inl (hw _ (List.mem_of_getElem? (i := 22) rfl))) (Or.inl (hw _ (List.mem_of_getElem? (i := 24) rfl))) (by decide) (t := (.array .byte)) (t' := .int) (by decide) (by decide))), F3.same W, F4.other W (Or.inr (slot_ne (Or.inl (hw _ (List.mem_of_getElem? (i := 26) rfl))) (Or.inl (hw _ (List.mem_of_getElem? (i := 24) rfl))) (by decide) (t := .int) (t' := .int) (by decide) (by decide))), hl, V.other W hne.symm, hne⟩
theorem own_set_length {Z : State} {a0 : Array Value} (hw : ∀ d ∈ tables_1, d.before a0 Z = true) {h h' : Heap} {a M : Addr} {k : ClassId} {ub uo ul v : Value} {vs : List Value} (S : own_Sp Z h a M k ub uo ul vs) (W : Wr h h' a (Jvm.RoadKit.slotOf Z "satura/ntriples/Spelling" "length" "I") v) : own_Sp Z h' a M k ub uo v vs := by
  obtain ⟨E, F1, F2, F3, F4, hl, V, hne⟩ := S
  exact ⟨E.wr W, F1.other W (Or.inr (slot_ne (Or.inl (hw _ (List.mem_of_getElem? (i := 15) rfl))) (Or.inl (hw _ (List.mem_of_getElem? (i := 26) rfl))) (by decide) (t := (.array .byte)) (t' := .int) (by decide) (by decide))), F2.other W (Or.inr (slot_ne (Or.inl (hw _ (List.mem_of_getElem? (i := 22) rfl))) (Or.inl (hw _ (List.mem_of_getElem? (i := 26) rfl))) (by decide) (t := (.array .byte)) (t' := .int) (by decide) (by decide))), F3.other W (Or.inr (slot_ne (Or.inl (hw _ (List.mem_of_getElem? (i := 24) rfl))) (Or.inl (hw _ (List.mem_of_getElem? (i := 26) rfl))) (by decide) (t := .int) (t' := .int) (by decide) (by decide))), F4.same W, hl, V.other W hne.symm, hne⟩
theorem own_set_arr {Z : State} {h h' : Heap} {a M : Addr} {k : ClassId} {ub uo ul : Value} {vs : List Value} (S : own_Sp Z h a M k ub uo ul vs) {j x : Int32} (hj : j.toNatClampNeg < 64) (W : Wr h h' M j.toNatClampNeg (.int (nar .byte x))) : own_Sp Z h' a M k ub uo ul (vs.set j.toNatClampNeg (.int (nar .byte x))) := by
  obtain ⟨E, F1, F2, F3, F4, hl, V, hne⟩ := S
  obtain ⟨cl, Ar, q, Sz, Nn, H, G⟩ := V
  exact ⟨E.wr W, F1.other W (Or.inl hne), F2.other W (Or.inl hne), F3.other W (Or.inl hne), F4.other W (Or.inl hne), by rw [List.length_set]; exact hl, Arv.set Ar q Sz Nn H G (fits_nar_byte _) W _ rfl (by omega), hne⟩
theorem own_keepM {Z : State} {h h' : Heap} {a M : Addr} {k : ClassId} {ub uo ul : Value} {vs vs' : List Value} (S : own_Sp Z h a M k ub uo ul vs) (K : Keep h h' [M]) (hl' : vs'.length = 64) (V' : Arv Z h' M k .byte (64 : Int32) vs' (.int (0 : Int32))) : own_Sp Z h' a M k ub uo ul vs' := by
  obtain ⟨E, F1, F2, F3, F4, hl, V, hne⟩ := S
  exact ⟨E.keep K, F1.keep K (own_nm1 hne), F2.keep K (own_nm1 hne), F3.keep K (own_nm1 hne), F4.keep K (own_nm1 hne), hl', V', hne⟩
def own_min (a b : Int32) : Int32 := if b < a then b else a
def Q1 (r : Int32) (Z : State) (p1 : Int32) (p2 : Int32) (h0 : Heap) (n0 : Nat) (v : Option Value) (h : Heap) (L : List Loc) : Prop := v = some (.int r) ∧ Fr n0 L ∧ h = h0
theorem d1_0 : decode jdk_29_method_69_code 0 = .ok (.iload_n 0, 1) := by decide +kernel
theorem d1_1 : decode jdk_29_method_69_code 1 = .ok (.iload_n 1, 1) := by decide +kernel
theorem d1_2 : decode jdk_29_method_69_code 2 = .ok (.if_icmp .gt 7, 3) := by decide +kernel
theorem d1_5 : decode jdk_29_method_69_code 5 = .ok (.iload_n 0, 1) := by decide +kernel
theorem d1_6 : decode jdk_29_method_69_code 6 = .ok (.goto 4, 3) := by decide +kernel
theorem d1_10 : decode jdk_29_method_69_code 10 = .ok (.ireturn, 1) := by decide +kernel
theorem ef_1 (m : MethodId) (x0 : Int32) (x1 : Int32) : entryFrame m #[(.int x0), (.int x1)] 2 = mkF m 0 #[.val (.int x0), .val (.int x1)] [] := by first | (simp [entryFrame, mkF, argsToLocals, Value.category]; done) | rfl
set_option maxRecDepth 65536 in
set_option maxHeartbeats 40000000 in
theorem rm1a (l : Launch) (Z : State) (a0 : Array Value) (hw : ∀ d ∈ tables_1, d.before a0 Z = true) (ws : List Jvm.Cond) (p1 : Int32) (p2 : Int32) (h0 : Heap) (n0 : Nat) (Z0 : n0 ≤ h0.size) (hc2 : ¬ (p2 < p1)) :
    MetFree l (⟨"java/lang/Math", "min", "(II)I"⟩ : MethodName) (head1 (Jvm.Cond.code (⟨"java/lang/Math", "min", "(II)I"⟩ : MethodName) jdk_29_method_69_code 2 (some .int) :: ws) ({ frames := 0, cells := 0, slots := 0, locals := 0 } : Room)) (fun a U => a = #[(.int p1), (.int p2)] ∧ Z.Warmed39 U.vm ∧ U.heap = h0) (fun _ _ _ _ _ => True) (fun _ U o U' => ∃ v L, o = .returned v ∧ Q1 p1 Z p1 p2 h0 n0 v U'.heap L ∧ FrameEnd U o U' L ({ frames := 0, cells := 0, slots := 0, locals := 0 } : Room).cells ({ frames := 0, cells := 0, slots := 0, locals := 0 } : Room).slots) := by
  refine MetFree.of_bodySF (Jvm.Free.JP.mathPlain rfl (by decide +kernel)) hisR ?_
  intro p e s m args below meth c s₁ Bd hml0 hP hK
  obtain ⟨rfl, hZ, hh⟩ := hP
  have hx := Bd.exec
  have hby := Bd.bytes
  have hml : c.maxLocals = 2 := hml0
  have hown : s.vm.findClass "java/lang/Math" = some m.cls := findClass_of_methodNamed Bd.named
  have hnm := (name_of_methodNamed Bd.named Bd.method).1
  have X0 : Stand p l e ({ frames := 0, cells := 0, slots := 0, locals := 0 } : Room) s m #[(.int p1), (.int p2)] below meth c s₁ [] 0 0 := Stand.of_body Bd
  have e0 : s₁.heap = h0 := by rw [← hh, Bd.state]; rfl
  have N0 := Fr.nil n0
  have pre0 : ∀ t, Steps p.tables e below (s₁.setTop (mkF m 0 #[.val (.int p1), .val (.int p2)] [])) t → Steps p.tables e below (s₁.setTop (entryFrame m #[(.int p1), (.int p2)] 2)) t := fun t k => castTop (ef_1 m p1 p2) k

  obtain ⟨fs, hr, hrun, hended, hW, hsame⟩ := X0.leave (v := some (.int p1)) (fun h => by rw [Bd.returns] at h; cases h)
  refine ⟨_, _, pre0 _ ?_, hrun, hended, _, _, rfl, ?_, ⟨_, rfl⟩, hW, hsame.mono (by decide) (by decide)⟩
  · show Steps p.tables e below (s₁.setTop (mkF m 0 #[.val (.int p1), .val (.int p2)] [])) _
    refine XS.iloadN X0.here hx rfl (hb hby d1_0) rfl ?_
    show Steps p.tables e below (s₁.setTop (mkF m 1 #[.val (.int p1), .val (.int p2)] [(.int p1)])) _
    refine XS.iloadN X0.here hx rfl (hb hby d1_1) rfl ?_
    show Steps p.tables e below (s₁.setTop (mkF m 2 #[.val (.int p1), .val (.int p2)] [(.int p2), (.int p1)])) _
    refine XS.icmpNo X0.here hx rfl (hb hby d1_2) rfl (flt hc2).2.2.1 ?_
    show Steps p.tables e below (s₁.setTop (mkF m 5 #[.val (.int p1), .val (.int p2)] [])) _
    refine XS.iloadN X0.here hx rfl (hb hby d1_5) rfl ?_
    show Steps p.tables e below (s₁.setTop (mkF m 6 #[.val (.int p1), .val (.int p2)] [(.int p1)])) _
    refine XS.goto X0.here hx rfl (pc0 := 6) (pc' := 10) rfl (hb hby d1_6) (by decide) (by decide) ?_
    show Steps p.tables e below (s₁.setTop (mkF m 10 #[.val (.int p1), .val (.int p2)] [(.int p1)])) _
    exact retI X0 hx Bd.returns (hb hby d1_10) hr
  · show Q1 p1 Z p1 p2 h0 n0 _ s₁.heap _
    rw [e0]
    exact ⟨rfl, N0, rfl⟩
theorem d1_9 : decode jdk_29_method_69_code 9 = .ok (.iload_n 1, 1) := by decide +kernel
set_option maxRecDepth 65536 in
set_option maxHeartbeats 40000000 in
theorem rm1b (l : Launch) (Z : State) (a0 : Array Value) (hw : ∀ d ∈ tables_1, d.before a0 Z = true) (ws : List Jvm.Cond) (p1 : Int32) (p2 : Int32) (h0 : Heap) (n0 : Nat) (Z0 : n0 ≤ h0.size) (hc2 : p2 < p1) :
    MetFree l (⟨"java/lang/Math", "min", "(II)I"⟩ : MethodName) (head1 (Jvm.Cond.code (⟨"java/lang/Math", "min", "(II)I"⟩ : MethodName) jdk_29_method_69_code 2 (some .int) :: ws) ({ frames := 0, cells := 0, slots := 0, locals := 0 } : Room)) (fun a U => a = #[(.int p1), (.int p2)] ∧ Z.Warmed39 U.vm ∧ U.heap = h0) (fun _ _ _ _ _ => True) (fun _ U o U' => ∃ v L, o = .returned v ∧ Q1 p2 Z p1 p2 h0 n0 v U'.heap L ∧ FrameEnd U o U' L ({ frames := 0, cells := 0, slots := 0, locals := 0 } : Room).cells ({ frames := 0, cells := 0, slots := 0, locals := 0 } : Room).slots) := by
  refine MetFree.of_bodySF (Jvm.Free.JP.mathPlain rfl (by decide +kernel)) hisR ?_
  intro p e s m args below meth c s₁ Bd hml0 hP hK
  obtain ⟨rfl, hZ, hh⟩ := hP
  have hx := Bd.exec
  have hby := Bd.bytes
  have hml : c.maxLocals = 2 := hml0
  have hown : s.vm.findClass "java/lang/Math" = some m.cls := findClass_of_methodNamed Bd.named
  have hnm := (name_of_methodNamed Bd.named Bd.method).1
  have X0 : Stand p l e ({ frames := 0, cells := 0, slots := 0, locals := 0 } : Room) s m #[(.int p1), (.int p2)] below meth c s₁ [] 0 0 := Stand.of_body Bd
  have e0 : s₁.heap = h0 := by rw [← hh, Bd.state]; rfl
  have N0 := Fr.nil n0
  have pre0 : ∀ t, Steps p.tables e below (s₁.setTop (mkF m 0 #[.val (.int p1), .val (.int p2)] [])) t → Steps p.tables e below (s₁.setTop (entryFrame m #[(.int p1), (.int p2)] 2)) t := fun t k => castTop (ef_1 m p1 p2) k

  obtain ⟨fs, hr, hrun, hended, hW, hsame⟩ := X0.leave (v := some (.int p2)) (fun h => by rw [Bd.returns] at h; cases h)
  refine ⟨_, _, pre0 _ ?_, hrun, hended, _, _, rfl, ?_, ⟨_, rfl⟩, hW, hsame.mono (by decide) (by decide)⟩
  · show Steps p.tables e below (s₁.setTop (mkF m 0 #[.val (.int p1), .val (.int p2)] [])) _
    refine XS.iloadN X0.here hx rfl (hb hby d1_0) rfl ?_
    show Steps p.tables e below (s₁.setTop (mkF m 1 #[.val (.int p1), .val (.int p2)] [(.int p1)])) _
    refine XS.iloadN X0.here hx rfl (hb hby d1_1) rfl ?_
    show Steps p.tables e below (s₁.setTop (mkF m 2 #[.val (.int p1), .val (.int p2)] [(.int p2), (.int p1)])) _
    refine XS.icmpYes X0.here hx rfl (pc0 := 2) (pc' := 9) rfl (hb hby d1_2) rfl (tlt hc2).2.2.1 (by decide) (by decide) ?_
    show Steps p.tables e below (s₁.setTop (mkF m 9 #[.val (.int p1), .val (.int p2)] [])) _
    refine XS.iloadN X0.here hx rfl (hb hby d1_9) rfl ?_
    show Steps p.tables e below (s₁.setTop (mkF m 10 #[.val (.int p1), .val (.int p2)] [(.int p2)])) _
    exact retI X0 hx Bd.returns (hb hby d1_10) hr
  · show Q1 p2 Z p1 p2 h0 n0 _ s₁.heap _
    rw [e0]
    exact ⟨rfl, N0, rfl⟩
theorem rm1 (l : Launch) (Z : State) (a0 : Array Value) (hw : ∀ d ∈ tables_1, d.before a0 Z = true) (ws : List Jvm.Cond) (p1 : Int32) (p2 : Int32) (h0 : Heap) (n0 : Nat) (Z0 : n0 ≤ h0.size) :
    MetFree l (⟨"java/lang/Math", "min", "(II)I"⟩ : MethodName) (head1 (Jvm.Cond.code (⟨"java/lang/Math", "min", "(II)I"⟩ : MethodName) jdk_29_method_69_code 2 (some .int) :: ws) ({ frames := 0, cells := 0, slots := 0, locals := 0 } : Room)) (fun a U => a = #[(.int p1), (.int p2)] ∧ Z.Warmed39 U.vm ∧ U.heap = h0) (fun _ _ _ _ _ => True) (fun _ U o U' => ∃ v L, o = .returned v ∧ Q1 (own_min p1 p2) Z p1 p2 h0 n0 v U'.heap L ∧ FrameEnd U o U' L ({ frames := 0, cells := 0, slots := 0, locals := 0 } : Room).cells ({ frames := 0, cells := 0, slots := 0, locals := 0 } : Room).slots) := by
  unfold own_min
  by_cases h1 : p2 < p1
  · rw [if_pos h1]; exact rm1b l Z a0 hw ws p1 p2 h0 n0 Z0 h1
  · rw [if_neg h1]; exact rm1a l Z a0 hw ws p1 p2 h0 n0 Z0 h1
def Q2 (Z : State) (a1 : Addr) (h0 : Heap) (n0 : Nat) (v : Option Value) (h : Heap) (L : List Loc) : Prop := v = none ∧ Fr n0 L ∧ Keep h0 h [a1] ∧ ∃ M k vs, h0.size ≤ M ∧ own_Sp Z h a1 M k .null (.int (0 : Int32)) (.int (0 : Int32)) vs
theorem d2_0 : decode prog_63_method_1_code 0 = .ok (.aload_n 0, 1) := by decide +kernel
theorem d2_1 : decode prog_63_method_1_code 1 = .ok (.invokespecial 3, 3) := by decide +kernel
theorem d2_4 : decode prog_63_method_1_code 4 = .ok (.aload_n 0, 1) := by decide +kernel
theorem d2_5 : decode prog_63_method_1_code 5 = .ok (.bipush 64, 2) := by decide +kernel
theorem d2_7 : decode prog_63_method_1_code 7 = .ok (.newarray .byte, 2) := by decide +kernel
theorem d2_9 : decode prog_63_method_1_code 9 = .ok (.putfield 9, 3) := by decide +kernel
theorem d2_12 : decode prog_63_method_1_code 12 = .ok (.return_, 1) := by decide +kernel
theorem pn_2 : plainName "satura/ntriples/Spelling" = true := by first | (simp [plainName, overriddenIn]; done) | decide +kernel
theorem ef_2 (m : MethodId) (x0 : Addr) : entryFrame m #[(.ref x0)] 1 = mkF m 0 #[.val (.ref x0)] [] := by first | (simp [entryFrame, mkF, argsToLocals, Value.category]; done) | rfl
set_option maxRecDepth 65536 in
set_option maxHeartbeats 40000000 in
theorem rm2 (l : Launch) (Z : State) (a0 : Array Value) (hw : ∀ d ∈ tables_1, d.before a0 Z = true) (ws : List Jvm.Cond) (a1 : Addr) (u_made_a1 : Value) (h0 : Heap) (n0 : Nat) (Z0 : n0 ≤ h0.size) (E_a1 : Exa Z h0 a1 "satura/ntriples/Spelling") (F_made_a1 : Fld Z h0 a1 "satura/ntriples/Spelling" "made" "[B" u_made_a1) (g_a1 : n0 ≤ a1) (F_bytes_a1 : Fld Z h0 a1 "satura/ntriples/Spelling" "bytes" "[B" .null) (F_offset_a1 : Fld Z h0 a1 "satura/ntriples/Spelling" "offset" "I" (.int (0 : Int32))) (F_length_a1 : Fld Z h0 a1 "satura/ntriples/Spelling" "length" "I" (.int (0 : Int32))) :
    MetFree l (⟨"satura/ntriples/Spelling", "<init>", "()V"⟩ : MethodName) (head1 (Jvm.Cond.code (⟨"satura/ntriples/Spelling", "<init>", "()V"⟩ : MethodName) prog_63_method_1_code 1 none :: ws) ({ frames := 1, cells := 1, slots := 64, locals := 12 } : Room)) (fun a U => a = #[(.ref a1)] ∧ Z.Warmed39 U.vm ∧ U.heap = h0) (fun _ _ _ _ _ => True) (fun _ U o U' => ∃ v L, o = .returned v ∧ Q2 Z a1 h0 n0 v U'.heap L ∧ FrameEnd U o U' L ({ frames := 1, cells := 1, slots := 64, locals := 12 } : Room).cells ({ frames := 1, cells := 1, slots := 64, locals := 12 } : Room).slots) := by
  refine MetFree.of_bodySF (plainFor_of_name pn_2) hisR ?_
  intro p e s m args below meth c s₁ Bd hml0 hP hK
  obtain ⟨rfl, hZ, hh⟩ := hP
  have hx := Bd.exec
  have hby := Bd.bytes
  have hml : c.maxLocals = 1 := hml0
  have hown : s.vm.findClass "satura/ntriples/Spelling" = some m.cls := findClass_of_methodNamed Bd.named
  have hnm := (name_of_methodNamed Bd.named Bd.method).1
  have X0 : Stand p l e ({ frames := 1, cells := 1, slots := 64, locals := 12 } : Room) s m #[(.ref a1)] below meth c s₁ [] 0 0 := Stand.of_body Bd
  have e0 : s₁.heap = h0 := by rw [← hh, Bd.state]; rfl
  have N0 := Fr.nil n0
  have pre0 : ∀ t, Steps p.tables e below (s₁.setTop (mkF m 0 #[.val (.ref a1)] [])) t → Steps p.tables e below (s₁.setTop (entryFrame m #[(.ref a1)] 1)) t := fun t k => castTop (ef_2 m a1) k
  obtain ⟨T2, X2, e2, st2⟩ := initO X0 hx hZ hown (hw _ (List.mem_of_getElem? (i := 11) rfl)) (hw _ (List.mem_of_getElem? (i := 12) rfl)) (hw _ (List.mem_of_getElem? (i := 13) rfl)) e0 (g := (mkF m 1 #[.val (.ref a1)] [(.ref a1)])) rfl (by rw [hml]; rfl) rfl (hb hby d2_1) (by decide) (W := 0) (by show 2 * 0 + _ ≤ _; exact Nat.le_of_eq rfl) (by decide)
  obtain ⟨T3, h3, k3, X3, e3, E3, A3, st3⟩ := newP X2 hx hZ (hw _ (List.mem_of_getElem? (i := 0) rfl)) e2 (g := (mkF m 7 #[.val (.ref a1)] [(.int (64 : Int32)), (.ref a1)])) rfl (hb hby d2_7) rfl (by decide) (cap := 64) (by decide) (by decide) (by decide) (by decide)
  obtain ⟨b3, g3⟩ : ∃ z, z = h0.size := ⟨_, rfl⟩
  rw [← g3] at A3 st3
  have V_b3 : Arv Z h3 b3 k3 .byte (64 : Int32) (List.replicate 64 (.int (0 : Int32))) (.int (0 : Int32)) := (Arv.new A3 (by decide)).pad (pad_rep [] (.int (0 : Int32)) 64)
  have g_b3 : n0 ≤ b3 := Nat.le_trans Z0 (Nat.le_of_eq g3.symm)
  have sz_b3 : h0.size ≤ b3 := (Nat.le_trans (Keep.refl h0 [a1]).1 (Nat.le_of_eq g3.symm))
  have hnb : b3 ≠ a1 := Nat.ne_of_gt (Nat.lt_of_lt_of_le E_a1.lt (Nat.le_of_eq g3.symm))
  have K3 : Keep h0 h3 [a1] := (Keep.refl h0 [a1]).ext E3
  obtain ⟨T4, h4, X4, e4, W4, st4⟩ := putF X3 hx hZ hown (host := "") (Or.inl (hw _ (List.mem_of_getElem? (i := 14) rfl))) Via.refl e3 (F_made_a1.ext E3) (E_a1.ext E3) (Or.inl (hw _ (List.mem_of_getElem? (i := 15) rfl))) (hw _ (List.mem_of_getElem? (i := 6) rfl)) (ty := (.array .byte)) (by decide) rfl rfl (g := (mkF m 9 #[.val (.ref a1)] [(.ref b3), (.ref a1)])) rfl rfl (hb hby d2_9)
  have Fw4 := (F_made_a1.ext E3).same W4
  have K4 : Keep h0 h4 [a1] := K3.wr W4 (Or.inl (List.mem_of_getElem? (i := 0) rfl))
  have N4 := Fr.snoc X4 N0 g_a1
  obtain ⟨fs, hr, hrun, hended, hW, hsame⟩ := X4.leave (v := none) (fun _ => rfl)
  refine ⟨_, _, pre0 _ ?_, hrun, hended, _, _, rfl, ?_, ⟨_, rfl⟩, hW, hsame.mono (by decide) (by decide)⟩
  · show Steps p.tables e below (s₁.setTop (mkF m 0 #[.val (.ref a1)] [])) _
    refine XS.aloadN X0.here hx rfl (hb hby d2_0) rfl rfl ?_
    show Steps p.tables e below (s₁.setTop (mkF m 1 #[.val (.ref a1)] [(.ref a1)])) _
    refine st2 _ ?_
    show Steps p.tables e below (T2.setTop (mkF m 4 #[.val (.ref a1)] [])) _
    refine XS.aloadN X2.here hx rfl (hb hby d2_4) rfl rfl ?_
    show Steps p.tables e below (T2.setTop (mkF m 5 #[.val (.ref a1)] [(.ref a1)])) _
    refine XS.bipush X2.here hx rfl (hb hby d2_5) ?_
    show Steps p.tables e below (T2.setTop (mkF m 7 #[.val (.ref a1)] [(.int (64 : Int32)), (.ref a1)])) _
    refine st3 _ ?_
    show Steps p.tables e below (T3.setTop (mkF m 9 #[.val (.ref a1)] [(.ref b3), (.ref a1)])) _
    refine st4 _ ?_
    show Steps p.tables e below (T4.setTop (mkF m 12 #[.val (.ref a1)] [])) _
    exact X4.returnOut hx Bd.returns (hb hby d2_12) hr
  · show Q2 Z a1 h0 n0 _ T4.heap _
    rw [e4]
    exact ⟨rfl, N4, K4, b3, k3, _, sz_b3, (E_a1.ext E3).wr W4, Fw4, (F_bytes_a1.ext E3).other W4 (Or.inr (slot_ne (Or.inl (hw _ (List.mem_of_getElem? (i := 22) rfl))) (Or.inl (hw _ (List.mem_of_getElem? (i := 15) rfl))) (by decide) (t := (.array .byte)) (t' := (.array .byte)) (by decide) (by decide))), (F_offset_a1.ext E3).other W4 (Or.inr (slot_ne (Or.inl (hw _ (List.mem_of_getElem? (i := 24) rfl))) (Or.inl (hw _ (List.mem_of_getElem? (i := 15) rfl))) (by decide) (t := .int) (t' := (.array .byte)) (by decide) (by decide))), (F_length_a1.ext E3).other W4 (Or.inr (slot_ne (Or.inl (hw _ (List.mem_of_getElem? (i := 26) rfl))) (Or.inl (hw _ (List.mem_of_getElem? (i := 15) rfl))) (by decide) (t := .int) (t' := (.array .byte)) (by decide) (by decide))), List.length_replicate, V_b3.other W4 hnb, hnb.symm⟩
def Q4 (Z : State) (a1 : Addr) (M : Addr) (k : ClassId) (vs : List Value) (h0 : Heap) (n0 : Nat) (v : Option Value) (h : Heap) (L : List Loc) : Prop := v = none ∧ Fr n0 L ∧ Keep h0 h [a1] ∧ own_Sp Z h a1 M k (.ref M) (.int (0 : Int32)) (.int (0 : Int32)) vs
theorem d4_0 : decode prog_63_method_11_code 0 = .ok (.aload_n 0, 1) := by decide +kernel
theorem d4_1 : decode prog_63_method_11_code 1 = .ok (.aload_n 0, 1) := by decide +kernel
theorem d4_2 : decode prog_63_method_11_code 2 = .ok (.getfield 9, 3) := by decide +kernel
theorem d4_5 : decode prog_63_method_11_code 5 = .ok (.putfield 15, 3) := by decide +kernel
theorem d4_8 : decode prog_63_method_11_code 8 = .ok (.aload_n 0, 1) := by decide +kernel
theorem d4_9 : decode prog_63_method_11_code 9 = .ok (.iconst 0, 1) := by decide +kernel
theorem d4_10 : decode prog_63_method_11_code 10 = .ok (.putfield 18, 3) := by decide +kernel
theorem d4_13 : decode prog_63_method_11_code 13 = .ok (.aload_n 0, 1) := by decide +kernel
theorem d4_14 : decode prog_63_method_11_code 14 = .ok (.iconst 0, 1) := by decide +kernel
theorem d4_15 : decode prog_63_method_11_code 15 = .ok (.putfield 22, 3) := by decide +kernel
theorem d4_18 : decode prog_63_method_11_code 18 = .ok (.return_, 1) := by decide +kernel
theorem pn_4 : plainName "satura/ntriples/Spelling" = true := by first | (simp [plainName, overriddenIn]; done) | decide +kernel
theorem ef_4 (m : MethodId) (x0 : Addr) : entryFrame m #[(.ref x0)] 1 = mkF m 0 #[.val (.ref x0)] [] := by first | (simp [entryFrame, mkF, argsToLocals, Value.category]; done) | rfl
set_option maxRecDepth 65536 in
set_option maxHeartbeats 40000000 in
theorem rm4 (l : Launch) (Z : State) (a0 : Array Value) (hw : ∀ d ∈ tables_1, d.before a0 Z = true) (ws : List Jvm.Cond) (a1 : Addr) (M : Addr) (k : ClassId) (ub uo ul : Value) (vs : List Value) (h0 : Heap) (n0 : Nat) (Z0 : n0 ≤ h0.size) (hS : own_Sp Z h0 a1 M k ub uo ul vs) (g_a1 : n0 ≤ a1) :
    MetFree l (⟨"satura/ntriples/Spelling", "startMaking", "()V"⟩ : MethodName) (head1 (Jvm.Cond.code (⟨"satura/ntriples/Spelling", "startMaking", "()V"⟩ : MethodName) prog_63_method_11_code 1 none :: ws) ({ frames := 0, cells := 0, slots := 0, locals := 0 } : Room)) (fun a U => a = #[(.ref a1)] ∧ Z.Warmed39 U.vm ∧ U.heap = h0) (fun _ _ _ _ _ => True) (fun _ U o U' => ∃ v L, o = .returned v ∧ Q4 Z a1 M k vs h0 n0 v U'.heap L ∧ FrameEnd U o U' L ({ frames := 0, cells := 0, slots := 0, locals := 0 } : Room).cells ({ frames := 0, cells := 0, slots := 0, locals := 0 } : Room).slots) := by
  refine MetFree.of_bodySF (plainFor_of_name pn_4) hisR ?_
  intro p e s m args below meth c s₁ Bd hml0 hP hK
  obtain ⟨rfl, hZ, hh⟩ := hP
  have hx := Bd.exec
  have hby := Bd.bytes
  have hml : c.maxLocals = 1 := hml0
  have hown : s.vm.findClass "satura/ntriples/Spelling" = some m.cls := findClass_of_methodNamed Bd.named
  have hnm := (name_of_methodNamed Bd.named Bd.method).1
  have X0 : Stand p l e ({ frames := 0, cells := 0, slots := 0, locals := 0 } : Room) s m #[(.ref a1)] below meth c s₁ [] 0 0 := Stand.of_body Bd
  have e0 : s₁.heap = h0 := by rw [← hh, Bd.state]; rfl
  have N0 := Fr.nil n0
  have pre0 : ∀ t, Steps p.tables e below (s₁.setTop (mkF m 0 #[.val (.ref a1)] [])) t → Steps p.tables e below (s₁.setTop (entryFrame m #[(.ref a1)] 1)) t := fun t k => castTop (ef_4 m a1) k
  obtain ⟨E_a1, F_made_a1, F_bytes_a1, F_offset_a1, F_length_a1, hvl, V_M, hne⟩ := id hS
  obtain ⟨T3, X3, e3, st3⟩ := getF X0 hx hZ hown (host := "") (Or.inl (hw _ (List.mem_of_getElem? (i := 14) rfl))) Via.refl e0 F_made_a1 (g := (mkF m 2 #[.val (.ref a1)] [(.ref a1), (.ref a1)])) rfl rfl (hb hby d4_2)
  obtain ⟨T4, h4, X4, e4, W4, st4⟩ := putF X3 hx hZ hown (host := "") (Or.inl (hw _ (List.mem_of_getElem? (i := 21) rfl))) Via.refl e3 F_bytes_a1 E_a1 (Or.inl (hw _ (List.mem_of_getElem? (i := 22) rfl))) (hw _ (List.mem_of_getElem? (i := 6) rfl)) (ty := (.array .byte)) (by decide) rfl rfl (g := (mkF m 5 #[.val (.ref a1)] [(.ref M), (.ref a1)])) rfl rfl (hb hby d4_5)
  have Fw4 := F_bytes_a1.same W4
  have K4 : Keep h0 h4 [a1] := (Keep.refl h0 [a1]).wr W4 (Or.inl (List.mem_of_getElem? (i := 0) rfl))
  have N4 := Fr.snoc X4 N0 g_a1
  obtain ⟨T5, h5, X5, e5, W5, st5⟩ := putF X4 hx hZ hown (host := "") (Or.inl (hw _ (List.mem_of_getElem? (i := 23) rfl))) Via.refl e4 (F_offset_a1.other W4 (Or.inr (slot_ne (Or.inl (hw _ (List.mem_of_getElem? (i := 24) rfl))) (Or.inl (hw _ (List.mem_of_getElem? (i := 22) rfl))) (by decide) (t := .int) (t' := (.array .byte)) (by decide) (by decide)))) (E_a1.wr W4) (Or.inl (hw _ (List.mem_of_getElem? (i := 24) rfl))) (hw _ (List.mem_of_getElem? (i := 6) rfl)) (ty := .int) (by decide) rfl rfl (g := (mkF m 10 #[.val (.ref a1)] [(.int (0 : Int32)), (.ref a1)])) rfl rfl (hb hby d4_10)
  have Fw5 := (F_offset_a1.other W4 (Or.inr (slot_ne (Or.inl (hw _ (List.mem_of_getElem? (i := 24) rfl))) (Or.inl (hw _ (List.mem_of_getElem? (i := 22) rfl))) (by decide) (t := .int) (t' := (.array .byte)) (by decide) (by decide)))).same W5
  have K5 : Keep h0 h5 [a1] := K4.wr W5 (Or.inl (List.mem_of_getElem? (i := 0) rfl))
  have N5 := Fr.snoc X5 N4 g_a1
  obtain ⟨T6, h6, X6, e6, W6, st6⟩ := putF X5 hx hZ hown (host := "") (Or.inl (hw _ (List.mem_of_getElem? (i := 25) rfl))) Via.refl e5 ((F_length_a1.other W4 (Or.inr (slot_ne (Or.inl (hw _ (List.mem_of_getElem? (i := 26) rfl))) (Or.inl (hw _ (List.mem_of_getElem? (i := 22) rfl))) (by decide) (t := .int) (t' := (.array .byte)) (by decide) (by decide)))).other W5 (Or.inr (slot_ne (Or.inl (hw _ (List.mem_of_getElem? (i := 26) rfl))) (Or.inl (hw _ (List.mem_of_getElem? (i := 24) rfl))) (by decide) (t := .int) (t' := .int) (by decide) (by decide)))) ((E_a1.wr W4).wr W5) (Or.inl (hw _ (List.mem_of_getElem? (i := 26) rfl))) (hw _ (List.mem_of_getElem? (i := 6) rfl)) (ty := .int) (by decide) rfl rfl (g := (mkF m 15 #[.val (.ref a1)] [(.int (0 : Int32)), (.ref a1)])) rfl rfl (hb hby d4_15)
  have Fw6 := ((F_length_a1.other W4 (Or.inr (slot_ne (Or.inl (hw _ (List.mem_of_getElem? (i := 26) rfl))) (Or.inl (hw _ (List.mem_of_getElem? (i := 22) rfl))) (by decide) (t := .int) (t' := (.array .byte)) (by decide) (by decide)))).other W5 (Or.inr (slot_ne (Or.inl (hw _ (List.mem_of_getElem? (i := 26) rfl))) (Or.inl (hw _ (List.mem_of_getElem? (i := 24) rfl))) (by decide) (t := .int) (t' := .int) (by decide) (by decide)))).same W6
  have K6 : Keep h0 h6 [a1] := K5.wr W6 (Or.inl (List.mem_of_getElem? (i := 0) rfl))
  have N6 := Fr.snoc X6 N5 g_a1
  obtain ⟨fs, hr, hrun, hended, hW, hsame⟩ := X6.leave (v := none) (fun _ => rfl)
  refine ⟨_, _, pre0 _ ?_, hrun, hended, _, _, rfl, ?_, ⟨_, rfl⟩, hW, hsame.mono (by decide) (by decide)⟩
  · show Steps p.tables e below (s₁.setTop (mkF m 0 #[.val (.ref a1)] [])) _
    refine XS.aloadN X0.here hx rfl (hb hby d4_0) rfl rfl ?_
    show Steps p.tables e below (s₁.setTop (mkF m 1 #[.val (.ref a1)] [(.ref a1)])) _
    refine XS.aloadN X0.here hx rfl (hb hby d4_1) rfl rfl ?_
    show Steps p.tables e below (s₁.setTop (mkF m 2 #[.val (.ref a1)] [(.ref a1), (.ref a1)])) _
    refine st3 _ ?_
    show Steps p.tables e below (T3.setTop (mkF m 5 #[.val (.ref a1)] [(.ref M), (.ref a1)])) _
    refine st4 _ ?_
    show Steps p.tables e below (T4.setTop (mkF m 8 #[.val (.ref a1)] [])) _
    refine XS.aloadN X4.here hx rfl (hb hby d4_8) rfl rfl ?_
    show Steps p.tables e below (T4.setTop (mkF m 9 #[.val (.ref a1)] [(.ref a1)])) _
    refine XS.iconst X4.here hx rfl (hb hby d4_9) ?_
    show Steps p.tables e below (T4.setTop (mkF m 10 #[.val (.ref a1)] [(.int (0 : Int32)), (.ref a1)])) _
    refine st5 _ ?_
    show Steps p.tables e below (T5.setTop (mkF m 13 #[.val (.ref a1)] [])) _
    refine XS.aloadN X5.here hx rfl (hb hby d4_13) rfl rfl ?_
    show Steps p.tables e below (T5.setTop (mkF m 14 #[.val (.ref a1)] [(.ref a1)])) _
    refine XS.iconst X5.here hx rfl (hb hby d4_14) ?_
    show Steps p.tables e below (T5.setTop (mkF m 15 #[.val (.ref a1)] [(.int (0 : Int32)), (.ref a1)])) _
    refine st6 _ ?_
    show Steps p.tables e below (T6.setTop (mkF m 18 #[.val (.ref a1)] [])) _
    exact X6.returnOut hx Bd.returns (hb hby d4_18) hr
  · show Q4 Z a1 M k vs h0 n0 _ T6.heap _
    rw [e6]
    exact ⟨rfl, N6, K6, own_set_length hw (own_set_offset hw (own_set_bytes hw hS W4) W5) W6⟩
def Q11 (Z : State) (a1 : Addr) (a2 : Addr) (p3 : Int32) (p4 : Int32) (M : Addr) (k : ClassId) (vs : List Value) (h0 : Heap) (n0 : Nat) (v : Option Value) (h : Heap) (L : List Loc) : Prop := v = none ∧ Fr n0 L ∧ Keep h0 h [a1] ∧ own_Sp Z h a1 M k (.ref a2) (.int p3) (.int (p4 - p3)) vs
theorem d11_0 : decode prog_63_method_10_code 0 = .ok (.aload_n 0, 1) := by decide +kernel
theorem d11_1 : decode prog_63_method_10_code 1 = .ok (.aload_n 1, 1) := by decide +kernel
theorem d11_2 : decode prog_63_method_10_code 2 = .ok (.putfield 15, 3) := by decide +kernel
theorem d11_5 : decode prog_63_method_10_code 5 = .ok (.aload_n 0, 1) := by decide +kernel
theorem d11_6 : decode prog_63_method_10_code 6 = .ok (.iload_n 2, 1) := by decide +kernel
theorem d11_7 : decode prog_63_method_10_code 7 = .ok (.putfield 18, 3) := by decide +kernel
theorem d11_10 : decode prog_63_method_10_code 10 = .ok (.aload_n 0, 1) := by decide +kernel
theorem d11_11 : decode prog_63_method_10_code 11 = .ok (.iload_n 3, 1) := by decide +kernel
theorem d11_12 : decode prog_63_method_10_code 12 = .ok (.iload_n 2, 1) := by decide +kernel
theorem d11_13 : decode prog_63_method_10_code 13 = .ok (.isub, 1) := by decide +kernel
theorem d11_14 : decode prog_63_method_10_code 14 = .ok (.putfield 22, 3) := by decide +kernel
theorem d11_17 : decode prog_63_method_10_code 17 = .ok (.return_, 1) := by decide +kernel
theorem pn_11 : plainName "satura/ntriples/Spelling" = true := by first | (simp [plainName, overriddenIn]; done) | decide +kernel
theorem ef_11 (m : MethodId) (x0 : Addr) (x1 : Addr) (x2 : Int32) (x3 : Int32) : entryFrame m #[(.ref x0), (.ref x1), (.int x2), (.int x3)] 4 = mkF m 0 #[.val (.ref x0), .val (.ref x1), .val (.int x2), .val (.int x3)] [] := by first | (simp [entryFrame, mkF, argsToLocals, Value.category]; done) | rfl
set_option maxRecDepth 65536 in
set_option maxHeartbeats 40000000 in
theorem rm11 (l : Launch) (Z : State) (a0 : Array Value) (hw : ∀ d ∈ tables_1, d.before a0 Z = true) (ws : List Jvm.Cond) (a1 : Addr) (a2 : Addr) (p3 : Int32) (p4 : Int32) (M : Addr) (k : ClassId) (ub uo ul : Value) (vs : List Value) (h0 : Heap) (n0 : Nat) (Z0 : n0 ≤ h0.size) (hS : own_Sp Z h0 a1 M k ub uo ul vs) (g_a1 : n0 ≤ a1) :
    MetFree l (⟨"satura/ntriples/Spelling", "set", "([BII)V"⟩ : MethodName) (head1 (Jvm.Cond.code (⟨"satura/ntriples/Spelling", "set", "([BII)V"⟩ : MethodName) prog_63_method_10_code 4 none :: ws) ({ frames := 0, cells := 0, slots := 0, locals := 0 } : Room)) (fun a U => a = #[(.ref a1), (.ref a2), (.int p3), (.int p4)] ∧ Z.Warmed39 U.vm ∧ U.heap = h0) (fun _ _ _ _ _ => True) (fun _ U o U' => ∃ v L, o = .returned v ∧ Q11 Z a1 a2 p3 p4 M k vs h0 n0 v U'.heap L ∧ FrameEnd U o U' L ({ frames := 0, cells := 0, slots := 0, locals := 0 } : Room).cells ({ frames := 0, cells := 0, slots := 0, locals := 0 } : Room).slots) := by
  refine MetFree.of_bodySF (plainFor_of_name pn_11) hisR ?_
  intro p e s m args below meth c s₁ Bd hml0 hP hK
  obtain ⟨rfl, hZ, hh⟩ := hP
  have hx := Bd.exec
  have hby := Bd.bytes
  have hml : c.maxLocals = 4 := hml0
  have hown : s.vm.findClass "satura/ntriples/Spelling" = some m.cls := findClass_of_methodNamed Bd.named
  have hnm := (name_of_methodNamed Bd.named Bd.method).1
  have X0 : Stand p l e ({ frames := 0, cells := 0, slots := 0, locals := 0 } : Room) s m #[(.ref a1), (.ref a2), (.int p3), (.int p4)] below meth c s₁ [] 0 0 := Stand.of_body Bd
  have e0 : s₁.heap = h0 := by rw [← hh, Bd.state]; rfl
  have N0 := Fr.nil n0
  have pre0 : ∀ t, Steps p.tables e below (s₁.setTop (mkF m 0 #[.val (.ref a1), .val (.ref a2), .val (.int p3), .val (.int p4)] [])) t → Steps p.tables e below (s₁.setTop (entryFrame m #[(.ref a1), (.ref a2), (.int p3), (.int p4)] 4)) t := fun t k => castTop (ef_11 m a1 a2 p3 p4) k
  obtain ⟨E_a1, F_made_a1, F_bytes_a1, F_offset_a1, F_length_a1, hvl, V_M, hne⟩ := id hS
  obtain ⟨T5, h5, X5, e5, W5, st5⟩ := putF X0 hx hZ hown (host := "") (Or.inl (hw _ (List.mem_of_getElem? (i := 21) rfl))) Via.refl e0 F_bytes_a1 E_a1 (Or.inl (hw _ (List.mem_of_getElem? (i := 22) rfl))) (hw _ (List.mem_of_getElem? (i := 6) rfl)) (ty := (.array .byte)) (by decide) rfl rfl (g := (mkF m 2 #[.val (.ref a1), .val (.ref a2), .val (.int p3), .val (.int p4)] [(.ref a2), (.ref a1)])) rfl rfl (hb hby d11_2)
  have Fw5 := F_bytes_a1.same W5
  have K5 : Keep h0 h5 [a1] := (Keep.refl h0 [a1]).wr W5 (Or.inl (List.mem_of_getElem? (i := 0) rfl))
  have N5 := Fr.snoc X5 N0 g_a1
  obtain ⟨T6, h6, X6, e6, W6, st6⟩ := putF X5 hx hZ hown (host := "") (Or.inl (hw _ (List.mem_of_getElem? (i := 23) rfl))) Via.refl e5 (F_offset_a1.other W5 (Or.inr (slot_ne (Or.inl (hw _ (List.mem_of_getElem? (i := 24) rfl))) (Or.inl (hw _ (List.mem_of_getElem? (i := 22) rfl))) (by decide) (t := .int) (t' := (.array .byte)) (by decide) (by decide)))) (E_a1.wr W5) (Or.inl (hw _ (List.mem_of_getElem? (i := 24) rfl))) (hw _ (List.mem_of_getElem? (i := 6) rfl)) (ty := .int) (by decide) rfl rfl (g := (mkF m 7 #[.val (.ref a1), .val (.ref a2), .val (.int p3), .val (.int p4)] [(.int p3), (.ref a1)])) rfl rfl (hb hby d11_7)
  have Fw6 := (F_offset_a1.other W5 (Or.inr (slot_ne (Or.inl (hw _ (List.mem_of_getElem? (i := 24) rfl))) (Or.inl (hw _ (List.mem_of_getElem? (i := 22) rfl))) (by decide) (t := .int) (t' := (.array .byte)) (by decide) (by decide)))).same W6
  have K6 : Keep h0 h6 [a1] := K5.wr W6 (Or.inl (List.mem_of_getElem? (i := 0) rfl))
  have N6 := Fr.snoc X6 N5 g_a1
  obtain ⟨T7, h7, X7, e7, W7, st7⟩ := putF X6 hx hZ hown (host := "") (Or.inl (hw _ (List.mem_of_getElem? (i := 25) rfl))) Via.refl e6 ((F_length_a1.other W5 (Or.inr (slot_ne (Or.inl (hw _ (List.mem_of_getElem? (i := 26) rfl))) (Or.inl (hw _ (List.mem_of_getElem? (i := 22) rfl))) (by decide) (t := .int) (t' := (.array .byte)) (by decide) (by decide)))).other W6 (Or.inr (slot_ne (Or.inl (hw _ (List.mem_of_getElem? (i := 26) rfl))) (Or.inl (hw _ (List.mem_of_getElem? (i := 24) rfl))) (by decide) (t := .int) (t' := .int) (by decide) (by decide)))) ((E_a1.wr W5).wr W6) (Or.inl (hw _ (List.mem_of_getElem? (i := 26) rfl))) (hw _ (List.mem_of_getElem? (i := 6) rfl)) (ty := .int) (by decide) rfl rfl (g := (mkF m 14 #[.val (.ref a1), .val (.ref a2), .val (.int p3), .val (.int p4)] [(.int (p4 - p3)), (.ref a1)])) rfl rfl (hb hby d11_14)
  have Fw7 := ((F_length_a1.other W5 (Or.inr (slot_ne (Or.inl (hw _ (List.mem_of_getElem? (i := 26) rfl))) (Or.inl (hw _ (List.mem_of_getElem? (i := 22) rfl))) (by decide) (t := .int) (t' := (.array .byte)) (by decide) (by decide)))).other W6 (Or.inr (slot_ne (Or.inl (hw _ (List.mem_of_getElem? (i := 26) rfl))) (Or.inl (hw _ (List.mem_of_getElem? (i := 24) rfl))) (by decide) (t := .int) (t' := .int) (by decide) (by decide)))).same W7
  have K7 : Keep h0 h7 [a1] := K6.wr W7 (Or.inl (List.mem_of_getElem? (i := 0) rfl))
  have N7 := Fr.snoc X7 N6 g_a1
  obtain ⟨fs, hr, hrun, hended, hW, hsame⟩ := X7.leave (v := none) (fun _ => rfl)
  refine ⟨_, _, pre0 _ ?_, hrun, hended, _, _, rfl, ?_, ⟨_, rfl⟩, hW, hsame.mono (by decide) (by decide)⟩
  · show Steps p.tables e below (s₁.setTop (mkF m 0 #[.val (.ref a1), .val (.ref a2), .val (.int p3), .val (.int p4)] [])) _
    refine XS.aloadN X0.here hx rfl (hb hby d11_0) rfl rfl ?_
    show Steps p.tables e below (s₁.setTop (mkF m 1 #[.val (.ref a1), .val (.ref a2), .val (.int p3), .val (.int p4)] [(.ref a1)])) _
    refine XS.aloadN X0.here hx rfl (hb hby d11_1) rfl rfl ?_
    show Steps p.tables e below (s₁.setTop (mkF m 2 #[.val (.ref a1), .val (.ref a2), .val (.int p3), .val (.int p4)] [(.ref a2), (.ref a1)])) _
    refine st5 _ ?_
    show Steps p.tables e below (T5.setTop (mkF m 5 #[.val (.ref a1), .val (.ref a2), .val (.int p3), .val (.int p4)] [])) _
    refine XS.aloadN X5.here hx rfl (hb hby d11_5) rfl rfl ?_
    show Steps p.tables e below (T5.setTop (mkF m 6 #[.val (.ref a1), .val (.ref a2), .val (.int p3), .val (.int p4)] [(.ref a1)])) _
    refine XS.iloadN X5.here hx rfl (hb hby d11_6) rfl ?_
    show Steps p.tables e below (T5.setTop (mkF m 7 #[.val (.ref a1), .val (.ref a2), .val (.int p3), .val (.int p4)] [(.int p3), (.ref a1)])) _
    refine st6 _ ?_
    show Steps p.tables e below (T6.setTop (mkF m 10 #[.val (.ref a1), .val (.ref a2), .val (.int p3), .val (.int p4)] [])) _
    refine XS.aloadN X6.here hx rfl (hb hby d11_10) rfl rfl ?_
    show Steps p.tables e below (T6.setTop (mkF m 11 #[.val (.ref a1), .val (.ref a2), .val (.int p3), .val (.int p4)] [(.ref a1)])) _
    refine XS.iloadN X6.here hx rfl (hb hby d11_11) rfl ?_
    show Steps p.tables e below (T6.setTop (mkF m 12 #[.val (.ref a1), .val (.ref a2), .val (.int p3), .val (.int p4)] [(.int p4), (.ref a1)])) _
    refine XS.iloadN X6.here hx rfl (hb hby d11_12) rfl ?_
    show Steps p.tables e below (T6.setTop (mkF m 13 #[.val (.ref a1), .val (.ref a2), .val (.int p3), .val (.int p4)] [(.int p3), (.int p4), (.ref a1)])) _
    refine XS.isub X6.here hx rfl (hb hby d11_13) rfl ?_
    show Steps p.tables e below (T6.setTop (mkF m 14 #[.val (.ref a1), .val (.ref a2), .val (.int p3), .val (.int p4)] [(.int (p4 - p3)), (.ref a1)])) _
    refine st7 _ ?_
    show Steps p.tables e below (T7.setTop (mkF m 17 #[.val (.ref a1), .val (.ref a2), .val (.int p3), .val (.int p4)] [])) _
    exact X7.returnOut hx Bd.returns (hb hby d11_17) hr
  · show Q11 Z a1 a2 p3 p4 M k vs h0 n0 _ T7.heap _
    rw [e7]
    exact ⟨rfl, N7, K7, own_set_length hw (own_set_offset hw (own_set_bytes hw hS W5) W6) W7⟩
theorem d5_0 : decode prog_63_method_2_code 0 = .ok (.aload_n 0, 1) := by decide +kernel
theorem d5_1 : decode prog_63_method_2_code 1 = .ok (.getfield 15, 3) := by decide +kernel
theorem d5_4 : decode prog_63_method_2_code 4 = .ok (.areturn, 1) := by decide +kernel
theorem pn_5 : plainName "satura/ntriples/Spelling" = true := by first | (simp [plainName, overriddenIn]; done) | decide +kernel
theorem ef_5 (m : MethodId) (x0 : Addr) : entryFrame m #[(.ref x0)] 1 = mkF m 0 #[.val (.ref x0)] [] := by first | (simp [entryFrame, mkF, argsToLocals, Value.category]; done) | rfl
def Q5 (Z : State) (a1 : Addr) (w2 : Addr) (h0 : Heap) (n0 : Nat) (v : Option Value) (h : Heap) (L : List Loc) : Prop := v = some (.ref w2) ∧ Fr n0 L ∧ h = h0
set_option maxRecDepth 65536 in
set_option maxHeartbeats 40000000 in
theorem rm5 (l : Launch) (Z : State) (a0 : Array Value) (hw : ∀ d ∈ tables_1, d.before a0 Z = true) (ws : List Jvm.Cond) (a1 : Addr) (w2 : Addr) (h0 : Heap) (n0 : Nat) (Z0 : n0 ≤ h0.size) (F_bytes_a1 : Fld Z h0 a1 "satura/ntriples/Spelling" "bytes" "[B" (.ref w2)) :
    MetFree l (⟨"satura/ntriples/Spelling", "bytes", "()[B"⟩ : MethodName) (head1 (Jvm.Cond.code (⟨"satura/ntriples/Spelling", "bytes", "()[B"⟩ : MethodName) prog_63_method_2_code 1 (some (.array .byte)) :: ws) ({ frames := 0, cells := 0, slots := 0, locals := 0 } : Room)) (fun a U => a = #[(.ref a1)] ∧ Z.Warmed39 U.vm ∧ U.heap = h0) (fun _ _ _ _ _ => True) (fun _ U o U' => ∃ v L, o = .returned v ∧ Q5 Z a1 w2 h0 n0 v U'.heap L ∧ FrameEnd U o U' L ({ frames := 0, cells := 0, slots := 0, locals := 0 } : Room).cells ({ frames := 0, cells := 0, slots := 0, locals := 0 } : Room).slots) := by
  refine MetFree.of_bodySF (plainFor_of_name pn_5) hisR ?_
  intro p e s m args below meth c s₁ Bd hml0 hP hK
  obtain ⟨rfl, hZ, hh⟩ := hP
  have hx := Bd.exec
  have hby := Bd.bytes
  have hml : c.maxLocals = 1 := hml0
  have hown : s.vm.findClass "satura/ntriples/Spelling" = some m.cls := findClass_of_methodNamed Bd.named
  have hnm := (name_of_methodNamed Bd.named Bd.method).1
  have X0 : Stand p l e ({ frames := 0, cells := 0, slots := 0, locals := 0 } : Room) s m #[(.ref a1)] below meth c s₁ [] 0 0 := Stand.of_body Bd
  have e0 : s₁.heap = h0 := by rw [← hh, Bd.state]; rfl
  have N0 := Fr.nil n0
  have pre0 : ∀ t, Steps p.tables e below (s₁.setTop (mkF m 0 #[.val (.ref a1)] [])) t → Steps p.tables e below (s₁.setTop (entryFrame m #[(.ref a1)] 1)) t := fun t k => castTop (ef_5 m a1) k
  obtain ⟨T3, X3, e3, st3⟩ := getF X0 hx hZ hown (host := "") (Or.inl (hw _ (List.mem_of_getElem? (i := 21) rfl))) Via.refl e0 F_bytes_a1 (g := (mkF m 1 #[.val (.ref a1)] [(.ref a1)])) rfl rfl (hb hby d5_1)
  obtain ⟨fs, hr, hrun, hended, hW, hsame⟩ := X3.leave (v := some (.ref w2)) (fun h => by rw [Bd.returns] at h; cases h)
  refine ⟨_, _, pre0 _ ?_, hrun, hended, _, _, rfl, ?_, ⟨_, rfl⟩, hW, hsame.mono (by decide) (by decide)⟩
  · show Steps p.tables e below (s₁.setTop (mkF m 0 #[.val (.ref a1)] [])) _
    refine XS.aloadN X0.here hx rfl (hb hby d5_0) rfl rfl ?_
    show Steps p.tables e below (s₁.setTop (mkF m 1 #[.val (.ref a1)] [(.ref a1)])) _
    refine st3 _ ?_
    show Steps p.tables e below (T3.setTop (mkF m 4 #[.val (.ref a1)] [(.ref w2)])) _
    jvm_step X3.here [X3.here.top, hx, (hb hby d5_4), X3.method', Bd.returns, Value.isRef, FieldType.isReference]
    first | (intro acts; rw [hr _ acts rfl rfl rfl]) | rw [hr _ _ rfl rfl rfl]
    exact Steps.refl _
  · show Q5 Z a1 w2 h0 n0 _ T3.heap _
    rw [e3]
    exact ⟨rfl, N0, rfl⟩
theorem d6_0 : decode prog_63_method_3_code 0 = .ok (.aload_n 0, 1) := by decide +kernel
theorem d6_1 : decode prog_63_method_3_code 1 = .ok (.getfield 18, 3) := by decide +kernel
theorem d6_4 : decode prog_63_method_3_code 4 = .ok (.ireturn, 1) := by decide +kernel
theorem pn_6 : plainName "satura/ntriples/Spelling" = true := by first | (simp [plainName, overriddenIn]; done) | decide +kernel
theorem ef_6 (m : MethodId) (x0 : Addr) : entryFrame m #[(.ref x0)] 1 = mkF m 0 #[.val (.ref x0)] [] := by first | (simp [entryFrame, mkF, argsToLocals, Value.category]; done) | rfl
def Q6 (Z : State) (a1 : Addr) (w2 : Int32) (h0 : Heap) (n0 : Nat) (v : Option Value) (h : Heap) (L : List Loc) : Prop := v = some (.int w2) ∧ Fr n0 L ∧ h = h0
set_option maxRecDepth 65536 in
set_option maxHeartbeats 40000000 in
theorem rm6 (l : Launch) (Z : State) (a0 : Array Value) (hw : ∀ d ∈ tables_1, d.before a0 Z = true) (ws : List Jvm.Cond) (a1 : Addr) (w2 : Int32) (h0 : Heap) (n0 : Nat) (Z0 : n0 ≤ h0.size) (F_offset_a1 : Fld Z h0 a1 "satura/ntriples/Spelling" "offset" "I" (.int w2)) :
    MetFree l (⟨"satura/ntriples/Spelling", "offset", "()I"⟩ : MethodName) (head1 (Jvm.Cond.code (⟨"satura/ntriples/Spelling", "offset", "()I"⟩ : MethodName) prog_63_method_3_code 1 (some .int) :: ws) ({ frames := 0, cells := 0, slots := 0, locals := 0 } : Room)) (fun a U => a = #[(.ref a1)] ∧ Z.Warmed39 U.vm ∧ U.heap = h0) (fun _ _ _ _ _ => True) (fun _ U o U' => ∃ v L, o = .returned v ∧ Q6 Z a1 w2 h0 n0 v U'.heap L ∧ FrameEnd U o U' L ({ frames := 0, cells := 0, slots := 0, locals := 0 } : Room).cells ({ frames := 0, cells := 0, slots := 0, locals := 0 } : Room).slots) := by
  refine MetFree.of_bodySF (plainFor_of_name pn_6) hisR ?_
  intro p e s m args below meth c s₁ Bd hml0 hP hK
  obtain ⟨rfl, hZ, hh⟩ := hP
  have hx := Bd.exec
  have hby := Bd.bytes
  have hml : c.maxLocals = 1 := hml0
  have hown : s.vm.findClass "satura/ntriples/Spelling" = some m.cls := findClass_of_methodNamed Bd.named
  have hnm := (name_of_methodNamed Bd.named Bd.method).1
  have X0 : Stand p l e ({ frames := 0, cells := 0, slots := 0, locals := 0 } : Room) s m #[(.ref a1)] below meth c s₁ [] 0 0 := Stand.of_body Bd
  have e0 : s₁.heap = h0 := by rw [← hh, Bd.state]; rfl
  have N0 := Fr.nil n0
  have pre0 : ∀ t, Steps p.tables e below (s₁.setTop (mkF m 0 #[.val (.ref a1)] [])) t → Steps p.tables e below (s₁.setTop (entryFrame m #[(.ref a1)] 1)) t := fun t k => castTop (ef_6 m a1) k
  obtain ⟨T3, X3, e3, st3⟩ := getF X0 hx hZ hown (host := "") (Or.inl (hw _ (List.mem_of_getElem? (i := 23) rfl))) Via.refl e0 F_offset_a1 (g := (mkF m 1 #[.val (.ref a1)] [(.ref a1)])) rfl rfl (hb hby d6_1)
  obtain ⟨fs, hr, hrun, hended, hW, hsame⟩ := X3.leave (v := some (.int w2)) (fun h => by rw [Bd.returns] at h; cases h)
  refine ⟨_, _, pre0 _ ?_, hrun, hended, _, _, rfl, ?_, ⟨_, rfl⟩, hW, hsame.mono (by decide) (by decide)⟩
  · show Steps p.tables e below (s₁.setTop (mkF m 0 #[.val (.ref a1)] [])) _
    refine XS.aloadN X0.here hx rfl (hb hby d6_0) rfl rfl ?_
    show Steps p.tables e below (s₁.setTop (mkF m 1 #[.val (.ref a1)] [(.ref a1)])) _
    refine st3 _ ?_
    show Steps p.tables e below (T3.setTop (mkF m 4 #[.val (.ref a1)] [(.int w2)])) _
    exact retI X3 hx Bd.returns (hb hby d6_4) hr
  · show Q6 Z a1 w2 h0 n0 _ T3.heap _
    rw [e3]
    exact ⟨rfl, N0, rfl⟩
theorem d7_0 : decode prog_63_method_4_code 0 = .ok (.aload_n 0, 1) := by decide +kernel
theorem d7_1 : decode prog_63_method_4_code 1 = .ok (.getfield 22, 3) := by decide +kernel
theorem d7_4 : decode prog_63_method_4_code 4 = .ok (.ireturn, 1) := by decide +kernel
theorem pn_7 : plainName "satura/ntriples/Spelling" = true := by first | (simp [plainName, overriddenIn]; done) | decide +kernel
theorem ef_7 (m : MethodId) (x0 : Addr) : entryFrame m #[(.ref x0)] 1 = mkF m 0 #[.val (.ref x0)] [] := by first | (simp [entryFrame, mkF, argsToLocals, Value.category]; done) | rfl
def Q7 (Z : State) (a1 : Addr) (w2 : Int32) (h0 : Heap) (n0 : Nat) (v : Option Value) (h : Heap) (L : List Loc) : Prop := v = some (.int w2) ∧ Fr n0 L ∧ h = h0
set_option maxRecDepth 65536 in
set_option maxHeartbeats 40000000 in
theorem rm7 (l : Launch) (Z : State) (a0 : Array Value) (hw : ∀ d ∈ tables_1, d.before a0 Z = true) (ws : List Jvm.Cond) (a1 : Addr) (w2 : Int32) (h0 : Heap) (n0 : Nat) (Z0 : n0 ≤ h0.size) (F_length_a1 : Fld Z h0 a1 "satura/ntriples/Spelling" "length" "I" (.int w2)) :
    MetFree l (⟨"satura/ntriples/Spelling", "length", "()I"⟩ : MethodName) (head1 (Jvm.Cond.code (⟨"satura/ntriples/Spelling", "length", "()I"⟩ : MethodName) prog_63_method_4_code 1 (some .int) :: ws) ({ frames := 0, cells := 0, slots := 0, locals := 0 } : Room)) (fun a U => a = #[(.ref a1)] ∧ Z.Warmed39 U.vm ∧ U.heap = h0) (fun _ _ _ _ _ => True) (fun _ U o U' => ∃ v L, o = .returned v ∧ Q7 Z a1 w2 h0 n0 v U'.heap L ∧ FrameEnd U o U' L ({ frames := 0, cells := 0, slots := 0, locals := 0 } : Room).cells ({ frames := 0, cells := 0, slots := 0, locals := 0 } : Room).slots) := by
  refine MetFree.of_bodySF (plainFor_of_name pn_7) hisR ?_
  intro p e s m args below meth c s₁ Bd hml0 hP hK
  obtain ⟨rfl, hZ, hh⟩ := hP
  have hx := Bd.exec
  have hby := Bd.bytes
  have hml : c.maxLocals = 1 := hml0
  have hown : s.vm.findClass "satura/ntriples/Spelling" = some m.cls := findClass_of_methodNamed Bd.named
  have hnm := (name_of_methodNamed Bd.named Bd.method).1
  have X0 : Stand p l e ({ frames := 0, cells := 0, slots := 0, locals := 0 } : Room) s m #[(.ref a1)] below meth c s₁ [] 0 0 := Stand.of_body Bd
  have e0 : s₁.heap = h0 := by rw [← hh, Bd.state]; rfl
  have N0 := Fr.nil n0
  have pre0 : ∀ t, Steps p.tables e below (s₁.setTop (mkF m 0 #[.val (.ref a1)] [])) t → Steps p.tables e below (s₁.setTop (entryFrame m #[(.ref a1)] 1)) t := fun t k => castTop (ef_7 m a1) k
  obtain ⟨T3, X3, e3, st3⟩ := getF X0 hx hZ hown (host := "") (Or.inl (hw _ (List.mem_of_getElem? (i := 25) rfl))) Via.refl e0 F_length_a1 (g := (mkF m 1 #[.val (.ref a1)] [(.ref a1)])) rfl rfl (hb hby d7_1)
  obtain ⟨fs, hr, hrun, hended, hW, hsame⟩ := X3.leave (v := some (.int w2)) (fun h => by rw [Bd.returns] at h; cases h)
  refine ⟨_, _, pre0 _ ?_, hrun, hended, _, _, rfl, ?_, ⟨_, rfl⟩, hW, hsame.mono (by decide) (by decide)⟩
  · show Steps p.tables e below (s₁.setTop (mkF m 0 #[.val (.ref a1)] [])) _
    refine XS.aloadN X0.here hx rfl (hb hby d7_0) rfl rfl ?_
    show Steps p.tables e below (s₁.setTop (mkF m 1 #[.val (.ref a1)] [(.ref a1)])) _
    refine st3 _ ?_
    show Steps p.tables e below (T3.setTop (mkF m 4 #[.val (.ref a1)] [(.int w2)])) _
    exact retI X3 hx Bd.returns (hb hby d7_4) hr
  · show Q7 Z a1 w2 h0 n0 _ T3.heap _
    rw [e3]
    exact ⟨rfl, N0, rfl⟩
theorem d9_0 : decode prog_63_method_16_code 0 = .ok (.aload_n 0, 1) := by decide +kernel
theorem d9_1 : decode prog_63_method_16_code 1 = .ok (.getfield 22, 3) := by decide +kernel
theorem d9_4 : decode prog_63_method_16_code 4 = .ok (.i2l, 1) := by decide +kernel
theorem d9_5 : decode prog_63_method_16_code 5 = .ok (.iload_n 1, 1) := by decide +kernel
theorem d9_6 : decode prog_63_method_16_code 6 = .ok (.i2l, 1) := by decide +kernel
theorem d9_7 : decode prog_63_method_16_code 7 = .ok (.ladd, 1) := by decide +kernel
theorem d9_8 : decode prog_63_method_16_code 8 = .ok (.lstore_n 2, 1) := by decide +kernel
theorem d9_9 : decode prog_63_method_16_code 9 = .ok (.lload_n 2, 1) := by decide +kernel
theorem d9_10 : decode prog_63_method_16_code 10 = .ok (.aload_n 0, 1) := by decide +kernel
theorem d9_11 : decode prog_63_method_16_code 11 = .ok (.getfield 9, 3) := by decide +kernel
theorem d9_14 : decode prog_63_method_16_code 14 = .ok (.arraylength, 1) := by decide +kernel
theorem d9_15 : decode prog_63_method_16_code 15 = .ok (.i2l, 1) := by decide +kernel
theorem d9_16 : decode prog_63_method_16_code 16 = .ok (.lcmp, 1) := by decide +kernel
theorem d9_17 : decode prog_63_method_16_code 17 = .ok (.ifCond .le 63, 3) := by decide +kernel
theorem d9_80 : decode prog_63_method_16_code 80 = .ok (.return_, 1) := by decide +kernel
theorem pn_9 : plainName "satura/ntriples/Spelling" = true := by first | (simp [plainName, overriddenIn]; done) | decide +kernel
theorem ef_9 (m : MethodId) (x0 : Addr) (x1 : Int32) : entryFrame m #[(.ref x0), (.int x1)] 6 = mkF m 0 #[.val (.ref x0), .val (.int x1), .unset, .unset, .unset, .unset] [] := by first | (simp [entryFrame, mkF, argsToLocals, Value.category]; done) | rfl
def Q9 (Z : State) (a1 : Addr) (p2 : Int32) (w3 : Int32) (w5 : Addr) (cl_w5 : Cell) (z_w5 : Int32) (h0 : Heap) (n0 : Nat) (v : Option Value) (h : Heap) (L : List Loc) : Prop := v = none ∧ Fr n0 L ∧ h = h0
set_option maxRecDepth 65536 in
set_option maxHeartbeats 40000000 in
theorem rm9 (l : Launch) (Z : State) (a0 : Array Value) (hw : ∀ d ∈ tables_1, d.before a0 Z = true) (ws : List Jvm.Cond) (a1 : Addr) (p2 : Int32) (w3 : Int32) (w5 : Addr) (cl_w5 : Cell) (z_w5 : Int32) (h0 : Heap) (n0 : Nat) (Z0 : n0 ≤ h0.size) (F_length_a1 : Fld Z h0 a1 "satura/ntriples/Spelling" "length" "I" (.int w3)) (F_made_a1 : Fld Z h0 a1 "satura/ntriples/Spelling" "made" "[B" (.ref w5)) (Ar_w5 : Arr Z h0 w5 cl_w5 .byte) (S_w5 : cl_w5.slots.size = z_w5.toNatClampNeg) (N_w5 : ¬ z_w5 < 0) (hc17 : ¬ ((0 : Int32) < (lcmpW ((w3.toInt64) + (p2.toInt64)) (z_w5.toInt64)))) :
    MetFree l (⟨"satura/ntriples/Spelling", "room", "(I)V"⟩ : MethodName) (head1 (Jvm.Cond.code (⟨"satura/ntriples/Spelling", "room", "(I)V"⟩ : MethodName) prog_63_method_16_code 6 none :: ws) ({ frames := 0, cells := 0, slots := 0, locals := 0 } : Room)) (fun a U => a = #[(.ref a1), (.int p2)] ∧ Z.Warmed39 U.vm ∧ U.heap = h0) (fun _ _ _ _ _ => True) (fun _ U o U' => ∃ v L, o = .returned v ∧ Q9 Z a1 p2 w3 w5 cl_w5 z_w5 h0 n0 v U'.heap L ∧ FrameEnd U o U' L ({ frames := 0, cells := 0, slots := 0, locals := 0 } : Room).cells ({ frames := 0, cells := 0, slots := 0, locals := 0 } : Room).slots) := by
  refine MetFree.of_bodySF (plainFor_of_name pn_9) hisR ?_
  intro p e s m args below meth c s₁ Bd hml0 hP hK
  obtain ⟨rfl, hZ, hh⟩ := hP
  have hx := Bd.exec
  have hby := Bd.bytes
  have hml : c.maxLocals = 6 := hml0
  have hown : s.vm.findClass "satura/ntriples/Spelling" = some m.cls := findClass_of_methodNamed Bd.named
  have hnm := (name_of_methodNamed Bd.named Bd.method).1
  have X0 : Stand p l e ({ frames := 0, cells := 0, slots := 0, locals := 0 } : Room) s m #[(.ref a1), (.int p2)] below meth c s₁ [] 0 0 := Stand.of_body Bd
  have e0 : s₁.heap = h0 := by rw [← hh, Bd.state]; rfl
  have N0 := Fr.nil n0
  have pre0 : ∀ t, Steps p.tables e below (s₁.setTop (mkF m 0 #[.val (.ref a1), .val (.int p2), .unset, .unset, .unset, .unset] [])) t → Steps p.tables e below (s₁.setTop (entryFrame m #[(.ref a1), (.int p2)] 6)) t := fun t k => castTop (ef_9 m a1 p2) k
  obtain ⟨T4, X4, e4, st4⟩ := getF X0 hx hZ hown (host := "") (Or.inl (hw _ (List.mem_of_getElem? (i := 25) rfl))) Via.refl e0 F_length_a1 (g := (mkF m 1 #[.val (.ref a1), .val (.int p2), .unset, .unset, .unset, .unset] [(.ref a1)])) rfl rfl (hb hby d9_1)
  obtain ⟨T6, X6, e6, st6⟩ := getF X4 hx hZ hown (host := "") (Or.inl (hw _ (List.mem_of_getElem? (i := 14) rfl))) Via.refl e4 F_made_a1 (g := (mkF m 11 #[.val (.ref a1), .val (.int p2), .val (.long ((w3.toInt64) + (p2.toInt64))), .second, .unset, .unset] [(.ref a1), (.long ((w3.toInt64) + (p2.toInt64)))])) rfl rfl (hb hby d9_11)
  obtain ⟨fs, hr, hrun, hended, hW, hsame⟩ := X6.leave (v := none) (fun _ => rfl)
  refine ⟨_, _, pre0 _ ?_, hrun, hended, _, _, rfl, ?_, ⟨_, rfl⟩, hW, hsame.mono (by decide) (by decide)⟩
  · show Steps p.tables e below (s₁.setTop (mkF m 0 #[.val (.ref a1), .val (.int p2), .unset, .unset, .unset, .unset] [])) _
    refine XS.aloadN X0.here hx rfl (hb hby d9_0) rfl rfl ?_
    show Steps p.tables e below (s₁.setTop (mkF m 1 #[.val (.ref a1), .val (.int p2), .unset, .unset, .unset, .unset] [(.ref a1)])) _
    refine st4 _ ?_
    show Steps p.tables e below (T4.setTop (mkF m 4 #[.val (.ref a1), .val (.int p2), .unset, .unset, .unset, .unset] [(.int w3)])) _
    refine XS.i2l X4.here hx rfl (hb hby d9_4) rfl ?_
    show Steps p.tables e below (T4.setTop (mkF m 5 #[.val (.ref a1), .val (.int p2), .unset, .unset, .unset, .unset] [(.long (w3.toInt64))])) _
    refine XS.iloadN X4.here hx rfl (hb hby d9_5) rfl ?_
    show Steps p.tables e below (T4.setTop (mkF m 6 #[.val (.ref a1), .val (.int p2), .unset, .unset, .unset, .unset] [(.int p2), (.long (w3.toInt64))])) _
    refine XS.i2l X4.here hx rfl (hb hby d9_6) rfl ?_
    show Steps p.tables e below (T4.setTop (mkF m 7 #[.val (.ref a1), .val (.int p2), .unset, .unset, .unset, .unset] [(.long (p2.toInt64)), (.long (w3.toInt64))])) _
    refine XS.ladd X4.here hx rfl (hb hby d9_7) rfl ?_
    show Steps p.tables e below (T4.setTop (mkF m 8 #[.val (.ref a1), .val (.int p2), .unset, .unset, .unset, .unset] [(.long ((w3.toInt64) + (p2.toInt64)))])) _
    refine XS.lstoreN X4.here hx rfl (hb hby d9_8) rfl (l' := #[.val (.ref a1), .val (.int p2), .val (.long ((w3.toInt64) + (p2.toInt64))), .second, .unset, .unset]) rfl ?_
    show Steps p.tables e below (T4.setTop (mkF m 9 #[.val (.ref a1), .val (.int p2), .val (.long ((w3.toInt64) + (p2.toInt64))), .second, .unset, .unset] [])) _
    refine XS.lloadN X4.here hx rfl (hb hby d9_9) rfl ?_
    show Steps p.tables e below (T4.setTop (mkF m 10 #[.val (.ref a1), .val (.int p2), .val (.long ((w3.toInt64) + (p2.toInt64))), .second, .unset, .unset] [(.long ((w3.toInt64) + (p2.toInt64)))])) _
    refine XS.aloadN X4.here hx rfl (hb hby d9_10) rfl rfl ?_
    show Steps p.tables e below (T4.setTop (mkF m 11 #[.val (.ref a1), .val (.int p2), .val (.long ((w3.toInt64) + (p2.toInt64))), .second, .unset, .unset] [(.ref a1), (.long ((w3.toInt64) + (p2.toInt64)))])) _
    refine st6 _ ?_
    show Steps p.tables e below (T6.setTop (mkF m 14 #[.val (.ref a1), .val (.int p2), .val (.long ((w3.toInt64) + (p2.toInt64))), .second, .unset, .unset] [(.ref w5), (.long ((w3.toInt64) + (p2.toInt64)))])) _
    refine X6.arraylength hx (by rw [e6]; exact Ar_w5.1) (State.isArrayOf_alike hZ.alike Ar_w5.2.1) (g := (mkF m 14 #[.val (.ref a1), .val (.int p2), .val (.long ((w3.toInt64) + (p2.toInt64))), .second, .unset, .unset] [(.ref w5), (.long ((w3.toInt64) + (p2.toInt64)))])) rfl rfl (hb hby d9_14) _ ?_
    rw [len_of S_w5 N_w5]
    show Steps p.tables e below (T6.setTop (mkF m 15 #[.val (.ref a1), .val (.int p2), .val (.long ((w3.toInt64) + (p2.toInt64))), .second, .unset, .unset] [(.int z_w5), (.long ((w3.toInt64) + (p2.toInt64)))])) _
    refine XS.i2l X6.here hx rfl (hb hby d9_15) rfl ?_
    show Steps p.tables e below (T6.setTop (mkF m 16 #[.val (.ref a1), .val (.int p2), .val (.long ((w3.toInt64) + (p2.toInt64))), .second, .unset, .unset] [(.long (z_w5.toInt64)), (.long ((w3.toInt64) + (p2.toInt64)))])) _
    refine XS.lcmp X6.here hx rfl (hb hby d9_16) rfl ?_
    show Steps p.tables e below (T6.setTop (mkF m 17 #[.val (.ref a1), .val (.int p2), .val (.long ((w3.toInt64) + (p2.toInt64))), .second, .unset, .unset] [(.int (lcmpW ((w3.toInt64) + (p2.toInt64)) (z_w5.toInt64)))])) _
    refine XS.ifYes X6.here hx rfl (pc0 := 17) (pc' := 80) rfl (hb hby d9_17) rfl ((if0 _ _).trans (flt hc17).2.2.2) (by decide) (by decide) ?_
    show Steps p.tables e below (T6.setTop (mkF m 80 #[.val (.ref a1), .val (.int p2), .val (.long ((w3.toInt64) + (p2.toInt64))), .second, .unset, .unset] [])) _
    exact X6.returnOut hx Bd.returns (hb hby d9_80) hr
  · show Q9 Z a1 p2 w3 w5 cl_w5 z_w5 h0 n0 _ T6.heap _
    rw [e6]
    exact ⟨rfl, N0, rfl⟩
theorem d10_0 : decode prog_63_method_8_code 0 = .ok (.aload_n 0, 1) := by decide +kernel
theorem d10_1 : decode prog_63_method_8_code 1 = .ok (.getfield 15, 3) := by decide +kernel
theorem d10_4 : decode prog_63_method_8_code 4 = .ok (.aload_n 0, 1) := by decide +kernel
theorem d10_5 : decode prog_63_method_8_code 5 = .ok (.getfield 18, 3) := by decide +kernel
theorem d10_8 : decode prog_63_method_8_code 8 = .ok (.iload_n 1, 1) := by decide +kernel
theorem d10_9 : decode prog_63_method_8_code 9 = .ok (.iadd, 1) := by decide +kernel
theorem d10_10 : decode prog_63_method_8_code 10 = .ok (.baload, 1) := by decide +kernel
theorem d10_11 : decode prog_63_method_8_code 11 = .ok (.ireturn, 1) := by decide +kernel
theorem pn_10 : plainName "satura/ntriples/Spelling" = true := by first | (simp [plainName, overriddenIn]; done) | decide +kernel
theorem ef_10 (m : MethodId) (x0 : Addr) (x1 : Int32) : entryFrame m #[(.ref x0), (.int x1)] 2 = mkF m 0 #[.val (.ref x0), .val (.int x1)] [] := by first | (simp [entryFrame, mkF, argsToLocals, Value.category]; done) | rfl
def Q10 (Z : State) (a1 : Addr) (p2 : Int32) (w3 : Addr) (w5 : Int32) (w7 : Int32) (cl_w3 : Cell) (h0 : Heap) (n0 : Nat) (v : Option Value) (h : Heap) (L : List Loc) : Prop := v = some (.int w7) ∧ Fr n0 L ∧ h = h0
set_option maxRecDepth 65536 in
set_option maxHeartbeats 40000000 in
theorem rm10 (l : Launch) (Z : State) (a0 : Array Value) (hw : ∀ d ∈ tables_1, d.before a0 Z = true) (ws : List Jvm.Cond) (a1 : Addr) (p2 : Int32) (w3 : Addr) (w5 : Int32) (w7 : Int32) (cl_w3 : Cell) (h0 : Heap) (n0 : Nat) (Z0 : n0 ≤ h0.size) (hw7 : nar .byte w7 = w7) (F_bytes_a1 : Fld Z h0 a1 "satura/ntriples/Spelling" "bytes" "[B" (.ref w3)) (F_offset_a1 : Fld Z h0 a1 "satura/ntriples/Spelling" "offset" "I" (.int w5)) (Ar_w3 : Arr Z h0 w3 cl_w3 .byte) (hin10 : ¬ ((w5 + p2) < 0 ∨ cl_w3.slots.size ≤ ((w5 + p2)).toNatClampNeg)) (hat10 : cl_w3.slots[((w5 + p2)).toNatClampNeg]? = some (.int w7)) :
    MetFree l (⟨"satura/ntriples/Spelling", "byteAt", "(I)B"⟩ : MethodName) (head1 (Jvm.Cond.code (⟨"satura/ntriples/Spelling", "byteAt", "(I)B"⟩ : MethodName) prog_63_method_8_code 2 (some .byte) :: ws) ({ frames := 0, cells := 0, slots := 0, locals := 0 } : Room)) (fun a U => a = #[(.ref a1), (.int p2)] ∧ Z.Warmed39 U.vm ∧ U.heap = h0) (fun _ _ _ _ _ => True) (fun _ U o U' => ∃ v L, o = .returned v ∧ Q10 Z a1 p2 w3 w5 w7 cl_w3 h0 n0 v U'.heap L ∧ FrameEnd U o U' L ({ frames := 0, cells := 0, slots := 0, locals := 0 } : Room).cells ({ frames := 0, cells := 0, slots := 0, locals := 0 } : Room).slots) := by
  refine MetFree.of_bodySF (plainFor_of_name pn_10) hisR ?_
  intro p e s m args below meth c s₁ Bd hml0 hP hK
  obtain ⟨rfl, hZ, hh⟩ := hP
  have hx := Bd.exec
  have hby := Bd.bytes
  have hml : c.maxLocals = 2 := hml0
  have hown : s.vm.findClass "satura/ntriples/Spelling" = some m.cls := findClass_of_methodNamed Bd.named
  have hnm := (name_of_methodNamed Bd.named Bd.method).1
  have X0 : Stand p l e ({ frames := 0, cells := 0, slots := 0, locals := 0 } : Room) s m #[(.ref a1), (.int p2)] below meth c s₁ [] 0 0 := Stand.of_body Bd
  have e0 : s₁.heap = h0 := by rw [← hh, Bd.state]; rfl
  have N0 := Fr.nil n0
  have pre0 : ∀ t, Steps p.tables e below (s₁.setTop (mkF m 0 #[.val (.ref a1), .val (.int p2)] [])) t → Steps p.tables e below (s₁.setTop (entryFrame m #[(.ref a1), (.int p2)] 2)) t := fun t k => castTop (ef_10 m a1 p2) k
  obtain ⟨T4, X4, e4, st4⟩ := getF X0 hx hZ hown (host := "") (Or.inl (hw _ (List.mem_of_getElem? (i := 21) rfl))) Via.refl e0 F_bytes_a1 (g := (mkF m 1 #[.val (.ref a1), .val (.int p2)] [(.ref a1)])) rfl rfl (hb hby d10_1)
  obtain ⟨T6, X6, e6, st6⟩ := getF X4 hx hZ hown (host := "") (Or.inl (hw _ (List.mem_of_getElem? (i := 23) rfl))) Via.refl e4 F_offset_a1 (g := (mkF m 5 #[.val (.ref a1), .val (.int p2)] [(.ref a1), (.ref w3)])) rfl rfl (hb hby d10_5)
  obtain ⟨fs, hr, hrun, hended, hW, hsame⟩ := X6.leave (v := some (.int w7)) (fun h => by rw [Bd.returns] at h; cases h)
  refine ⟨_, _, pre0 _ ?_, hrun, hended, _, _, rfl, ?_, ⟨_, rfl⟩, hW, hsame.mono (by decide) (by decide)⟩
  · show Steps p.tables e below (s₁.setTop (mkF m 0 #[.val (.ref a1), .val (.int p2)] [])) _
    refine XS.aloadN X0.here hx rfl (hb hby d10_0) rfl rfl ?_
    show Steps p.tables e below (s₁.setTop (mkF m 1 #[.val (.ref a1), .val (.int p2)] [(.ref a1)])) _
    refine st4 _ ?_
    show Steps p.tables e below (T4.setTop (mkF m 4 #[.val (.ref a1), .val (.int p2)] [(.ref w3)])) _
    refine XS.aloadN X4.here hx rfl (hb hby d10_4) rfl rfl ?_
    show Steps p.tables e below (T4.setTop (mkF m 5 #[.val (.ref a1), .val (.int p2)] [(.ref a1), (.ref w3)])) _
    refine st6 _ ?_
    show Steps p.tables e below (T6.setTop (mkF m 8 #[.val (.ref a1), .val (.int p2)] [(.int w5), (.ref w3)])) _
    refine XS.iloadN X6.here hx rfl (hb hby d10_8) rfl ?_
    show Steps p.tables e below (T6.setTop (mkF m 9 #[.val (.ref a1), .val (.int p2)] [(.int p2), (.int w5), (.ref w3)])) _
    refine XS.iadd X6.here hx rfl (hb hby d10_9) rfl ?_
    show Steps p.tables e below (T6.setTop (mkF m 10 #[.val (.ref a1), .val (.int p2)] [(.int (w5 + p2)), (.ref w3)])) _
    refine X6.baloadBytes hx (j := (w5 + p2)) (v := (.int w7)) (by rw [e6]; exact Ar_w3.1) (State.isArrayOf_alike hZ.alike Ar_w3.2.1) Ar_w3.2.2 hin10 hat10 (g := (mkF m 10 #[.val (.ref a1), .val (.int p2)] [(.int (w5 + p2)), (.ref w3)])) rfl rfl (hb hby d10_10) _ ?_
    show Steps p.tables e below (T6.setTop (mkF m 11 #[.val (.ref a1), .val (.int p2)] [(.int w7)])) _
    exact retN X6 hx (t := .byte) Bd.returns (by simp) (hb hby d10_11) (by rw [hw7]; exact hr)
  · show Q10 Z a1 p2 w3 w5 w7 cl_w3 h0 n0 _ T6.heap _
    rw [e6]
    exact ⟨rfl, N0, rfl⟩
def Q8 (Z : State) (a1 : Addr) (p2 : Int32) (M : Addr) (k : ClassId) (ub uo : Value) (w6 : Int32) (vs : List Value) (h0 : Heap) (n0 : Nat) (v : Option Value) (h : Heap) (L : List Loc) : Prop := v = none ∧ Fr n0 L ∧ Keep h0 h [a1, M] ∧ own_Sp Z h a1 M k ub uo (.int (w6 + (1 : Int32))) (vs.set w6.toNatClampNeg (.int (nar .byte p2)))
theorem d8_0 : decode prog_63_method_13_code 0 = .ok (.aload_n 0, 1) := by decide +kernel
theorem d8_1 : decode prog_63_method_13_code 1 = .ok (.iconst 1, 1) := by decide +kernel
theorem d8_2 : decode prog_63_method_13_code 2 = .ok (.invokevirtual 49, 3) := by decide +kernel
theorem d8_5 : decode prog_63_method_13_code 5 = .ok (.aload_n 0, 1) := by decide +kernel
theorem d8_6 : decode prog_63_method_13_code 6 = .ok (.getfield 9, 3) := by decide +kernel
theorem d8_9 : decode prog_63_method_13_code 9 = .ok (.aload_n 0, 1) := by decide +kernel
theorem d8_10 : decode prog_63_method_13_code 10 = .ok (.dup, 1) := by decide +kernel
theorem d8_11 : decode prog_63_method_13_code 11 = .ok (.getfield 22, 3) := by decide +kernel
theorem d8_14 : decode prog_63_method_13_code 14 = .ok (.dup_x1, 1) := by decide +kernel
theorem d8_15 : decode prog_63_method_13_code 15 = .ok (.iconst 1, 1) := by decide +kernel
theorem d8_16 : decode prog_63_method_13_code 16 = .ok (.iadd, 1) := by decide +kernel
theorem d8_17 : decode prog_63_method_13_code 17 = .ok (.putfield 22, 3) := by decide +kernel
theorem d8_20 : decode prog_63_method_13_code 20 = .ok (.iload_n 1, 1) := by decide +kernel
theorem d8_21 : decode prog_63_method_13_code 21 = .ok (.bastore, 1) := by decide +kernel
theorem d8_22 : decode prog_63_method_13_code 22 = .ok (.return_, 1) := by decide +kernel
theorem pn_8 : plainName "satura/ntriples/Spelling" = true := by first | (simp [plainName, overriddenIn]; done) | decide +kernel
theorem pd_8_5 : parseMethodDescriptor "(I)V" = some ⟨[.int], none⟩ := by decide +kernel
theorem ef_8 (m : MethodId) (x0 : Addr) (x1 : Int32) : entryFrame m #[(.ref x0), (.int x1)] 2 = mkF m 0 #[.val (.ref x0), .val (.int x1)] [] := by first | (simp [entryFrame, mkF, argsToLocals, Value.category]; done) | rfl
theorem own_1 : (1 : Int32).toInt = 1 := by decide
set_option maxRecDepth 65536 in
set_option maxHeartbeats 40000000 in
theorem rm8 (l : Launch) (Z : State) (a0 : Array Value) (hw : ∀ d ∈ tables_1, d.before a0 Z = true) (ws : List Jvm.Cond) (a1 : Addr) (p2 : Int32) (M : Addr) (k : ClassId) (ub uo : Value) (w6 : Int32) (vs : List Value) (h0 : Heap) (n0 : Nat) (Z0 : n0 ≤ h0.size) (hS : own_Sp Z h0 a1 M k ub uo (.int w6) vs) (g_a1 : n0 ≤ a1) (g_M : n0 ≤ M) (hlo : 0 ≤ w6.toInt) (hhi : w6.toInt < 64) :
    MetFree l (⟨"satura/ntriples/Spelling", "append", "(B)V"⟩ : MethodName) (head1 (Jvm.Cond.code (⟨"satura/ntriples/Spelling", "append", "(B)V"⟩ : MethodName) prog_63_method_13_code 2 none :: ws) ({ frames := 1, cells := 0, slots := 0, locals := 17 } : Room)) (fun a U => a = #[(.ref a1), (.int p2)] ∧ Z.Warmed39 U.vm ∧ U.heap = h0) (fun _ _ _ _ _ => True) (fun _ U o U' => ∃ v L, o = .returned v ∧ Q8 Z a1 p2 M k ub uo w6 vs h0 n0 v U'.heap L ∧ FrameEnd U o U' L ({ frames := 1, cells := 0, slots := 0, locals := 17 } : Room).cells ({ frames := 1, cells := 0, slots := 0, locals := 17 } : Room).slots) := by
  refine MetFree.of_bodySF (plainFor_of_name pn_8) hisR ?_
  intro p e s m args below meth c s₁ Bd hml0 hP hK
  obtain ⟨rfl, hZ, hh⟩ := hP
  have hx := Bd.exec
  have hby := Bd.bytes
  have hml : c.maxLocals = 2 := hml0
  have hown : s.vm.findClass "satura/ntriples/Spelling" = some m.cls := findClass_of_methodNamed Bd.named
  have hnm := (name_of_methodNamed Bd.named Bd.method).1
  have X0 : Stand p l e ({ frames := 1, cells := 0, slots := 0, locals := 17 } : Room) s m #[(.ref a1), (.int p2)] below meth c s₁ [] 0 0 := Stand.of_body Bd
  have e0 : s₁.heap = h0 := by rw [← hh, Bd.state]; rfl
  have N0 := Fr.nil n0
  have pre0 : ∀ t, Steps p.tables e below (s₁.setTop (mkF m 0 #[.val (.ref a1), .val (.int p2)] [])) t → Steps p.tables e below (s₁.setTop (entryFrame m #[(.ref a1), (.int p2)] 2)) t := fun t k => castTop (ef_8 m a1 p2) k
  obtain ⟨E_a1, F_made_a1, F_bytes_a1, F_offset_a1, F_length_a1, hvl, V_M, hne⟩ := id hS
  obtain ⟨cl_M, Ar_M, q_M, S_M, N_M, H_M, G_M⟩ := id V_M
  have hj : w6.toNatClampNeg < 64 := by
    show w6.toInt.toNat < 64
    omega
  have hin21 : ¬ (w6 < 0 ∨ cl_M.slots.size ≤ w6.toNatClampNeg) := inb_of S_M ⟨by rw [Int32.lt_iff_toInt_lt, own_z]; omega, by rw [Int32.lt_iff_toInt_lt, own_64]; omega⟩
  obtain ⟨cq3, q3, q3'⟩ := E_a1.cell
  obtain ⟨_, _, ⟨T3, L3, k3, n3⟩, -, X3, ⟨Lc3, hQ3, l3, y3, z3⟩, st3⟩ := X0.privateBack hx (y := (⟨"satura/ntriples/Spelling", "room", "(I)V"⟩ : MethodName)) hown (mvT hZ (hw _ (List.mem_of_getElem? (i := 47) rfl))) (mvT hZ (hw _ (List.mem_of_getElem? (i := 48) rfl))) (mvT hZ (own_sel (hw _ (List.mem_of_getElem? (i := 6) rfl)) (hw _ (List.mem_of_getElem? (i := 49) rfl)) (hw _ (List.mem_of_getElem? (i := 48) rfl)))) (Cond.privateMethod_at (mvP hZ (hw _ (List.mem_of_getElem? (i := 49) rfl)) (args := #[]))) (mvT hZ (hw _ (List.mem_of_getElem? (i := 50) rfl))) (by decide) (backOf (W := 0) (rm9 l Z a0 hw [] a1 (1 : Int32) w6 M cl_M (64 : Int32) h0 n0 Z0 F_length_a1 F_made_a1 Ar_M S_M N_M (own_room w6 1 (by rw [own_1]; omega) (by rw [own_1]; omega))) hZ (hw _ (List.mem_of_getElem? (i := 50) rfl)) (hw _ (List.mem_of_getElem? (i := 7) rfl)) (by decide) (by decide)) (g := (mkF m 2 #[.val (.ref a1), .val (.int p2)] [(.int (1 : Int32)), (.ref a1)])) rfl (by rw [hml]; rfl) (Steps.refl _) (a := a1) (by rw [e0]; exact q3) q3' (argsL := [(.int (1 : Int32))]) (rest := []) (lenOf pd_8_5 rfl) rfl (by show 2 * 0 + _ ≤ _; exact Nat.le_of_eq rfl) (hb hby d8_2) (fun _ _ => ⟨rfl, e0, (by decide : 0 + 0 ≤ _), (by decide : 0 + 0 ≤ _)⟩)
  dsimp only [Pt.U, Pt.locs, Pt.cells, Pt.slots] at X3 l3 y3 z3 st3 hQ3
  subst l3 y3 z3
  obtain ⟨rfl, N3q, e9h⟩ := hQ3
  have N3 := Fr.app N0 N3q
  obtain ⟨T5, X5, e5, st5⟩ := getF X3 hx hZ hown (host := "") (Or.inl (hw _ (List.mem_of_getElem? (i := 14) rfl))) Via.refl rfl (F_made_a1.keep (own_keep_eq e9h []) List.not_mem_nil) (g := (mkF m 6 #[.val (.ref a1), .val (.int p2)] [(.ref a1)])) rfl rfl (hb hby d8_6)
  obtain ⟨T7, X7, e7, st7⟩ := getF X5 hx hZ hown (host := "") (Or.inl (hw _ (List.mem_of_getElem? (i := 25) rfl))) Via.refl e5 (F_length_a1.keep (own_keep_eq e9h []) List.not_mem_nil) (g := (mkF m 11 #[.val (.ref a1), .val (.int p2)] [(.ref a1), (.ref a1), (.ref M)])) rfl rfl (hb hby d8_11)
  obtain ⟨T8, h8, X8, e8, W8, st8⟩ := putF X7 hx hZ hown (host := "") (Or.inl (hw _ (List.mem_of_getElem? (i := 25) rfl))) Via.refl e7 (F_length_a1.keep (own_keep_eq e9h []) List.not_mem_nil) (E_a1.keep (own_keep_eq e9h [])) (Or.inl (hw _ (List.mem_of_getElem? (i := 26) rfl))) (hw _ (List.mem_of_getElem? (i := 6) rfl)) (ty := .int) (by decide) rfl rfl (g := (mkF m 17 #[.val (.ref a1), .val (.int p2)] [(.int (w6 + (1 : Int32))), (.ref a1), (.int w6), (.ref M)])) rfl rfl (hb hby d8_17)
  have Fw8 := (F_length_a1.keep (own_keep_eq e9h []) List.not_mem_nil).same W8
  have K8 : Keep h0 h8 [a1, M] := (own_keep_eq e9h [a1, M]).wr W8 (Or.inl (List.mem_of_getElem? (i := 0) rfl))
  have N8 := Fr.snoc X8 N3 g_a1
  have ArM' : Arr Z h8 M cl_M .byte := Arr.other W8 (by rw [e9h]; exact Ar_M) hne.symm
  have hS9 : own_Sp Z T3.heap a1 M k ub uo (.int w6) vs := by rw [e9h]; exact hS
  obtain ⟨T9, h9, X9, e9, W9, st9⟩ := stB X8 hx hZ e8 ArM' (j := w6) hin21 (g := (mkF m 21 #[.val (.ref a1), .val (.int p2)] [(.int p2), (.int w6), (.ref M)])) rfl rfl (hb hby d8_21)
  have N9 := Fr.snoc X9 N8 g_M
  have K9 : Keep h0 h9 [a1, M] := K8.wr W9 (Or.inl (List.mem_of_getElem? (i := 1) rfl))
  obtain ⟨fs, hr, hrun, hended, hW, hsame⟩ := X9.leave (v := none) (fun _ => rfl)
  refine ⟨_, _, pre0 _ ?_, hrun, hended, _, _, rfl, ?_, ⟨_, rfl⟩, hW, hsame.mono (by decide) (by decide)⟩
  · show Steps p.tables e below (s₁.setTop (mkF m 0 #[.val (.ref a1), .val (.int p2)] [])) _
    refine XS.aloadN X0.here hx rfl (hb hby d8_0) rfl rfl ?_
    show Steps p.tables e below (s₁.setTop (mkF m 1 #[.val (.ref a1), .val (.int p2)] [(.ref a1)])) _
    refine XS.iconst X0.here hx rfl (hb hby d8_1) ?_
    show Steps p.tables e below (s₁.setTop (mkF m 2 #[.val (.ref a1), .val (.int p2)] [(.int (1 : Int32)), (.ref a1)])) _
    refine st3.trans ?_
    show Steps p.tables e below (T3.setTop (mkF m 5 #[.val (.ref a1), .val (.int p2)] [])) _
    refine XS.aloadN X3.here hx rfl (hb hby d8_5) rfl rfl ?_
    show Steps p.tables e below (T3.setTop (mkF m 6 #[.val (.ref a1), .val (.int p2)] [(.ref a1)])) _
    refine st5 _ ?_
    show Steps p.tables e below (T5.setTop (mkF m 9 #[.val (.ref a1), .val (.int p2)] [(.ref M)])) _
    refine XS.aloadN X5.here hx rfl (hb hby d8_9) rfl rfl ?_
    show Steps p.tables e below (T5.setTop (mkF m 10 #[.val (.ref a1), .val (.int p2)] [(.ref a1), (.ref M)])) _
    refine XS.dup X5.here hx rfl (hb hby d8_10) rfl rfl ?_
    show Steps p.tables e below (T5.setTop (mkF m 11 #[.val (.ref a1), .val (.int p2)] [(.ref a1), (.ref a1), (.ref M)])) _
    refine st7 _ ?_
    show Steps p.tables e below (T7.setTop (mkF m 14 #[.val (.ref a1), .val (.int p2)] [(.int w6), (.ref a1), (.ref M)])) _
    refine XS.dupX1 X7.here hx rfl (hb hby d8_14) rfl rfl rfl ?_
    show Steps p.tables e below (T7.setTop (mkF m 15 #[.val (.ref a1), .val (.int p2)] [(.int w6), (.ref a1), (.int w6), (.ref M)])) _
    refine XS.iconst X7.here hx rfl (hb hby d8_15) ?_
    show Steps p.tables e below (T7.setTop (mkF m 16 #[.val (.ref a1), .val (.int p2)] [(.int (1 : Int32)), (.int w6), (.ref a1), (.int w6), (.ref M)])) _
    refine XS.iadd X7.here hx rfl (hb hby d8_16) rfl ?_
    show Steps p.tables e below (T7.setTop (mkF m 17 #[.val (.ref a1), .val (.int p2)] [(.int (w6 + (1 : Int32))), (.ref a1), (.int w6), (.ref M)])) _
    refine st8 _ ?_
    show Steps p.tables e below (T8.setTop (mkF m 20 #[.val (.ref a1), .val (.int p2)] [(.int w6), (.ref M)])) _
    refine XS.iloadN X8.here hx rfl (hb hby d8_20) rfl ?_
    show Steps p.tables e below (T8.setTop (mkF m 21 #[.val (.ref a1), .val (.int p2)] [(.int p2), (.int w6), (.ref M)])) _
    refine st9 _ ?_
    show Steps p.tables e below (T9.setTop (mkF m 22 #[.val (.ref a1), .val (.int p2)] [])) _
    exact X9.returnOut hx Bd.returns (hb hby d8_22) hr
  · show Q8 Z a1 p2 M k ub uo w6 vs h0 n0 _ T9.heap _
    rw [e9]
    exact ⟨rfl, N9, K9, own_set_arr (own_set_length hw hS9 W8) hj W9⟩
def Q13 (Z : State) (a1 : Addr) (M : Addr) (k : ClassId) (ub uo : Value) (h0 : Heap) (n0 : Nat) (v : Option Value) (h : Heap) (L : List Loc) : Prop := v = none ∧ Fr n0 L ∧ Keep h0 h [a1, M] ∧ ∃ ul vs', own_Sp Z h a1 M k ub uo ul vs'
theorem d13_0 : decode prog_63_method_14_code 0 = .ok (.iload_n 3, 1) := by decide +kernel
theorem d13_1 : decode prog_63_method_14_code 1 = .ok (.iload_n 2, 1) := by decide +kernel
theorem d13_2 : decode prog_63_method_14_code 2 = .ok (.isub, 1) := by decide +kernel
theorem d13_3 : decode prog_63_method_14_code 3 = .ok (.istore 4, 2) := by decide +kernel
theorem d13_5 : decode prog_63_method_14_code 5 = .ok (.aload_n 0, 1) := by decide +kernel
theorem d13_6 : decode prog_63_method_14_code 6 = .ok (.iload 4, 2) := by decide +kernel
theorem d13_8 : decode prog_63_method_14_code 8 = .ok (.invokevirtual 49, 3) := by decide +kernel
theorem d13_11 : decode prog_63_method_14_code 11 = .ok (.aload_n 1, 1) := by decide +kernel
theorem d13_12 : decode prog_63_method_14_code 12 = .ok (.iload_n 2, 1) := by decide +kernel
theorem d13_13 : decode prog_63_method_14_code 13 = .ok (.aload_n 0, 1) := by decide +kernel
theorem d13_14 : decode prog_63_method_14_code 14 = .ok (.getfield 9, 3) := by decide +kernel
theorem d13_17 : decode prog_63_method_14_code 17 = .ok (.aload_n 0, 1) := by decide +kernel
theorem d13_18 : decode prog_63_method_14_code 18 = .ok (.getfield 22, 3) := by decide +kernel
theorem d13_21 : decode prog_63_method_14_code 21 = .ok (.iload 4, 2) := by decide +kernel
theorem d13_23 : decode prog_63_method_14_code 23 = .ok (.invokestatic 53, 3) := by decide +kernel
theorem d13_26 : decode prog_63_method_14_code 26 = .ok (.aload_n 0, 1) := by decide +kernel
theorem d13_27 : decode prog_63_method_14_code 27 = .ok (.dup, 1) := by decide +kernel
theorem d13_28 : decode prog_63_method_14_code 28 = .ok (.getfield 22, 3) := by decide +kernel
theorem d13_31 : decode prog_63_method_14_code 31 = .ok (.iload 4, 2) := by decide +kernel
theorem d13_33 : decode prog_63_method_14_code 33 = .ok (.iadd, 1) := by decide +kernel
theorem d13_34 : decode prog_63_method_14_code 34 = .ok (.putfield 22, 3) := by decide +kernel
theorem d13_37 : decode prog_63_method_14_code 37 = .ok (.return_, 1) := by decide +kernel
theorem pn_13 : plainName "satura/ntriples/Spelling" = true := by first | (simp [plainName, overriddenIn]; done) | decide +kernel
theorem pd_13_5 : parseMethodDescriptor "(I)V" = some ⟨[.int], none⟩ := by decide +kernel
theorem pd_13_8 : parseMethodDescriptor "(Ljava/lang/Object;ILjava/lang/Object;II)V" = some ⟨[(.object "java/lang/Object"), .int, (.object "java/lang/Object"), .int, .int], none⟩ := by decide +kernel
theorem ef_13 (m : MethodId) (x0 : Addr) (x1 : Addr) (x2 : Int32) (x3 : Int32) : entryFrame m #[(.ref x0), (.ref x1), (.int x2), (.int x3)] 5 = mkF m 0 #[.val (.ref x0), .val (.ref x1), .val (.int x2), .val (.int x3), .unset] [] := by first | (simp [entryFrame, mkF, argsToLocals, Value.category]; done) | rfl
set_option maxRecDepth 65536 in
set_option maxHeartbeats 40000000 in
theorem rm13 (l : Launch) (Z : State) (a0 : Array Value) (hw : ∀ d ∈ tables_1, d.before a0 Z = true) (ws : List Jvm.Cond) (a1 : Addr) (a2 : Addr) (p3 : Int32) (p4 : Int32) (M : Addr) (k kT : ClassId) (ub uo : Value) (vs tx : List Value) (h0 : Heap) (n0 : Nat) (Z0 : n0 ≤ h0.size) (hS : own_Sp Z h0 a1 M k ub uo (.int (0 : Int32)) vs) (V_T : Arv Z h0 a2 kT .byte (4 : Int32) tx (.int (0 : Int32))) (g_a1 : n0 ≤ a1) (g_M : n0 ≤ M) (hlo : 0 ≤ p3.toInt) (hle : p3.toInt ≤ p4.toInt) (hhi : p4.toInt ≤ 4) :
    MetFree l (⟨"satura/ntriples/Spelling", "append", "([BII)V"⟩ : MethodName) (head1 (Jvm.Cond.code (⟨"satura/ntriples/Spelling", "append", "([BII)V"⟩ : MethodName) prog_63_method_14_code 5 none :: ws) ({ frames := 1, cells := 0, slots := 0, locals := 100 } : Room)) (fun a U => a = #[(.ref a1), (.ref a2), (.int p3), (.int p4)] ∧ Z.Warmed39 U.vm ∧ U.heap = h0) (fun _ _ _ _ _ => True) (fun _ U o U' => ∃ v L, o = .returned v ∧ Q13 Z a1 M k ub uo h0 n0 v U'.heap L ∧ FrameEnd U o U' L ({ frames := 1, cells := 0, slots := 0, locals := 100 } : Room).cells ({ frames := 1, cells := 0, slots := 0, locals := 100 } : Room).slots) := by
  refine MetFree.of_bodySF (plainFor_of_name pn_13) hisR ?_
  intro p e s m args below meth c s₁ Bd hml0 hP hK
  obtain ⟨rfl, hZ, hh⟩ := hP
  have hx := Bd.exec
  have hby := Bd.bytes
  have hml : c.maxLocals = 5 := hml0
  have hown : s.vm.findClass "satura/ntriples/Spelling" = some m.cls := findClass_of_methodNamed Bd.named
  have hnm := (name_of_methodNamed Bd.named Bd.method).1
  have X0 : Stand p l e ({ frames := 1, cells := 0, slots := 0, locals := 100 } : Room) s m #[(.ref a1), (.ref a2), (.int p3), (.int p4)] below meth c s₁ [] 0 0 := Stand.of_body Bd
  have e0 : s₁.heap = h0 := by rw [← hh, Bd.state]; rfl
  have N0 := Fr.nil n0
  have pre0 : ∀ t, Steps p.tables e below (s₁.setTop (mkF m 0 #[.val (.ref a1), .val (.ref a2), .val (.int p3), .val (.int p4), .unset] [])) t → Steps p.tables e below (s₁.setTop (entryFrame m #[(.ref a1), (.ref a2), (.int p3), (.int p4)] 5)) t := fun t k => castTop (ef_13 m a1 a2 p3 p4) k
  obtain ⟨E_a1, F_made_a1, F_bytes_a1, F_offset_a1, F_length_a1, hvl, V_M, hne⟩ := id hS
  obtain ⟨cl_M, Ar_M, q_M, S_M, N_M, H_M, G_M⟩ := id V_M
  have hsub : (p4 - p3).toInt = p4.toInt - p3.toInt := Jvm.Kit.i32_sub (by omega) (by omega)
  have n1 : p3.toNatClampNeg = p3.toInt.toNat := rfl
  have n2 : (p4 - p3).toNatClampNeg = (p4.toInt - p3.toInt).toNat := by
    show (p4 - p3).toInt.toNat = _
    rw [hsub]
  have n3 : (0 : Int32).toNatClampNeg = 0 := by decide
  have n4 : (4 : Int32).toNatClampNeg = 4 := by decide
  have n64 : (64 : Int32).toNatClampNeg = 64 := by decide
  obtain ⟨cq5, q5, q5'⟩ := E_a1.cell
  obtain ⟨_, _, ⟨T5, L5, k5, n5⟩, -, X5, ⟨Lc5, hQ5, l5, y5, z5⟩, st5⟩ := X0.privateBack hx (y := (⟨"satura/ntriples/Spelling", "room", "(I)V"⟩ : MethodName)) hown (mvT hZ (hw _ (List.mem_of_getElem? (i := 47) rfl))) (mvT hZ (hw _ (List.mem_of_getElem? (i := 48) rfl))) (mvT hZ (own_sel (hw _ (List.mem_of_getElem? (i := 6) rfl)) (hw _ (List.mem_of_getElem? (i := 49) rfl)) (hw _ (List.mem_of_getElem? (i := 48) rfl)))) (Cond.privateMethod_at (mvP hZ (hw _ (List.mem_of_getElem? (i := 49) rfl)) (args := #[]))) (mvT hZ (hw _ (List.mem_of_getElem? (i := 50) rfl))) (by decide) (backOf (W := 0) (rm9 l Z a0 hw [] a1 (p4 - p3) (0 : Int32) M cl_M (64 : Int32) h0 n0 Z0 F_length_a1 F_made_a1 Ar_M S_M N_M (own_room 0 (p4 - p3) (by rw [own_z, hsub]; omega) (by rw [own_z, hsub]; omega))) hZ (hw _ (List.mem_of_getElem? (i := 50) rfl)) (hw _ (List.mem_of_getElem? (i := 7) rfl)) (by decide) (by decide)) (g := (mkF m 8 #[.val (.ref a1), .val (.ref a2), .val (.int p3), .val (.int p4), .val (.int (p4 - p3))] [(.int (p4 - p3)), (.ref a1)])) rfl (by rw [hml]; rfl) (Steps.refl _) (a := a1) (by rw [e0]; exact q5) q5' (argsL := [(.int (p4 - p3))]) (rest := []) (lenOf pd_13_5 rfl) rfl (by show 2 * 0 + _ ≤ _; exact Nat.le_of_eq rfl) (hb hby d13_8) (fun _ _ => ⟨rfl, e0, (by decide : 0 + 0 ≤ _), (by decide : 0 + 0 ≤ _)⟩)
  dsimp only [Pt.U, Pt.locs, Pt.cells, Pt.slots] at X5 l5 y5 z5 st5 hQ5
  subst l5 y5 z5
  obtain ⟨rfl, N5q, e9h⟩ := hQ5
  have N5 := Fr.app N0 N5q
  obtain ⟨T7, X7, e7, st7⟩ := getF X5 hx hZ hown (host := "") (Or.inl (hw _ (List.mem_of_getElem? (i := 14) rfl))) Via.refl rfl (F_made_a1.keep (own_keep_eq e9h []) List.not_mem_nil) (g := (mkF m 14 #[.val (.ref a1), .val (.ref a2), .val (.int p3), .val (.int p4), .val (.int (p4 - p3))] [(.ref a1), (.int p3), (.ref a2)])) rfl rfl (hb hby d13_14)
  obtain ⟨T9, X9, e9, st9⟩ := getF X7 hx hZ hown (host := "") (Or.inl (hw _ (List.mem_of_getElem? (i := 25) rfl))) Via.refl e7 (F_length_a1.keep (own_keep_eq e9h []) List.not_mem_nil) (g := (mkF m 18 #[.val (.ref a1), .val (.ref a2), .val (.int p3), .val (.int p4), .val (.int (p4 - p3))] [(.ref a1), (.ref M), (.int p3), (.ref a2)])) rfl rfl (hb hby d13_18)
  have hS9 : own_Sp Z T5.heap a1 M k ub uo (.int (0 : Int32)) vs := by rw [e9h]; exact hS
  have V_T9 : Arv Z T5.heap a2 kT .byte (4 : Int32) tx (.int (0 : Int32)) := by rw [e9h]; exact V_T
  obtain ⟨T10, h10, L10, X10, e10, N10, KM, VM', st10⟩ := cpA X9 hx hZ hown (hw _ (List.mem_of_getElem? (i := 72) rfl)) (hw _ (List.mem_of_getElem? (i := 75) rfl)) (hw _ (List.mem_of_getElem? (i := 73) rfl)) (hw _ (List.mem_of_getElem? (i := 74) rfl)) e9 V_T9 hS9.2.2.2.2.2.2.1 (Or.inl ⟨rfl, rfl⟩) (sp := p3) (dp := (0 : Int32)) (nn := p4 - p3) (by rw [Int32.lt_iff_toInt_lt, own_z]; omega) (by decide) (by rw [Int32.lt_iff_toInt_lt, own_z, hsub]; omega) (by rw [n1, n2, n4]; omega) (by rw [n3, n2, n64]; omega) rfl (by rw [n3, n2, hvl]; omega) N5 g_M (g := (mkF m 23 #[.val (.ref a1), .val (.ref a2), .val (.int p3), .val (.int p4), .val (.int (p4 - p3))] [(.int (p4 - p3)), (.int (0 : Int32)), (.ref M), (.int p3), (.ref a2)])) rfl (by rw [hml]; rfl) (rest := []) rfl (hb hby d13_23) (by decide) (W := 0) (by show 2 * 0 + _ ≤ _; exact Nat.le_of_eq rfl) (by decide)
  have hSc : own_Sp Z h10 a1 M k ub uo (.int (0 : Int32)) _ := own_keepM hS9 KM (by
    simp only [List.length_append, List.length_take, List.length_drop, List.length_map, List.length_range, n3, n2, hvl]
    omega) VM'
  obtain ⟨E_c, F_made_c, F_bytes_c, F_offset_c, F_length_c, hvl_c, V_c, hne_c⟩ := id hSc
  obtain ⟨T12, X12, e12, st12⟩ := getF X10 hx hZ hown (host := "") (Or.inl (hw _ (List.mem_of_getElem? (i := 25) rfl))) Via.refl e10 F_length_c (g := (mkF m 28 #[.val (.ref a1), .val (.ref a2), .val (.int p3), .val (.int p4), .val (.int (p4 - p3))] [(.ref a1), (.ref a1)])) rfl rfl (hb hby d13_28)
  obtain ⟨T13, h13, X13, e13, W13, st13⟩ := putF X12 hx hZ hown (host := "") (Or.inl (hw _ (List.mem_of_getElem? (i := 25) rfl))) Via.refl e12 F_length_c E_c (Or.inl (hw _ (List.mem_of_getElem? (i := 26) rfl))) (hw _ (List.mem_of_getElem? (i := 6) rfl)) (ty := .int) (by decide) rfl rfl (g := (mkF m 34 #[.val (.ref a1), .val (.ref a2), .val (.int p3), .val (.int p4), .val (.int (p4 - p3))] [(.int ((0 : Int32) + (p4 - p3))), (.ref a1)])) rfl rfl (hb hby d13_34)
  have Fw13 := F_length_c.same W13
  have K13 : Keep h0 h13 [a1, M] := (((own_keep_eq e9h [a1, M]).trans KM (fun x hx => Or.inl (by rw [List.mem_singleton.mp hx]; exact List.mem_cons_of_mem _ List.mem_cons_self))).wr W13 (Or.inl List.mem_cons_self))
  have N13 := Fr.snoc X13 N10 g_a1
  obtain ⟨fs, hr, hrun, hended, hW, hsame⟩ := X13.leave (v := none) (fun _ => rfl)
  refine ⟨_, _, pre0 _ ?_, hrun, hended, _, _, rfl, ?_, ⟨_, rfl⟩, hW, hsame.mono (by decide) (by decide)⟩
  · show Steps p.tables e below (s₁.setTop (mkF m 0 #[.val (.ref a1), .val (.ref a2), .val (.int p3), .val (.int p4), .unset] [])) _
    refine XS.iloadN X0.here hx rfl (hb hby d13_0) rfl ?_
    show Steps p.tables e below (s₁.setTop (mkF m 1 #[.val (.ref a1), .val (.ref a2), .val (.int p3), .val (.int p4), .unset] [(.int p4)])) _
    refine XS.iloadN X0.here hx rfl (hb hby d13_1) rfl ?_
    show Steps p.tables e below (s₁.setTop (mkF m 2 #[.val (.ref a1), .val (.ref a2), .val (.int p3), .val (.int p4), .unset] [(.int p3), (.int p4)])) _
    refine XS.isub X0.here hx rfl (hb hby d13_2) rfl ?_
    show Steps p.tables e below (s₁.setTop (mkF m 3 #[.val (.ref a1), .val (.ref a2), .val (.int p3), .val (.int p4), .unset] [(.int (p4 - p3))])) _
    refine XS.istore X0.here hx rfl (hb hby d13_3) rfl (l' := #[.val (.ref a1), .val (.ref a2), .val (.int p3), .val (.int p4), .val (.int (p4 - p3))]) rfl ?_
    show Steps p.tables e below (s₁.setTop (mkF m 5 #[.val (.ref a1), .val (.ref a2), .val (.int p3), .val (.int p4), .val (.int (p4 - p3))] [])) _
    refine XS.aloadN X0.here hx rfl (hb hby d13_5) rfl rfl ?_
    show Steps p.tables e below (s₁.setTop (mkF m 6 #[.val (.ref a1), .val (.ref a2), .val (.int p3), .val (.int p4), .val (.int (p4 - p3))] [(.ref a1)])) _
    refine XS.iload X0.here hx rfl (hb hby d13_6) rfl ?_
    show Steps p.tables e below (s₁.setTop (mkF m 8 #[.val (.ref a1), .val (.ref a2), .val (.int p3), .val (.int p4), .val (.int (p4 - p3))] [(.int (p4 - p3)), (.ref a1)])) _
    refine st5.trans ?_
    show Steps p.tables e below (T5.setTop (mkF m 11 #[.val (.ref a1), .val (.ref a2), .val (.int p3), .val (.int p4), .val (.int (p4 - p3))] [])) _
    refine XS.aloadN X5.here hx rfl (hb hby d13_11) rfl rfl ?_
    show Steps p.tables e below (T5.setTop (mkF m 12 #[.val (.ref a1), .val (.ref a2), .val (.int p3), .val (.int p4), .val (.int (p4 - p3))] [(.ref a2)])) _
    refine XS.iloadN X5.here hx rfl (hb hby d13_12) rfl ?_
    show Steps p.tables e below (T5.setTop (mkF m 13 #[.val (.ref a1), .val (.ref a2), .val (.int p3), .val (.int p4), .val (.int (p4 - p3))] [(.int p3), (.ref a2)])) _
    refine XS.aloadN X5.here hx rfl (hb hby d13_13) rfl rfl ?_
    show Steps p.tables e below (T5.setTop (mkF m 14 #[.val (.ref a1), .val (.ref a2), .val (.int p3), .val (.int p4), .val (.int (p4 - p3))] [(.ref a1), (.int p3), (.ref a2)])) _
    refine st7 _ ?_
    show Steps p.tables e below (T7.setTop (mkF m 17 #[.val (.ref a1), .val (.ref a2), .val (.int p3), .val (.int p4), .val (.int (p4 - p3))] [(.ref M), (.int p3), (.ref a2)])) _
    refine XS.aloadN X7.here hx rfl (hb hby d13_17) rfl rfl ?_
    show Steps p.tables e below (T7.setTop (mkF m 18 #[.val (.ref a1), .val (.ref a2), .val (.int p3), .val (.int p4), .val (.int (p4 - p3))] [(.ref a1), (.ref M), (.int p3), (.ref a2)])) _
    refine st9 _ ?_
    show Steps p.tables e below (T9.setTop (mkF m 21 #[.val (.ref a1), .val (.ref a2), .val (.int p3), .val (.int p4), .val (.int (p4 - p3))] [(.int (0 : Int32)), (.ref M), (.int p3), (.ref a2)])) _
    refine XS.iload X9.here hx rfl (hb hby d13_21) rfl ?_
    show Steps p.tables e below (T9.setTop (mkF m 23 #[.val (.ref a1), .val (.ref a2), .val (.int p3), .val (.int p4), .val (.int (p4 - p3))] [(.int (p4 - p3)), (.int (0 : Int32)), (.ref M), (.int p3), (.ref a2)])) _
    refine st10 _ ?_
    show Steps p.tables e below (T10.setTop (mkF m 26 #[.val (.ref a1), .val (.ref a2), .val (.int p3), .val (.int p4), .val (.int (p4 - p3))] [])) _
    refine XS.aloadN X10.here hx rfl (hb hby d13_26) rfl rfl ?_
    show Steps p.tables e below (T10.setTop (mkF m 27 #[.val (.ref a1), .val (.ref a2), .val (.int p3), .val (.int p4), .val (.int (p4 - p3))] [(.ref a1)])) _
    refine XS.dup X10.here hx rfl (hb hby d13_27) rfl rfl ?_
    show Steps p.tables e below (T10.setTop (mkF m 28 #[.val (.ref a1), .val (.ref a2), .val (.int p3), .val (.int p4), .val (.int (p4 - p3))] [(.ref a1), (.ref a1)])) _
    refine st12 _ ?_
    show Steps p.tables e below (T12.setTop (mkF m 31 #[.val (.ref a1), .val (.ref a2), .val (.int p3), .val (.int p4), .val (.int (p4 - p3))] [(.int (0 : Int32)), (.ref a1)])) _
    refine XS.iload X12.here hx rfl (hb hby d13_31) rfl ?_
    show Steps p.tables e below (T12.setTop (mkF m 33 #[.val (.ref a1), .val (.ref a2), .val (.int p3), .val (.int p4), .val (.int (p4 - p3))] [(.int (p4 - p3)), (.int (0 : Int32)), (.ref a1)])) _
    refine XS.iadd X12.here hx rfl (hb hby d13_33) rfl ?_
    show Steps p.tables e below (T12.setTop (mkF m 34 #[.val (.ref a1), .val (.ref a2), .val (.int p3), .val (.int p4), .val (.int (p4 - p3))] [(.int ((0 : Int32) + (p4 - p3))), (.ref a1)])) _
    refine st13 _ ?_
    show Steps p.tables e below (T13.setTop (mkF m 37 #[.val (.ref a1), .val (.ref a2), .val (.int p3), .val (.int p4), .val (.int (p4 - p3))] [])) _
    exact X13.returnOut hx Bd.returns (hb hby d13_37) hr
  · show Q13 Z a1 M k ub uo h0 n0 _ T13.heap _
    rw [e13]
    exact ⟨rfl, N13, K13, _, _, own_set_length hw hSc W13⟩
def Q12 (Z : State) (a1 : Addr) (M : Addr) (k : ClassId) (h0 : Heap) (n0 : Nat) (v : Option Value) (h : Heap) (L : List Loc) : Prop := v = none ∧ Fr n0 L ∧ Keep h0 h [a1, M] ∧ ∃ ub uo ul vs', own_Sp Z h a1 M k ub uo ul vs'
theorem d12_0 : decode prog_63_method_12_code 0 = .ok (.aload_n 0, 1) := by decide +kernel
theorem d12_1 : decode prog_63_method_12_code 1 = .ok (.getfield 15, 3) := by decide +kernel
theorem d12_4 : decode prog_63_method_12_code 4 = .ok (.aload_n 0, 1) := by decide +kernel
theorem d12_5 : decode prog_63_method_12_code 5 = .ok (.getfield 9, 3) := by decide +kernel
theorem d12_8 : decode prog_63_method_12_code 8 = .ok (.if_acmp .eq 31, 3) := by decide +kernel
theorem d12_11 : decode prog_63_method_12_code 11 = .ok (.aload_n 0, 1) := by decide +kernel
theorem d12_12 : decode prog_63_method_12_code 12 = .ok (.getfield 15, 3) := by decide +kernel
theorem d12_15 : decode prog_63_method_12_code 15 = .ok (.astore_n 1, 1) := by decide +kernel
theorem d12_16 : decode prog_63_method_12_code 16 = .ok (.aload_n 0, 1) := by decide +kernel
theorem d12_17 : decode prog_63_method_12_code 17 = .ok (.getfield 18, 3) := by decide +kernel
theorem d12_20 : decode prog_63_method_12_code 20 = .ok (.istore_n 2, 1) := by decide +kernel
theorem d12_21 : decode prog_63_method_12_code 21 = .ok (.aload_n 0, 1) := by decide +kernel
theorem d12_22 : decode prog_63_method_12_code 22 = .ok (.getfield 22, 3) := by decide +kernel
theorem d12_25 : decode prog_63_method_12_code 25 = .ok (.istore_n 3, 1) := by decide +kernel
theorem d12_26 : decode prog_63_method_12_code 26 = .ok (.aload_n 0, 1) := by decide +kernel
theorem d12_27 : decode prog_63_method_12_code 27 = .ok (.invokevirtual 42, 3) := by decide +kernel
theorem d12_30 : decode prog_63_method_12_code 30 = .ok (.aload_n 0, 1) := by decide +kernel
theorem d12_31 : decode prog_63_method_12_code 31 = .ok (.aload_n 1, 1) := by decide +kernel
theorem d12_32 : decode prog_63_method_12_code 32 = .ok (.iload_n 2, 1) := by decide +kernel
theorem d12_33 : decode prog_63_method_12_code 33 = .ok (.iload_n 2, 1) := by decide +kernel
theorem d12_34 : decode prog_63_method_12_code 34 = .ok (.iload_n 3, 1) := by decide +kernel
theorem d12_35 : decode prog_63_method_12_code 35 = .ok (.iadd, 1) := by decide +kernel
theorem d12_36 : decode prog_63_method_12_code 36 = .ok (.invokevirtual 45, 3) := by decide +kernel
theorem d12_39 : decode prog_63_method_12_code 39 = .ok (.return_, 1) := by decide +kernel
theorem pn_12 : plainName "satura/ntriples/Spelling" = true := by first | (simp [plainName, overriddenIn]; done) | decide +kernel
theorem pd_12_1 : parseMethodDescriptor "()V" = some ⟨[], none⟩ := by decide +kernel
theorem pd_12_7 : parseMethodDescriptor "([BII)V" = some ⟨[(.array .byte), .int, .int], none⟩ := by decide +kernel
theorem ef_12 (m : MethodId) (x0 : Addr) : entryFrame m #[(.ref x0)] 4 = mkF m 0 #[.val (.ref x0), .unset, .unset, .unset] [] := by first | (simp [entryFrame, mkF, argsToLocals, Value.category]; done) | rfl
set_option maxRecDepth 65536 in
set_option maxHeartbeats 40000000 in
theorem rm12 (l : Launch) (Z : State) (a0 : Array Value) (hw : ∀ d ∈ tables_1, d.before a0 Z = true) (ws : List Jvm.Cond) (a1 : Addr) (a2 : Addr) (p3 : Int32) (p4 : Int32) (M : Addr) (k kT : ClassId) (vs tx : List Value) (h0 : Heap) (n0 : Nat) (Z0 : n0 ≤ h0.size) (hS : own_Sp Z h0 a1 M k (.ref a2) (.int p3) (.int p4) vs) (V_T : Arv Z h0 a2 kT .byte (4 : Int32) tx (.int (0 : Int32))) (g_a1 : n0 ≤ a1) (g_M : n0 ≤ M) (hlo : 0 ≤ p3.toInt) (hn : 0 ≤ p4.toInt) (hhi : p3.toInt + p4.toInt ≤ 4) (hTa : a2 ≠ a1) (ha8 : ¬ (a2 = M)) :
    MetFree l (⟨"satura/ntriples/Spelling", "keepMaking", "()V"⟩ : MethodName) (head1 (Jvm.Cond.code (⟨"satura/ntriples/Spelling", "keepMaking", "()V"⟩ : MethodName) prog_63_method_12_code 4 none :: ws) ({ frames := 2, cells := 0, slots := 0, locals := 116 } : Room)) (fun a U => a = #[(.ref a1)] ∧ Z.Warmed39 U.vm ∧ U.heap = h0) (fun _ _ _ _ _ => True) (fun _ U o U' => ∃ v L, o = .returned v ∧ Q12 Z a1 M k h0 n0 v U'.heap L ∧ FrameEnd U o U' L ({ frames := 2, cells := 0, slots := 0, locals := 116 } : Room).cells ({ frames := 2, cells := 0, slots := 0, locals := 116 } : Room).slots) := by
  refine MetFree.of_bodySF (plainFor_of_name pn_12) hisR ?_
  intro p e s m args below meth c s₁ Bd hml0 hP hK
  obtain ⟨rfl, hZ, hh⟩ := hP
  have hx := Bd.exec
  have hby := Bd.bytes
  have hml : c.maxLocals = 4 := hml0
  have hown : s.vm.findClass "satura/ntriples/Spelling" = some m.cls := findClass_of_methodNamed Bd.named
  have hnm := (name_of_methodNamed Bd.named Bd.method).1
  have X0 : Stand p l e ({ frames := 2, cells := 0, slots := 0, locals := 116 } : Room) s m #[(.ref a1)] below meth c s₁ [] 0 0 := Stand.of_body Bd
  have e0 : s₁.heap = h0 := by rw [← hh, Bd.state]; rfl
  have N0 := Fr.nil n0
  have pre0 : ∀ t, Steps p.tables e below (s₁.setTop (mkF m 0 #[.val (.ref a1), .unset, .unset, .unset] [])) t → Steps p.tables e below (s₁.setTop (entryFrame m #[(.ref a1)] 4)) t := fun t k => castTop (ef_12 m a1) k
  obtain ⟨E_a1, F_made_a1, F_bytes_a1, F_offset_a1, F_length_a1, hvl, V_M, hne⟩ := id hS
  have hadd : (p3 + p4).toInt = p3.toInt + p4.toInt := Jvm.Kit.i32_add (by omega) (by omega)
  obtain ⟨T3, X3, e3, st3⟩ := getF X0 hx hZ hown (host := "") (Or.inl (hw _ (List.mem_of_getElem? (i := 21) rfl))) Via.refl e0 F_bytes_a1 (g := (mkF m 1 #[.val (.ref a1), .unset, .unset, .unset] [(.ref a1)])) rfl rfl (hb hby d12_1)
  obtain ⟨T5, X5, e5, st5⟩ := getF X3 hx hZ hown (host := "") (Or.inl (hw _ (List.mem_of_getElem? (i := 14) rfl))) Via.refl e3 F_made_a1 (g := (mkF m 5 #[.val (.ref a1), .unset, .unset, .unset] [(.ref a1), (.ref a2)])) rfl rfl (hb hby d12_5)
  obtain ⟨T6, X6, e6, st6⟩ := getF X5 hx hZ hown (host := "") (Or.inl (hw _ (List.mem_of_getElem? (i := 21) rfl))) Via.refl e5 F_bytes_a1 (g := (mkF m 12 #[.val (.ref a1), .unset, .unset, .unset] [(.ref a1)])) rfl rfl (hb hby d12_12)
  obtain ⟨T8, X8, e8, st8⟩ := getF X6 hx hZ hown (host := "") (Or.inl (hw _ (List.mem_of_getElem? (i := 23) rfl))) Via.refl e6 F_offset_a1 (g := (mkF m 17 #[.val (.ref a1), .val (.ref a2), .unset, .unset] [(.ref a1)])) rfl rfl (hb hby d12_17)
  obtain ⟨T10, X10, e10, st10⟩ := getF X8 hx hZ hown (host := "") (Or.inl (hw _ (List.mem_of_getElem? (i := 25) rfl))) Via.refl e8 F_length_a1 (g := (mkF m 22 #[.val (.ref a1), .val (.ref a2), .val (.int p3), .unset] [(.ref a1)])) rfl rfl (hb hby d12_22)
  obtain ⟨cq11, kq11, q11a, q11b, q11c⟩ := isOf hZ e10 E_a1
  obtain ⟨_, _, ⟨T11, L11, k11, n11⟩, -, X11, ⟨Lc11, hQ11, l11, y11, z11⟩, st11⟩ := X10.virtualBack hx (y := (⟨"satura/ntriples/Spelling", "startMaking", "()V"⟩ : MethodName)) (z := (⟨"satura/ntriples/Spelling", "startMaking", "()V"⟩ : MethodName)) hown (mvT hZ (hw _ (List.mem_of_getElem? (i := 66) rfl))) (mvT hZ (hw _ (List.mem_of_getElem? (i := 17) rfl))) (notFace_of_selects (args := #[]) (mvT hZ (hw _ (List.mem_of_getElem? (i := 19) rfl)))) (mvT hZ (hw _ (List.mem_of_getElem? (i := 19) rfl))) (mvT hZ (hw _ (List.mem_of_getElem? (i := 18) rfl))) (by decide) (backOf (W := 0) (rm4 l Z a0 hw [] a1 M k (.ref a2) (.int p3) (.int p4) vs h0 n0 Z0 hS g_a1) hZ (hw _ (List.mem_of_getElem? (i := 20) rfl)) (hw _ (List.mem_of_getElem? (i := 7) rfl)) (by decide) (by decide)) q11a q11c (g := (mkF m 27 #[.val (.ref a1), .val (.ref a2), .val (.int p3), .val (.int p4)] [(.ref a1)])) rfl (by rw [hml]; rfl) (Steps.refl _) (argsL := []) (rest := []) (lenOf pd_12_1 rfl) rfl (by show 2 * 0 + _ ≤ _; exact Nat.le_of_eq rfl) (hb hby d12_27) (fun _ _ => ⟨rfl, e10, (by decide : 0 + 0 ≤ _), (by decide : 0 + 0 ≤ _)⟩)
  dsimp only [Pt.U, Pt.locs, Pt.cells, Pt.slots] at X11 l11 y11 z11 st11 hQ11
  subst l11 y11 z11
  obtain ⟨rfl, N11q, K4q, S4q⟩ := hQ11
  have N11 := Fr.app N0 N11q
  obtain ⟨cq12, kq12, q12a, q12b, q12c⟩ := isOf hZ rfl (E_a1.keep K4q)
  obtain ⟨_, _, ⟨T12, L12, k12, n12⟩, -, X12, ⟨Lc12, hQ12, l12, y12, z12⟩, st12⟩ := X11.virtualBack hx (y := (⟨"satura/ntriples/Spelling", "append", "([BII)V"⟩ : MethodName)) (z := (⟨"satura/ntriples/Spelling", "append", "([BII)V"⟩ : MethodName)) hown (mvT hZ (hw _ (List.mem_of_getElem? (i := 67) rfl))) (mvT hZ (hw _ (List.mem_of_getElem? (i := 68) rfl))) (notFace_of_selects (args := #[]) (mvT hZ (hw _ (List.mem_of_getElem? (i := 70) rfl)))) (mvT hZ (hw _ (List.mem_of_getElem? (i := 70) rfl))) (mvT hZ (hw _ (List.mem_of_getElem? (i := 69) rfl))) (by decide) (backOf (W := 0) (rm13 l Z a0 hw [] a1 a2 p3 (p3 + p4) M k kT (.ref M) (.int (0 : Int32)) vs tx T11.heap n0 (Nat.le_trans Z0 K4q.1) S4q (V_T.keep K4q (own_nm1 hTa)) g_a1 g_M hlo (by rw [hadd]; omega) (by rw [hadd]; omega)) hZ (hw _ (List.mem_of_getElem? (i := 71) rfl)) (hw _ (List.mem_of_getElem? (i := 7) rfl)) (by decide) (by decide)) q12a q12c (g := (mkF m 36 #[.val (.ref a1), .val (.ref a2), .val (.int p3), .val (.int p4)] [(.int (p3 + p4)), (.int p3), (.ref a2), (.ref a1)])) rfl (by rw [hml]; rfl) (Steps.refl _) (argsL := [(.ref a2), (.int p3), (.int (p3 + p4))]) (rest := []) (lenOf pd_12_7 rfl) rfl (by show 2 * 0 + _ ≤ _; exact Nat.le_of_eq rfl) (hb hby d12_36) (fun _ _ => ⟨rfl, rfl, (by decide : 0 + 0 ≤ _), (by decide : 0 + 0 ≤ _)⟩)
  dsimp only [Pt.U, Pt.locs, Pt.cells, Pt.slots] at X12 l12 y12 z12 st12 hQ12
  subst l12 y12 z12
  obtain ⟨rfl, N12q, K13q, ul', vs', S13q⟩ := hQ12
  have N12 := Fr.app N11 N12q
  obtain ⟨fs, hr, hrun, hended, hW, hsame⟩ := X12.leave (v := none) (fun _ => rfl)
  refine ⟨_, _, pre0 _ ?_, hrun, hended, _, _, rfl, ?_, ⟨_, rfl⟩, hW, hsame.mono (by decide) (by decide)⟩
  · show Steps p.tables e below (s₁.setTop (mkF m 0 #[.val (.ref a1), .unset, .unset, .unset] [])) _
    refine XS.aloadN X0.here hx rfl (hb hby d12_0) rfl rfl ?_
    show Steps p.tables e below (s₁.setTop (mkF m 1 #[.val (.ref a1), .unset, .unset, .unset] [(.ref a1)])) _
    refine st3 _ ?_
    show Steps p.tables e below (T3.setTop (mkF m 4 #[.val (.ref a1), .unset, .unset, .unset] [(.ref a2)])) _
    refine XS.aloadN X3.here hx rfl (hb hby d12_4) rfl rfl ?_
    show Steps p.tables e below (T3.setTop (mkF m 5 #[.val (.ref a1), .unset, .unset, .unset] [(.ref a1), (.ref a2)])) _
    refine st5 _ ?_
    show Steps p.tables e below (T5.setTop (mkF m 8 #[.val (.ref a1), .unset, .unset, .unset] [(.ref M), (.ref a2)])) _
    refine Jvm.RoadKit.acmp (g := (mkF m 8 #[.val (.ref a1), .unset, .unset, .unset] [(.ref M), (.ref a2)])) X5 hx rfl rfl rfl (pc0 := 8) (pc' := 11) (same := false) rfl (hb hby d12_8) rfl (decide_eq_false fun q => ha8 (Value.ref.inj q)) (by decide) (by decide) ?_
    show Steps p.tables e below (T5.setTop (mkF m 11 #[.val (.ref a1), .unset, .unset, .unset] [])) _
    refine XS.aloadN X5.here hx rfl (hb hby d12_11) rfl rfl ?_
    show Steps p.tables e below (T5.setTop (mkF m 12 #[.val (.ref a1), .unset, .unset, .unset] [(.ref a1)])) _
    refine st6 _ ?_
    show Steps p.tables e below (T6.setTop (mkF m 15 #[.val (.ref a1), .unset, .unset, .unset] [(.ref a2)])) _
    refine XS.astoreN X6.here hx rfl (hb hby d12_15) rfl rfl (l' := #[.val (.ref a1), .val (.ref a2), .unset, .unset]) rfl ?_
    show Steps p.tables e below (T6.setTop (mkF m 16 #[.val (.ref a1), .val (.ref a2), .unset, .unset] [])) _
    refine XS.aloadN X6.here hx rfl (hb hby d12_16) rfl rfl ?_
    show Steps p.tables e below (T6.setTop (mkF m 17 #[.val (.ref a1), .val (.ref a2), .unset, .unset] [(.ref a1)])) _
    refine st8 _ ?_
    show Steps p.tables e below (T8.setTop (mkF m 20 #[.val (.ref a1), .val (.ref a2), .unset, .unset] [(.int p3)])) _
    refine XS.istoreN X8.here hx rfl (hb hby d12_20) rfl (l' := #[.val (.ref a1), .val (.ref a2), .val (.int p3), .unset]) rfl ?_
    show Steps p.tables e below (T8.setTop (mkF m 21 #[.val (.ref a1), .val (.ref a2), .val (.int p3), .unset] [])) _
    refine XS.aloadN X8.here hx rfl (hb hby d12_21) rfl rfl ?_
    show Steps p.tables e below (T8.setTop (mkF m 22 #[.val (.ref a1), .val (.ref a2), .val (.int p3), .unset] [(.ref a1)])) _
    refine st10 _ ?_
    show Steps p.tables e below (T10.setTop (mkF m 25 #[.val (.ref a1), .val (.ref a2), .val (.int p3), .unset] [(.int p4)])) _
    refine XS.istoreN X10.here hx rfl (hb hby d12_25) rfl (l' := #[.val (.ref a1), .val (.ref a2), .val (.int p3), .val (.int p4)]) rfl ?_
    show Steps p.tables e below (T10.setTop (mkF m 26 #[.val (.ref a1), .val (.ref a2), .val (.int p3), .val (.int p4)] [])) _
    refine XS.aloadN X10.here hx rfl (hb hby d12_26) rfl rfl ?_
    show Steps p.tables e below (T10.setTop (mkF m 27 #[.val (.ref a1), .val (.ref a2), .val (.int p3), .val (.int p4)] [(.ref a1)])) _
    refine st11.trans ?_
    show Steps p.tables e below (T11.setTop (mkF m 30 #[.val (.ref a1), .val (.ref a2), .val (.int p3), .val (.int p4)] [])) _
    refine XS.aloadN X11.here hx rfl (hb hby d12_30) rfl rfl ?_
    show Steps p.tables e below (T11.setTop (mkF m 31 #[.val (.ref a1), .val (.ref a2), .val (.int p3), .val (.int p4)] [(.ref a1)])) _
    refine XS.aloadN X11.here hx rfl (hb hby d12_31) rfl rfl ?_
    show Steps p.tables e below (T11.setTop (mkF m 32 #[.val (.ref a1), .val (.ref a2), .val (.int p3), .val (.int p4)] [(.ref a2), (.ref a1)])) _
    refine XS.iloadN X11.here hx rfl (hb hby d12_32) rfl ?_
    show Steps p.tables e below (T11.setTop (mkF m 33 #[.val (.ref a1), .val (.ref a2), .val (.int p3), .val (.int p4)] [(.int p3), (.ref a2), (.ref a1)])) _
    refine XS.iloadN X11.here hx rfl (hb hby d12_33) rfl ?_
    show Steps p.tables e below (T11.setTop (mkF m 34 #[.val (.ref a1), .val (.ref a2), .val (.int p3), .val (.int p4)] [(.int p3), (.int p3), (.ref a2), (.ref a1)])) _
    refine XS.iloadN X11.here hx rfl (hb hby d12_34) rfl ?_
    show Steps p.tables e below (T11.setTop (mkF m 35 #[.val (.ref a1), .val (.ref a2), .val (.int p3), .val (.int p4)] [(.int p4), (.int p3), (.int p3), (.ref a2), (.ref a1)])) _
    refine XS.iadd X11.here hx rfl (hb hby d12_35) rfl ?_
    show Steps p.tables e below (T11.setTop (mkF m 36 #[.val (.ref a1), .val (.ref a2), .val (.int p3), .val (.int p4)] [(.int (p3 + p4)), (.int p3), (.ref a2), (.ref a1)])) _
    refine st12.trans ?_
    show Steps p.tables e below (T12.setTop (mkF m 39 #[.val (.ref a1), .val (.ref a2), .val (.int p3), .val (.int p4)] [])) _
    exact X12.returnOut hx Bd.returns (hb hby d12_39) hr
  · show Q12 Z a1 M k h0 n0 _ T12.heap _
    exact ⟨rfl, N12, own_keep_tr (own_keep1 K4q) K13q, _, _, ul', vs', S13q⟩
theorem own_tn0 : (0 : Int32).toNatClampNeg = 0 := by decide
theorem pd_0_7 : parseMethodDescriptor "([BII)V" = some ⟨[(.array .byte), .int, .int], none⟩ := by decide +kernel
theorem os0_72_modeA {s0 : Slot} {s1 : Slot} {s2 : Slot} {s3 : Slot} {z4 : Value} {z5 : Value} {z6 : Value} {z7 : Value} {z8 : Value} {s9 : Slot} {s10 : Slot} {s11 : Slot} {s12 : Slot} {v : Int32} (h : One s9) : storeLocals #[s0, s1, s2, s3, .val z4, .val z5, .val z6, .val z7, .val z8, s9, s10, s11, s12] 9 (.int v) = some #[s0, s1, s2, s3, .val z4, .val z5, .val z6, .val z7, .val z8, .val (.int v), s10, s11, s12] := by
  rcases h with rfl | ⟨w, rfl, hw⟩
  · rfl
  · cases w <;> first | rfl | (simp [Value.category] at hw)
set_option maxRecDepth 65536 in
set_option maxHeartbeats 40000000 in
theorem modeA {p : Program} {l : Launch} {e : Env} {s : State} {m : MethodId} {args : Array Value} {below : List Frame} {meth : Method} {c : Code} {T0 : State} {locs : List Loc} {Z : State} {a0 : Array Value} {h0 : Heap} (s0 : Slot) (s1 : Slot) (s2 : Slot) (s3 : Slot) (i4 : Int32) (o5 : Addr) (i6 : Int32) (i7 : Int32) (o8 : Addr) (s9 : Slot) (s10 : Slot) (s11 : Slot) (s12 : Slot)
    (X0 : Stand p l e room_1 s m args below meth c T0 locs 3 72) (hx : p.tables.exec = Jvm.exec) (hZ : Z.Warmed39 s.vm) (hw : ∀ d ∈ tables_1, d.before a0 Z = true) (hby : c.code = code) (hml : c.maxLocals = 13) (hown : s.vm.findClass "satura/ntriples/SpellingStartMakingPinLaw" = some m.cls) (e0 : T0.heap = h0) {n0 : Nat} (Z0 : n0 ≤ h0.size) (N0 : Fr n0 locs) (M : Addr) (k kT : ClassId) (ub uo ul : Value) (vs tx : List Value) (hS : own_Sp Z h0 o8 M k ub uo ul vs) (V_T : Arv Z h0 o5 kT .byte (4 : Int32) tx (.int (0 : Int32))) (g_8 : n0 ≤ o8) (g_M : n0 ≤ M) (hT8 : o5 ≠ o8) (hTM : o5 ≠ M) (hlo : 0 ≤ i6.toInt) (hlt : i6.toInt < i7.toInt) (hhi : i7.toInt ≤ 4) (hs9 : One s9) (hc77 : (i4 &&& (3 : Int32)) = (1 : Int32)) :
    ∃ (T' : State) (h' : Heap) (L' : List Loc) (ub' uo' ul' : Value) (vs' : List Value), Stand p l e room_1 s m args below meth c T' L' 3 72 ∧ T'.heap = h' ∧ Fr n0 L' ∧ Keep h0 h' [o8, M] ∧ own_Sp Z h' o8 M k ub' uo' ul' vs' ∧
      ∀ target, Steps p.tables e below (T'.setTop (mkF m 147 #[s0, s1, s2, s3, .val (.int i4), .val (.ref o5), .val (.int i6), .val (.int i7), .val (.ref o8), .val (.int (i4 &&& (3 : Int32))), s10, s11, s12] [])) target → Steps p.tables e below (T0.setTop (mkF m 68 #[s0, s1, s2, s3, .val (.int i4), .val (.ref o5), .val (.int i6), .val (.int i7), .val (.ref o8), s9, s10, s11, s12] [])) target := by
  obtain ⟨E_o8, F_made_8, F_bytes_8, F_offset_8, F_length_8, hvl, V_M, hne⟩ := id hS
  obtain ⟨cq6, kq6, q6a, q6b, q6c⟩ := isOf hZ e0 E_o8
  obtain ⟨_, _, ⟨T6, L6, k6, n6⟩, -, X6, ⟨Lc6, hQ6, l6, y6, z6⟩, st6⟩ := X0.virtualBack hx (y := (⟨"satura/ntriples/Spelling", "set", "([BII)V"⟩ : MethodName)) (z := (⟨"satura/ntriples/Spelling", "set", "([BII)V"⟩ : MethodName)) hown (mvT hZ (hw _ (List.mem_of_getElem? (i := 56) rfl))) (mvT hZ (hw _ (List.mem_of_getElem? (i := 57) rfl))) (notFace_of_selects (args := #[]) (mvT hZ (hw _ (List.mem_of_getElem? (i := 59) rfl)))) (mvT hZ (hw _ (List.mem_of_getElem? (i := 59) rfl))) (mvT hZ (hw _ (List.mem_of_getElem? (i := 58) rfl))) (by decide) (backOf (W := 0) (rm11 l Z a0 hw [] o8 o5 i6 i7 M k ub uo ul vs h0 n0 Z0 hS g_8) hZ (hw _ (List.mem_of_getElem? (i := 60) rfl)) (hw _ (List.mem_of_getElem? (i := 7) rfl)) (by decide) (by decide)) q6a q6c (g := (mkF m 88 #[s0, s1, s2, s3, .val (.int i4), .val (.ref o5), .val (.int i6), .val (.int i7), .val (.ref o8), .val (.int (i4 &&& (3 : Int32))), s10, s11, s12] [(.int i7), (.int i6), (.ref o5), (.ref o8)])) rfl (by rw [hml]; rfl) (Steps.refl _) (argsL := [(.ref o5), (.int i6), (.int i7)]) (rest := []) (lenOf pd_0_7 rfl) rfl (by show 2 * 0 + _ ≤ _; exact Nat.le_of_eq rfl) (hb hby at_88) (fun _ _ => ⟨rfl, e0, (by show 3 + 0 ≤ 16; decide), (by show 72 + 0 ≤ 256; decide)⟩)
  dsimp only [Pt.U, Pt.locs, Pt.cells, Pt.slots] at X6 l6 y6 z6 st6 hQ6
  subst l6 y6 z6
  obtain ⟨rfl, N6q, K1, S1⟩ := hQ6
  have N6 := Fr.app N0 N6q
  refine ⟨T6, _, _, _, _, _, _, X6, rfl, N6, own_keep1 K1, S1, fun target kt => ?_⟩
  show Steps p.tables e below (T0.setTop (mkF m 68 #[s0, s1, s2, s3, .val (.int i4), .val (.ref o5), .val (.int i6), .val (.int i7), .val (.ref o8), s9, s10, s11, s12] [])) _
  refine XS.iload X0.here hx rfl (hb hby at_68) rfl ?_
  show Steps p.tables e below (T0.setTop (mkF m 70 #[s0, s1, s2, s3, .val (.int i4), .val (.ref o5), .val (.int i6), .val (.int i7), .val (.ref o8), s9, s10, s11, s12] [(.int i4)])) _
  refine XS.iconst X0.here hx rfl (hb hby at_70) ?_
  show Steps p.tables e below (T0.setTop (mkF m 71 #[s0, s1, s2, s3, .val (.int i4), .val (.ref o5), .val (.int i6), .val (.int i7), .val (.ref o8), s9, s10, s11, s12] [(.int (3 : Int32)), (.int i4)])) _
  refine XS.iand X0.here hx rfl (hb hby at_71) rfl ?_
  show Steps p.tables e below (T0.setTop (mkF m 72 #[s0, s1, s2, s3, .val (.int i4), .val (.ref o5), .val (.int i6), .val (.int i7), .val (.ref o8), s9, s10, s11, s12] [(.int (i4 &&& (3 : Int32)))])) _
  refine XS.istore X0.here hx rfl (hb hby at_72) rfl (l' := #[s0, s1, s2, s3, .val (.int i4), .val (.ref o5), .val (.int i6), .val (.int i7), .val (.ref o8), .val (.int (i4 &&& (3 : Int32))), s10, s11, s12]) (os0_72_modeA hs9) ?_
  show Steps p.tables e below (T0.setTop (mkF m 74 #[s0, s1, s2, s3, .val (.int i4), .val (.ref o5), .val (.int i6), .val (.int i7), .val (.ref o8), .val (.int (i4 &&& (3 : Int32))), s10, s11, s12] [])) _
  refine XS.iload X0.here hx rfl (hb hby at_74) rfl ?_
  show Steps p.tables e below (T0.setTop (mkF m 76 #[s0, s1, s2, s3, .val (.int i4), .val (.ref o5), .val (.int i6), .val (.int i7), .val (.ref o8), .val (.int (i4 &&& (3 : Int32))), s10, s11, s12] [(.int (i4 &&& (3 : Int32)))])) _
  refine XS.iconst X0.here hx rfl (hb hby at_76) ?_
  show Steps p.tables e below (T0.setTop (mkF m 77 #[s0, s1, s2, s3, .val (.int i4), .val (.ref o5), .val (.int i6), .val (.int i7), .val (.ref o8), .val (.int (i4 &&& (3 : Int32))), s10, s11, s12] [(.int (1 : Int32)), (.int (i4 &&& (3 : Int32)))])) _
  refine XS.icmpNo X0.here hx rfl (hb hby at_77) rfl (teq hc77).2 ?_
  show Steps p.tables e below (T0.setTop (mkF m 80 #[s0, s1, s2, s3, .val (.int i4), .val (.ref o5), .val (.int i6), .val (.int i7), .val (.ref o8), .val (.int (i4 &&& (3 : Int32))), s10, s11, s12] [])) _
  refine XS.aload X0.here hx rfl (hb hby at_80) rfl rfl ?_
  show Steps p.tables e below (T0.setTop (mkF m 82 #[s0, s1, s2, s3, .val (.int i4), .val (.ref o5), .val (.int i6), .val (.int i7), .val (.ref o8), .val (.int (i4 &&& (3 : Int32))), s10, s11, s12] [(.ref o8)])) _
  refine XS.aload X0.here hx rfl (hb hby at_82) rfl rfl ?_
  show Steps p.tables e below (T0.setTop (mkF m 84 #[s0, s1, s2, s3, .val (.int i4), .val (.ref o5), .val (.int i6), .val (.int i7), .val (.ref o8), .val (.int (i4 &&& (3 : Int32))), s10, s11, s12] [(.ref o5), (.ref o8)])) _
  refine XS.iload X0.here hx rfl (hb hby at_84) rfl ?_
  show Steps p.tables e below (T0.setTop (mkF m 86 #[s0, s1, s2, s3, .val (.int i4), .val (.ref o5), .val (.int i6), .val (.int i7), .val (.ref o8), .val (.int (i4 &&& (3 : Int32))), s10, s11, s12] [(.int i6), (.ref o5), (.ref o8)])) _
  refine XS.iload X0.here hx rfl (hb hby at_86) rfl ?_
  show Steps p.tables e below (T0.setTop (mkF m 88 #[s0, s1, s2, s3, .val (.int i4), .val (.ref o5), .val (.int i6), .val (.int i7), .val (.ref o8), .val (.int (i4 &&& (3 : Int32))), s10, s11, s12] [(.int i7), (.int i6), (.ref o5), (.ref o8)])) _
  refine st6.trans ?_
  show Steps p.tables e below (T6.setTop (mkF m 91 #[s0, s1, s2, s3, .val (.int i4), .val (.ref o5), .val (.int i6), .val (.int i7), .val (.ref o8), .val (.int (i4 &&& (3 : Int32))), s10, s11, s12] [])) _
  refine XS.goto X6.here hx rfl (pc0 := 91) (pc' := 147) rfl (hb hby at_91) (by decide) (by decide) ?_
  exact kt
theorem pd_0_1 : parseMethodDescriptor "()V" = some ⟨[], none⟩ := by decide +kernel
theorem pd_0_4 : parseMethodDescriptor "(B)V" = some ⟨[.byte], none⟩ := by decide +kernel
theorem os0_72_modeB {s0 : Slot} {s1 : Slot} {s2 : Slot} {z3 : Value} {z4 : Value} {s5 : Slot} {s6 : Slot} {s7 : Slot} {z8 : Value} {s9 : Slot} {s10 : Slot} {s11 : Slot} {s12 : Slot} {v : Int32} (h : One s9) : storeLocals #[s0, s1, s2, .val z3, .val z4, s5, s6, s7, .val z8, s9, s10, s11, s12] 9 (.int v) = some #[s0, s1, s2, .val z3, .val z4, s5, s6, s7, .val z8, .val (.int v), s10, s11, s12] := by
  rcases h with rfl | ⟨w, rfl, hw⟩
  · rfl
  · cases w <;> first | rfl | (simp [Value.category] at hw)
set_option maxRecDepth 65536 in
set_option maxHeartbeats 40000000 in
theorem modeB {p : Program} {l : Launch} {e : Env} {s : State} {m : MethodId} {args : Array Value} {below : List Frame} {meth : Method} {c : Code} {T0 : State} {locs : List Loc} {Z : State} {a0 : Array Value} {h0 : Heap} (s0 : Slot) (s1 : Slot) (s2 : Slot) (i3 : Int32) (i4 : Int32) (o5 : Addr) (i6 : Int32) (i7 : Int32) (o8 : Addr) (s9 : Slot) (s10 : Slot) (s11 : Slot) (s12 : Slot)
    (X0 : Stand p l e room_1 s m args below meth c T0 locs 3 72) (hx : p.tables.exec = Jvm.exec) (hZ : Z.Warmed39 s.vm) (hw : ∀ d ∈ tables_1, d.before a0 Z = true) (hby : c.code = code) (hml : c.maxLocals = 13) (hown : s.vm.findClass "satura/ntriples/SpellingStartMakingPinLaw" = some m.cls) (e0 : T0.heap = h0) {n0 : Nat} (Z0 : n0 ≤ h0.size) (N0 : Fr n0 locs) (M : Addr) (k kT : ClassId) (ub uo ul : Value) (vs tx : List Value) (hS : own_Sp Z h0 o8 M k ub uo ul vs) (V_T : Arv Z h0 o5 kT .byte (4 : Int32) tx (.int (0 : Int32))) (g_8 : n0 ≤ o8) (g_M : n0 ≤ M) (hT8 : o5 ≠ o8) (hTM : o5 ≠ M) (hlo : 0 ≤ i6.toInt) (hlt : i6.toInt < i7.toInt) (hhi : i7.toInt ≤ 4) (hs9 : One s9) (hc77 : ¬ ((i4 &&& (3 : Int32)) = (1 : Int32))) (hc97 : (i4 &&& (3 : Int32)) = (2 : Int32)) :
    ∃ (T' : State) (h' : Heap) (L' : List Loc) (ub' uo' ul' : Value) (vs' : List Value), Stand p l e room_1 s m args below meth c T' L' 3 72 ∧ T'.heap = h' ∧ Fr n0 L' ∧ Keep h0 h' [o8, M] ∧ own_Sp Z h' o8 M k ub' uo' ul' vs' ∧
      ∀ target, Steps p.tables e below (T'.setTop (mkF m 147 #[s0, s1, s2, .val (.int i3), .val (.int i4), .val (.ref o5), .val (.int i6), .val (.int i7), .val (.ref o8), .val (.int (i4 &&& (3 : Int32))), s10, s11, s12] [])) target → Steps p.tables e below (T0.setTop (mkF m 68 #[s0, s1, s2, .val (.int i3), .val (.int i4), .val (.ref o5), .val (.int i6), .val (.int i7), .val (.ref o8), s9, s10, s11, s12] [])) target := by
  obtain ⟨E_o8, F_made_8, F_bytes_8, F_offset_8, F_length_8, hvl, V_M, hne⟩ := id hS
  obtain ⟨cq6, kq6, q6a, q6b, q6c⟩ := isOf hZ e0 E_o8
  obtain ⟨_, _, ⟨T6, L6, k6, n6⟩, -, X6, ⟨Lc6, hQ6, l6, y6, z6⟩, st6⟩ := X0.virtualBack hx (y := (⟨"satura/ntriples/Spelling", "startMaking", "()V"⟩ : MethodName)) (z := (⟨"satura/ntriples/Spelling", "startMaking", "()V"⟩ : MethodName)) hown (mvT hZ (hw _ (List.mem_of_getElem? (i := 16) rfl))) (mvT hZ (hw _ (List.mem_of_getElem? (i := 17) rfl))) (notFace_of_selects (args := #[]) (mvT hZ (hw _ (List.mem_of_getElem? (i := 19) rfl)))) (mvT hZ (hw _ (List.mem_of_getElem? (i := 19) rfl))) (mvT hZ (hw _ (List.mem_of_getElem? (i := 18) rfl))) (by decide) (backOf (W := 0) (rm4 l Z a0 hw [] o8 M k ub uo ul vs h0 n0 Z0 hS g_8) hZ (hw _ (List.mem_of_getElem? (i := 20) rfl)) (hw _ (List.mem_of_getElem? (i := 7) rfl)) (by decide) (by decide)) q6a q6c (g := (mkF m 102 #[s0, s1, s2, .val (.int i3), .val (.int i4), .val (.ref o5), .val (.int i6), .val (.int i7), .val (.ref o8), .val (.int (i4 &&& (3 : Int32))), s10, s11, s12] [(.ref o8)])) rfl (by rw [hml]; rfl) (Steps.refl _) (argsL := []) (rest := []) (lenOf pd_0_1 rfl) rfl (by show 2 * 0 + _ ≤ _; exact Nat.le_of_eq rfl) (hb hby at_102) (fun _ _ => ⟨rfl, e0, (by show 3 + 0 ≤ 16; decide), (by show 72 + 0 ≤ 256; decide)⟩)
  dsimp only [Pt.U, Pt.locs, Pt.cells, Pt.slots] at X6 l6 y6 z6 st6 hQ6
  subst l6 y6 z6
  obtain ⟨rfl, N6q, K1, S1⟩ := hQ6
  have N6 := Fr.app N0 N6q
  obtain ⟨cq7, kq7, q7a, q7b, q7c⟩ := isOf hZ rfl (E_o8.keep K1)
  obtain ⟨_, _, ⟨T7, L7, k7, n7⟩, -, X7, ⟨Lc7, hQ7, l7, y7, z7⟩, st7⟩ := X6.virtualBack hx (y := (⟨"satura/ntriples/Spelling", "append", "(B)V"⟩ : MethodName)) (z := (⟨"satura/ntriples/Spelling", "append", "(B)V"⟩ : MethodName)) hown (mvT hZ (hw _ (List.mem_of_getElem? (i := 42) rfl))) (mvT hZ (hw _ (List.mem_of_getElem? (i := 43) rfl))) (notFace_of_selects (args := #[]) (mvT hZ (hw _ (List.mem_of_getElem? (i := 45) rfl)))) (mvT hZ (hw _ (List.mem_of_getElem? (i := 45) rfl))) (mvT hZ (hw _ (List.mem_of_getElem? (i := 44) rfl))) (by decide) (backOf (W := 0) (rm8 l Z a0 hw [] o8 (i3.toInt8.toInt32) M k (.ref M) (.int (0 : Int32)) (0 : Int32) vs T6.heap n0 (Nat.le_trans Z0 K1.1) S1 g_8 g_M (by decide) (by decide)) hZ (hw _ (List.mem_of_getElem? (i := 46) rfl)) (hw _ (List.mem_of_getElem? (i := 7) rfl)) (by decide) (by decide)) q7a q7c (g := (mkF m 109 #[s0, s1, s2, .val (.int i3), .val (.int i4), .val (.ref o5), .val (.int i6), .val (.int i7), .val (.ref o8), .val (.int (i4 &&& (3 : Int32))), s10, s11, s12] [(.int (i3.toInt8.toInt32)), (.ref o8)])) rfl (by rw [hml]; rfl) (Steps.refl _) (argsL := [(.int (i3.toInt8.toInt32))]) (rest := []) (lenOf pd_0_4 rfl) rfl (by show 2 * 0 + _ ≤ _; exact Nat.le_of_eq rfl) (hb hby at_109) (fun _ _ => ⟨rfl, rfl, (by show 3 + 0 ≤ 16; decide), (by show 72 + 0 ≤ 256; decide)⟩)
  dsimp only [Pt.U, Pt.locs, Pt.cells, Pt.slots] at X7 l7 y7 z7 st7 hQ7
  subst l7 y7 z7
  obtain ⟨rfl, N7q, K2, S2⟩ := hQ7
  have N7 := Fr.app N6 N7q
  obtain ⟨cq8, kq8, q8a, q8b, q8c⟩ := isOf hZ rfl ((E_o8.keep K1).keep K2)
  obtain ⟨_, _, ⟨T8, L8, k8, n8⟩, -, X8, ⟨Lc8, hQ8, l8, y8, z8⟩, st8⟩ := X7.virtualBack hx (y := (⟨"satura/ntriples/Spelling", "append", "(B)V"⟩ : MethodName)) (z := (⟨"satura/ntriples/Spelling", "append", "(B)V"⟩ : MethodName)) hown (mvT hZ (hw _ (List.mem_of_getElem? (i := 42) rfl))) (mvT hZ (hw _ (List.mem_of_getElem? (i := 43) rfl))) (notFace_of_selects (args := #[]) (mvT hZ (hw _ (List.mem_of_getElem? (i := 45) rfl)))) (mvT hZ (hw _ (List.mem_of_getElem? (i := 45) rfl))) (mvT hZ (hw _ (List.mem_of_getElem? (i := 44) rfl))) (by decide) (backOf (W := 0) (rm8 l Z a0 hw [] o8 ((i3 >>> ((8 : Int32) &&& 31)).toInt8.toInt32) M k (.ref M) (.int (0 : Int32)) ((0 : Int32) + (1 : Int32)) (vs.set (0 : Int32).toNatClampNeg (.int (nar .byte (i3.toInt8.toInt32)))) T7.heap n0 (Nat.le_trans (Nat.le_trans Z0 K1.1) K2.1) S2 g_8 g_M (by decide) (by decide)) hZ (hw _ (List.mem_of_getElem? (i := 46) rfl)) (hw _ (List.mem_of_getElem? (i := 7) rfl)) (by decide) (by decide)) q8a q8c (g := (mkF m 119 #[s0, s1, s2, .val (.int i3), .val (.int i4), .val (.ref o5), .val (.int i6), .val (.int i7), .val (.ref o8), .val (.int (i4 &&& (3 : Int32))), s10, s11, s12] [(.int ((i3 >>> ((8 : Int32) &&& 31)).toInt8.toInt32)), (.ref o8)])) rfl (by rw [hml]; rfl) (Steps.refl _) (argsL := [(.int ((i3 >>> ((8 : Int32) &&& 31)).toInt8.toInt32))]) (rest := []) (lenOf pd_0_4 rfl) rfl (by show 2 * 0 + _ ≤ _; exact Nat.le_of_eq rfl) (hb hby at_119) (fun _ _ => ⟨rfl, rfl, (by show 3 + 0 ≤ 16; decide), (by show 72 + 0 ≤ 256; decide)⟩)
  dsimp only [Pt.U, Pt.locs, Pt.cells, Pt.slots] at X8 l8 y8 z8 st8 hQ8
  subst l8 y8 z8
  obtain ⟨rfl, N8q, K3, S3⟩ := hQ8
  have N8 := Fr.app N7 N8q
  refine ⟨T8, _, _, _, _, _, _, X8, rfl, N8, own_keep_tr (own_keep_tr (own_keep1 K1) K2) K3, S3, fun target kt => ?_⟩
  show Steps p.tables e below (T0.setTop (mkF m 68 #[s0, s1, s2, .val (.int i3), .val (.int i4), .val (.ref o5), .val (.int i6), .val (.int i7), .val (.ref o8), s9, s10, s11, s12] [])) _
  refine XS.iload X0.here hx rfl (hb hby at_68) rfl ?_
  show Steps p.tables e below (T0.setTop (mkF m 70 #[s0, s1, s2, .val (.int i3), .val (.int i4), .val (.ref o5), .val (.int i6), .val (.int i7), .val (.ref o8), s9, s10, s11, s12] [(.int i4)])) _
  refine XS.iconst X0.here hx rfl (hb hby at_70) ?_
  show Steps p.tables e below (T0.setTop (mkF m 71 #[s0, s1, s2, .val (.int i3), .val (.int i4), .val (.ref o5), .val (.int i6), .val (.int i7), .val (.ref o8), s9, s10, s11, s12] [(.int (3 : Int32)), (.int i4)])) _
  refine XS.iand X0.here hx rfl (hb hby at_71) rfl ?_
  show Steps p.tables e below (T0.setTop (mkF m 72 #[s0, s1, s2, .val (.int i3), .val (.int i4), .val (.ref o5), .val (.int i6), .val (.int i7), .val (.ref o8), s9, s10, s11, s12] [(.int (i4 &&& (3 : Int32)))])) _
  refine XS.istore X0.here hx rfl (hb hby at_72) rfl (l' := #[s0, s1, s2, .val (.int i3), .val (.int i4), .val (.ref o5), .val (.int i6), .val (.int i7), .val (.ref o8), .val (.int (i4 &&& (3 : Int32))), s10, s11, s12]) (os0_72_modeB hs9) ?_
  show Steps p.tables e below (T0.setTop (mkF m 74 #[s0, s1, s2, .val (.int i3), .val (.int i4), .val (.ref o5), .val (.int i6), .val (.int i7), .val (.ref o8), .val (.int (i4 &&& (3 : Int32))), s10, s11, s12] [])) _
  refine XS.iload X0.here hx rfl (hb hby at_74) rfl ?_
  show Steps p.tables e below (T0.setTop (mkF m 76 #[s0, s1, s2, .val (.int i3), .val (.int i4), .val (.ref o5), .val (.int i6), .val (.int i7), .val (.ref o8), .val (.int (i4 &&& (3 : Int32))), s10, s11, s12] [(.int (i4 &&& (3 : Int32)))])) _
  refine XS.iconst X0.here hx rfl (hb hby at_76) ?_
  show Steps p.tables e below (T0.setTop (mkF m 77 #[s0, s1, s2, .val (.int i3), .val (.int i4), .val (.ref o5), .val (.int i6), .val (.int i7), .val (.ref o8), .val (.int (i4 &&& (3 : Int32))), s10, s11, s12] [(.int (1 : Int32)), (.int (i4 &&& (3 : Int32)))])) _
  refine XS.icmpYes X0.here hx rfl (pc0 := 77) (pc' := 94) rfl (hb hby at_77) rfl (feq hc77).2 (by decide) (by decide) ?_
  show Steps p.tables e below (T0.setTop (mkF m 94 #[s0, s1, s2, .val (.int i3), .val (.int i4), .val (.ref o5), .val (.int i6), .val (.int i7), .val (.ref o8), .val (.int (i4 &&& (3 : Int32))), s10, s11, s12] [])) _
  refine XS.iload X0.here hx rfl (hb hby at_94) rfl ?_
  show Steps p.tables e below (T0.setTop (mkF m 96 #[s0, s1, s2, .val (.int i3), .val (.int i4), .val (.ref o5), .val (.int i6), .val (.int i7), .val (.ref o8), .val (.int (i4 &&& (3 : Int32))), s10, s11, s12] [(.int (i4 &&& (3 : Int32)))])) _
  refine XS.iconst X0.here hx rfl (hb hby at_96) ?_
  show Steps p.tables e below (T0.setTop (mkF m 97 #[s0, s1, s2, .val (.int i3), .val (.int i4), .val (.ref o5), .val (.int i6), .val (.int i7), .val (.ref o8), .val (.int (i4 &&& (3 : Int32))), s10, s11, s12] [(.int (2 : Int32)), (.int (i4 &&& (3 : Int32)))])) _
  refine XS.icmpNo X0.here hx rfl (hb hby at_97) rfl (teq hc97).2 ?_
  show Steps p.tables e below (T0.setTop (mkF m 100 #[s0, s1, s2, .val (.int i3), .val (.int i4), .val (.ref o5), .val (.int i6), .val (.int i7), .val (.ref o8), .val (.int (i4 &&& (3 : Int32))), s10, s11, s12] [])) _
  refine XS.aload X0.here hx rfl (hb hby at_100) rfl rfl ?_
  show Steps p.tables e below (T0.setTop (mkF m 102 #[s0, s1, s2, .val (.int i3), .val (.int i4), .val (.ref o5), .val (.int i6), .val (.int i7), .val (.ref o8), .val (.int (i4 &&& (3 : Int32))), s10, s11, s12] [(.ref o8)])) _
  refine st6.trans ?_
  show Steps p.tables e below (T6.setTop (mkF m 105 #[s0, s1, s2, .val (.int i3), .val (.int i4), .val (.ref o5), .val (.int i6), .val (.int i7), .val (.ref o8), .val (.int (i4 &&& (3 : Int32))), s10, s11, s12] [])) _
  refine XS.aload X6.here hx rfl (hb hby at_105) rfl rfl ?_
  show Steps p.tables e below (T6.setTop (mkF m 107 #[s0, s1, s2, .val (.int i3), .val (.int i4), .val (.ref o5), .val (.int i6), .val (.int i7), .val (.ref o8), .val (.int (i4 &&& (3 : Int32))), s10, s11, s12] [(.ref o8)])) _
  refine XS.iloadN X6.here hx rfl (hb hby at_107) rfl ?_
  show Steps p.tables e below (T6.setTop (mkF m 108 #[s0, s1, s2, .val (.int i3), .val (.int i4), .val (.ref o5), .val (.int i6), .val (.int i7), .val (.ref o8), .val (.int (i4 &&& (3 : Int32))), s10, s11, s12] [(.int i3), (.ref o8)])) _
  refine XS.i2b X6.here hx rfl (hb hby at_108) rfl ?_
  show Steps p.tables e below (T6.setTop (mkF m 109 #[s0, s1, s2, .val (.int i3), .val (.int i4), .val (.ref o5), .val (.int i6), .val (.int i7), .val (.ref o8), .val (.int (i4 &&& (3 : Int32))), s10, s11, s12] [(.int (i3.toInt8.toInt32)), (.ref o8)])) _
  refine st7.trans ?_
  show Steps p.tables e below (T7.setTop (mkF m 112 #[s0, s1, s2, .val (.int i3), .val (.int i4), .val (.ref o5), .val (.int i6), .val (.int i7), .val (.ref o8), .val (.int (i4 &&& (3 : Int32))), s10, s11, s12] [])) _
  refine XS.aload X7.here hx rfl (hb hby at_112) rfl rfl ?_
  show Steps p.tables e below (T7.setTop (mkF m 114 #[s0, s1, s2, .val (.int i3), .val (.int i4), .val (.ref o5), .val (.int i6), .val (.int i7), .val (.ref o8), .val (.int (i4 &&& (3 : Int32))), s10, s11, s12] [(.ref o8)])) _
  refine XS.iloadN X7.here hx rfl (hb hby at_114) rfl ?_
  show Steps p.tables e below (T7.setTop (mkF m 115 #[s0, s1, s2, .val (.int i3), .val (.int i4), .val (.ref o5), .val (.int i6), .val (.int i7), .val (.ref o8), .val (.int (i4 &&& (3 : Int32))), s10, s11, s12] [(.int i3), (.ref o8)])) _
  refine XS.bipush X7.here hx rfl (hb hby at_115) ?_
  show Steps p.tables e below (T7.setTop (mkF m 117 #[s0, s1, s2, .val (.int i3), .val (.int i4), .val (.ref o5), .val (.int i6), .val (.int i7), .val (.ref o8), .val (.int (i4 &&& (3 : Int32))), s10, s11, s12] [(.int (8 : Int32)), (.int i3), (.ref o8)])) _
  refine XS.ishr X7.here hx rfl (hb hby at_117) rfl ?_
  show Steps p.tables e below (T7.setTop (mkF m 118 #[s0, s1, s2, .val (.int i3), .val (.int i4), .val (.ref o5), .val (.int i6), .val (.int i7), .val (.ref o8), .val (.int (i4 &&& (3 : Int32))), s10, s11, s12] [(.int (i3 >>> ((8 : Int32) &&& 31))), (.ref o8)])) _
  refine XS.i2b X7.here hx rfl (hb hby at_118) rfl ?_
  show Steps p.tables e below (T7.setTop (mkF m 119 #[s0, s1, s2, .val (.int i3), .val (.int i4), .val (.ref o5), .val (.int i6), .val (.int i7), .val (.ref o8), .val (.int (i4 &&& (3 : Int32))), s10, s11, s12] [(.int ((i3 >>> ((8 : Int32) &&& 31)).toInt8.toInt32)), (.ref o8)])) _
  refine st8.trans ?_
  show Steps p.tables e below (T8.setTop (mkF m 122 #[s0, s1, s2, .val (.int i3), .val (.int i4), .val (.ref o5), .val (.int i6), .val (.int i7), .val (.ref o8), .val (.int (i4 &&& (3 : Int32))), s10, s11, s12] [])) _
  refine XS.goto X8.here hx rfl (pc0 := 122) (pc' := 147) rfl (hb hby at_122) (by decide) (by decide) ?_
  exact kt
theorem os0_72_modeC {s0 : Slot} {s1 : Slot} {s2 : Slot} {s3 : Slot} {z4 : Value} {z5 : Value} {z6 : Value} {z7 : Value} {z8 : Value} {s9 : Slot} {s10 : Slot} {s11 : Slot} {s12 : Slot} {v : Int32} (h : One s9) : storeLocals #[s0, s1, s2, s3, .val z4, .val z5, .val z6, .val z7, .val z8, s9, s10, s11, s12] 9 (.int v) = some #[s0, s1, s2, s3, .val z4, .val z5, .val z6, .val z7, .val z8, .val (.int v), s10, s11, s12] := by
  rcases h with rfl | ⟨w, rfl, hw⟩
  · rfl
  · cases w <;> first | rfl | (simp [Value.category] at hw)
set_option maxRecDepth 65536 in
set_option maxHeartbeats 40000000 in
theorem modeC {p : Program} {l : Launch} {e : Env} {s : State} {m : MethodId} {args : Array Value} {below : List Frame} {meth : Method} {c : Code} {T0 : State} {locs : List Loc} {Z : State} {a0 : Array Value} {h0 : Heap} (s0 : Slot) (s1 : Slot) (s2 : Slot) (s3 : Slot) (i4 : Int32) (o5 : Addr) (i6 : Int32) (i7 : Int32) (o8 : Addr) (s9 : Slot) (s10 : Slot) (s11 : Slot) (s12 : Slot)
    (X0 : Stand p l e room_1 s m args below meth c T0 locs 3 72) (hx : p.tables.exec = Jvm.exec) (hZ : Z.Warmed39 s.vm) (hw : ∀ d ∈ tables_1, d.before a0 Z = true) (hby : c.code = code) (hml : c.maxLocals = 13) (hown : s.vm.findClass "satura/ntriples/SpellingStartMakingPinLaw" = some m.cls) (e0 : T0.heap = h0) {n0 : Nat} (Z0 : n0 ≤ h0.size) (N0 : Fr n0 locs) (M : Addr) (k kT : ClassId) (ub uo ul : Value) (vs tx : List Value) (hS : own_Sp Z h0 o8 M k ub uo ul vs) (V_T : Arv Z h0 o5 kT .byte (4 : Int32) tx (.int (0 : Int32))) (g_8 : n0 ≤ o8) (g_M : n0 ≤ M) (hT8 : o5 ≠ o8) (hTM : o5 ≠ M) (hlo : 0 ≤ i6.toInt) (hlt : i6.toInt < i7.toInt) (hhi : i7.toInt ≤ 4) (hs9 : One s9) (hc77 : ¬ ((i4 &&& (3 : Int32)) = (1 : Int32))) (hc97 : ¬ ((i4 &&& (3 : Int32)) = (2 : Int32))) (hc128 : (i4 &&& (3 : Int32)) = (3 : Int32)) :
    ∃ (T' : State) (h' : Heap) (L' : List Loc) (ub' uo' ul' : Value) (vs' : List Value), Stand p l e room_1 s m args below meth c T' L' 3 72 ∧ T'.heap = h' ∧ Fr n0 L' ∧ Keep h0 h' [o8, M] ∧ own_Sp Z h' o8 M k ub' uo' ul' vs' ∧
      ∀ target, Steps p.tables e below (T'.setTop (mkF m 147 #[s0, s1, s2, s3, .val (.int i4), .val (.ref o5), .val (.int i6), .val (.int i7), .val (.ref o8), .val (.int (i4 &&& (3 : Int32))), s10, s11, s12] [])) target → Steps p.tables e below (T0.setTop (mkF m 68 #[s0, s1, s2, s3, .val (.int i4), .val (.ref o5), .val (.int i6), .val (.int i7), .val (.ref o8), s9, s10, s11, s12] [])) target := by
  obtain ⟨E_o8, F_made_8, F_bytes_8, F_offset_8, F_length_8, hvl, V_M, hne⟩ := id hS
  have hsub : (i7 - i6).toInt = i7.toInt - i6.toInt := Jvm.Kit.i32_sub (by omega) (by omega)
  obtain ⟨cq6, kq6, q6a, q6b, q6c⟩ := isOf hZ e0 E_o8
  obtain ⟨_, _, ⟨T6, L6, k6, n6⟩, -, X6, ⟨Lc6, hQ6, l6, y6, z6⟩, st6⟩ := X0.virtualBack hx (y := (⟨"satura/ntriples/Spelling", "set", "([BII)V"⟩ : MethodName)) (z := (⟨"satura/ntriples/Spelling", "set", "([BII)V"⟩ : MethodName)) hown (mvT hZ (hw _ (List.mem_of_getElem? (i := 56) rfl))) (mvT hZ (hw _ (List.mem_of_getElem? (i := 57) rfl))) (notFace_of_selects (args := #[]) (mvT hZ (hw _ (List.mem_of_getElem? (i := 59) rfl)))) (mvT hZ (hw _ (List.mem_of_getElem? (i := 59) rfl))) (mvT hZ (hw _ (List.mem_of_getElem? (i := 58) rfl))) (by decide) (backOf (W := 0) (rm11 l Z a0 hw [] o8 o5 i6 i7 M k ub uo ul vs h0 n0 Z0 hS g_8) hZ (hw _ (List.mem_of_getElem? (i := 60) rfl)) (hw _ (List.mem_of_getElem? (i := 7) rfl)) (by decide) (by decide)) q6a q6c (g := (mkF m 139 #[s0, s1, s2, s3, .val (.int i4), .val (.ref o5), .val (.int i6), .val (.int i7), .val (.ref o8), .val (.int (i4 &&& (3 : Int32))), s10, s11, s12] [(.int i7), (.int i6), (.ref o5), (.ref o8)])) rfl (by rw [hml]; rfl) (Steps.refl _) (argsL := [(.ref o5), (.int i6), (.int i7)]) (rest := []) (lenOf pd_0_7 rfl) rfl (by show 2 * 0 + _ ≤ _; exact Nat.le_of_eq rfl) (hb hby at_139) (fun _ _ => ⟨rfl, e0, (by show 3 + 0 ≤ 16; decide), (by show 72 + 0 ≤ 256; decide)⟩)
  dsimp only [Pt.U, Pt.locs, Pt.cells, Pt.slots] at X6 l6 y6 z6 st6 hQ6
  subst l6 y6 z6
  obtain ⟨rfl, N6q, K1, S1⟩ := hQ6
  have N6 := Fr.app N0 N6q
  obtain ⟨cq7, kq7, q7a, q7b, q7c⟩ := isOf hZ rfl (E_o8.keep K1)
  obtain ⟨_, _, ⟨T7, L7, k7, n7⟩, -, X7, ⟨Lc7, hQ7, l7, y7, z7⟩, st7⟩ := X6.virtualBack hx (y := (⟨"satura/ntriples/Spelling", "keepMaking", "()V"⟩ : MethodName)) (z := (⟨"satura/ntriples/Spelling", "keepMaking", "()V"⟩ : MethodName)) hown (mvT hZ (hw _ (List.mem_of_getElem? (i := 61) rfl))) (mvT hZ (hw _ (List.mem_of_getElem? (i := 62) rfl))) (notFace_of_selects (args := #[]) (mvT hZ (hw _ (List.mem_of_getElem? (i := 64) rfl)))) (mvT hZ (hw _ (List.mem_of_getElem? (i := 64) rfl))) (mvT hZ (hw _ (List.mem_of_getElem? (i := 63) rfl))) (by decide) (backOf (W := 0) (rm12 l Z a0 hw [] o8 o5 i6 (i7 - i6) M k kT vs tx T6.heap n0 (Nat.le_trans Z0 K1.1) S1 (V_T.keep K1 (own_nm1 hT8)) g_8 g_M hlo (by rw [hsub]; omega) (by rw [hsub]; omega) hT8 hTM) hZ (hw _ (List.mem_of_getElem? (i := 65) rfl)) (hw _ (List.mem_of_getElem? (i := 7) rfl)) (by decide) (by decide)) q7a q7c (g := (mkF m 144 #[s0, s1, s2, s3, .val (.int i4), .val (.ref o5), .val (.int i6), .val (.int i7), .val (.ref o8), .val (.int (i4 &&& (3 : Int32))), s10, s11, s12] [(.ref o8)])) rfl (by rw [hml]; rfl) (Steps.refl _) (argsL := []) (rest := []) (lenOf pd_0_1 rfl) rfl (by show 2 * 0 + _ ≤ _; exact Nat.le_of_eq rfl) (hb hby at_144) (fun _ _ => ⟨rfl, rfl, (by show 3 + 0 ≤ 16; decide), (by show 72 + 0 ≤ 256; decide)⟩)
  dsimp only [Pt.U, Pt.locs, Pt.cells, Pt.slots] at X7 l7 y7 z7 st7 hQ7
  subst l7 y7 z7
  obtain ⟨rfl, N7q, K2, ub', uo', ul', vs', S2⟩ := hQ7
  have N7 := Fr.app N6 N7q
  refine ⟨T7, _, _, _, _, _, _, X7, rfl, N7, own_keep_tr (own_keep1 K1) K2, S2, fun target kt => ?_⟩
  show Steps p.tables e below (T0.setTop (mkF m 68 #[s0, s1, s2, s3, .val (.int i4), .val (.ref o5), .val (.int i6), .val (.int i7), .val (.ref o8), s9, s10, s11, s12] [])) _
  refine XS.iload X0.here hx rfl (hb hby at_68) rfl ?_
  show Steps p.tables e below (T0.setTop (mkF m 70 #[s0, s1, s2, s3, .val (.int i4), .val (.ref o5), .val (.int i6), .val (.int i7), .val (.ref o8), s9, s10, s11, s12] [(.int i4)])) _
  refine XS.iconst X0.here hx rfl (hb hby at_70) ?_
  show Steps p.tables e below (T0.setTop (mkF m 71 #[s0, s1, s2, s3, .val (.int i4), .val (.ref o5), .val (.int i6), .val (.int i7), .val (.ref o8), s9, s10, s11, s12] [(.int (3 : Int32)), (.int i4)])) _
  refine XS.iand X0.here hx rfl (hb hby at_71) rfl ?_
  show Steps p.tables e below (T0.setTop (mkF m 72 #[s0, s1, s2, s3, .val (.int i4), .val (.ref o5), .val (.int i6), .val (.int i7), .val (.ref o8), s9, s10, s11, s12] [(.int (i4 &&& (3 : Int32)))])) _
  refine XS.istore X0.here hx rfl (hb hby at_72) rfl (l' := #[s0, s1, s2, s3, .val (.int i4), .val (.ref o5), .val (.int i6), .val (.int i7), .val (.ref o8), .val (.int (i4 &&& (3 : Int32))), s10, s11, s12]) (os0_72_modeC hs9) ?_
  show Steps p.tables e below (T0.setTop (mkF m 74 #[s0, s1, s2, s3, .val (.int i4), .val (.ref o5), .val (.int i6), .val (.int i7), .val (.ref o8), .val (.int (i4 &&& (3 : Int32))), s10, s11, s12] [])) _
  refine XS.iload X0.here hx rfl (hb hby at_74) rfl ?_
  show Steps p.tables e below (T0.setTop (mkF m 76 #[s0, s1, s2, s3, .val (.int i4), .val (.ref o5), .val (.int i6), .val (.int i7), .val (.ref o8), .val (.int (i4 &&& (3 : Int32))), s10, s11, s12] [(.int (i4 &&& (3 : Int32)))])) _
  refine XS.iconst X0.here hx rfl (hb hby at_76) ?_
  show Steps p.tables e below (T0.setTop (mkF m 77 #[s0, s1, s2, s3, .val (.int i4), .val (.ref o5), .val (.int i6), .val (.int i7), .val (.ref o8), .val (.int (i4 &&& (3 : Int32))), s10, s11, s12] [(.int (1 : Int32)), (.int (i4 &&& (3 : Int32)))])) _
  refine XS.icmpYes X0.here hx rfl (pc0 := 77) (pc' := 94) rfl (hb hby at_77) rfl (feq hc77).2 (by decide) (by decide) ?_
  show Steps p.tables e below (T0.setTop (mkF m 94 #[s0, s1, s2, s3, .val (.int i4), .val (.ref o5), .val (.int i6), .val (.int i7), .val (.ref o8), .val (.int (i4 &&& (3 : Int32))), s10, s11, s12] [])) _
  refine XS.iload X0.here hx rfl (hb hby at_94) rfl ?_
  show Steps p.tables e below (T0.setTop (mkF m 96 #[s0, s1, s2, s3, .val (.int i4), .val (.ref o5), .val (.int i6), .val (.int i7), .val (.ref o8), .val (.int (i4 &&& (3 : Int32))), s10, s11, s12] [(.int (i4 &&& (3 : Int32)))])) _
  refine XS.iconst X0.here hx rfl (hb hby at_96) ?_
  show Steps p.tables e below (T0.setTop (mkF m 97 #[s0, s1, s2, s3, .val (.int i4), .val (.ref o5), .val (.int i6), .val (.int i7), .val (.ref o8), .val (.int (i4 &&& (3 : Int32))), s10, s11, s12] [(.int (2 : Int32)), (.int (i4 &&& (3 : Int32)))])) _
  refine XS.icmpYes X0.here hx rfl (pc0 := 97) (pc' := 125) rfl (hb hby at_97) rfl (feq hc97).2 (by decide) (by decide) ?_
  show Steps p.tables e below (T0.setTop (mkF m 125 #[s0, s1, s2, s3, .val (.int i4), .val (.ref o5), .val (.int i6), .val (.int i7), .val (.ref o8), .val (.int (i4 &&& (3 : Int32))), s10, s11, s12] [])) _
  refine XS.iload X0.here hx rfl (hb hby at_125) rfl ?_
  show Steps p.tables e below (T0.setTop (mkF m 127 #[s0, s1, s2, s3, .val (.int i4), .val (.ref o5), .val (.int i6), .val (.int i7), .val (.ref o8), .val (.int (i4 &&& (3 : Int32))), s10, s11, s12] [(.int (i4 &&& (3 : Int32)))])) _
  refine XS.iconst X0.here hx rfl (hb hby at_127) ?_
  show Steps p.tables e below (T0.setTop (mkF m 128 #[s0, s1, s2, s3, .val (.int i4), .val (.ref o5), .val (.int i6), .val (.int i7), .val (.ref o8), .val (.int (i4 &&& (3 : Int32))), s10, s11, s12] [(.int (3 : Int32)), (.int (i4 &&& (3 : Int32)))])) _
  refine XS.icmpNo X0.here hx rfl (hb hby at_128) rfl (teq hc128).2 ?_
  show Steps p.tables e below (T0.setTop (mkF m 131 #[s0, s1, s2, s3, .val (.int i4), .val (.ref o5), .val (.int i6), .val (.int i7), .val (.ref o8), .val (.int (i4 &&& (3 : Int32))), s10, s11, s12] [])) _
  refine XS.aload X0.here hx rfl (hb hby at_131) rfl rfl ?_
  show Steps p.tables e below (T0.setTop (mkF m 133 #[s0, s1, s2, s3, .val (.int i4), .val (.ref o5), .val (.int i6), .val (.int i7), .val (.ref o8), .val (.int (i4 &&& (3 : Int32))), s10, s11, s12] [(.ref o8)])) _
  refine XS.aload X0.here hx rfl (hb hby at_133) rfl rfl ?_
  show Steps p.tables e below (T0.setTop (mkF m 135 #[s0, s1, s2, s3, .val (.int i4), .val (.ref o5), .val (.int i6), .val (.int i7), .val (.ref o8), .val (.int (i4 &&& (3 : Int32))), s10, s11, s12] [(.ref o5), (.ref o8)])) _
  refine XS.iload X0.here hx rfl (hb hby at_135) rfl ?_
  show Steps p.tables e below (T0.setTop (mkF m 137 #[s0, s1, s2, s3, .val (.int i4), .val (.ref o5), .val (.int i6), .val (.int i7), .val (.ref o8), .val (.int (i4 &&& (3 : Int32))), s10, s11, s12] [(.int i6), (.ref o5), (.ref o8)])) _
  refine XS.iload X0.here hx rfl (hb hby at_137) rfl ?_
  show Steps p.tables e below (T0.setTop (mkF m 139 #[s0, s1, s2, s3, .val (.int i4), .val (.ref o5), .val (.int i6), .val (.int i7), .val (.ref o8), .val (.int (i4 &&& (3 : Int32))), s10, s11, s12] [(.int i7), (.int i6), (.ref o5), (.ref o8)])) _
  refine st6.trans ?_
  show Steps p.tables e below (T6.setTop (mkF m 142 #[s0, s1, s2, s3, .val (.int i4), .val (.ref o5), .val (.int i6), .val (.int i7), .val (.ref o8), .val (.int (i4 &&& (3 : Int32))), s10, s11, s12] [])) _
  refine XS.aload X6.here hx rfl (hb hby at_142) rfl rfl ?_
  show Steps p.tables e below (T6.setTop (mkF m 144 #[s0, s1, s2, s3, .val (.int i4), .val (.ref o5), .val (.int i6), .val (.int i7), .val (.ref o8), .val (.int (i4 &&& (3 : Int32))), s10, s11, s12] [(.ref o8)])) _
  refine st7.trans ?_
  exact kt
theorem os0_72_modeD {s0 : Slot} {s1 : Slot} {s2 : Slot} {s3 : Slot} {z4 : Value} {s5 : Slot} {s6 : Slot} {s7 : Slot} {s8 : Slot} {s9 : Slot} {s10 : Slot} {s11 : Slot} {s12 : Slot} {v : Int32} (h : One s9) : storeLocals #[s0, s1, s2, s3, .val z4, s5, s6, s7, s8, s9, s10, s11, s12] 9 (.int v) = some #[s0, s1, s2, s3, .val z4, s5, s6, s7, s8, .val (.int v), s10, s11, s12] := by
  rcases h with rfl | ⟨w, rfl, hw⟩
  · rfl
  · cases w <;> first | rfl | (simp [Value.category] at hw)
set_option maxRecDepth 65536 in
set_option maxHeartbeats 40000000 in
theorem modeD {p : Program} {l : Launch} {e : Env} {s : State} {m : MethodId} {args : Array Value} {below : List Frame} {meth : Method} {c : Code} {T0 : State} {locs : List Loc} {Z : State} {a0 : Array Value} {h0 : Heap} (s0 : Slot) (s1 : Slot) (s2 : Slot) (s3 : Slot) (i4 : Int32) (o5 : Addr) (i6 : Int32) (i7 : Int32) (o8 : Addr) (s9 : Slot) (s10 : Slot) (s11 : Slot) (s12 : Slot)
    (X0 : Stand p l e room_1 s m args below meth c T0 locs 3 72) (hx : p.tables.exec = Jvm.exec) (hZ : Z.Warmed39 s.vm) (hw : ∀ d ∈ tables_1, d.before a0 Z = true) (hby : c.code = code) (hml : c.maxLocals = 13) (hown : s.vm.findClass "satura/ntriples/SpellingStartMakingPinLaw" = some m.cls) (e0 : T0.heap = h0) {n0 : Nat} (Z0 : n0 ≤ h0.size) (N0 : Fr n0 locs) (M : Addr) (k kT : ClassId) (ub uo ul : Value) (vs tx : List Value) (hS : own_Sp Z h0 o8 M k ub uo ul vs) (V_T : Arv Z h0 o5 kT .byte (4 : Int32) tx (.int (0 : Int32))) (g_8 : n0 ≤ o8) (g_M : n0 ≤ M) (hT8 : o5 ≠ o8) (hTM : o5 ≠ M) (hlo : 0 ≤ i6.toInt) (hlt : i6.toInt < i7.toInt) (hhi : i7.toInt ≤ 4) (hs9 : One s9) (hc77 : ¬ ((i4 &&& (3 : Int32)) = (1 : Int32))) (hc97 : ¬ ((i4 &&& (3 : Int32)) = (2 : Int32))) (hc128 : ¬ ((i4 &&& (3 : Int32)) = (3 : Int32))) :
    ∃ (T' : State) (h' : Heap) (L' : List Loc) (ub' uo' ul' : Value) (vs' : List Value), Stand p l e room_1 s m args below meth c T' L' 3 72 ∧ T'.heap = h' ∧ Fr n0 L' ∧ Keep h0 h' [o8, M] ∧ own_Sp Z h' o8 M k ub' uo' ul' vs' ∧
      ∀ target, Steps p.tables e below (T'.setTop (mkF m 147 #[s0, s1, s2, s3, .val (.int i4), .val (.ref o5), .val (.int i6), .val (.int i7), .val (.ref o8), .val (.int (i4 &&& (3 : Int32))), s10, s11, s12] [])) target → Steps p.tables e below (T0.setTop (mkF m 68 #[s0, s1, s2, s3, .val (.int i4), .val (.ref o5), .val (.int i6), .val (.int i7), .val (.ref o8), s9, s10, s11, s12] [])) target := by
  obtain ⟨E_o8, F_made_8, F_bytes_8, F_offset_8, F_length_8, hvl, V_M, hne⟩ := id hS

  refine ⟨T0, _, _, _, _, _, _, X0, e0, N0, Keep.refl _ _, hS, fun target kt => ?_⟩
  show Steps p.tables e below (T0.setTop (mkF m 68 #[s0, s1, s2, s3, .val (.int i4), .val (.ref o5), .val (.int i6), .val (.int i7), .val (.ref o8), s9, s10, s11, s12] [])) _
  refine XS.iload X0.here hx rfl (hb hby at_68) rfl ?_
  show Steps p.tables e below (T0.setTop (mkF m 70 #[s0, s1, s2, s3, .val (.int i4), .val (.ref o5), .val (.int i6), .val (.int i7), .val (.ref o8), s9, s10, s11, s12] [(.int i4)])) _
  refine XS.iconst X0.here hx rfl (hb hby at_70) ?_
  show Steps p.tables e below (T0.setTop (mkF m 71 #[s0, s1, s2, s3, .val (.int i4), .val (.ref o5), .val (.int i6), .val (.int i7), .val (.ref o8), s9, s10, s11, s12] [(.int (3 : Int32)), (.int i4)])) _
  refine XS.iand X0.here hx rfl (hb hby at_71) rfl ?_
  show Steps p.tables e below (T0.setTop (mkF m 72 #[s0, s1, s2, s3, .val (.int i4), .val (.ref o5), .val (.int i6), .val (.int i7), .val (.ref o8), s9, s10, s11, s12] [(.int (i4 &&& (3 : Int32)))])) _
  refine XS.istore X0.here hx rfl (hb hby at_72) rfl (l' := #[s0, s1, s2, s3, .val (.int i4), .val (.ref o5), .val (.int i6), .val (.int i7), .val (.ref o8), .val (.int (i4 &&& (3 : Int32))), s10, s11, s12]) (os0_72_modeD hs9) ?_
  show Steps p.tables e below (T0.setTop (mkF m 74 #[s0, s1, s2, s3, .val (.int i4), .val (.ref o5), .val (.int i6), .val (.int i7), .val (.ref o8), .val (.int (i4 &&& (3 : Int32))), s10, s11, s12] [])) _
  refine XS.iload X0.here hx rfl (hb hby at_74) rfl ?_
  show Steps p.tables e below (T0.setTop (mkF m 76 #[s0, s1, s2, s3, .val (.int i4), .val (.ref o5), .val (.int i6), .val (.int i7), .val (.ref o8), .val (.int (i4 &&& (3 : Int32))), s10, s11, s12] [(.int (i4 &&& (3 : Int32)))])) _
  refine XS.iconst X0.here hx rfl (hb hby at_76) ?_
  show Steps p.tables e below (T0.setTop (mkF m 77 #[s0, s1, s2, s3, .val (.int i4), .val (.ref o5), .val (.int i6), .val (.int i7), .val (.ref o8), .val (.int (i4 &&& (3 : Int32))), s10, s11, s12] [(.int (1 : Int32)), (.int (i4 &&& (3 : Int32)))])) _
  refine XS.icmpYes X0.here hx rfl (pc0 := 77) (pc' := 94) rfl (hb hby at_77) rfl (feq hc77).2 (by decide) (by decide) ?_
  show Steps p.tables e below (T0.setTop (mkF m 94 #[s0, s1, s2, s3, .val (.int i4), .val (.ref o5), .val (.int i6), .val (.int i7), .val (.ref o8), .val (.int (i4 &&& (3 : Int32))), s10, s11, s12] [])) _
  refine XS.iload X0.here hx rfl (hb hby at_94) rfl ?_
  show Steps p.tables e below (T0.setTop (mkF m 96 #[s0, s1, s2, s3, .val (.int i4), .val (.ref o5), .val (.int i6), .val (.int i7), .val (.ref o8), .val (.int (i4 &&& (3 : Int32))), s10, s11, s12] [(.int (i4 &&& (3 : Int32)))])) _
  refine XS.iconst X0.here hx rfl (hb hby at_96) ?_
  show Steps p.tables e below (T0.setTop (mkF m 97 #[s0, s1, s2, s3, .val (.int i4), .val (.ref o5), .val (.int i6), .val (.int i7), .val (.ref o8), .val (.int (i4 &&& (3 : Int32))), s10, s11, s12] [(.int (2 : Int32)), (.int (i4 &&& (3 : Int32)))])) _
  refine XS.icmpYes X0.here hx rfl (pc0 := 97) (pc' := 125) rfl (hb hby at_97) rfl (feq hc97).2 (by decide) (by decide) ?_
  show Steps p.tables e below (T0.setTop (mkF m 125 #[s0, s1, s2, s3, .val (.int i4), .val (.ref o5), .val (.int i6), .val (.int i7), .val (.ref o8), .val (.int (i4 &&& (3 : Int32))), s10, s11, s12] [])) _
  refine XS.iload X0.here hx rfl (hb hby at_125) rfl ?_
  show Steps p.tables e below (T0.setTop (mkF m 127 #[s0, s1, s2, s3, .val (.int i4), .val (.ref o5), .val (.int i6), .val (.int i7), .val (.ref o8), .val (.int (i4 &&& (3 : Int32))), s10, s11, s12] [(.int (i4 &&& (3 : Int32)))])) _
  refine XS.iconst X0.here hx rfl (hb hby at_127) ?_
  show Steps p.tables e below (T0.setTop (mkF m 128 #[s0, s1, s2, s3, .val (.int i4), .val (.ref o5), .val (.int i6), .val (.int i7), .val (.ref o8), .val (.int (i4 &&& (3 : Int32))), s10, s11, s12] [(.int (3 : Int32)), (.int (i4 &&& (3 : Int32)))])) _
  refine XS.icmpYes X0.here hx rfl (pc0 := 128) (pc' := 147) rfl (hb hby at_128) rfl (feq hc128).2 (by decide) (by decide) ?_
  exact kt
theorem modes {p : Program} {l : Launch} {e : Env} {s : State} {m : MethodId} {args : Array Value} {below : List Frame} {meth : Method} {c : Code} {T0 : State} {locs : List Loc} {Z : State} {a0 : Array Value} {h0 : Heap} (p1 p2 p3 p4 p5 : Int32) (o5 : Addr) (i6 i7 : Int32) (o8 : Addr) (X0 : Stand p l e room_1 s m args below meth c T0 locs 3 72) (hx : p.tables.exec = Jvm.exec) (hZ : Z.Warmed39 s.vm) (hw : ∀ d ∈ tables_1, d.before a0 Z = true) (hby : c.code = code) (hml : c.maxLocals = 13) (hown : s.vm.findClass "satura/ntriples/SpellingStartMakingPinLaw" = some m.cls) (e0 : T0.heap = h0) {n0 : Nat} (Z0 : n0 ≤ h0.size) (N0 : Fr n0 locs) (M : Addr) (k kT : ClassId) (ub uo ul : Value) (vs tx : List Value) (hS : own_Sp Z h0 o8 M k ub uo ul vs) (V_T : Arv Z h0 o5 kT .byte (4 : Int32) tx (.int (0 : Int32))) (g_8 : n0 ≤ o8) (g_M : n0 ≤ M) (hT8 : o5 ≠ o8) (hTM : o5 ≠ M) (hlo : 0 ≤ i6.toInt) (hlt : i6.toInt < i7.toInt) (hhi : i7.toInt ≤ 4) :
    ∃ (T' : State) (h' : Heap) (L' : List Loc) (ub' uo' ul' : Value) (vs' : List Value), Stand p l e room_1 s m args below meth c T' L' 3 72 ∧ T'.heap = h' ∧ Fr n0 L' ∧ Keep h0 h' [o8, M] ∧ own_Sp Z h' o8 M k ub' uo' ul' vs' ∧
      ∀ target, Steps p.tables e below (T'.setTop (mkF m 147 #[.val (.int p1), .val (.int p2), .val (.int p3), .val (.int p4), .val (.int p5), .val (.ref o5), .val (.int i6), .val (.int i7), .val (.ref o8), .val (.int (p5 &&& (3 : Int32))), .unset, .unset, .unset] [])) target → Steps p.tables e below (T0.setTop (mkF m 68 #[.val (.int p1), .val (.int p2), .val (.int p3), .val (.int p4), .val (.int p5), .val (.ref o5), .val (.int i6), .val (.int i7), .val (.ref o8), .unset, .unset, .unset, .unset] [])) target := by
  by_cases h1 : (p5 &&& (3 : Int32)) = (1 : Int32)
  · exact modeA (.val (.int p1)) (.val (.int p2)) (.val (.int p3)) (.val (.int p4)) p5 o5 i6 i7 o8 .unset .unset .unset .unset X0 hx hZ hw hby hml hown e0 Z0 N0 M k kT ub uo ul vs tx hS V_T g_8 g_M hT8 hTM hlo hlt hhi (hs9 := One.u) (hc77 := h1)
  · by_cases h2 : (p5 &&& (3 : Int32)) = (2 : Int32)
    · exact modeB (.val (.int p1)) (.val (.int p2)) (.val (.int p3)) p4 p5 o5 i6 i7 o8 .unset .unset .unset .unset X0 hx hZ hw hby hml hown e0 Z0 N0 M k kT ub uo ul vs tx hS V_T g_8 g_M hT8 hTM hlo hlt hhi (hs9 := One.u) (hc77 := h1) (hc97 := h2)
    · by_cases h3 : (p5 &&& (3 : Int32)) = (3 : Int32)
      · exact modeC (.val (.int p1)) (.val (.int p2)) (.val (.int p3)) (.val (.int p4)) p5 o5 i6 i7 o8 .unset .unset .unset .unset X0 hx hZ hw hby hml hown e0 Z0 N0 M k kT ub uo ul vs tx hS V_T g_8 g_M hT8 hTM hlo hlt hhi (hs9 := One.u) (hc77 := h1) (hc97 := h2) (hc128 := h3)
      · exact modeD (.val (.int p1)) (.val (.int p2)) (.val (.int p3)) (.val (.int p4)) p5 o5 i6 i7 o8 .unset .unset .unset .unset X0 hx hZ hw hby hml hown e0 Z0 N0 M k kT ub uo ul vs tx hS V_T g_8 g_M hT8 hTM hlo hlt hhi (hs9 := One.u) (hc77 := h1) (hc97 := h2) (hc128 := h3)
theorem pd_0_2 : parseMethodDescriptor "()[B" = some ⟨[], some (.array .byte)⟩ := by decide +kernel
theorem pd_0_3 : parseMethodDescriptor "()I" = some ⟨[], some .int⟩ := by decide +kernel
theorem pd_0_6 : parseMethodDescriptor "(I)B" = some ⟨[.int], some .byte⟩ := by decide +kernel
theorem os0_157_half {z0 : Value} {s1 : Slot} {z2 : Value} {s3 : Slot} {s4 : Slot} {z5 : Value} {s6 : Slot} {s7 : Slot} {z8 : Value} {s9 : Slot} {s10 : Slot} {s11 : Slot} {s12 : Slot} {v : Addr} (h : One s10) : storeLocals #[.val z0, s1, .val z2, s3, s4, .val z5, s6, s7, .val z8, s9, s10, s11, s12] 10 (.ref v) = some #[.val z0, s1, .val z2, s3, s4, .val z5, s6, s7, .val z8, s9, .val (.ref v), s11, s12] := by
  rcases h with rfl | ⟨w, rfl, hw⟩
  · rfl
  · cases w <;> first | rfl | (simp [Value.category] at hw)
theorem os0_192_half {z0 : Value} {s1 : Slot} {z2 : Value} {s3 : Slot} {s4 : Slot} {z5 : Value} {s6 : Slot} {s7 : Slot} {z8 : Value} {s9 : Slot} {z10 : Value} {s11 : Slot} {s12 : Slot} {v : Int32} (h : One s11) : storeLocals #[.val z0, s1, .val z2, s3, s4, .val z5, s6, s7, .val z8, s9, .val z10, s11, s12] 11 (.int v) = some #[.val z0, s1, .val z2, s3, s4, .val z5, s6, s7, .val z8, s9, .val z10, .val (.int v), s12] := by
  rcases h with rfl | ⟨w, rfl, hw⟩
  · rfl
  · cases w <;> first | rfl | (simp [Value.category] at hw)
theorem os0_196_half {z0 : Value} {s1 : Slot} {z2 : Value} {s3 : Slot} {s4 : Slot} {z5 : Value} {s6 : Slot} {s7 : Slot} {z8 : Value} {s9 : Slot} {z10 : Value} {z11 : Value} {s12 : Slot} {v : Int32} (h : One s12) : storeLocals #[.val z0, s1, .val z2, s3, s4, .val z5, s6, s7, .val z8, s9, .val z10, .val z11, s12] 12 (.int v) = some #[.val z0, s1, .val z2, s3, s4, .val z5, s6, s7, .val z8, s9, .val z10, .val z11, .val (.int v)] := by
  rcases h with rfl | ⟨w, rfl, hw⟩
  · rfl
  · cases w <;> first | rfl | (simp [Value.category] at hw)
set_option maxRecDepth 65536 in
set_option maxHeartbeats 40000000 in
theorem half {p : Program} {l : Launch} {e : Env} {s : State} {m : MethodId} {args : Array Value} {below : List Frame} {meth : Method} {c : Code} {T0 : State} {locs : List Loc} {Z : State} {a0 : Array Value} {h0 : Heap} (i0 : Int32) (s1 : Slot) (i2 : Int32) (s3 : Slot) (s4 : Slot) (o5 : Addr) (s6 : Slot) (s7 : Slot) (o8 : Addr) (s9 : Slot) (s10 : Slot) (s11 : Slot) (s12 : Slot)
    (X0 : Stand p l e room_1 s m args below meth c T0 locs 3 72) (hx : p.tables.exec = Jvm.exec) (hZ : Z.Warmed39 s.vm) (hw : ∀ d ∈ tables_1, d.before a0 Z = true) (hby : c.code = code) (hml : c.maxLocals = 13) (hown : s.vm.findClass "satura/ntriples/SpellingStartMakingPinLaw" = some m.cls) (e0 : T0.heap = h0) {n0 : Nat} (Z0 : n0 ≤ h0.size) (N0 : Fr n0 locs) (M : Addr) (k kT : ClassId) (ub uo ul : Value) (vs : List Value) (hS : own_Sp Z h0 o8 M k ub uo ul vs) (V_T : Arv Z h0 o5 kT .byte (4 : Int32) [(.int (i0.toInt8.toInt32)), (.int ((i0 >>> ((8 : Int32) &&& 31)).toInt8.toInt32)), (.int ((i0 >>> ((16 : Int32) &&& 31)).toInt8.toInt32)), (.int ((i0 >>> ((24 : Int32) &&& 31)).toInt8.toInt32))] (.int (0 : Int32))) (g_8 : n0 ≤ o8) (g_M : n0 ≤ M) (hT8 : o5 ≠ o8) (hTM : o5 ≠ M) (hs10 : One s10) (hs11 : One s11) (hs12 : One s12) :
    ∃ (T' : State) (h' : Heap) (L' : List Loc), Stand p l e room_1 s m args below meth c T' L' 3 72 ∧ T'.heap = h' ∧ Fr n0 L' ∧
      ∀ target, Steps p.tables e below (T'.setTop (mkF m 312 #[.val (.int i0), s1, .val (.int i2), s3, s4, .val (.ref o5), s6, s7, .val (.ref o8), s9, .val (.ref M), .val (.int (1 : Int32)), .val (.int (i2.toInt8.toInt32))] [])) target → Steps p.tables e below (T0.setTop (mkF m 147 #[.val (.int i0), s1, .val (.int i2), s3, s4, .val (.ref o5), s6, s7, .val (.ref o8), s9, s10, s11, s12] [])) target := by
  obtain ⟨E_o8, F_made_8, F_bytes_8, F_offset_8, F_length_8, hvl, V_M, hne⟩ := id hS
  obtain ⟨cq6, kq6, q6a, q6b, q6c⟩ := isOf hZ e0 E_o8
  obtain ⟨_, _, ⟨T6, L6, k6, n6⟩, -, X6, ⟨Lc6, hQ6, l6, y6, z6⟩, st6⟩ := X0.virtualBack hx (y := (⟨"satura/ntriples/Spelling", "startMaking", "()V"⟩ : MethodName)) (z := (⟨"satura/ntriples/Spelling", "startMaking", "()V"⟩ : MethodName)) hown (mvT hZ (hw _ (List.mem_of_getElem? (i := 16) rfl))) (mvT hZ (hw _ (List.mem_of_getElem? (i := 17) rfl))) (notFace_of_selects (args := #[]) (mvT hZ (hw _ (List.mem_of_getElem? (i := 19) rfl)))) (mvT hZ (hw _ (List.mem_of_getElem? (i := 19) rfl))) (mvT hZ (hw _ (List.mem_of_getElem? (i := 18) rfl))) (by decide) (backOf (W := 0) (rm4 l Z a0 hw [] o8 M k ub uo ul vs h0 n0 Z0 hS g_8) hZ (hw _ (List.mem_of_getElem? (i := 20) rfl)) (hw _ (List.mem_of_getElem? (i := 7) rfl)) (by decide) (by decide)) q6a q6c (g := (mkF m 149 #[.val (.int i0), s1, .val (.int i2), s3, s4, .val (.ref o5), s6, s7, .val (.ref o8), s9, s10, s11, s12] [(.ref o8)])) rfl (by rw [hml]; rfl) (Steps.refl _) (argsL := []) (rest := []) (lenOf pd_0_1 rfl) rfl (by show 2 * 0 + _ ≤ _; exact Nat.le_of_eq rfl) (hb hby at_149) (fun _ _ => ⟨rfl, e0, (by show 3 + 0 ≤ 16; decide), (by show 72 + 0 ≤ 256; decide)⟩)
  dsimp only [Pt.U, Pt.locs, Pt.cells, Pt.slots] at X6 l6 y6 z6 st6 hQ6
  subst l6 y6 z6
  obtain ⟨rfl, N6q, K1, S1⟩ := hQ6
  have N6 := Fr.app N0 N6q
  have Z1 : n0 ≤ T6.heap.size := Nat.le_trans Z0 K1.1
  obtain ⟨cq7, kq7, q7a, q7b, q7c⟩ := isOf hZ rfl (E_o8.keep K1)
  obtain ⟨_, _, ⟨T7, L7, k7, n7⟩, -, X7, ⟨Lc7, hQ7, l7, y7, z7⟩, st7⟩ := X6.virtualBack hx (y := (⟨"satura/ntriples/Spelling", "bytes", "()[B"⟩ : MethodName)) (z := (⟨"satura/ntriples/Spelling", "bytes", "()[B"⟩ : MethodName)) hown (mvT hZ (hw _ (List.mem_of_getElem? (i := 27) rfl))) (mvT hZ (hw _ (List.mem_of_getElem? (i := 28) rfl))) (notFace_of_selects (args := #[]) (mvT hZ (hw _ (List.mem_of_getElem? (i := 30) rfl)))) (mvT hZ (hw _ (List.mem_of_getElem? (i := 30) rfl))) (mvT hZ (hw _ (List.mem_of_getElem? (i := 29) rfl))) (by decide) (backOf (W := 0) (rm5 l Z a0 hw [] o8 M T6.heap n0 Z1 S1.2.2.1) hZ (hw _ (List.mem_of_getElem? (i := 31) rfl)) (hw _ (List.mem_of_getElem? (i := 7) rfl)) (by decide) (by decide)) q7a q7c (g := (mkF m 154 #[.val (.int i0), s1, .val (.int i2), s3, s4, .val (.ref o5), s6, s7, .val (.ref o8), s9, s10, s11, s12] [(.ref o8)])) rfl (by rw [hml]; rfl) (Steps.refl _) (argsL := []) (rest := []) (lenOf pd_0_2 rfl) rfl (by show 2 * 0 + _ ≤ _; exact Nat.le_of_eq rfl) (hb hby at_154) (fun _ _ => ⟨rfl, rfl, (by show 3 + 0 ≤ 16; decide), (by show 72 + 0 ≤ 256; decide)⟩)
  dsimp only [Pt.U, Pt.locs, Pt.cells, Pt.slots] at X7 l7 y7 z7 st7 hQ7
  subst l7 y7 z7
  obtain ⟨rfl, N7q, f2⟩ := hQ7
  have N7 := Fr.app N6 N7q
  obtain ⟨cq8, kq8, q8a, q8b, q8c⟩ := isOf hZ rfl ((E_o8.keep K1).keep (own_keep_eq f2 []))
  obtain ⟨_, _, ⟨T8, L8, k8, n8⟩, -, X8, ⟨Lc8, hQ8, l8, y8, z8⟩, st8⟩ := X7.virtualBack hx (y := (⟨"satura/ntriples/Spelling", "offset", "()I"⟩ : MethodName)) (z := (⟨"satura/ntriples/Spelling", "offset", "()I"⟩ : MethodName)) hown (mvT hZ (hw _ (List.mem_of_getElem? (i := 32) rfl))) (mvT hZ (hw _ (List.mem_of_getElem? (i := 33) rfl))) (notFace_of_selects (args := #[]) (mvT hZ (hw _ (List.mem_of_getElem? (i := 35) rfl)))) (mvT hZ (hw _ (List.mem_of_getElem? (i := 35) rfl))) (mvT hZ (hw _ (List.mem_of_getElem? (i := 34) rfl))) (by decide) (backOf (W := 0) (rm6 l Z a0 hw [] o8 (0 : Int32) T7.heap n0 (by rw [f2]; exact Z1) (by rw [f2]; exact S1.2.2.2.1)) hZ (hw _ (List.mem_of_getElem? (i := 36) rfl)) (hw _ (List.mem_of_getElem? (i := 7) rfl)) (by decide) (by decide)) q8a q8c (g := (mkF m 173 #[.val (.int i0), s1, .val (.int i2), s3, s4, .val (.ref o5), s6, s7, .val (.ref o8), s9, .val (.ref M), s11, s12] [(.ref o8)])) rfl (by rw [hml]; rfl) (Steps.refl _) (argsL := []) (rest := []) (lenOf pd_0_3 rfl) rfl (by show 2 * 0 + _ ≤ _; exact Nat.le_of_eq rfl) (hb hby at_173) (fun _ _ => ⟨rfl, rfl, (by show 3 + 0 ≤ 16; decide), (by show 72 + 0 ≤ 256; decide)⟩)
  dsimp only [Pt.U, Pt.locs, Pt.cells, Pt.slots] at X8 l8 y8 z8 st8 hQ8
  subst l8 y8 z8
  obtain ⟨rfl, N8q, f3⟩ := hQ8
  have N8 := Fr.app N7 N8q
  obtain ⟨cq9, kq9, q9a, q9b, q9c⟩ := isOf hZ rfl (((E_o8.keep K1).keep (own_keep_eq f2 [])).keep (own_keep_eq f3 []))
  obtain ⟨_, _, ⟨T9, L9, k9, n9⟩, -, X9, ⟨Lc9, hQ9, l9, y9, z9⟩, st9⟩ := X8.virtualBack hx (y := (⟨"satura/ntriples/Spelling", "length", "()I"⟩ : MethodName)) (z := (⟨"satura/ntriples/Spelling", "length", "()I"⟩ : MethodName)) hown (mvT hZ (hw _ (List.mem_of_getElem? (i := 37) rfl))) (mvT hZ (hw _ (List.mem_of_getElem? (i := 38) rfl))) (notFace_of_selects (args := #[]) (mvT hZ (hw _ (List.mem_of_getElem? (i := 40) rfl)))) (mvT hZ (hw _ (List.mem_of_getElem? (i := 40) rfl))) (mvT hZ (hw _ (List.mem_of_getElem? (i := 39) rfl))) (by decide) (backOf (W := 0) (rm7 l Z a0 hw [] o8 (0 : Int32) T8.heap n0 (by rw [f3, f2]; exact Z1) (by rw [f3, f2]; exact S1.2.2.2.2.1)) hZ (hw _ (List.mem_of_getElem? (i := 41) rfl)) (hw _ (List.mem_of_getElem? (i := 7) rfl)) (by decide) (by decide)) q9a q9c (g := (mkF m 181 #[.val (.int i0), s1, .val (.int i2), s3, s4, .val (.ref o5), s6, s7, .val (.ref o8), s9, .val (.ref M), s11, s12] [(.ref o8)])) rfl (by rw [hml]; rfl) (Steps.refl _) (argsL := []) (rest := []) (lenOf pd_0_3 rfl) rfl (by show 2 * 0 + _ ≤ _; exact Nat.le_of_eq rfl) (hb hby at_181) (fun _ _ => ⟨rfl, rfl, (by show 3 + 0 ≤ 16; decide), (by show 72 + 0 ≤ 256; decide)⟩)
  dsimp only [Pt.U, Pt.locs, Pt.cells, Pt.slots] at X9 l9 y9 z9 st9 hQ9
  subst l9 y9 z9
  obtain ⟨rfl, N9q, f4⟩ := hQ9
  have N9 := Fr.app N8 N9q
  obtain ⟨cq10, kq10, q10a, q10b, q10c⟩ := isOf hZ rfl ((((E_o8.keep K1).keep (own_keep_eq f2 [])).keep (own_keep_eq f3 [])).keep (own_keep_eq f4 []))
  obtain ⟨_, _, ⟨T10, L10, k10, n10⟩, -, X10, ⟨Lc10, hQ10, l10, y10, z10⟩, st10⟩ := X9.virtualBack hx (y := (⟨"satura/ntriples/Spelling", "append", "(B)V"⟩ : MethodName)) (z := (⟨"satura/ntriples/Spelling", "append", "(B)V"⟩ : MethodName)) hown (mvT hZ (hw _ (List.mem_of_getElem? (i := 42) rfl))) (mvT hZ (hw _ (List.mem_of_getElem? (i := 43) rfl))) (notFace_of_selects (args := #[]) (mvT hZ (hw _ (List.mem_of_getElem? (i := 45) rfl)))) (mvT hZ (hw _ (List.mem_of_getElem? (i := 45) rfl))) (mvT hZ (hw _ (List.mem_of_getElem? (i := 44) rfl))) (by decide) (backOf (W := 0) (rm8 l Z a0 hw [] o8 (i2.toInt8.toInt32) M k (.ref M) (.int (0 : Int32)) (0 : Int32) vs T9.heap n0 (by rw [f4, f3, f2]; exact Z1) (by rw [f4, f3, f2]; exact S1) g_8 g_M (by decide) (by decide)) hZ (hw _ (List.mem_of_getElem? (i := 46) rfl)) (hw _ (List.mem_of_getElem? (i := 7) rfl)) (by decide) (by decide)) q10a q10c (g := (mkF m 202 #[.val (.int i0), s1, .val (.int i2), s3, s4, .val (.ref o5), s6, s7, .val (.ref o8), s9, .val (.ref M), .val (.int (1 : Int32)), .val (.int (i2.toInt8.toInt32))] [(.int (i2.toInt8.toInt32)), (.ref o8)])) rfl (by rw [hml]; rfl) (Steps.refl _) (argsL := [(.int (i2.toInt8.toInt32))]) (rest := []) (lenOf pd_0_4 rfl) rfl (by show 2 * 0 + _ ≤ _; exact Nat.le_of_eq rfl) (hb hby at_202) (fun _ _ => ⟨rfl, rfl, (by show 3 + 0 ≤ 16; decide), (by show 72 + 0 ≤ 256; decide)⟩)
  dsimp only [Pt.U, Pt.locs, Pt.cells, Pt.slots] at X10 l10 y10 z10 st10 hQ10
  subst l10 y10 z10
  obtain ⟨rfl, N10q, K5, S5⟩ := hQ10
  have N10 := Fr.app N9 N10q
  have Z5 : n0 ≤ T10.heap.size := Nat.le_trans (by rw [f4, f3, f2]; exact Z1) K5.1
  obtain ⟨clM, ArM, qM, SM, NM, HM, GM⟩ := id S5.2.2.2.2.2.2.1
  have hinM : ¬ (((0 : Int32) + (0 : Int32)) < 0 ∨ clM.slots.size ≤ ((0 : Int32) + (0 : Int32)).toNatClampNeg) := inb_of SM ⟨by decide, by decide⟩
  have hatM : clM.slots[((0 : Int32) + (0 : Int32)).toNatClampNeg]? = some (.int (i2.toInt8.toInt32)) := by
    have q := HM 0 (by rw [SM]; decide)
    rw [own_tn0, own_nar_b] at q
    have q2 : (vs.set 0 (.int (i2.toInt8.toInt32))).getD 0 (.int (0 : Int32)) = .int (i2.toInt8.toInt32) := by
      rw [List.getD_eq_getElem?_getD, List.getElem?_set_self (by omega)]
      rfl
    rw [q2] at q
    exact q
  obtain ⟨cq11, kq11, q11a, q11b, q11c⟩ := isOf hZ rfl (((((E_o8.keep K1).keep (own_keep_eq f2 [])).keep (own_keep_eq f3 [])).keep (own_keep_eq f4 [])).keep K5)
  obtain ⟨_, _, ⟨T11, L11, k11, n11⟩, -, X11, ⟨Lc11, hQ11, l11, y11, z11⟩, st11⟩ := X10.virtualBack hx (y := (⟨"satura/ntriples/Spelling", "bytes", "()[B"⟩ : MethodName)) (z := (⟨"satura/ntriples/Spelling", "bytes", "()[B"⟩ : MethodName)) hown (mvT hZ (hw _ (List.mem_of_getElem? (i := 27) rfl))) (mvT hZ (hw _ (List.mem_of_getElem? (i := 28) rfl))) (notFace_of_selects (args := #[]) (mvT hZ (hw _ (List.mem_of_getElem? (i := 30) rfl)))) (mvT hZ (hw _ (List.mem_of_getElem? (i := 30) rfl))) (mvT hZ (hw _ (List.mem_of_getElem? (i := 29) rfl))) (by decide) (backOf (W := 0) (rm5 l Z a0 hw [] o8 M T10.heap n0 Z5 S5.2.2.1) hZ (hw _ (List.mem_of_getElem? (i := 31) rfl)) (hw _ (List.mem_of_getElem? (i := 7) rfl)) (by decide) (by decide)) q11a q11c (g := (mkF m 212 #[.val (.int i0), s1, .val (.int i2), s3, s4, .val (.ref o5), s6, s7, .val (.ref o8), s9, .val (.ref M), .val (.int (1 : Int32)), .val (.int (i2.toInt8.toInt32))] [(.ref o8)])) rfl (by rw [hml]; rfl) (Steps.refl _) (argsL := []) (rest := []) (lenOf pd_0_2 rfl) rfl (by show 2 * 0 + _ ≤ _; exact Nat.le_of_eq rfl) (hb hby at_212) (fun _ _ => ⟨rfl, rfl, (by show 3 + 0 ≤ 16; decide), (by show 72 + 0 ≤ 256; decide)⟩)
  dsimp only [Pt.U, Pt.locs, Pt.cells, Pt.slots] at X11 l11 y11 z11 st11 hQ11
  subst l11 y11 z11
  obtain ⟨rfl, N11q, f6⟩ := hQ11
  have N11 := Fr.app N10 N11q
  obtain ⟨cq12, kq12, q12a, q12b, q12c⟩ := isOf hZ rfl ((((((E_o8.keep K1).keep (own_keep_eq f2 [])).keep (own_keep_eq f3 [])).keep (own_keep_eq f4 [])).keep K5).keep (own_keep_eq f6 []))
  obtain ⟨_, _, ⟨T12, L12, k12, n12⟩, -, X12, ⟨Lc12, hQ12, l12, y12, z12⟩, st12⟩ := X11.virtualBack hx (y := (⟨"satura/ntriples/Spelling", "length", "()I"⟩ : MethodName)) (z := (⟨"satura/ntriples/Spelling", "length", "()I"⟩ : MethodName)) hown (mvT hZ (hw _ (List.mem_of_getElem? (i := 37) rfl))) (mvT hZ (hw _ (List.mem_of_getElem? (i := 38) rfl))) (notFace_of_selects (args := #[]) (mvT hZ (hw _ (List.mem_of_getElem? (i := 40) rfl)))) (mvT hZ (hw _ (List.mem_of_getElem? (i := 40) rfl))) (mvT hZ (hw _ (List.mem_of_getElem? (i := 39) rfl))) (by decide) (backOf (W := 0) (rm7 l Z a0 hw [] o8 ((0 : Int32) + (1 : Int32)) T11.heap n0 (by rw [f6]; exact Z5) (by rw [f6]; exact S5.2.2.2.2.1)) hZ (hw _ (List.mem_of_getElem? (i := 41) rfl)) (hw _ (List.mem_of_getElem? (i := 7) rfl)) (by decide) (by decide)) q12a q12c (g := (mkF m 222 #[.val (.int i0), s1, .val (.int i2), s3, s4, .val (.ref o5), s6, s7, .val (.ref o8), s9, .val (.ref M), .val (.int (1 : Int32)), .val (.int (i2.toInt8.toInt32))] [(.ref o8)])) rfl (by rw [hml]; rfl) (Steps.refl _) (argsL := []) (rest := []) (lenOf pd_0_3 rfl) rfl (by show 2 * 0 + _ ≤ _; exact Nat.le_of_eq rfl) (hb hby at_222) (fun _ _ => ⟨rfl, rfl, (by show 3 + 0 ≤ 16; decide), (by show 72 + 0 ≤ 256; decide)⟩)
  dsimp only [Pt.U, Pt.locs, Pt.cells, Pt.slots] at X12 l12 y12 z12 st12 hQ12
  subst l12 y12 z12
  obtain ⟨rfl, N12q, f7⟩ := hQ12
  have N12 := Fr.app N11 N12q
  obtain ⟨cq13, kq13, q13a, q13b, q13c⟩ := isOf hZ rfl (((((((E_o8.keep K1).keep (own_keep_eq f2 [])).keep (own_keep_eq f3 [])).keep (own_keep_eq f4 [])).keep K5).keep (own_keep_eq f6 [])).keep (own_keep_eq f7 []))
  obtain ⟨_, _, ⟨T13, L13, k13, n13⟩, -, X13, ⟨Lc13, hQ13, l13, y13, z13⟩, st13⟩ := X12.virtualBack hx (y := (⟨"satura/ntriples/Spelling", "offset", "()I"⟩ : MethodName)) (z := (⟨"satura/ntriples/Spelling", "offset", "()I"⟩ : MethodName)) hown (mvT hZ (hw _ (List.mem_of_getElem? (i := 32) rfl))) (mvT hZ (hw _ (List.mem_of_getElem? (i := 33) rfl))) (notFace_of_selects (args := #[]) (mvT hZ (hw _ (List.mem_of_getElem? (i := 35) rfl)))) (mvT hZ (hw _ (List.mem_of_getElem? (i := 35) rfl))) (mvT hZ (hw _ (List.mem_of_getElem? (i := 34) rfl))) (by decide) (backOf (W := 0) (rm6 l Z a0 hw [] o8 (0 : Int32) T12.heap n0 (by rw [f7, f6]; exact Z5) (by rw [f7, f6]; exact S5.2.2.2.1)) hZ (hw _ (List.mem_of_getElem? (i := 36) rfl)) (hw _ (List.mem_of_getElem? (i := 7) rfl)) (by decide) (by decide)) q13a q13c (g := (mkF m 231 #[.val (.int i0), s1, .val (.int i2), s3, s4, .val (.ref o5), s6, s7, .val (.ref o8), s9, .val (.ref M), .val (.int (1 : Int32)), .val (.int (i2.toInt8.toInt32))] [(.ref o8)])) rfl (by rw [hml]; rfl) (Steps.refl _) (argsL := []) (rest := []) (lenOf pd_0_3 rfl) rfl (by show 2 * 0 + _ ≤ _; exact Nat.le_of_eq rfl) (hb hby at_231) (fun _ _ => ⟨rfl, rfl, (by show 3 + 0 ≤ 16; decide), (by show 72 + 0 ≤ 256; decide)⟩)
  dsimp only [Pt.U, Pt.locs, Pt.cells, Pt.slots] at X13 l13 y13 z13 st13 hQ13
  subst l13 y13 z13
  obtain ⟨rfl, N13q, f8⟩ := hQ13
  have N13 := Fr.app N12 N13q
  obtain ⟨cq14, kq14, q14a, q14b, q14c⟩ := isOf hZ rfl ((((((((E_o8.keep K1).keep (own_keep_eq f2 [])).keep (own_keep_eq f3 [])).keep (own_keep_eq f4 [])).keep K5).keep (own_keep_eq f6 [])).keep (own_keep_eq f7 [])).keep (own_keep_eq f8 []))
  obtain ⟨_, _, ⟨T14, L14, k14, n14⟩, -, X14, ⟨Lc14, hQ14, l14, y14, z14⟩, st14⟩ := X13.virtualBack hx (y := (⟨"satura/ntriples/Spelling", "byteAt", "(I)B"⟩ : MethodName)) (z := (⟨"satura/ntriples/Spelling", "byteAt", "(I)B"⟩ : MethodName)) hown (mvT hZ (hw _ (List.mem_of_getElem? (i := 51) rfl))) (mvT hZ (hw _ (List.mem_of_getElem? (i := 52) rfl))) (notFace_of_selects (args := #[]) (mvT hZ (hw _ (List.mem_of_getElem? (i := 54) rfl)))) (mvT hZ (hw _ (List.mem_of_getElem? (i := 54) rfl))) (mvT hZ (hw _ (List.mem_of_getElem? (i := 53) rfl))) (by decide) (backOf (W := 0) (rm10 l Z a0 hw [] o8 (0 : Int32) M (0 : Int32) (i2.toInt8.toInt32) clM T13.heap n0 (by rw [f8, f7, f6]; exact Z5) (own_nar_b _) (by rw [f8, f7, f6]; exact S5.2.2.1) (by rw [f8, f7, f6]; exact S5.2.2.2.1) (by rw [f8, f7, f6]; exact ArM) hinM hatM) hZ (hw _ (List.mem_of_getElem? (i := 55) rfl)) (hw _ (List.mem_of_getElem? (i := 7) rfl)) (by decide) (by decide)) q14a q14c (g := (mkF m 240 #[.val (.int i0), s1, .val (.int i2), s3, s4, .val (.ref o5), s6, s7, .val (.ref o8), s9, .val (.ref M), .val (.int (1 : Int32)), .val (.int (i2.toInt8.toInt32))] [(.int (0 : Int32)), (.ref o8)])) rfl (by rw [hml]; rfl) (Steps.refl _) (argsL := [(.int (0 : Int32))]) (rest := []) (lenOf pd_0_6 rfl) rfl (by show 2 * 0 + _ ≤ _; exact Nat.le_of_eq rfl) (hb hby at_240) (fun _ _ => ⟨rfl, rfl, (by show 3 + 0 ≤ 16; decide), (by show 72 + 0 ≤ 256; decide)⟩)
  dsimp only [Pt.U, Pt.locs, Pt.cells, Pt.slots] at X14 l14 y14 z14 st14 hQ14
  subst l14 y14 z14
  obtain ⟨rfl, N14q, f9⟩ := hQ14
  have N14 := Fr.app N13 N14q
  have VT' := (V_T.keep K1 (own_nm1 hT8))
  rw [← f2, ← f3, ← f4] at VT'
  have VT5 := VT'.keep K5 (own_nm2 hT8 hTM)
  rw [← f6, ← f7, ← f8, ← f9] at VT5
  obtain ⟨cl_o5, Ar_o5, q_o5, S_o5, N_o5, H_o5, G_o5⟩ := VT5
  have hin263 : ¬ ((0 : Int32) < 0 ∨ cl_o5.slots.size ≤ ((0 : Int32)).toNatClampNeg) := inb_of S_o5 ⟨by decide, by decide⟩
  have hat263 := H_o5 0 (by rw [S_o5]; decide)
  have hin272 : ¬ ((1 : Int32) < 0 ∨ cl_o5.slots.size ≤ ((1 : Int32)).toNatClampNeg) := inb_of S_o5 ⟨by decide, by decide⟩
  have hat272 := H_o5 1 (by rw [S_o5]; decide)
  have hin284 : ¬ ((2 : Int32) < 0 ∨ cl_o5.slots.size ≤ ((2 : Int32)).toNatClampNeg) := inb_of S_o5 ⟨by decide, by decide⟩
  have hat284 := H_o5 2 (by rw [S_o5]; decide)
  have hin296 : ¬ ((3 : Int32) < 0 ∨ cl_o5.slots.size ≤ ((3 : Int32)).toNatClampNeg) := inb_of S_o5 ⟨by decide, by decide⟩
  have hat296 := H_o5 3 (by rw [S_o5]; decide)
  refine ⟨T14, _, _, X14, rfl, N14, fun target kt => ?_⟩
  show Steps p.tables e below (T0.setTop (mkF m 147 #[.val (.int i0), s1, .val (.int i2), s3, s4, .val (.ref o5), s6, s7, .val (.ref o8), s9, s10, s11, s12] [])) _
  refine XS.aload X0.here hx rfl (hb hby at_147) rfl rfl ?_
  show Steps p.tables e below (T0.setTop (mkF m 149 #[.val (.int i0), s1, .val (.int i2), s3, s4, .val (.ref o5), s6, s7, .val (.ref o8), s9, s10, s11, s12] [(.ref o8)])) _
  refine st6.trans ?_
  show Steps p.tables e below (T6.setTop (mkF m 152 #[.val (.int i0), s1, .val (.int i2), s3, s4, .val (.ref o5), s6, s7, .val (.ref o8), s9, s10, s11, s12] [])) _
  refine XS.aload X6.here hx rfl (hb hby at_152) rfl rfl ?_
  show Steps p.tables e below (T6.setTop (mkF m 154 #[.val (.int i0), s1, .val (.int i2), s3, s4, .val (.ref o5), s6, s7, .val (.ref o8), s9, s10, s11, s12] [(.ref o8)])) _
  refine st7.trans ?_
  show Steps p.tables e below (T7.setTop (mkF m 157 #[.val (.int i0), s1, .val (.int i2), s3, s4, .val (.ref o5), s6, s7, .val (.ref o8), s9, s10, s11, s12] [(.ref M)])) _
  refine XS.astore X7.here hx rfl (hb hby at_157) rfl rfl (l' := #[.val (.int i0), s1, .val (.int i2), s3, s4, .val (.ref o5), s6, s7, .val (.ref o8), s9, .val (.ref M), s11, s12]) (os0_157_half hs10) ?_
  show Steps p.tables e below (T7.setTop (mkF m 159 #[.val (.int i0), s1, .val (.int i2), s3, s4, .val (.ref o5), s6, s7, .val (.ref o8), s9, .val (.ref M), s11, s12] [])) _
  refine XS.aload X7.here hx rfl (hb hby at_159) rfl rfl ?_
  show Steps p.tables e below (T7.setTop (mkF m 161 #[.val (.int i0), s1, .val (.int i2), s3, s4, .val (.ref o5), s6, s7, .val (.ref o8), s9, .val (.ref M), s11, s12] [(.ref M)])) _
  refine XS.ifnullNo X7.here hx rfl (hb hby at_161) rfl ?_
  show Steps p.tables e below (T7.setTop (mkF m 164 #[.val (.int i0), s1, .val (.int i2), s3, s4, .val (.ref o5), s6, s7, .val (.ref o8), s9, .val (.ref M), s11, s12] [])) _
  refine XS.aload X7.here hx rfl (hb hby at_164) rfl rfl ?_
  show Steps p.tables e below (T7.setTop (mkF m 166 #[.val (.int i0), s1, .val (.int i2), s3, s4, .val (.ref o5), s6, s7, .val (.ref o8), s9, .val (.ref M), s11, s12] [(.ref M)])) _
  refine XS.aload X7.here hx rfl (hb hby at_166) rfl rfl ?_
  show Steps p.tables e below (T7.setTop (mkF m 168 #[.val (.int i0), s1, .val (.int i2), s3, s4, .val (.ref o5), s6, s7, .val (.ref o8), s9, .val (.ref M), s11, s12] [(.ref o5), (.ref M)])) _
  refine Jvm.RoadKit.acmp (g := (mkF m 168 #[.val (.int i0), s1, .val (.int i2), s3, s4, .val (.ref o5), s6, s7, .val (.ref o8), s9, .val (.ref M), s11, s12] [(.ref o5), (.ref M)])) X7 hx rfl rfl rfl (pc0 := 168) (pc' := 171) (same := false) rfl (hb hby at_168) rfl (decide_eq_false fun q => (fun q : M = o5 => hTM q.symm) (Value.ref.inj q)) (by decide) (by decide) ?_
  show Steps p.tables e below (T7.setTop (mkF m 171 #[.val (.int i0), s1, .val (.int i2), s3, s4, .val (.ref o5), s6, s7, .val (.ref o8), s9, .val (.ref M), s11, s12] [])) _
  refine XS.aload X7.here hx rfl (hb hby at_171) rfl rfl ?_
  show Steps p.tables e below (T7.setTop (mkF m 173 #[.val (.int i0), s1, .val (.int i2), s3, s4, .val (.ref o5), s6, s7, .val (.ref o8), s9, .val (.ref M), s11, s12] [(.ref o8)])) _
  refine st8.trans ?_
  show Steps p.tables e below (T8.setTop (mkF m 176 #[.val (.int i0), s1, .val (.int i2), s3, s4, .val (.ref o5), s6, s7, .val (.ref o8), s9, .val (.ref M), s11, s12] [(.int (0 : Int32))])) _
  refine XS.ifNo X8.here hx rfl (hb hby at_176) rfl ((if0 _ _).trans (teq (by decide : (0 : Int32) = (0 : Int32))).2) ?_
  show Steps p.tables e below (T8.setTop (mkF m 179 #[.val (.int i0), s1, .val (.int i2), s3, s4, .val (.ref o5), s6, s7, .val (.ref o8), s9, .val (.ref M), s11, s12] [])) _
  refine XS.aload X8.here hx rfl (hb hby at_179) rfl rfl ?_
  show Steps p.tables e below (T8.setTop (mkF m 181 #[.val (.int i0), s1, .val (.int i2), s3, s4, .val (.ref o5), s6, s7, .val (.ref o8), s9, .val (.ref M), s11, s12] [(.ref o8)])) _
  refine st9.trans ?_
  show Steps p.tables e below (T9.setTop (mkF m 184 #[.val (.int i0), s1, .val (.int i2), s3, s4, .val (.ref o5), s6, s7, .val (.ref o8), s9, .val (.ref M), s11, s12] [(.int (0 : Int32))])) _
  refine XS.ifNo X9.here hx rfl (hb hby at_184) rfl ((if0 _ _).trans (teq (by decide : (0 : Int32) = (0 : Int32))).2) ?_
  show Steps p.tables e below (T9.setTop (mkF m 187 #[.val (.int i0), s1, .val (.int i2), s3, s4, .val (.ref o5), s6, s7, .val (.ref o8), s9, .val (.ref M), s11, s12] [])) _
  refine XS.iconst X9.here hx rfl (hb hby at_187) ?_
  show Steps p.tables e below (T9.setTop (mkF m 188 #[.val (.int i0), s1, .val (.int i2), s3, s4, .val (.ref o5), s6, s7, .val (.ref o8), s9, .val (.ref M), s11, s12] [(.int (1 : Int32))])) _
  refine XS.goto X9.here hx rfl (pc0 := 188) (pc' := 192) rfl (hb hby at_188) (by decide) (by decide) ?_
  show Steps p.tables e below (T9.setTop (mkF m 192 #[.val (.int i0), s1, .val (.int i2), s3, s4, .val (.ref o5), s6, s7, .val (.ref o8), s9, .val (.ref M), s11, s12] [(.int (1 : Int32))])) _
  refine XS.istore X9.here hx rfl (hb hby at_192) rfl (l' := #[.val (.int i0), s1, .val (.int i2), s3, s4, .val (.ref o5), s6, s7, .val (.ref o8), s9, .val (.ref M), .val (.int (1 : Int32)), s12]) (os0_192_half hs11) ?_
  show Steps p.tables e below (T9.setTop (mkF m 194 #[.val (.int i0), s1, .val (.int i2), s3, s4, .val (.ref o5), s6, s7, .val (.ref o8), s9, .val (.ref M), .val (.int (1 : Int32)), s12] [])) _
  refine XS.iloadN X9.here hx rfl (hb hby at_194) rfl ?_
  show Steps p.tables e below (T9.setTop (mkF m 195 #[.val (.int i0), s1, .val (.int i2), s3, s4, .val (.ref o5), s6, s7, .val (.ref o8), s9, .val (.ref M), .val (.int (1 : Int32)), s12] [(.int i2)])) _
  refine XS.i2b X9.here hx rfl (hb hby at_195) rfl ?_
  show Steps p.tables e below (T9.setTop (mkF m 196 #[.val (.int i0), s1, .val (.int i2), s3, s4, .val (.ref o5), s6, s7, .val (.ref o8), s9, .val (.ref M), .val (.int (1 : Int32)), s12] [(.int (i2.toInt8.toInt32))])) _
  refine XS.istore X9.here hx rfl (hb hby at_196) rfl (l' := #[.val (.int i0), s1, .val (.int i2), s3, s4, .val (.ref o5), s6, s7, .val (.ref o8), s9, .val (.ref M), .val (.int (1 : Int32)), .val (.int (i2.toInt8.toInt32))]) (os0_196_half hs12) ?_
  show Steps p.tables e below (T9.setTop (mkF m 198 #[.val (.int i0), s1, .val (.int i2), s3, s4, .val (.ref o5), s6, s7, .val (.ref o8), s9, .val (.ref M), .val (.int (1 : Int32)), .val (.int (i2.toInt8.toInt32))] [])) _
  refine XS.aload X9.here hx rfl (hb hby at_198) rfl rfl ?_
  show Steps p.tables e below (T9.setTop (mkF m 200 #[.val (.int i0), s1, .val (.int i2), s3, s4, .val (.ref o5), s6, s7, .val (.ref o8), s9, .val (.ref M), .val (.int (1 : Int32)), .val (.int (i2.toInt8.toInt32))] [(.ref o8)])) _
  refine XS.iload X9.here hx rfl (hb hby at_200) rfl ?_
  show Steps p.tables e below (T9.setTop (mkF m 202 #[.val (.int i0), s1, .val (.int i2), s3, s4, .val (.ref o5), s6, s7, .val (.ref o8), s9, .val (.ref M), .val (.int (1 : Int32)), .val (.int (i2.toInt8.toInt32))] [(.int (i2.toInt8.toInt32)), (.ref o8)])) _
  refine st10.trans ?_
  show Steps p.tables e below (T10.setTop (mkF m 205 #[.val (.int i0), s1, .val (.int i2), s3, s4, .val (.ref o5), s6, s7, .val (.ref o8), s9, .val (.ref M), .val (.int (1 : Int32)), .val (.int (i2.toInt8.toInt32))] [])) _
  refine XS.iload X10.here hx rfl (hb hby at_205) rfl ?_
  show Steps p.tables e below (T10.setTop (mkF m 207 #[.val (.int i0), s1, .val (.int i2), s3, s4, .val (.ref o5), s6, s7, .val (.ref o8), s9, .val (.ref M), .val (.int (1 : Int32)), .val (.int (i2.toInt8.toInt32))] [(.int (1 : Int32))])) _
  refine XS.ifNo X10.here hx rfl (hb hby at_207) rfl ((if0 _ _).trans (feq (by decide : ¬ ((1 : Int32) = (0 : Int32)))).1) ?_
  show Steps p.tables e below (T10.setTop (mkF m 210 #[.val (.int i0), s1, .val (.int i2), s3, s4, .val (.ref o5), s6, s7, .val (.ref o8), s9, .val (.ref M), .val (.int (1 : Int32)), .val (.int (i2.toInt8.toInt32))] [])) _
  refine XS.aload X10.here hx rfl (hb hby at_210) rfl rfl ?_
  show Steps p.tables e below (T10.setTop (mkF m 212 #[.val (.int i0), s1, .val (.int i2), s3, s4, .val (.ref o5), s6, s7, .val (.ref o8), s9, .val (.ref M), .val (.int (1 : Int32)), .val (.int (i2.toInt8.toInt32))] [(.ref o8)])) _
  refine st11.trans ?_
  show Steps p.tables e below (T11.setTop (mkF m 215 #[.val (.int i0), s1, .val (.int i2), s3, s4, .val (.ref o5), s6, s7, .val (.ref o8), s9, .val (.ref M), .val (.int (1 : Int32)), .val (.int (i2.toInt8.toInt32))] [(.ref M)])) _
  refine XS.aload X11.here hx rfl (hb hby at_215) rfl rfl ?_
  show Steps p.tables e below (T11.setTop (mkF m 217 #[.val (.int i0), s1, .val (.int i2), s3, s4, .val (.ref o5), s6, s7, .val (.ref o8), s9, .val (.ref M), .val (.int (1 : Int32)), .val (.int (i2.toInt8.toInt32))] [(.ref M), (.ref M)])) _
  refine Jvm.RoadKit.acmp (g := (mkF m 217 #[.val (.int i0), s1, .val (.int i2), s3, s4, .val (.ref o5), s6, s7, .val (.ref o8), s9, .val (.ref M), .val (.int (1 : Int32)), .val (.int (i2.toInt8.toInt32))] [(.ref M), (.ref M)])) X11 hx rfl rfl rfl (pc0 := 217) (pc' := 220) (same := true) rfl (hb hby at_217) rfl (decide_eq_true (congrArg Value.ref (rfl : M = M))) (by decide) (by decide) ?_
  show Steps p.tables e below (T11.setTop (mkF m 220 #[.val (.int i0), s1, .val (.int i2), s3, s4, .val (.ref o5), s6, s7, .val (.ref o8), s9, .val (.ref M), .val (.int (1 : Int32)), .val (.int (i2.toInt8.toInt32))] [])) _
  refine XS.aload X11.here hx rfl (hb hby at_220) rfl rfl ?_
  show Steps p.tables e below (T11.setTop (mkF m 222 #[.val (.int i0), s1, .val (.int i2), s3, s4, .val (.ref o5), s6, s7, .val (.ref o8), s9, .val (.ref M), .val (.int (1 : Int32)), .val (.int (i2.toInt8.toInt32))] [(.ref o8)])) _
  refine st12.trans ?_
  show Steps p.tables e below (T12.setTop (mkF m 225 #[.val (.int i0), s1, .val (.int i2), s3, s4, .val (.ref o5), s6, s7, .val (.ref o8), s9, .val (.ref M), .val (.int (1 : Int32)), .val (.int (i2.toInt8.toInt32))] [(.int ((0 : Int32) + (1 : Int32)))])) _
  refine XS.iconst X12.here hx rfl (hb hby at_225) ?_
  show Steps p.tables e below (T12.setTop (mkF m 226 #[.val (.int i0), s1, .val (.int i2), s3, s4, .val (.ref o5), s6, s7, .val (.ref o8), s9, .val (.ref M), .val (.int (1 : Int32)), .val (.int (i2.toInt8.toInt32))] [(.int (1 : Int32)), (.int ((0 : Int32) + (1 : Int32)))])) _
  refine XS.icmpNo X12.here hx rfl (hb hby at_226) rfl (teq (by decide : ((0 : Int32) + (1 : Int32)) = (1 : Int32))).2 ?_
  show Steps p.tables e below (T12.setTop (mkF m 229 #[.val (.int i0), s1, .val (.int i2), s3, s4, .val (.ref o5), s6, s7, .val (.ref o8), s9, .val (.ref M), .val (.int (1 : Int32)), .val (.int (i2.toInt8.toInt32))] [])) _
  refine XS.aload X12.here hx rfl (hb hby at_229) rfl rfl ?_
  show Steps p.tables e below (T12.setTop (mkF m 231 #[.val (.int i0), s1, .val (.int i2), s3, s4, .val (.ref o5), s6, s7, .val (.ref o8), s9, .val (.ref M), .val (.int (1 : Int32)), .val (.int (i2.toInt8.toInt32))] [(.ref o8)])) _
  refine st13.trans ?_
  show Steps p.tables e below (T13.setTop (mkF m 234 #[.val (.int i0), s1, .val (.int i2), s3, s4, .val (.ref o5), s6, s7, .val (.ref o8), s9, .val (.ref M), .val (.int (1 : Int32)), .val (.int (i2.toInt8.toInt32))] [(.int (0 : Int32))])) _
  refine XS.ifNo X13.here hx rfl (hb hby at_234) rfl ((if0 _ _).trans (teq (by decide : (0 : Int32) = (0 : Int32))).2) ?_
  show Steps p.tables e below (T13.setTop (mkF m 237 #[.val (.int i0), s1, .val (.int i2), s3, s4, .val (.ref o5), s6, s7, .val (.ref o8), s9, .val (.ref M), .val (.int (1 : Int32)), .val (.int (i2.toInt8.toInt32))] [])) _
  refine XS.aload X13.here hx rfl (hb hby at_237) rfl rfl ?_
  show Steps p.tables e below (T13.setTop (mkF m 239 #[.val (.int i0), s1, .val (.int i2), s3, s4, .val (.ref o5), s6, s7, .val (.ref o8), s9, .val (.ref M), .val (.int (1 : Int32)), .val (.int (i2.toInt8.toInt32))] [(.ref o8)])) _
  refine XS.iconst X13.here hx rfl (hb hby at_239) ?_
  show Steps p.tables e below (T13.setTop (mkF m 240 #[.val (.int i0), s1, .val (.int i2), s3, s4, .val (.ref o5), s6, s7, .val (.ref o8), s9, .val (.ref M), .val (.int (1 : Int32)), .val (.int (i2.toInt8.toInt32))] [(.int (0 : Int32)), (.ref o8)])) _
  refine st14.trans ?_
  show Steps p.tables e below (T14.setTop (mkF m 243 #[.val (.int i0), s1, .val (.int i2), s3, s4, .val (.ref o5), s6, s7, .val (.ref o8), s9, .val (.ref M), .val (.int (1 : Int32)), .val (.int (i2.toInt8.toInt32))] [(.int (i2.toInt8.toInt32))])) _
  refine XS.iload X14.here hx rfl (hb hby at_243) rfl ?_
  show Steps p.tables e below (T14.setTop (mkF m 245 #[.val (.int i0), s1, .val (.int i2), s3, s4, .val (.ref o5), s6, s7, .val (.ref o8), s9, .val (.ref M), .val (.int (1 : Int32)), .val (.int (i2.toInt8.toInt32))] [(.int (i2.toInt8.toInt32)), (.int (i2.toInt8.toInt32))])) _
  refine XS.icmpNo X14.here hx rfl (hb hby at_245) rfl (teq (rfl : (i2.toInt8.toInt32) = (i2.toInt8.toInt32))).2 ?_
  show Steps p.tables e below (T14.setTop (mkF m 248 #[.val (.int i0), s1, .val (.int i2), s3, s4, .val (.ref o5), s6, s7, .val (.ref o8), s9, .val (.ref M), .val (.int (1 : Int32)), .val (.int (i2.toInt8.toInt32))] [])) _
  refine XS.iconst X14.here hx rfl (hb hby at_248) ?_
  show Steps p.tables e below (T14.setTop (mkF m 249 #[.val (.int i0), s1, .val (.int i2), s3, s4, .val (.ref o5), s6, s7, .val (.ref o8), s9, .val (.ref M), .val (.int (1 : Int32)), .val (.int (i2.toInt8.toInt32))] [(.int (1 : Int32))])) _
  refine XS.goto X14.here hx rfl (pc0 := 249) (pc' := 253) rfl (hb hby at_249) (by decide) (by decide) ?_
  show Steps p.tables e below (T14.setTop (mkF m 253 #[.val (.int i0), s1, .val (.int i2), s3, s4, .val (.ref o5), s6, s7, .val (.ref o8), s9, .val (.ref M), .val (.int (1 : Int32)), .val (.int (i2.toInt8.toInt32))] [(.int (1 : Int32))])) _
  refine XS.istore X14.here hx rfl (hb hby at_253) rfl (l' := #[.val (.int i0), s1, .val (.int i2), s3, s4, .val (.ref o5), s6, s7, .val (.ref o8), s9, .val (.ref M), .val (.int (1 : Int32)), .val (.int (i2.toInt8.toInt32))]) rfl ?_
  show Steps p.tables e below (T14.setTop (mkF m 255 #[.val (.int i0), s1, .val (.int i2), s3, s4, .val (.ref o5), s6, s7, .val (.ref o8), s9, .val (.ref M), .val (.int (1 : Int32)), .val (.int (i2.toInt8.toInt32))] [])) _
  refine XS.iload X14.here hx rfl (hb hby at_255) rfl ?_
  show Steps p.tables e below (T14.setTop (mkF m 257 #[.val (.int i0), s1, .val (.int i2), s3, s4, .val (.ref o5), s6, s7, .val (.ref o8), s9, .val (.ref M), .val (.int (1 : Int32)), .val (.int (i2.toInt8.toInt32))] [(.int (1 : Int32))])) _
  refine XS.ifNo X14.here hx rfl (hb hby at_257) rfl ((if0 _ _).trans (feq (by decide : ¬ ((1 : Int32) = (0 : Int32)))).1) ?_
  show Steps p.tables e below (T14.setTop (mkF m 260 #[.val (.int i0), s1, .val (.int i2), s3, s4, .val (.ref o5), s6, s7, .val (.ref o8), s9, .val (.ref M), .val (.int (1 : Int32)), .val (.int (i2.toInt8.toInt32))] [])) _
  refine XS.aload X14.here hx rfl (hb hby at_260) rfl rfl ?_
  show Steps p.tables e below (T14.setTop (mkF m 262 #[.val (.int i0), s1, .val (.int i2), s3, s4, .val (.ref o5), s6, s7, .val (.ref o8), s9, .val (.ref M), .val (.int (1 : Int32)), .val (.int (i2.toInt8.toInt32))] [(.ref o5)])) _
  refine XS.iconst X14.here hx rfl (hb hby at_262) ?_
  show Steps p.tables e below (T14.setTop (mkF m 263 #[.val (.int i0), s1, .val (.int i2), s3, s4, .val (.ref o5), s6, s7, .val (.ref o8), s9, .val (.ref M), .val (.int (1 : Int32)), .val (.int (i2.toInt8.toInt32))] [(.int (0 : Int32)), (.ref o5)])) _
  refine X14.baloadBytes hx (j := (0 : Int32)) (v := (.int (i0.toInt8.toInt32))) Ar_o5.1 (State.isArrayOf_alike hZ.alike Ar_o5.2.1) Ar_o5.2.2 hin263 hat263 (g := (mkF m 263 #[.val (.int i0), s1, .val (.int i2), s3, s4, .val (.ref o5), s6, s7, .val (.ref o8), s9, .val (.ref M), .val (.int (1 : Int32)), .val (.int (i2.toInt8.toInt32))] [(.int (0 : Int32)), (.ref o5)])) rfl rfl (hb hby at_263) _ ?_
  show Steps p.tables e below (T14.setTop (mkF m 264 #[.val (.int i0), s1, .val (.int i2), s3, s4, .val (.ref o5), s6, s7, .val (.ref o8), s9, .val (.ref M), .val (.int (1 : Int32)), .val (.int (i2.toInt8.toInt32))] [(.int (i0.toInt8.toInt32))])) _
  refine XS.iloadN X14.here hx rfl (hb hby at_264) rfl ?_
  show Steps p.tables e below (T14.setTop (mkF m 265 #[.val (.int i0), s1, .val (.int i2), s3, s4, .val (.ref o5), s6, s7, .val (.ref o8), s9, .val (.ref M), .val (.int (1 : Int32)), .val (.int (i2.toInt8.toInt32))] [(.int i0), (.int (i0.toInt8.toInt32))])) _
  refine XS.i2b X14.here hx rfl (hb hby at_265) rfl ?_
  show Steps p.tables e below (T14.setTop (mkF m 266 #[.val (.int i0), s1, .val (.int i2), s3, s4, .val (.ref o5), s6, s7, .val (.ref o8), s9, .val (.ref M), .val (.int (1 : Int32)), .val (.int (i2.toInt8.toInt32))] [(.int (i0.toInt8.toInt32)), (.int (i0.toInt8.toInt32))])) _
  refine XS.icmpNo X14.here hx rfl (hb hby at_266) rfl (teq rfl).2 ?_
  show Steps p.tables e below (T14.setTop (mkF m 269 #[.val (.int i0), s1, .val (.int i2), s3, s4, .val (.ref o5), s6, s7, .val (.ref o8), s9, .val (.ref M), .val (.int (1 : Int32)), .val (.int (i2.toInt8.toInt32))] [])) _
  refine XS.aload X14.here hx rfl (hb hby at_269) rfl rfl ?_
  show Steps p.tables e below (T14.setTop (mkF m 271 #[.val (.int i0), s1, .val (.int i2), s3, s4, .val (.ref o5), s6, s7, .val (.ref o8), s9, .val (.ref M), .val (.int (1 : Int32)), .val (.int (i2.toInt8.toInt32))] [(.ref o5)])) _
  refine XS.iconst X14.here hx rfl (hb hby at_271) ?_
  show Steps p.tables e below (T14.setTop (mkF m 272 #[.val (.int i0), s1, .val (.int i2), s3, s4, .val (.ref o5), s6, s7, .val (.ref o8), s9, .val (.ref M), .val (.int (1 : Int32)), .val (.int (i2.toInt8.toInt32))] [(.int (1 : Int32)), (.ref o5)])) _
  refine X14.baloadBytes hx (j := (1 : Int32)) (v := (.int ((i0 >>> ((8 : Int32) &&& 31)).toInt8.toInt32))) Ar_o5.1 (State.isArrayOf_alike hZ.alike Ar_o5.2.1) Ar_o5.2.2 hin272 hat272 (g := (mkF m 272 #[.val (.int i0), s1, .val (.int i2), s3, s4, .val (.ref o5), s6, s7, .val (.ref o8), s9, .val (.ref M), .val (.int (1 : Int32)), .val (.int (i2.toInt8.toInt32))] [(.int (1 : Int32)), (.ref o5)])) rfl rfl (hb hby at_272) _ ?_
  show Steps p.tables e below (T14.setTop (mkF m 273 #[.val (.int i0), s1, .val (.int i2), s3, s4, .val (.ref o5), s6, s7, .val (.ref o8), s9, .val (.ref M), .val (.int (1 : Int32)), .val (.int (i2.toInt8.toInt32))] [(.int ((i0 >>> ((8 : Int32) &&& 31)).toInt8.toInt32))])) _
  refine XS.iloadN X14.here hx rfl (hb hby at_273) rfl ?_
  show Steps p.tables e below (T14.setTop (mkF m 274 #[.val (.int i0), s1, .val (.int i2), s3, s4, .val (.ref o5), s6, s7, .val (.ref o8), s9, .val (.ref M), .val (.int (1 : Int32)), .val (.int (i2.toInt8.toInt32))] [(.int i0), (.int ((i0 >>> ((8 : Int32) &&& 31)).toInt8.toInt32))])) _
  refine XS.bipush X14.here hx rfl (hb hby at_274) ?_
  show Steps p.tables e below (T14.setTop (mkF m 276 #[.val (.int i0), s1, .val (.int i2), s3, s4, .val (.ref o5), s6, s7, .val (.ref o8), s9, .val (.ref M), .val (.int (1 : Int32)), .val (.int (i2.toInt8.toInt32))] [(.int (8 : Int32)), (.int i0), (.int ((i0 >>> ((8 : Int32) &&& 31)).toInt8.toInt32))])) _
  refine XS.ishr X14.here hx rfl (hb hby at_276) rfl ?_
  show Steps p.tables e below (T14.setTop (mkF m 277 #[.val (.int i0), s1, .val (.int i2), s3, s4, .val (.ref o5), s6, s7, .val (.ref o8), s9, .val (.ref M), .val (.int (1 : Int32)), .val (.int (i2.toInt8.toInt32))] [(.int (i0 >>> ((8 : Int32) &&& 31))), (.int ((i0 >>> ((8 : Int32) &&& 31)).toInt8.toInt32))])) _
  refine XS.i2b X14.here hx rfl (hb hby at_277) rfl ?_
  show Steps p.tables e below (T14.setTop (mkF m 278 #[.val (.int i0), s1, .val (.int i2), s3, s4, .val (.ref o5), s6, s7, .val (.ref o8), s9, .val (.ref M), .val (.int (1 : Int32)), .val (.int (i2.toInt8.toInt32))] [(.int ((i0 >>> ((8 : Int32) &&& 31)).toInt8.toInt32)), (.int ((i0 >>> ((8 : Int32) &&& 31)).toInt8.toInt32))])) _
  refine XS.icmpNo X14.here hx rfl (hb hby at_278) rfl (teq rfl).2 ?_
  show Steps p.tables e below (T14.setTop (mkF m 281 #[.val (.int i0), s1, .val (.int i2), s3, s4, .val (.ref o5), s6, s7, .val (.ref o8), s9, .val (.ref M), .val (.int (1 : Int32)), .val (.int (i2.toInt8.toInt32))] [])) _
  refine XS.aload X14.here hx rfl (hb hby at_281) rfl rfl ?_
  show Steps p.tables e below (T14.setTop (mkF m 283 #[.val (.int i0), s1, .val (.int i2), s3, s4, .val (.ref o5), s6, s7, .val (.ref o8), s9, .val (.ref M), .val (.int (1 : Int32)), .val (.int (i2.toInt8.toInt32))] [(.ref o5)])) _
  refine XS.iconst X14.here hx rfl (hb hby at_283) ?_
  show Steps p.tables e below (T14.setTop (mkF m 284 #[.val (.int i0), s1, .val (.int i2), s3, s4, .val (.ref o5), s6, s7, .val (.ref o8), s9, .val (.ref M), .val (.int (1 : Int32)), .val (.int (i2.toInt8.toInt32))] [(.int (2 : Int32)), (.ref o5)])) _
  refine X14.baloadBytes hx (j := (2 : Int32)) (v := (.int ((i0 >>> ((16 : Int32) &&& 31)).toInt8.toInt32))) Ar_o5.1 (State.isArrayOf_alike hZ.alike Ar_o5.2.1) Ar_o5.2.2 hin284 hat284 (g := (mkF m 284 #[.val (.int i0), s1, .val (.int i2), s3, s4, .val (.ref o5), s6, s7, .val (.ref o8), s9, .val (.ref M), .val (.int (1 : Int32)), .val (.int (i2.toInt8.toInt32))] [(.int (2 : Int32)), (.ref o5)])) rfl rfl (hb hby at_284) _ ?_
  show Steps p.tables e below (T14.setTop (mkF m 285 #[.val (.int i0), s1, .val (.int i2), s3, s4, .val (.ref o5), s6, s7, .val (.ref o8), s9, .val (.ref M), .val (.int (1 : Int32)), .val (.int (i2.toInt8.toInt32))] [(.int ((i0 >>> ((16 : Int32) &&& 31)).toInt8.toInt32))])) _
  refine XS.iloadN X14.here hx rfl (hb hby at_285) rfl ?_
  show Steps p.tables e below (T14.setTop (mkF m 286 #[.val (.int i0), s1, .val (.int i2), s3, s4, .val (.ref o5), s6, s7, .val (.ref o8), s9, .val (.ref M), .val (.int (1 : Int32)), .val (.int (i2.toInt8.toInt32))] [(.int i0), (.int ((i0 >>> ((16 : Int32) &&& 31)).toInt8.toInt32))])) _
  refine XS.bipush X14.here hx rfl (hb hby at_286) ?_
  show Steps p.tables e below (T14.setTop (mkF m 288 #[.val (.int i0), s1, .val (.int i2), s3, s4, .val (.ref o5), s6, s7, .val (.ref o8), s9, .val (.ref M), .val (.int (1 : Int32)), .val (.int (i2.toInt8.toInt32))] [(.int (16 : Int32)), (.int i0), (.int ((i0 >>> ((16 : Int32) &&& 31)).toInt8.toInt32))])) _
  refine XS.ishr X14.here hx rfl (hb hby at_288) rfl ?_
  show Steps p.tables e below (T14.setTop (mkF m 289 #[.val (.int i0), s1, .val (.int i2), s3, s4, .val (.ref o5), s6, s7, .val (.ref o8), s9, .val (.ref M), .val (.int (1 : Int32)), .val (.int (i2.toInt8.toInt32))] [(.int (i0 >>> ((16 : Int32) &&& 31))), (.int ((i0 >>> ((16 : Int32) &&& 31)).toInt8.toInt32))])) _
  refine XS.i2b X14.here hx rfl (hb hby at_289) rfl ?_
  show Steps p.tables e below (T14.setTop (mkF m 290 #[.val (.int i0), s1, .val (.int i2), s3, s4, .val (.ref o5), s6, s7, .val (.ref o8), s9, .val (.ref M), .val (.int (1 : Int32)), .val (.int (i2.toInt8.toInt32))] [(.int ((i0 >>> ((16 : Int32) &&& 31)).toInt8.toInt32)), (.int ((i0 >>> ((16 : Int32) &&& 31)).toInt8.toInt32))])) _
  refine XS.icmpNo X14.here hx rfl (hb hby at_290) rfl (teq rfl).2 ?_
  show Steps p.tables e below (T14.setTop (mkF m 293 #[.val (.int i0), s1, .val (.int i2), s3, s4, .val (.ref o5), s6, s7, .val (.ref o8), s9, .val (.ref M), .val (.int (1 : Int32)), .val (.int (i2.toInt8.toInt32))] [])) _
  refine XS.aload X14.here hx rfl (hb hby at_293) rfl rfl ?_
  show Steps p.tables e below (T14.setTop (mkF m 295 #[.val (.int i0), s1, .val (.int i2), s3, s4, .val (.ref o5), s6, s7, .val (.ref o8), s9, .val (.ref M), .val (.int (1 : Int32)), .val (.int (i2.toInt8.toInt32))] [(.ref o5)])) _
  refine XS.iconst X14.here hx rfl (hb hby at_295) ?_
  show Steps p.tables e below (T14.setTop (mkF m 296 #[.val (.int i0), s1, .val (.int i2), s3, s4, .val (.ref o5), s6, s7, .val (.ref o8), s9, .val (.ref M), .val (.int (1 : Int32)), .val (.int (i2.toInt8.toInt32))] [(.int (3 : Int32)), (.ref o5)])) _
  refine X14.baloadBytes hx (j := (3 : Int32)) (v := (.int ((i0 >>> ((24 : Int32) &&& 31)).toInt8.toInt32))) Ar_o5.1 (State.isArrayOf_alike hZ.alike Ar_o5.2.1) Ar_o5.2.2 hin296 hat296 (g := (mkF m 296 #[.val (.int i0), s1, .val (.int i2), s3, s4, .val (.ref o5), s6, s7, .val (.ref o8), s9, .val (.ref M), .val (.int (1 : Int32)), .val (.int (i2.toInt8.toInt32))] [(.int (3 : Int32)), (.ref o5)])) rfl rfl (hb hby at_296) _ ?_
  show Steps p.tables e below (T14.setTop (mkF m 297 #[.val (.int i0), s1, .val (.int i2), s3, s4, .val (.ref o5), s6, s7, .val (.ref o8), s9, .val (.ref M), .val (.int (1 : Int32)), .val (.int (i2.toInt8.toInt32))] [(.int ((i0 >>> ((24 : Int32) &&& 31)).toInt8.toInt32))])) _
  refine XS.iloadN X14.here hx rfl (hb hby at_297) rfl ?_
  show Steps p.tables e below (T14.setTop (mkF m 298 #[.val (.int i0), s1, .val (.int i2), s3, s4, .val (.ref o5), s6, s7, .val (.ref o8), s9, .val (.ref M), .val (.int (1 : Int32)), .val (.int (i2.toInt8.toInt32))] [(.int i0), (.int ((i0 >>> ((24 : Int32) &&& 31)).toInt8.toInt32))])) _
  refine XS.bipush X14.here hx rfl (hb hby at_298) ?_
  show Steps p.tables e below (T14.setTop (mkF m 300 #[.val (.int i0), s1, .val (.int i2), s3, s4, .val (.ref o5), s6, s7, .val (.ref o8), s9, .val (.ref M), .val (.int (1 : Int32)), .val (.int (i2.toInt8.toInt32))] [(.int (24 : Int32)), (.int i0), (.int ((i0 >>> ((24 : Int32) &&& 31)).toInt8.toInt32))])) _
  refine XS.ishr X14.here hx rfl (hb hby at_300) rfl ?_
  show Steps p.tables e below (T14.setTop (mkF m 301 #[.val (.int i0), s1, .val (.int i2), s3, s4, .val (.ref o5), s6, s7, .val (.ref o8), s9, .val (.ref M), .val (.int (1 : Int32)), .val (.int (i2.toInt8.toInt32))] [(.int (i0 >>> ((24 : Int32) &&& 31))), (.int ((i0 >>> ((24 : Int32) &&& 31)).toInt8.toInt32))])) _
  refine XS.i2b X14.here hx rfl (hb hby at_301) rfl ?_
  show Steps p.tables e below (T14.setTop (mkF m 302 #[.val (.int i0), s1, .val (.int i2), s3, s4, .val (.ref o5), s6, s7, .val (.ref o8), s9, .val (.ref M), .val (.int (1 : Int32)), .val (.int (i2.toInt8.toInt32))] [(.int ((i0 >>> ((24 : Int32) &&& 31)).toInt8.toInt32)), (.int ((i0 >>> ((24 : Int32) &&& 31)).toInt8.toInt32))])) _
  refine XS.icmpNo X14.here hx rfl (hb hby at_302) rfl (teq rfl).2 ?_
  show Steps p.tables e below (T14.setTop (mkF m 305 #[.val (.int i0), s1, .val (.int i2), s3, s4, .val (.ref o5), s6, s7, .val (.ref o8), s9, .val (.ref M), .val (.int (1 : Int32)), .val (.int (i2.toInt8.toInt32))] [])) _
  refine XS.iconst X14.here hx rfl (hb hby at_305) ?_
  show Steps p.tables e below (T14.setTop (mkF m 306 #[.val (.int i0), s1, .val (.int i2), s3, s4, .val (.ref o5), s6, s7, .val (.ref o8), s9, .val (.ref M), .val (.int (1 : Int32)), .val (.int (i2.toInt8.toInt32))] [(.int (1 : Int32))])) _
  refine XS.goto X14.here hx rfl (pc0 := 306) (pc' := 310) rfl (hb hby at_306) (by decide) (by decide) ?_
  show Steps p.tables e below (T14.setTop (mkF m 310 #[.val (.int i0), s1, .val (.int i2), s3, s4, .val (.ref o5), s6, s7, .val (.ref o8), s9, .val (.ref M), .val (.int (1 : Int32)), .val (.int (i2.toInt8.toInt32))] [(.int (1 : Int32))])) _
  refine XS.istore X14.here hx rfl (hb hby at_310) rfl (l' := #[.val (.int i0), s1, .val (.int i2), s3, s4, .val (.ref o5), s6, s7, .val (.ref o8), s9, .val (.ref M), .val (.int (1 : Int32)), .val (.int (i2.toInt8.toInt32))]) rfl ?_
  exact kt
def own_fr (b : Int32) : Int32 := b &&& (3 : Int32)
def own_to (b : Int32) : Int32 := own_min (4 : Int32) (((b &&& (3 : Int32)) + (1 : Int32)) + (((b.toUInt32 >>> ((2 : Int32) &&& 31).toUInt32).toInt32) &&& (3 : Int32)))
theorem own_m3 (x : Int32) : (x &&& (3 : Int32)).toInt = x.toInt % 4 := Jvm.Kit.i32_mask x 3 (k := 2) (by decide) (by decide)
theorem own_range (b : Int32) : 0 ≤ (b &&& (3 : Int32)).toInt ∧ (b &&& (3 : Int32)).toInt < (own_to b).toInt ∧ (own_to b).toInt ≤ 4 := by
  have e1 := own_m3 b
  have e2 := own_m3 ((b.toUInt32 >>> ((2 : Int32) &&& 31).toUInt32).toInt32)
  unfold own_to own_min
  generalize (((b.toUInt32 >>> ((2 : Int32) &&& 31).toUInt32).toInt32) &&& (3 : Int32)) = y at *
  generalize (b &&& (3 : Int32)) = f at *
  have a1 : (f + (1 : Int32)).toInt = f.toInt + 1 := by rw [Jvm.Kit.i32_add (by rw [own_1]; omega) (by rw [own_1]; omega), own_1]
  have a2 : (f + (1 : Int32) + y).toInt = f.toInt + 1 + y.toInt := by rw [Jvm.Kit.i32_add (by rw [a1]; omega) (by rw [a1]; omega), a1]
  refine ⟨by omega, ?_⟩
  by_cases h : f + (1 : Int32) + y < (4 : Int32)
  · rw [if_pos h, a2]
    rw [Int32.lt_iff_toInt_lt, a2, own_4] at h
    omega
  · rw [if_neg h, own_4]
    omega
def Q0 (Z : State) (p1 : Int32) (p2 : Int32) (p3 : Int32) (p4 : Int32) (p5 : Int32) (h0 : Heap) (n0 : Nat) (v : Option Value) (h : Heap) (L : List Loc) : Prop := v = some (.int 1) ∧ Fr n0 L
theorem pn_0 : plainName "satura/ntriples/SpellingStartMakingPinLaw" = true := by first | (simp [plainName, overriddenIn]; done) | decide +kernel
theorem pd_0_0 : parseMethodDescriptor "(II)I" = some ⟨[.int, .int], some .int⟩ := by decide +kernel
theorem ef_0 (m : MethodId) (x0 : Int32) (x1 : Int32) (x2 : Int32) (x3 : Int32) (x4 : Int32) : entryFrame m #[(.int x0), (.int x1), (.int x2), (.int x3), (.int x4)] maxLocals = mkF m 0 #[.val (.int x0), .val (.int x1), .val (.int x2), .val (.int x3), .val (.int x4), .unset, .unset, .unset, .unset, .unset, .unset, .unset, .unset] [] := by first | (simp [entryFrame, mkF, argsToLocals, Value.category, maxLocals]; done) | rfl
set_option maxRecDepth 65536 in
set_option maxHeartbeats 40000000 in
theorem rm0 (l : Launch) (Z : State) (a0 : Array Value) (hw : ∀ d ∈ tables_1, d.before a0 Z = true) (ws : List Jvm.Cond) (p1 : Int32) (p2 : Int32) (p3 : Int32) (p4 : Int32) (p5 : Int32) (h0 : Heap) (n0 : Nat) (Z0 : n0 ≤ h0.size) :
    MetFree l x (head1 (Jvm.Cond.code x code maxLocals ret :: ws) room_1) (fun a U => a = #[(.int p1), (.int p2), (.int p3), (.int p4), (.int p5)] ∧ Z.Warmed39 U.vm ∧ U.heap = h0) (fun _ _ _ _ _ => True) (fun _ U o U' => ∃ v L, o = .returned v ∧ Q0 Z p1 p2 p3 p4 p5 h0 n0 v U'.heap L ∧ FrameEnd U o U' L room_1.cells room_1.slots) := by
  refine MetFree.of_bodySF (plainFor_of_name pn_0) hisR ?_
  intro p e s m args below meth c s₁ Bd hml0 hP hK
  obtain ⟨rfl, hZ, hh⟩ := hP
  have hx := Bd.exec
  have hby := Bd.bytes
  have hml : c.maxLocals = 13 := hml0
  have hown : s.vm.findClass "satura/ntriples/SpellingStartMakingPinLaw" = some m.cls := findClass_of_methodNamed Bd.named
  have hnm := (name_of_methodNamed Bd.named Bd.method).1
  have X0 : Stand p l e room_1 s m #[(.int p1), (.int p2), (.int p3), (.int p4), (.int p5)] below meth c s₁ [] 0 0 := Stand.of_body Bd
  have e0 : s₁.heap = h0 := by rw [← hh, Bd.state]; rfl
  have N0 := Fr.nil n0
  have pre0 : ∀ t, Steps p.tables e below (s₁.setTop (mkF m 0 #[.val (.int p1), .val (.int p2), .val (.int p3), .val (.int p4), .val (.int p5), .unset, .unset, .unset, .unset, .unset, .unset, .unset, .unset] [])) t → Steps p.tables e below (s₁.setTop (entryFrame m #[(.int p1), (.int p2), (.int p3), (.int p4), (.int p5)] maxLocals)) t := fun t k => castTop (ef_0 m p1 p2 p3 p4 p5) k
  obtain ⟨T6, h6, k6, X6, e6, E6, A6, st6⟩ := newP X0 hx hZ (hw _ (List.mem_of_getElem? (i := 0) rfl)) e0 (g := (mkF m 1 #[.val (.int p1), .val (.int p2), .val (.int p3), .val (.int p4), .val (.int p5), .unset, .unset, .unset, .unset, .unset, .unset, .unset, .unset] [(.int (4 : Int32))])) rfl (hb hby at_1) rfl (by decide) (cap := 4) (by decide) (by decide) (by decide) (by decide)
  obtain ⟨b6, g6⟩ : ∃ z, z = h0.size := ⟨_, rfl⟩
  rw [← g6] at A6 st6
  have V_b6 : Arv Z h6 b6 k6 .byte (4 : Int32) [(.int (0 : Int32)), (.int (0 : Int32)), (.int (0 : Int32)), (.int (0 : Int32))] (.int (0 : Int32)) := (Arv.new A6 (by decide)).pad (pad_rep [] (.int (0 : Int32)) 4)
  have g_b6 : n0 ≤ b6 := Nat.le_trans Z0 (Nat.le_of_eq g6.symm)
  have sz_b6 : h0.size ≤ b6 := (Nat.le_trans (Keep.refl h0 []).1 (Nat.le_of_eq g6.symm))
  have K6 : Keep h0 h6 [] := (Keep.refl h0 []).ext E6
  obtain ⟨cl_b6_10, Ar_b6, q_b6, S_b6, N_b6, H_b6, G_b6⟩ := V_b6
  have hin10 : ¬ ((0 : Int32) < 0 ∨ cl_b6_10.slots.size ≤ ((0 : Int32)).toNatClampNeg) := inb_of S_b6 ⟨by decide, by decide⟩
  obtain ⟨T7, h7, X7, e7, W7, st7⟩ := stB X6 hx hZ e6 Ar_b6 (j := (0 : Int32)) hin10 (g := (mkF m 10 #[.val (.int p1), .val (.int p2), .val (.int p3), .val (.int p4), .val (.int p5), .val (.ref b6), .unset, .unset, .unset, .unset, .unset, .unset, .unset] [(.int (p1.toInt8.toInt32)), (.int (0 : Int32)), (.ref b6)])) rfl rfl (hb hby at_10)
  have V_b6_7 := Arv.set Ar_b6 q_b6 S_b6 N_b6 H_b6 G_b6 (fits_nar_byte _) W7 0 rfl (Nat.le_of_ble_eq_true rfl)
  have K7 : Keep h0 h7 [] := K6.wr W7 (Or.inr sz_b6)
  have N7 := Fr.snoc X7 N0 g_b6
  obtain ⟨cl_b6_19, Ar_b6, q_b6, S_b6, N_b6, H_b6, G_b6⟩ := V_b6_7
  have hin19 : ¬ ((1 : Int32) < 0 ∨ cl_b6_19.slots.size ≤ ((1 : Int32)).toNatClampNeg) := inb_of S_b6 ⟨by decide, by decide⟩
  obtain ⟨T8, h8, X8, e8, W8, st8⟩ := stB X7 hx hZ e7 Ar_b6 (j := (1 : Int32)) hin19 (g := (mkF m 19 #[.val (.int p1), .val (.int p2), .val (.int p3), .val (.int p4), .val (.int p5), .val (.ref b6), .unset, .unset, .unset, .unset, .unset, .unset, .unset] [(.int ((p1 >>> ((8 : Int32) &&& 31)).toInt8.toInt32)), (.int (1 : Int32)), (.ref b6)])) rfl rfl (hb hby at_19)
  have V_b6_8 := Arv.set Ar_b6 q_b6 S_b6 N_b6 H_b6 G_b6 (fits_nar_byte _) W8 1 rfl (Nat.le_of_ble_eq_true rfl)
  have K8 : Keep h0 h8 [] := K7.wr W8 (Or.inr sz_b6)
  have N8 := Fr.snoc X8 N7 g_b6
  obtain ⟨cl_b6_28, Ar_b6, q_b6, S_b6, N_b6, H_b6, G_b6⟩ := V_b6_8
  have hin28 : ¬ ((2 : Int32) < 0 ∨ cl_b6_28.slots.size ≤ ((2 : Int32)).toNatClampNeg) := inb_of S_b6 ⟨by decide, by decide⟩
  obtain ⟨T9, h9, X9, e9, W9, st9⟩ := stB X8 hx hZ e8 Ar_b6 (j := (2 : Int32)) hin28 (g := (mkF m 28 #[.val (.int p1), .val (.int p2), .val (.int p3), .val (.int p4), .val (.int p5), .val (.ref b6), .unset, .unset, .unset, .unset, .unset, .unset, .unset] [(.int ((p1 >>> ((16 : Int32) &&& 31)).toInt8.toInt32)), (.int (2 : Int32)), (.ref b6)])) rfl rfl (hb hby at_28)
  have V_b6_9 := Arv.set Ar_b6 q_b6 S_b6 N_b6 H_b6 G_b6 (fits_nar_byte _) W9 2 rfl (Nat.le_of_ble_eq_true rfl)
  have K9 : Keep h0 h9 [] := K8.wr W9 (Or.inr sz_b6)
  have N9 := Fr.snoc X9 N8 g_b6
  obtain ⟨cl_b6_37, Ar_b6, q_b6, S_b6, N_b6, H_b6, G_b6⟩ := V_b6_9
  have hin37 : ¬ ((3 : Int32) < 0 ∨ cl_b6_37.slots.size ≤ ((3 : Int32)).toNatClampNeg) := inb_of S_b6 ⟨by decide, by decide⟩
  obtain ⟨T10, h10, X10, e10, W10, st10⟩ := stB X9 hx hZ e9 Ar_b6 (j := (3 : Int32)) hin37 (g := (mkF m 37 #[.val (.int p1), .val (.int p2), .val (.int p3), .val (.int p4), .val (.int p5), .val (.ref b6), .unset, .unset, .unset, .unset, .unset, .unset, .unset] [(.int ((p1 >>> ((24 : Int32) &&& 31)).toInt8.toInt32)), (.int (3 : Int32)), (.ref b6)])) rfl rfl (hb hby at_37)
  have V_b6_10 := Arv.set Ar_b6 q_b6 S_b6 N_b6 H_b6 G_b6 (fits_nar_byte _) W10 3 rfl (Nat.le_of_ble_eq_true rfl)
  have K10 : Keep h0 h10 [] := K9.wr W10 (Or.inr sz_b6)
  have N10 := Fr.snoc X10 N9 g_b6
  obtain ⟨_, _, ⟨T11, L11, k11, n11⟩, -, X11, ⟨Lc11, hQ11, l11, y11, z11⟩, st11⟩ := Jvm.LawKit.callS X10 hx (y := (⟨"java/lang/Math", "min", "(II)I"⟩ : MethodName)) hown (mvT hZ (hw _ (List.mem_of_getElem? (i := 1) rfl))) (mvT hZ (hw _ (List.mem_of_getElem? (i := 2) rfl))) (mvT hZ (hw _ (List.mem_of_getElem? (i := 3) rfl))) (mvT hZ (hw _ (List.mem_of_getElem? (i := 4) rfl))) (by decide) (backOf (W := 0) (rm1 l Z a0 hw [] (4 : Int32) (((p2 &&& (3 : Int32)) + (1 : Int32)) + (((p2.toUInt32 >>> ((2 : Int32) &&& 31).toUInt32).toInt32) &&& (3 : Int32))) h10 n0 (Nat.le_trans Z0 K10.1)) hZ (hw _ (List.mem_of_getElem? (i := 4) rfl)) (hw _ (List.mem_of_getElem? (i := 3) rfl)) (by decide) (by decide)) (g := (mkF m 54 #[.val (.int p1), .val (.int p2), .val (.int p3), .val (.int p4), .val (.int p5), .val (.ref b6), .val (.int (p2 &&& (3 : Int32))), .unset, .unset, .unset, .unset, .unset, .unset] [(.int (((p2 &&& (3 : Int32)) + (1 : Int32)) + (((p2.toUInt32 >>> ((2 : Int32) &&& 31).toUInt32).toInt32) &&& (3 : Int32)))), (.int (4 : Int32))])) rfl (by rw [hml]; rfl) (argsL := [(.int (4 : Int32)), (.int (((p2 &&& (3 : Int32)) + (1 : Int32)) + (((p2.toUInt32 >>> ((2 : Int32) &&& 31).toUInt32).toInt32) &&& (3 : Int32))))]) (rest := []) (lenOf pd_0_0 rfl) rfl (by show 2 * 0 + _ ≤ _; exact Nat.le_of_eq rfl) (hb hby at_54) (fun _ _ => ⟨rfl, e10, (by decide : 1 + 0 ≤ _), (by decide : 4 + 0 ≤ _)⟩)
  dsimp only [Pt.U, Pt.locs, Pt.cells, Pt.slots] at X11 l11 y11 z11 st11 hQ11
  subst l11 y11 z11
  obtain ⟨rfl, N11q, f1⟩ := hQ11
  have N11 := Fr.app N10 N11q
  have KT1 : Keep h0 T11.heap [] := by rw [f1]; exact K10
  obtain ⟨T12, h12, X12, e12, E12, A12, D12, -, st12⟩ := newO X11 hx hZ hown (hw _ (List.mem_of_getElem? (i := 5) rfl)) (hw _ (List.mem_of_getElem? (i := 6) rfl)) (hw _ (List.mem_of_getElem? (i := 7) rfl)) rfl (g := (mkF m 59 #[.val (.int p1), .val (.int p2), .val (.int p3), .val (.int p4), .val (.int p5), .val (.ref b6), .val (.int (p2 &&& (3 : Int32))), .val (.int (own_to p2)), .unset, .unset, .unset, .unset, .unset] [])) rfl (hb hby at_59) (by decide) (by decide)
  obtain ⟨b12, g12⟩ : ∃ z, z = T11.heap.size := ⟨_, rfl⟩
  rw [← g12] at A12 D12 st12
  have F_made_b12 : Fld Z h12 b12 "satura/ntriples/Spelling" "made" "[B" .null := D12 (Or.inl (hw _ (List.mem_of_getElem? (i := 15) rfl))) (ty := (.array .byte)) (by decide)
  have F_bytes_b12 : Fld Z h12 b12 "satura/ntriples/Spelling" "bytes" "[B" .null := D12 (Or.inl (hw _ (List.mem_of_getElem? (i := 22) rfl))) (ty := (.array .byte)) (by decide)
  have F_offset_b12 : Fld Z h12 b12 "satura/ntriples/Spelling" "offset" "I" (.int (0 : Int32)) := D12 (Or.inl (hw _ (List.mem_of_getElem? (i := 24) rfl))) (ty := .int) (by decide)
  have F_length_b12 : Fld Z h12 b12 "satura/ntriples/Spelling" "length" "I" (.int (0 : Int32)) := D12 (Or.inl (hw _ (List.mem_of_getElem? (i := 26) rfl))) (ty := .int) (by decide)
  have E_b12 := A12
  have g_b12 : n0 ≤ b12 := Nat.le_trans (Nat.le_trans (Nat.le_trans (Nat.le_trans (Nat.le_trans (Nat.le_trans (Nat.le_trans Z0 E6.1) (Keep.of_wr W7).1) (Keep.of_wr W8).1) (Keep.of_wr W9).1) (Keep.of_wr W10).1) (own_keep_eq f1 []).1) (Nat.le_of_eq g12.symm)
  have ZO : n0 ≤ h12.size := Nat.le_trans (Nat.le_trans Z0 KT1.1) E12.1
  have sz_b12 : h0.size ≤ b12 := (Nat.le_trans KT1.1 (Nat.le_of_eq g12.symm))
  have K12 : Keep h0 h12 [] := KT1.ext E12
  obtain ⟨_, _, ⟨T13, L13, k13, n13⟩, -, X13, ⟨Lc13, hQ13, l13, y13, z13⟩, st13⟩ := X12.specialBack hx (y := (⟨"satura/ntriples/Spelling", "<init>", "()V"⟩ : MethodName)) rfl hown (mvT hZ (hw _ (List.mem_of_getElem? (i := 8) rfl))) (mvT hZ (hw _ (List.mem_of_getElem? (i := 9) rfl))) (mvT hZ (hw _ (List.mem_of_getElem? (i := 10) rfl))) (by decide) (backOf (W := 1) (rm2 l Z a0 hw [] b12 .null h12 n0 ZO E_b12 F_made_b12 g_b12 F_bytes_b12 F_offset_b12 F_length_b12) hZ (hw _ (List.mem_of_getElem? (i := 10) rfl)) (hw _ (List.mem_of_getElem? (i := 7) rfl)) (by decide) (by decide)) (g := (mkF m 63 #[.val (.int p1), .val (.int p2), .val (.int p3), .val (.int p4), .val (.int p5), .val (.ref b6), .val (.int (p2 &&& (3 : Int32))), .val (.int (own_to p2)), .unset, .unset, .unset, .unset, .unset] [(.ref b12), (.ref b12)])) rfl (by rw [hml]; rfl) (Steps.refl _) (a := b12) (argsL := []) (rest := [(.ref b12)]) (lenOf pd_0_1 rfl) rfl (by show 2 * 0 + _ ≤ _; exact Nat.le_of_eq rfl) (hb hby at_63) (fun _ _ => ⟨rfl, e12, (by decide : 2 + 1 ≤ _), (by decide : 8 + 64 ≤ _)⟩)
  dsimp only [Pt.U, Pt.locs, Pt.cells, Pt.slots] at X13 l13 y13 z13 st13 hQ13
  subst l13 y13 z13
  obtain ⟨rfl, N13q, K2, M, kM, vs, hM, S2⟩ := hQ13
  have N13 := Fr.app N11 N13q
  have VT0 : Arv Z h10 b6 k6 .byte (4 : Int32) [(.int (p1.toInt8.toInt32)), (.int ((p1 >>> ((8 : Int32) &&& 31)).toInt8.toInt32)), (.int ((p1 >>> ((16 : Int32) &&& 31)).toInt8.toInt32)), (.int ((p1 >>> ((24 : Int32) &&& 31)).toInt8.toInt32))] (.int (0 : Int32)) := by
    have q := V_b6_10
    simp only [nar, Int8.toInt8_toInt32] at q
    exact q
  have VT1 := VT0
  rw [← f1] at VT1
  have hTO : b6 ≠ b12 := Nat.ne_of_lt (Nat.lt_of_lt_of_le VT1.lt (Nat.le_of_eq g12.symm))
  have VT2 := (VT1.ext E12).keep K2 (own_nm1 hTO)
  have hTM : b6 ≠ M := Nat.ne_of_lt (Nat.lt_of_lt_of_le (VT1.ext E12).lt hM)
  have g_M : n0 ≤ M := Nat.le_trans ZO hM
  obtain ⟨r1, r2, r3⟩ := own_range p2
  obtain ⟨TA, hA, LA, ub', uo', ul', vs', XA, eA, NA, KA, SA, stA⟩ := modes p1 p2 p3 p4 p5 b6 (p2 &&& (3 : Int32)) (own_to p2) b12 X13 hx hZ hw hby hml hown rfl (Nat.le_trans ZO K2.1) N13 M kM k6 _ _ _ vs _ S2 VT2 g_b12 g_M hTO hTM r1 r2 r3
  obtain ⟨TB, hB, LB, XB, eB, NB, stB'⟩ := half p1 (.val (.int p2)) p3 (.val (.int p4)) (.val (.int p5)) b6 (.val (.int (p2 &&& (3 : Int32)))) (.val (.int (own_to p2))) b12 (.val (.int (p5 &&& (3 : Int32)))) .unset .unset .unset XA hx hZ hw hby hml hown eA (Nat.le_trans (Nat.le_trans ZO K2.1) KA.1) NA M kM k6 ub' uo' ul' vs' SA (VT2.keep KA (own_nm2 hTO hTM)) g_b12 g_M hTO hTM One.u One.u One.u
  obtain ⟨fs, hr, hrun, hended, hW, hsame⟩ := XB.leave (v := some (.int (1 : Int32))) (fun h => by rw [Bd.returns] at h; cases h)
  refine ⟨_, _, pre0 _ ?_, hrun, hended, _, _, rfl, ?_, ⟨_, rfl⟩, hW, hsame.mono (by decide) (by decide)⟩
  · show Steps p.tables e below (s₁.setTop (mkF m 0 #[.val (.int p1), .val (.int p2), .val (.int p3), .val (.int p4), .val (.int p5), .unset, .unset, .unset, .unset, .unset, .unset, .unset, .unset] [])) _
    refine XS.iconst X0.here hx rfl (hb hby at_0) ?_
    show Steps p.tables e below (s₁.setTop (mkF m 1 #[.val (.int p1), .val (.int p2), .val (.int p3), .val (.int p4), .val (.int p5), .unset, .unset, .unset, .unset, .unset, .unset, .unset, .unset] [(.int (4 : Int32))])) _
    refine st6 _ ?_
    show Steps p.tables e below (T6.setTop (mkF m 3 #[.val (.int p1), .val (.int p2), .val (.int p3), .val (.int p4), .val (.int p5), .unset, .unset, .unset, .unset, .unset, .unset, .unset, .unset] [(.ref b6)])) _
    refine XS.astore X6.here hx rfl (hb hby at_3) rfl rfl (l' := #[.val (.int p1), .val (.int p2), .val (.int p3), .val (.int p4), .val (.int p5), .val (.ref b6), .unset, .unset, .unset, .unset, .unset, .unset, .unset]) rfl ?_
    show Steps p.tables e below (T6.setTop (mkF m 5 #[.val (.int p1), .val (.int p2), .val (.int p3), .val (.int p4), .val (.int p5), .val (.ref b6), .unset, .unset, .unset, .unset, .unset, .unset, .unset] [])) _
    refine XS.aload X6.here hx rfl (hb hby at_5) rfl rfl ?_
    show Steps p.tables e below (T6.setTop (mkF m 7 #[.val (.int p1), .val (.int p2), .val (.int p3), .val (.int p4), .val (.int p5), .val (.ref b6), .unset, .unset, .unset, .unset, .unset, .unset, .unset] [(.ref b6)])) _
    refine XS.iconst X6.here hx rfl (hb hby at_7) ?_
    show Steps p.tables e below (T6.setTop (mkF m 8 #[.val (.int p1), .val (.int p2), .val (.int p3), .val (.int p4), .val (.int p5), .val (.ref b6), .unset, .unset, .unset, .unset, .unset, .unset, .unset] [(.int (0 : Int32)), (.ref b6)])) _
    refine XS.iloadN X6.here hx rfl (hb hby at_8) rfl ?_
    show Steps p.tables e below (T6.setTop (mkF m 9 #[.val (.int p1), .val (.int p2), .val (.int p3), .val (.int p4), .val (.int p5), .val (.ref b6), .unset, .unset, .unset, .unset, .unset, .unset, .unset] [(.int p1), (.int (0 : Int32)), (.ref b6)])) _
    refine XS.i2b X6.here hx rfl (hb hby at_9) rfl ?_
    show Steps p.tables e below (T6.setTop (mkF m 10 #[.val (.int p1), .val (.int p2), .val (.int p3), .val (.int p4), .val (.int p5), .val (.ref b6), .unset, .unset, .unset, .unset, .unset, .unset, .unset] [(.int (p1.toInt8.toInt32)), (.int (0 : Int32)), (.ref b6)])) _
    refine st7 _ ?_
    show Steps p.tables e below (T7.setTop (mkF m 11 #[.val (.int p1), .val (.int p2), .val (.int p3), .val (.int p4), .val (.int p5), .val (.ref b6), .unset, .unset, .unset, .unset, .unset, .unset, .unset] [])) _
    refine XS.aload X7.here hx rfl (hb hby at_11) rfl rfl ?_
    show Steps p.tables e below (T7.setTop (mkF m 13 #[.val (.int p1), .val (.int p2), .val (.int p3), .val (.int p4), .val (.int p5), .val (.ref b6), .unset, .unset, .unset, .unset, .unset, .unset, .unset] [(.ref b6)])) _
    refine XS.iconst X7.here hx rfl (hb hby at_13) ?_
    show Steps p.tables e below (T7.setTop (mkF m 14 #[.val (.int p1), .val (.int p2), .val (.int p3), .val (.int p4), .val (.int p5), .val (.ref b6), .unset, .unset, .unset, .unset, .unset, .unset, .unset] [(.int (1 : Int32)), (.ref b6)])) _
    refine XS.iloadN X7.here hx rfl (hb hby at_14) rfl ?_
    show Steps p.tables e below (T7.setTop (mkF m 15 #[.val (.int p1), .val (.int p2), .val (.int p3), .val (.int p4), .val (.int p5), .val (.ref b6), .unset, .unset, .unset, .unset, .unset, .unset, .unset] [(.int p1), (.int (1 : Int32)), (.ref b6)])) _
    refine XS.bipush X7.here hx rfl (hb hby at_15) ?_
    show Steps p.tables e below (T7.setTop (mkF m 17 #[.val (.int p1), .val (.int p2), .val (.int p3), .val (.int p4), .val (.int p5), .val (.ref b6), .unset, .unset, .unset, .unset, .unset, .unset, .unset] [(.int (8 : Int32)), (.int p1), (.int (1 : Int32)), (.ref b6)])) _
    refine XS.ishr X7.here hx rfl (hb hby at_17) rfl ?_
    show Steps p.tables e below (T7.setTop (mkF m 18 #[.val (.int p1), .val (.int p2), .val (.int p3), .val (.int p4), .val (.int p5), .val (.ref b6), .unset, .unset, .unset, .unset, .unset, .unset, .unset] [(.int (p1 >>> ((8 : Int32) &&& 31))), (.int (1 : Int32)), (.ref b6)])) _
    refine XS.i2b X7.here hx rfl (hb hby at_18) rfl ?_
    show Steps p.tables e below (T7.setTop (mkF m 19 #[.val (.int p1), .val (.int p2), .val (.int p3), .val (.int p4), .val (.int p5), .val (.ref b6), .unset, .unset, .unset, .unset, .unset, .unset, .unset] [(.int ((p1 >>> ((8 : Int32) &&& 31)).toInt8.toInt32)), (.int (1 : Int32)), (.ref b6)])) _
    refine st8 _ ?_
    show Steps p.tables e below (T8.setTop (mkF m 20 #[.val (.int p1), .val (.int p2), .val (.int p3), .val (.int p4), .val (.int p5), .val (.ref b6), .unset, .unset, .unset, .unset, .unset, .unset, .unset] [])) _
    refine XS.aload X8.here hx rfl (hb hby at_20) rfl rfl ?_
    show Steps p.tables e below (T8.setTop (mkF m 22 #[.val (.int p1), .val (.int p2), .val (.int p3), .val (.int p4), .val (.int p5), .val (.ref b6), .unset, .unset, .unset, .unset, .unset, .unset, .unset] [(.ref b6)])) _
    refine XS.iconst X8.here hx rfl (hb hby at_22) ?_
    show Steps p.tables e below (T8.setTop (mkF m 23 #[.val (.int p1), .val (.int p2), .val (.int p3), .val (.int p4), .val (.int p5), .val (.ref b6), .unset, .unset, .unset, .unset, .unset, .unset, .unset] [(.int (2 : Int32)), (.ref b6)])) _
    refine XS.iloadN X8.here hx rfl (hb hby at_23) rfl ?_
    show Steps p.tables e below (T8.setTop (mkF m 24 #[.val (.int p1), .val (.int p2), .val (.int p3), .val (.int p4), .val (.int p5), .val (.ref b6), .unset, .unset, .unset, .unset, .unset, .unset, .unset] [(.int p1), (.int (2 : Int32)), (.ref b6)])) _
    refine XS.bipush X8.here hx rfl (hb hby at_24) ?_
    show Steps p.tables e below (T8.setTop (mkF m 26 #[.val (.int p1), .val (.int p2), .val (.int p3), .val (.int p4), .val (.int p5), .val (.ref b6), .unset, .unset, .unset, .unset, .unset, .unset, .unset] [(.int (16 : Int32)), (.int p1), (.int (2 : Int32)), (.ref b6)])) _
    refine XS.ishr X8.here hx rfl (hb hby at_26) rfl ?_
    show Steps p.tables e below (T8.setTop (mkF m 27 #[.val (.int p1), .val (.int p2), .val (.int p3), .val (.int p4), .val (.int p5), .val (.ref b6), .unset, .unset, .unset, .unset, .unset, .unset, .unset] [(.int (p1 >>> ((16 : Int32) &&& 31))), (.int (2 : Int32)), (.ref b6)])) _
    refine XS.i2b X8.here hx rfl (hb hby at_27) rfl ?_
    show Steps p.tables e below (T8.setTop (mkF m 28 #[.val (.int p1), .val (.int p2), .val (.int p3), .val (.int p4), .val (.int p5), .val (.ref b6), .unset, .unset, .unset, .unset, .unset, .unset, .unset] [(.int ((p1 >>> ((16 : Int32) &&& 31)).toInt8.toInt32)), (.int (2 : Int32)), (.ref b6)])) _
    refine st9 _ ?_
    show Steps p.tables e below (T9.setTop (mkF m 29 #[.val (.int p1), .val (.int p2), .val (.int p3), .val (.int p4), .val (.int p5), .val (.ref b6), .unset, .unset, .unset, .unset, .unset, .unset, .unset] [])) _
    refine XS.aload X9.here hx rfl (hb hby at_29) rfl rfl ?_
    show Steps p.tables e below (T9.setTop (mkF m 31 #[.val (.int p1), .val (.int p2), .val (.int p3), .val (.int p4), .val (.int p5), .val (.ref b6), .unset, .unset, .unset, .unset, .unset, .unset, .unset] [(.ref b6)])) _
    refine XS.iconst X9.here hx rfl (hb hby at_31) ?_
    show Steps p.tables e below (T9.setTop (mkF m 32 #[.val (.int p1), .val (.int p2), .val (.int p3), .val (.int p4), .val (.int p5), .val (.ref b6), .unset, .unset, .unset, .unset, .unset, .unset, .unset] [(.int (3 : Int32)), (.ref b6)])) _
    refine XS.iloadN X9.here hx rfl (hb hby at_32) rfl ?_
    show Steps p.tables e below (T9.setTop (mkF m 33 #[.val (.int p1), .val (.int p2), .val (.int p3), .val (.int p4), .val (.int p5), .val (.ref b6), .unset, .unset, .unset, .unset, .unset, .unset, .unset] [(.int p1), (.int (3 : Int32)), (.ref b6)])) _
    refine XS.bipush X9.here hx rfl (hb hby at_33) ?_
    show Steps p.tables e below (T9.setTop (mkF m 35 #[.val (.int p1), .val (.int p2), .val (.int p3), .val (.int p4), .val (.int p5), .val (.ref b6), .unset, .unset, .unset, .unset, .unset, .unset, .unset] [(.int (24 : Int32)), (.int p1), (.int (3 : Int32)), (.ref b6)])) _
    refine XS.ishr X9.here hx rfl (hb hby at_35) rfl ?_
    show Steps p.tables e below (T9.setTop (mkF m 36 #[.val (.int p1), .val (.int p2), .val (.int p3), .val (.int p4), .val (.int p5), .val (.ref b6), .unset, .unset, .unset, .unset, .unset, .unset, .unset] [(.int (p1 >>> ((24 : Int32) &&& 31))), (.int (3 : Int32)), (.ref b6)])) _
    refine XS.i2b X9.here hx rfl (hb hby at_36) rfl ?_
    show Steps p.tables e below (T9.setTop (mkF m 37 #[.val (.int p1), .val (.int p2), .val (.int p3), .val (.int p4), .val (.int p5), .val (.ref b6), .unset, .unset, .unset, .unset, .unset, .unset, .unset] [(.int ((p1 >>> ((24 : Int32) &&& 31)).toInt8.toInt32)), (.int (3 : Int32)), (.ref b6)])) _
    refine st10 _ ?_
    show Steps p.tables e below (T10.setTop (mkF m 38 #[.val (.int p1), .val (.int p2), .val (.int p3), .val (.int p4), .val (.int p5), .val (.ref b6), .unset, .unset, .unset, .unset, .unset, .unset, .unset] [])) _
    refine XS.iloadN X10.here hx rfl (hb hby at_38) rfl ?_
    show Steps p.tables e below (T10.setTop (mkF m 39 #[.val (.int p1), .val (.int p2), .val (.int p3), .val (.int p4), .val (.int p5), .val (.ref b6), .unset, .unset, .unset, .unset, .unset, .unset, .unset] [(.int p2)])) _
    refine XS.iconst X10.here hx rfl (hb hby at_39) ?_
    show Steps p.tables e below (T10.setTop (mkF m 40 #[.val (.int p1), .val (.int p2), .val (.int p3), .val (.int p4), .val (.int p5), .val (.ref b6), .unset, .unset, .unset, .unset, .unset, .unset, .unset] [(.int (3 : Int32)), (.int p2)])) _
    refine XS.iand X10.here hx rfl (hb hby at_40) rfl ?_
    show Steps p.tables e below (T10.setTop (mkF m 41 #[.val (.int p1), .val (.int p2), .val (.int p3), .val (.int p4), .val (.int p5), .val (.ref b6), .unset, .unset, .unset, .unset, .unset, .unset, .unset] [(.int (p2 &&& (3 : Int32)))])) _
    refine XS.istore X10.here hx rfl (hb hby at_41) rfl (l' := #[.val (.int p1), .val (.int p2), .val (.int p3), .val (.int p4), .val (.int p5), .val (.ref b6), .val (.int (p2 &&& (3 : Int32))), .unset, .unset, .unset, .unset, .unset, .unset]) rfl ?_
    show Steps p.tables e below (T10.setTop (mkF m 43 #[.val (.int p1), .val (.int p2), .val (.int p3), .val (.int p4), .val (.int p5), .val (.ref b6), .val (.int (p2 &&& (3 : Int32))), .unset, .unset, .unset, .unset, .unset, .unset] [])) _
    refine XS.iconst X10.here hx rfl (hb hby at_43) ?_
    show Steps p.tables e below (T10.setTop (mkF m 44 #[.val (.int p1), .val (.int p2), .val (.int p3), .val (.int p4), .val (.int p5), .val (.ref b6), .val (.int (p2 &&& (3 : Int32))), .unset, .unset, .unset, .unset, .unset, .unset] [(.int (4 : Int32))])) _
    refine XS.iload X10.here hx rfl (hb hby at_44) rfl ?_
    show Steps p.tables e below (T10.setTop (mkF m 46 #[.val (.int p1), .val (.int p2), .val (.int p3), .val (.int p4), .val (.int p5), .val (.ref b6), .val (.int (p2 &&& (3 : Int32))), .unset, .unset, .unset, .unset, .unset, .unset] [(.int (p2 &&& (3 : Int32))), (.int (4 : Int32))])) _
    refine XS.iconst X10.here hx rfl (hb hby at_46) ?_
    show Steps p.tables e below (T10.setTop (mkF m 47 #[.val (.int p1), .val (.int p2), .val (.int p3), .val (.int p4), .val (.int p5), .val (.ref b6), .val (.int (p2 &&& (3 : Int32))), .unset, .unset, .unset, .unset, .unset, .unset] [(.int (1 : Int32)), (.int (p2 &&& (3 : Int32))), (.int (4 : Int32))])) _
    refine XS.iadd X10.here hx rfl (hb hby at_47) rfl ?_
    show Steps p.tables e below (T10.setTop (mkF m 48 #[.val (.int p1), .val (.int p2), .val (.int p3), .val (.int p4), .val (.int p5), .val (.ref b6), .val (.int (p2 &&& (3 : Int32))), .unset, .unset, .unset, .unset, .unset, .unset] [(.int ((p2 &&& (3 : Int32)) + (1 : Int32))), (.int (4 : Int32))])) _
    refine XS.iloadN X10.here hx rfl (hb hby at_48) rfl ?_
    show Steps p.tables e below (T10.setTop (mkF m 49 #[.val (.int p1), .val (.int p2), .val (.int p3), .val (.int p4), .val (.int p5), .val (.ref b6), .val (.int (p2 &&& (3 : Int32))), .unset, .unset, .unset, .unset, .unset, .unset] [(.int p2), (.int ((p2 &&& (3 : Int32)) + (1 : Int32))), (.int (4 : Int32))])) _
    refine XS.iconst X10.here hx rfl (hb hby at_49) ?_
    show Steps p.tables e below (T10.setTop (mkF m 50 #[.val (.int p1), .val (.int p2), .val (.int p3), .val (.int p4), .val (.int p5), .val (.ref b6), .val (.int (p2 &&& (3 : Int32))), .unset, .unset, .unset, .unset, .unset, .unset] [(.int (2 : Int32)), (.int p2), (.int ((p2 &&& (3 : Int32)) + (1 : Int32))), (.int (4 : Int32))])) _
    refine XS.iushr X10.here hx rfl (hb hby at_50) rfl ?_
    show Steps p.tables e below (T10.setTop (mkF m 51 #[.val (.int p1), .val (.int p2), .val (.int p3), .val (.int p4), .val (.int p5), .val (.ref b6), .val (.int (p2 &&& (3 : Int32))), .unset, .unset, .unset, .unset, .unset, .unset] [(.int ((p2.toUInt32 >>> ((2 : Int32) &&& 31).toUInt32).toInt32)), (.int ((p2 &&& (3 : Int32)) + (1 : Int32))), (.int (4 : Int32))])) _
    refine XS.iconst X10.here hx rfl (hb hby at_51) ?_
    show Steps p.tables e below (T10.setTop (mkF m 52 #[.val (.int p1), .val (.int p2), .val (.int p3), .val (.int p4), .val (.int p5), .val (.ref b6), .val (.int (p2 &&& (3 : Int32))), .unset, .unset, .unset, .unset, .unset, .unset] [(.int (3 : Int32)), (.int ((p2.toUInt32 >>> ((2 : Int32) &&& 31).toUInt32).toInt32)), (.int ((p2 &&& (3 : Int32)) + (1 : Int32))), (.int (4 : Int32))])) _
    refine XS.iand X10.here hx rfl (hb hby at_52) rfl ?_
    show Steps p.tables e below (T10.setTop (mkF m 53 #[.val (.int p1), .val (.int p2), .val (.int p3), .val (.int p4), .val (.int p5), .val (.ref b6), .val (.int (p2 &&& (3 : Int32))), .unset, .unset, .unset, .unset, .unset, .unset] [(.int (((p2.toUInt32 >>> ((2 : Int32) &&& 31).toUInt32).toInt32) &&& (3 : Int32))), (.int ((p2 &&& (3 : Int32)) + (1 : Int32))), (.int (4 : Int32))])) _
    refine XS.iadd X10.here hx rfl (hb hby at_53) rfl ?_
    show Steps p.tables e below (T10.setTop (mkF m 54 #[.val (.int p1), .val (.int p2), .val (.int p3), .val (.int p4), .val (.int p5), .val (.ref b6), .val (.int (p2 &&& (3 : Int32))), .unset, .unset, .unset, .unset, .unset, .unset] [(.int (((p2 &&& (3 : Int32)) + (1 : Int32)) + (((p2.toUInt32 >>> ((2 : Int32) &&& 31).toUInt32).toInt32) &&& (3 : Int32)))), (.int (4 : Int32))])) _
    refine st11 _ ?_
    show Steps p.tables e below (T11.setTop (mkF m 57 #[.val (.int p1), .val (.int p2), .val (.int p3), .val (.int p4), .val (.int p5), .val (.ref b6), .val (.int (p2 &&& (3 : Int32))), .unset, .unset, .unset, .unset, .unset, .unset] [(.int (own_to p2))])) _
    refine XS.istore X11.here hx rfl (hb hby at_57) rfl (l' := #[.val (.int p1), .val (.int p2), .val (.int p3), .val (.int p4), .val (.int p5), .val (.ref b6), .val (.int (p2 &&& (3 : Int32))), .val (.int (own_to p2)), .unset, .unset, .unset, .unset, .unset]) rfl ?_
    show Steps p.tables e below (T11.setTop (mkF m 59 #[.val (.int p1), .val (.int p2), .val (.int p3), .val (.int p4), .val (.int p5), .val (.ref b6), .val (.int (p2 &&& (3 : Int32))), .val (.int (own_to p2)), .unset, .unset, .unset, .unset, .unset] [])) _
    refine st12 _ ?_
    show Steps p.tables e below (T12.setTop (mkF m 62 #[.val (.int p1), .val (.int p2), .val (.int p3), .val (.int p4), .val (.int p5), .val (.ref b6), .val (.int (p2 &&& (3 : Int32))), .val (.int (own_to p2)), .unset, .unset, .unset, .unset, .unset] [(.ref b12)])) _
    refine XS.dup X12.here hx rfl (hb hby at_62) rfl rfl ?_
    show Steps p.tables e below (T12.setTop (mkF m 63 #[.val (.int p1), .val (.int p2), .val (.int p3), .val (.int p4), .val (.int p5), .val (.ref b6), .val (.int (p2 &&& (3 : Int32))), .val (.int (own_to p2)), .unset, .unset, .unset, .unset, .unset] [(.ref b12), (.ref b12)])) _
    refine st13.trans ?_
    show Steps p.tables e below (T13.setTop (mkF m 66 #[.val (.int p1), .val (.int p2), .val (.int p3), .val (.int p4), .val (.int p5), .val (.ref b6), .val (.int (p2 &&& (3 : Int32))), .val (.int (own_to p2)), .unset, .unset, .unset, .unset, .unset] [(.ref b12)])) _
    refine XS.astore X13.here hx rfl (hb hby at_66) rfl rfl (l' := #[.val (.int p1), .val (.int p2), .val (.int p3), .val (.int p4), .val (.int p5), .val (.ref b6), .val (.int (p2 &&& (3 : Int32))), .val (.int (own_to p2)), .val (.ref b12), .unset, .unset, .unset, .unset]) rfl ?_
    show Steps p.tables e below (T13.setTop (mkF m 68 #[.val (.int p1), .val (.int p2), .val (.int p3), .val (.int p4), .val (.int p5), .val (.ref b6), .val (.int (p2 &&& (3 : Int32))), .val (.int (own_to p2)), .val (.ref b12), .unset, .unset, .unset, .unset] [])) _
    refine stA _ ?_
    refine stB' _ ?_
    refine XS.iload XB.here hx rfl (hb hby at_312) rfl ?_
    exact retN XB hx (t := .boolean) Bd.returns (by simp) (hb hby at_314) hr
  · show Q0 Z p1 p2 p3 p4 p5 h0 n0 _ TB.heap _
    exact ⟨rfl, NB⟩
set_option maxRecDepth 65536 in
set_option maxHeartbeats 40000000 in
theorem comes_1 {Post : Tables → Env → Array Value → State → Outcome → State → Prop} (hpost : ∀ tb e args s v u, (limb_1_1.after args s (.returned v) u = true ∧ limb_1_2.after args s (.returned v) u = true ∧ True) → FrameEnd s (.returned v) u (Jvm.fieldLocs frame_1_writes args s ++ Jvm.arrayLocs frame_1_arrays args s ++ Jvm.staticLocs frame_1_statics s) 16 256 → Post tb e args s (.returned v) u) :
    ArmFor flags0 classFile x code maxLocals ret World_1 tables_1 room_1 Calls_1 rest_1 Pre_1 Post := by
  intro l hfl _ _ p e ha hc hk s m args below hf hA hF happ hP
  obtain ⟨hcalls, hrest, hpre⟩ := hP
  obtain ⟨-, -, -, hnamed, -, -, -, hat⟩ := (Spec.applies_iff hf).mp happ
  obtain ⟨hg, hn⟩ := and_e (Cond.before_iff.mp (show (Jvm.Cond.and given_1 narrow_1).before args s = true from hpre))
  obtain ⟨g27, g28⟩ := and_e hg
  obtain ⟨g29, g30⟩ := and_e g28
  obtain ⟨g31, g32⟩ := and_e g30
  obtain ⟨g33, g34⟩ := and_e g32
  obtain ⟨g35, g36⟩ := and_e g34
  obtain ⟨w0, w1, w2, w3, w4, rfl⟩ : ∃ w0 w1 w2 w3 w4 : Value, args = #[w0, w1, w2, w3, w4] := by
    have hs : args.size = 5 := by simpa [Cond.value, given_1] using g27
    obtain ⟨L⟩ := args
    match L, hs with
    | [w0, w1, w2, w3, w4], _ => exact ⟨w0, w1, w2, w3, w4, rfl⟩
  have hw := fun d (hd : d ∈ tables_1) => atoms_spec (ws := Jvm.Cond.code x code maxLocals ret :: tables_1) hat d (List.mem_cons_of_mem _ hd)
  have hfit : Fit s := fun {y c} hc i hi => by
    obtain ⟨ha, rfl⟩ := Array.getElem?_eq_some_iff.mp hc
    have q := List.all_eq_true.mp ((Array.all_eq_true_iff_forall_mem.mp hF) _ (Array.getElem_mem ha)) i (List.mem_range.mpr hi)
    simpa [Array.getElem?_eq_getElem hi] using q
  obtain ⟨i0, ei0⟩ := is_v g29
  obtain rfl : w0 = (.int i0) := Option.some.inj ei0
  obtain ⟨i1, ei1⟩ := is_v g31
  obtain rfl : w1 = (.int i1) := Option.some.inj ei1
  obtain ⟨i2, ei2⟩ := is_v g33
  obtain rfl : w2 = (.int i2) := Option.some.inj ei2
  obtain ⟨i3, ei3⟩ := is_v g35
  obtain rfl : w3 = (.int i3) := Option.some.inj ei3
  obtain ⟨i4, ei4⟩ := is_v g36
  obtain rfl : w4 = (.int i4) := Option.some.inj ei4
  obtain ⟨n, o, h1, h2, h3, _, L, rfl, ⟨rfl, N⟩, hq⟩ := rm0 l s _ hw tables_1 i0 i1 i2 i3 i4 s.heap s.heap.size (Nat.le_refl _)  p e ha hc hk s m _ below hf ((Spec.applies_iff_loose hf).mp happ).1 ⟨rfl, State.Warmed39.refl s, rfl⟩ trivial
  refine ⟨n, _, h1, h2, h3, hpost _ _ _ _ _ _ ⟨Cond.after_iff.mpr rfl, Cond.after_iff.mpr (eq_i res_at (Term.int_eval (1)) rfl), trivial⟩ ⟨hq.1, hq.2.1, (hq.2.2.sift fun y hy => Or.inr (N y hy)).mono (by decide) (by decide)⟩⟩
theorem main_1_1 : Claimed_1_1 := comes_1 fun _ _ _ _ _ _ h hF => ⟨h.1, hF⟩
theorem main_1_2 : Claimed_1_2 := comes_1 fun _ _ _ _ _ _ h hF => ⟨h.2.1, hF⟩
end Jvm.Pilot.@@N@@
namespace Jvm.Pilot.@@N@@
open Jvm Jvm.ClassFile Sem Op Lib Jvm.Free Jvm.Stand Jvm.Pilot.@@N@@.Jvm.D
/-! MADE BY PROGRAM (witnessworld.py) out of the Statement's table words and the real class files: 11 classes; the members and pool entries that the words name. The judged class is class 1, her method 1. -/
namespace start1
open Jvm.ClassFile
def u (s : String) : CpInfo := .utf8 (stringToUtf16 s)
/-- a pool by its gaps: so many unusable entries, then the entry; so many at the end -/
def gap : Nat → List CpInfo → List CpInfo
  | 0, r => r
  | n + 1, r => .unusable :: gap n r
def poolList (es : List (Nat × CpInfo)) (last : Nat) : List CpInfo := es.foldr (fun e r => gap e.1 (e.2 :: r)) (gap last [])
def pool (es : List (Nat × CpInfo)) (last : Nat) : Array CpInfo := ⟨poolList es last⟩
def fileOf (pool : Array CpInfo) (this : Nat) (attrs : Array Attribute := #[]) (ms : Array MethodInfo := #[]) (fl : Nat := 33) (sup : Nat := 0) (ifs : Array Nat := #[]) (fds : Array FieldInfo := #[]) : ClassFile where
  minorVersion := 0
  majorVersion := 65
  constantPool := pool
  accessFlags := fl
  thisClass := this
  superClass := sup
  interfaces := ifs
  fields := fds
  methods := ms
  attributes := attrs
def plain (name : String) (sup : Option ClassId) : Class where
  name := name
  kind := .ordinary
  loader := none
  accessFlags := 33
  super := sup
  interfaces := #[]
  cf := none
  fields := #[]
  methods := #[]
  instanceTypes := #[]
  staticTypes := #[]
  resolved := #[]
  callSites := []
  init := .initialized
  statics := none
  mirror := none

def pool0 : Array CpInfo := pool [(5, u "<init>"), (0, u "()V"), (1, .class_ 10), (1, u "java/lang/Object")] 113

def k0c0 : Code := { maxStack := 0, maxLocals := 1, code := object_method_1_code, exceptionTable := #[], attributes := #[] }
def k0m0 : Method := { name := "<init>", desc := "()V", sig := { parameters := [], returnType := none }, accessFlags := 1, code := some k0c0 }
/-- java/lang/Object -/
def k0 : Class := { plain "java/lang/Object" none with
  accessFlags := 33
  interfaces := #[]
  cf := some (fileOf pool0 8 #[] #[{ accessFlags := 1, nameIndex := 5, descriptorIndex := 6, attributes := #[] }] 33 0 #[] #[])
  fields := #[]
  methods := #[k0m0]
  instanceTypes := #[]
  staticTypes := #[]
  resolved := Array.replicate 124 none
  statics := none }

def pool1 : Array CpInfo := pool [(2, .class_ 4), (0, .nameAndType 5 6), (0, u "java/lang/Object"), (0, u "<init>"), (0, u "()V"), (0, .methodref 8 9), (0, .class_ 10), (0, .nameAndType 11 12), (0, u "java/lang/Math"), (0, u "min"), (0, u "(II)I"), (0, .class_ 14), (0, u "satura/ntriples/Spelling"), (0, .methodref 13 3), (0, .methodref 13 17), (0, .nameAndType 18 19), (0, u "set"), (0, u "([BII)V"), (0, .methodref 13 21), (0, .nameAndType 22 6), (0, u "startMaking"), (0, .methodref 13 24), (0, .nameAndType 25 26), (0, u "append"), (0, u "(B)V"), (0, .methodref 13 28), (0, .nameAndType 29 6), (0, u "keepMaking"), (0, .methodref 13 31), (0, .nameAndType 32 33), (0, u "bytes"), (0, u "()[B"), (0, .methodref 13 35), (0, .nameAndType 36 37), (0, u "offset"), (0, u "()I"), (0, .methodref 13 39), (0, .nameAndType 40 37), (0, u "length"), (0, .methodref 13 42), (0, .nameAndType 43 44), (0, u "byteAt"), (0, u "(I)B"), (0, .class_ 46), (0, u "satura/ntriples/SpellingStartMakingPinLaw"), (2, u "law"), (0, u "(IIIII)Z")] 5

def k1m0 : Method := { name := "<init>", desc := "()V", sig := { parameters := [], returnType := none }, accessFlags := 1, code := none }
def k1c1 : Code := { maxStack := 4, maxLocals := 13, code := code, exceptionTable := #[], attributes := #[] }
def k1m1 : Method := { name := "law", desc := "(IIIII)Z", sig := { parameters := [.int, .int, .int, .int, .int], returnType := some .boolean }, accessFlags := 9, code := some k1c1 }
/-- satura/ntriples/SpellingStartMakingPinLaw -/
def k1 : Class := { plain "satura/ntriples/SpellingStartMakingPinLaw" (some 0) with
  accessFlags := 49
  interfaces := #[]
  cf := some (fileOf pool1 45 #[] #[{ accessFlags := 1, nameIndex := 5, descriptorIndex := 6, attributes := #[] }, { accessFlags := 9, nameIndex := 49, descriptorIndex := 50, attributes := #[] }] 49 2 #[] #[])
  fields := #[]
  methods := #[k1m0, k1m1]
  instanceTypes := #[]
  staticTypes := #[]
  resolved := Array.replicate 56 none
  statics := none }

def pool2 : Array CpInfo := pool [(1, .class_ 2), (0, u "java/lang/Math"), (1, .class_ 6), (1, u "java/lang/Object"), (0, u "<init>"), (0, u "()V"), (89, .class_ 100), (1, u "java/lang/Math$RandomNumberGeneratorHolder"), (71, u "negativeZeroFloatBits"), (0, u "J"), (2, u "negativeZeroDoubleBits"), (24, u "min"), (43, u "$assertionsDisabled"), (0, u "Z"), (88, u "(II)I"), (2, u "twoToTheDoubleScaleDown"), (0, u "D"), (4, u "twoToTheDoubleScaleUp"), (9, u "E"), (3, u "PI"), (2, u "TAU"), (2, u "DEGREES_TO_RADIANS"), (0, u "RADIANS_TO_DEGREES")] 94

def k2m0 : Method := { name := "<init>", desc := "()V", sig := { parameters := [], returnType := none }, accessFlags := 2, code := none }
def k2c1 : Code := { maxStack := 2, maxLocals := 2, code := jdk_29_method_69_code, exceptionTable := #[], attributes := #[] }
def k2m1 : Method := { name := "min", desc := "(II)I", sig := { parameters := [.int, .int], returnType := some .int }, accessFlags := 9, code := some k2c1 }
/-- java/lang/Math -/
def k2 : Class := { plain "java/lang/Math" (some 0) with
  accessFlags := 49
  interfaces := #[]
  cf := some (fileOf pool2 1 #[.nestMembers #[98]] #[{ accessFlags := 2, nameIndex := 7, descriptorIndex := 8, attributes := #[] }, { accessFlags := 9, nameIndex := 201, descriptorIndex := 335, attributes := #[] }] 49 4 #[] #[{ accessFlags := 25, nameIndex := 354, descriptorIndex := 339, attributes := #[] }, { accessFlags := 25, nameIndex := 358, descriptorIndex := 339, attributes := #[] }, { accessFlags := 25, nameIndex := 361, descriptorIndex := 339, attributes := #[] }, { accessFlags := 26, nameIndex := 364, descriptorIndex := 339, attributes := #[] }, { accessFlags := 26, nameIndex := 365, descriptorIndex := 339, attributes := #[] }, { accessFlags := 26, nameIndex := 172, descriptorIndex := 173, attributes := #[] }, { accessFlags := 26, nameIndex := 176, descriptorIndex := 173, attributes := #[] }, { accessFlags := 8, nameIndex := 344, descriptorIndex := 339, attributes := #[] }, { accessFlags := 8, nameIndex := 338, descriptorIndex := 339, attributes := #[] }, { accessFlags := 4120, nameIndex := 245, descriptorIndex := 246, attributes := #[] }])
  fields := #[{ name := "E", type := .double, accessFlags := 25, slot := 0, constantValue := 0 }, { name := "PI", type := .double, accessFlags := 25, slot := 1, constantValue := 0 }, { name := "TAU", type := .double, accessFlags := 25, slot := 2, constantValue := 0 }, { name := "DEGREES_TO_RADIANS", type := .double, accessFlags := 26, slot := 3, constantValue := 0 }, { name := "RADIANS_TO_DEGREES", type := .double, accessFlags := 26, slot := 4, constantValue := 0 }, { name := "negativeZeroFloatBits", type := .long, accessFlags := 26, slot := 5, constantValue := 0 }, { name := "negativeZeroDoubleBits", type := .long, accessFlags := 26, slot := 6, constantValue := 0 }, { name := "twoToTheDoubleScaleUp", type := .double, accessFlags := 8, slot := 7, constantValue := 0 }, { name := "twoToTheDoubleScaleDown", type := .double, accessFlags := 8, slot := 8, constantValue := 0 }, { name := "$assertionsDisabled", type := .boolean, accessFlags := 4120, slot := 9, constantValue := 0 }]
  methods := #[k2m0, k2m1]
  instanceTypes := #[]
  staticTypes := #[.double, .double, .double, .double, .double, .long, .long, .double, .double, .boolean]
  resolved := Array.replicate 460 none
  statics := none }

def pool3 : Array CpInfo := pool [(3, .methodref 4 5), (0, .class_ 6), (0, .nameAndType 7 8), (0, u "java/lang/Object"), (0, u "<init>"), (0, u "()V"), (0, .fieldref 10 11), (0, .class_ 12), (0, .nameAndType 13 14), (0, u "satura/ntriples/Spelling"), (0, u "made"), (0, u "[B"), (0, .fieldref 10 16), (0, .nameAndType 17 14), (0, u "bytes"), (0, .fieldref 10 19), (0, .nameAndType 20 21), (0, u "offset"), (0, u "I"), (0, .fieldref 10 23), (0, .nameAndType 24 21), (0, u "length"), (17, .methodref 10 43), (0, .nameAndType 44 8), (0, u "startMaking"), (0, .methodref 10 46), (0, .nameAndType 47 48), (0, u "append"), (0, u "([BII)V"), (0, .methodref 10 50), (0, .nameAndType 51 52), (0, u "room"), (0, u "(I)V"), (0, .methodref 54 55), (0, .class_ 56), (0, .nameAndType 57 58), (0, u "java/lang/System"), (0, u "arraycopy"), (0, u "(Ljava/lang/Object;ILjava/lang/Object;II)V"), (2, u "(B)V"), (1, .long 2147483639), (1, .class_ 66), (0, u "satura/ntriples/Spelling$TooLongException"), (1, .long 2), (14, u "MAX_LENGTH"), (4, u "()[B"), (0, u "()I"), (6, u "byteAt"), (0, u "(I)B"), (2, u "set"), (0, u "keepMaking")] 6

def k3c0 : Code := { maxStack := 2, maxLocals := 1, code := prog_63_method_1_code, exceptionTable := #[], attributes := #[] }
def k3m0 : Method := { name := "<init>", desc := "()V", sig := { parameters := [], returnType := none }, accessFlags := 0, code := some k3c0 }
def k3c1 : Code := { maxStack := 1, maxLocals := 1, code := prog_63_method_2_code, exceptionTable := #[], attributes := #[] }
def k3m1 : Method := { name := "bytes", desc := "()[B", sig := { parameters := [], returnType := some (.array .byte) }, accessFlags := 1, code := some k3c1 }
def k3c2 : Code := { maxStack := 1, maxLocals := 1, code := prog_63_method_3_code, exceptionTable := #[], attributes := #[] }
def k3m2 : Method := { name := "offset", desc := "()I", sig := { parameters := [], returnType := some .int }, accessFlags := 1, code := some k3c2 }
def k3c3 : Code := { maxStack := 1, maxLocals := 1, code := prog_63_method_4_code, exceptionTable := #[], attributes := #[] }
def k3m3 : Method := { name := "length", desc := "()I", sig := { parameters := [], returnType := some .int }, accessFlags := 1, code := some k3c3 }
def k3c4 : Code := { maxStack := 3, maxLocals := 2, code := prog_63_method_8_code, exceptionTable := #[], attributes := #[] }
def k3m4 : Method := { name := "byteAt", desc := "(I)B", sig := { parameters := [.int], returnType := some .byte }, accessFlags := 0, code := some k3c4 }
def k3c5 : Code := { maxStack := 3, maxLocals := 4, code := prog_63_method_10_code, exceptionTable := #[], attributes := #[] }
def k3m5 : Method := { name := "set", desc := "([BII)V", sig := { parameters := [(.array .byte), .int, .int], returnType := none }, accessFlags := 0, code := some k3c5 }
def k3c6 : Code := { maxStack := 2, maxLocals := 1, code := prog_63_method_11_code, exceptionTable := #[], attributes := #[] }
def k3m6 : Method := { name := "startMaking", desc := "()V", sig := { parameters := [], returnType := none }, accessFlags := 0, code := some k3c6 }
def k3c7 : Code := { maxStack := 5, maxLocals := 4, code := prog_63_method_12_code, exceptionTable := #[], attributes := #[] }
def k3m7 : Method := { name := "keepMaking", desc := "()V", sig := { parameters := [], returnType := none }, accessFlags := 0, code := some k3c7 }
def k3c8 : Code := { maxStack := 5, maxLocals := 2, code := prog_63_method_13_code, exceptionTable := #[], attributes := #[] }
def k3m8 : Method := { name := "append", desc := "(B)V", sig := { parameters := [.byte], returnType := none }, accessFlags := 0, code := some k3c8 }
def k3c9 : Code := { maxStack := 5, maxLocals := 5, code := prog_63_method_14_code, exceptionTable := #[], attributes := #[] }
def k3m9 : Method := { name := "append", desc := "([BII)V", sig := { parameters := [(.array .byte), .int, .int], returnType := none }, accessFlags := 0, code := some k3c9 }
def k3c10 : Code := { maxStack := 6, maxLocals := 6, code := prog_63_method_16_code, exceptionTable := #[], attributes := #[] }
def k3m10 : Method := { name := "room", desc := "(I)V", sig := { parameters := [.int], returnType := none }, accessFlags := 2, code := some k3c10 }
/-- satura/ntriples/Spelling -/
def k3 : Class := { plain "satura/ntriples/Spelling" (some 0) with
  accessFlags := 49
  interfaces := #[]
  cf := some (fileOf pool3 10 #[.nestMembers #[65]] #[{ accessFlags := 0, nameIndex := 7, descriptorIndex := 8, attributes := #[] }, { accessFlags := 1, nameIndex := 17, descriptorIndex := 88, attributes := #[] }, { accessFlags := 1, nameIndex := 20, descriptorIndex := 89, attributes := #[] }, { accessFlags := 1, nameIndex := 24, descriptorIndex := 89, attributes := #[] }, { accessFlags := 0, nameIndex := 96, descriptorIndex := 97, attributes := #[] }, { accessFlags := 0, nameIndex := 100, descriptorIndex := 48, attributes := #[] }, { accessFlags := 0, nameIndex := 44, descriptorIndex := 8, attributes := #[] }, { accessFlags := 0, nameIndex := 101, descriptorIndex := 8, attributes := #[] }, { accessFlags := 0, nameIndex := 47, descriptorIndex := 61, attributes := #[] }, { accessFlags := 0, nameIndex := 47, descriptorIndex := 48, attributes := #[] }, { accessFlags := 2, nameIndex := 51, descriptorIndex := 52, attributes := #[] }] 49 4 #[] #[{ accessFlags := 24, nameIndex := 83, descriptorIndex := 21, attributes := #[] }, { accessFlags := 2, nameIndex := 17, descriptorIndex := 14, attributes := #[] }, { accessFlags := 2, nameIndex := 20, descriptorIndex := 21, attributes := #[] }, { accessFlags := 2, nameIndex := 24, descriptorIndex := 21, attributes := #[] }, { accessFlags := 2, nameIndex := 13, descriptorIndex := 14, attributes := #[] }])
  fields := #[{ name := "MAX_LENGTH", type := .int, accessFlags := 24, slot := 0, constantValue := 0 }, { name := "bytes", type := (.array .byte), accessFlags := 2, slot := 0, constantValue := 0 }, { name := "offset", type := .int, accessFlags := 2, slot := 1, constantValue := 0 }, { name := "length", type := .int, accessFlags := 2, slot := 2, constantValue := 0 }, { name := "made", type := (.array .byte), accessFlags := 2, slot := 3, constantValue := 0 }]
  methods := #[k3m0, k3m1, k3m2, k3m3, k3m4, k3m5, k3m6, k3m7, k3m8, k3m9, k3m10]
  instanceTypes := #[(.array .byte), .int, .int, (.array .byte)]
  staticTypes := #[.int]
  resolved := Array.replicate 108 none
  statics := none }

def pool4 : Array CpInfo := pool [(2, .class_ 4), (1, u "java/lang/Object"), (0, u "<init>"), (0, u "()V"), (1, .class_ 10), (1, u "java/lang/System"), (0, u "allowSecurityManager"), (0, u "I"), (16, u "cons"), (0, u "Ljava/io/Console;"), (77, .class_ 110), (1, u "java/lang/System$CallersHolder"), (43, u "initialErrStream"), (0, u "Ljava/io/PrintStream;"), (19, u "security"), (0, u "Ljava/lang/SecurityManager;"), (31, .class_ 209), (0, u "java/lang/System$1"), (7, u "props"), (0, u "Ljava/util/Properties;"), (2, u "lineSeparator"), (0, u "Ljava/lang/String;"), (96, .class_ 321), (1, u "java/lang/System$LoggerFinder"), (5, .class_ 328), (0, u "java/lang/System$Logger"), (67, u "err"), (2, u "out"), (91, u "notSupportedJnuEncoding"), (15, u "in"), (17, u "initialIn"), (0, u "Ljava/io/InputStream;"), (35, u "bootLayer"), (0, u "Ljava/lang/ModuleLayer;"), (99, .class_ 664), (0, u "java/lang/System$2"), (9, u "NEVER"), (2, u "MAYBE"), (49, u "arraycopy"), (0, u "(Ljava/lang/Object;ILjava/lang/Object;II)V"), (72, .class_ 802), (0, u "java/lang/System$Logger$Level")] 31

def k4m0 : Method := { name := "<init>", desc := "()V", sig := { parameters := [], returnType := none }, accessFlags := 2, code := none }
def k4m1 : Method := { name := "arraycopy", desc := "(Ljava/lang/Object;ILjava/lang/Object;II)V", sig := { parameters := [(.object "java/lang/Object"), .int, (.object "java/lang/Object"), .int, .int], returnType := none }, accessFlags := 265, code := none }
/-- java/lang/System -/
def k4 : Class := { plain "java/lang/System" (some 0) with
  accessFlags := 49
  interfaces := #[]
  cf := some (fileOf pool4 8 #[.nestMembers #[319, 327, 801, 108, 663, 208]] #[{ accessFlags := 2, nameIndex := 5, descriptorIndex := 6, attributes := #[] }, { accessFlags := 265, nameIndex := 727, descriptorIndex := 728, attributes := #[] }] 49 2 #[] #[{ accessFlags := 25, nameIndex := 507, descriptorIndex := 526, attributes := #[] }, { accessFlags := 25, nameIndex := 399, descriptorIndex := 155, attributes := #[] }, { accessFlags := 25, nameIndex := 396, descriptorIndex := 155, attributes := #[] }, { accessFlags := 10, nameIndex := 525, descriptorIndex := 526, attributes := #[] }, { accessFlags := 26, nameIndex := 674, descriptorIndex := 12, attributes := #[] }, { accessFlags := 26, nameIndex := 677, descriptorIndex := 12, attributes := #[] }, { accessFlags := 10, nameIndex := 11, descriptorIndex := 12, attributes := #[] }, { accessFlags := 74, nameIndex := 175, descriptorIndex := 176, attributes := #[] }, { accessFlags := 10, nameIndex := 491, descriptorIndex := 222, attributes := #[] }, { accessFlags := 74, nameIndex := 29, descriptorIndex := 30, attributes := #[] }, { accessFlags := 74, nameIndex := 154, descriptorIndex := 155, attributes := #[] }, { accessFlags := 10, nameIndex := 217, descriptorIndex := 218, attributes := #[] }, { accessFlags := 10, nameIndex := 221, descriptorIndex := 222, attributes := #[] }, { accessFlags := 8, nameIndex := 562, descriptorIndex := 563, attributes := #[] }])
  fields := #[{ name := "in", type := (.object "java/io/InputStream"), accessFlags := 25, slot := 0, constantValue := 0 }, { name := "out", type := (.object "java/io/PrintStream"), accessFlags := 25, slot := 1, constantValue := 0 }, { name := "err", type := (.object "java/io/PrintStream"), accessFlags := 25, slot := 2, constantValue := 0 }, { name := "initialIn", type := (.object "java/io/InputStream"), accessFlags := 10, slot := 3, constantValue := 0 }, { name := "NEVER", type := .int, accessFlags := 26, slot := 4, constantValue := 0 }, { name := "MAYBE", type := .int, accessFlags := 26, slot := 5, constantValue := 0 }, { name := "allowSecurityManager", type := .int, accessFlags := 10, slot := 6, constantValue := 0 }, { name := "security", type := (.object "java/lang/SecurityManager"), accessFlags := 74, slot := 7, constantValue := 0 }, { name := "notSupportedJnuEncoding", type := (.object "java/lang/String"), accessFlags := 10, slot := 8, constantValue := 0 }, { name := "cons", type := (.object "java/io/Console"), accessFlags := 74, slot := 9, constantValue := 0 }, { name := "initialErrStream", type := (.object "java/io/PrintStream"), accessFlags := 74, slot := 10, constantValue := 0 }, { name := "props", type := (.object "java/util/Properties"), accessFlags := 10, slot := 11, constantValue := 0 }, { name := "lineSeparator", type := (.object "java/lang/String"), accessFlags := 10, slot := 12, constantValue := 0 }, { name := "bootLayer", type := (.object "java/lang/ModuleLayer"), accessFlags := 8, slot := 13, constantValue := 0 }]
  methods := #[k4m0, k4m1]
  instanceTypes := #[]
  staticTypes := #[(.object "java/io/InputStream"), (.object "java/io/PrintStream"), (.object "java/io/PrintStream"), (.object "java/io/InputStream"), .int, .int, .int, (.object "java/lang/SecurityManager"), (.object "java/lang/String"), (.object "java/io/Console"), (.object "java/io/PrintStream"), (.object "java/util/Properties"), (.object "java/lang/String"), (.object "java/lang/ModuleLayer")]
  resolved := Array.replicate 834 none
  statics := none }

def pool5 : Array CpInfo := pool [(1, u "java/lang/Cloneable"), (0, .class_ 1), (0, u "java/lang/Object"), (0, .class_ 3)] 3

/-- java/lang/Cloneable -/
def k5 : Class := { plain "java/lang/Cloneable" (some 0) with
  accessFlags := 1537
  interfaces := #[]
  cf := some (fileOf pool5 2 #[] #[] 1537 4 #[] #[])
  fields := #[]
  methods := #[]
  instanceTypes := #[]
  staticTypes := #[]
  resolved := Array.replicate 8 none
  statics := none }

def pool6 : Array CpInfo := pool [(1, u "java/io/Serializable"), (0, .class_ 1), (0, u "java/lang/Object"), (0, .class_ 3)] 3

/-- java/io/Serializable -/
def k6 : Class := { plain "java/io/Serializable" (some 0) with
  accessFlags := 1537
  interfaces := #[]
  cf := some (fileOf pool6 2 #[] #[] 1537 4 #[] #[])
  fields := #[]
  methods := #[]
  instanceTypes := #[]
  staticTypes := #[]
  resolved := Array.replicate 8 none
  statics := none }

/-- the primitive byte -/
def k7 : Class := { plain "byte" none with kind := .primitive 'B', accessFlags := 0x411 }
/-- [B -/
def k8 : Class := { plain "[B" (some 0) with kind := .array 7 .byte, interfaces := #[5, 6], accessFlags := 1041 }

/-- the primitive int -/
def k9 : Class := { plain "int" none with kind := .primitive 'I', accessFlags := 0x411 }
/-- [I -/
def k10 : Class := { plain "[I" (some 0) with kind := .array 9 .int, interfaces := #[5, 6], accessFlags := 1041 }

def heap : Heap := #[]
def classes : Array Class := #[k0, k1, k2, k3, k4, k5, k6, k7, k8, k9, k10]
def interned : List (Array UInt16 × Addr) := []
def slotsUsed : Nat := 0
def theMethod : MethodId := ⟨1, 1⟩
def args0 : Array Value := #[.int 3, .int 4, .int 10, .int 15, .int 7]
def aboutOver (below : List Frame) : State where
  vm := { classes := classes, interned := interned.toArray }
  heap := heap
  slotsUsed := slotsUsed
  threads := #[{ frames := .invoking theMethod args0 :: below }]
def below0 : List Frame := [.native { method := ⟨0, 0⟩, args := #[] }]
def about1 : State := aboutOver below0
def p0 : Program := .bare "" "" ""
def e0 : Env := launch0.env 0 0 0
theorem w_frames : about1.frames = Frame.invoking theMethod args0 :: below0 := rfl
set_option maxRecDepth 65536 in
theorem w_args : argsFit about1.vm theMethod args0 = true := by decide +kernel
set_option maxRecDepth 65536 in
theorem w_heap : heapFits about1 = true := by decide +kernel
set_option maxRecDepth 65536 in
theorem w_runnable : about1.curStatus? = some .runnable := by decide +kernel
set_option maxRecDepth 65536 in
theorem w_alone : about1.alone = true := by decide +kernel
set_option maxRecDepth 65536 in
theorem w_named : about1.methodNamed? x = some theMethod := by decide +kernel
set_option maxRecDepth 65536 in
theorem w_hears : about1.hears theMethod below0 = true := by decide +kernel
set_option maxRecDepth 65536 in
theorem w_ripe : about1.ripe theMethod args0 below0 = true := by decide +kernel
theorem w_running : about1.status = .running := rfl
set_option maxRecDepth 65536 in
theorem w_room : about1.hasRoom e0.platform room_1 = true :=
  launch0.hasRoom_least _ room_1 (by decide +kernel) (by decide +kernel) (by decide +kernel) (by decide +kernel) (by decide +kernel) (by decide +kernel)
theorem allAtoms_all (ts : List Jvm.Cond) (a : Array Jvm.Value) (st : Jvm.State) : (allAtoms ts).before a st = ts.all (fun c => c.before a st) := by
  induction ts with
  | nil => rfl
  | cons c t ih =>
    show (Jvm.Cond.and c (allAtoms t)).before a st = _
    rw [Jvm.Cond.before_and, ih, List.all_cons]
def words1 : List Jvm.Cond := Jvm.Cond.code x code maxLocals ret :: tables_1
/-- a 'code' word, met by the world's own term for the bytes: nothing is compared byte by byte -/
theorem code_word {y : MethodName} {bytes : ByteArray} {mx : Nat} {rt : Option FieldType} {a : Array Value} {s : State} {m : MethodId} {meth : Method} {c : Code} (h1 : s.methodNamed? y = some m) (h2 : s.vm.method? m = some meth) (h3 : meth.code = some c) (h4 : c.code = bytes)
    (h5 : (c.maxLocals == mx && c.exceptionTable.isEmpty && decide (c.maxStack ≤ mostOperands) && decide (meth.sig.returnType = rt) && !meth.locks && decide (parseMethodDescriptor y.desc = some meth.sig)) = true) : (Jvm.Cond.code y bytes mx rt).before a s = true := by
  simp only [Bool.and_eq_true, beq_iff_eq, Bool.not_eq_true', decide_eq_true_eq] at h5
  obtain ⟨⟨⟨⟨⟨g1, g2⟩, g3⟩, g4⟩, g5⟩, g6⟩ := h5
  simp [Cond.before, Cond.holds, Cond.value, h1, h2, h3, h4, g1, g2, g3, g4, g5, g6]
def isCode : Jvm.Cond → Bool
  | .code _ _ _ _ => true
  | _ => false
theorem all_split {L : List Jvm.Cond} {P : Jvm.Cond → Bool} (h1 : L.all (fun c => isCode c || P c) = true) (h2 : ∀ c ∈ L.filter isCode, P c = true) : L.all P = true := by
  refine List.all_eq_true.mpr fun c hc => ?_
  have h := List.all_eq_true.mp h1 c hc
  rcases Bool.eq_false_or_eq_true (isCode c) with hi | hi
  · exact h2 c (List.mem_filter.mpr ⟨hc, hi⟩)
  · simpa [hi] using h
set_option maxRecDepth 65536 in
theorem w_c0 : (Jvm.Cond.code x code maxLocals ret).before args0 about1 = true := code_word (m := ⟨1, 1⟩) (meth := k1m1) (c := k1c1) (by decide +kernel) rfl rfl rfl (by decide +kernel)
set_option maxRecDepth 65536 in
theorem w_c1 : (Jvm.Cond.code ({ cls := "java/lang/Math", name := "min", desc := "(II)I" } : Jvm.MethodName) jdk_29_method_69_code (2 : Nat) (Option.some Jvm.ClassFile.FieldType.int)).before args0 about1 = true := code_word (m := ⟨2, 1⟩) (meth := k2m1) (c := k2c1) (by decide +kernel) rfl rfl rfl (by decide +kernel)
set_option maxRecDepth 65536 in
theorem w_c2 : (Jvm.Cond.code ({ cls := "satura/ntriples/Spelling", name := "<init>", desc := "()V" } : Jvm.MethodName) prog_63_method_1_code (1 : Nat) (Option.none : Option Jvm.ClassFile.FieldType)).before args0 about1 = true := code_word (m := ⟨3, 0⟩) (meth := k3m0) (c := k3c0) (by decide +kernel) rfl rfl rfl (by decide +kernel)
set_option maxRecDepth 65536 in
theorem w_c3 : (Jvm.Cond.code ({ cls := "java/lang/Object", name := "<init>", desc := "()V" } : Jvm.MethodName) object_method_1_code (1 : Nat) (Option.none : Option Jvm.ClassFile.FieldType)).before args0 about1 = true := code_word (m := ⟨0, 0⟩) (meth := k0m0) (c := k0c0) (by decide +kernel) rfl rfl rfl (by decide +kernel)
set_option maxRecDepth 65536 in
theorem w_c4 : (Jvm.Cond.code ({ cls := "satura/ntriples/Spelling", name := "startMaking", desc := "()V" } : Jvm.MethodName) prog_63_method_11_code (1 : Nat) (Option.none : Option Jvm.ClassFile.FieldType)).before args0 about1 = true := code_word (m := ⟨3, 6⟩) (meth := k3m6) (c := k3c6) (by decide +kernel) rfl rfl rfl (by decide +kernel)
set_option maxRecDepth 65536 in
theorem w_c5 : (Jvm.Cond.code ({ cls := "satura/ntriples/Spelling", name := "bytes", desc := "()[B" } : Jvm.MethodName) prog_63_method_2_code (1 : Nat) (Option.some (Jvm.ClassFile.FieldType.array Jvm.ClassFile.FieldType.byte))).before args0 about1 = true := code_word (m := ⟨3, 1⟩) (meth := k3m1) (c := k3c1) (by decide +kernel) rfl rfl rfl (by decide +kernel)
set_option maxRecDepth 65536 in
theorem w_c6 : (Jvm.Cond.code ({ cls := "satura/ntriples/Spelling", name := "offset", desc := "()I" } : Jvm.MethodName) prog_63_method_3_code (1 : Nat) (Option.some Jvm.ClassFile.FieldType.int)).before args0 about1 = true := code_word (m := ⟨3, 2⟩) (meth := k3m2) (c := k3c2) (by decide +kernel) rfl rfl rfl (by decide +kernel)
set_option maxRecDepth 65536 in
theorem w_c7 : (Jvm.Cond.code ({ cls := "satura/ntriples/Spelling", name := "length", desc := "()I" } : Jvm.MethodName) prog_63_method_4_code (1 : Nat) (Option.some Jvm.ClassFile.FieldType.int)).before args0 about1 = true := code_word (m := ⟨3, 3⟩) (meth := k3m3) (c := k3c3) (by decide +kernel) rfl rfl rfl (by decide +kernel)
set_option maxRecDepth 65536 in
theorem w_c8 : (Jvm.Cond.code ({ cls := "satura/ntriples/Spelling", name := "append", desc := "(B)V" } : Jvm.MethodName) prog_63_method_13_code (2 : Nat) (Option.none : Option Jvm.ClassFile.FieldType)).before args0 about1 = true := code_word (m := ⟨3, 8⟩) (meth := k3m8) (c := k3c8) (by decide +kernel) rfl rfl rfl (by decide +kernel)
set_option maxRecDepth 65536 in
theorem w_c9 : (Jvm.Cond.code ({ cls := "satura/ntriples/Spelling", name := "room", desc := "(I)V" } : Jvm.MethodName) prog_63_method_16_code (6 : Nat) (Option.none : Option Jvm.ClassFile.FieldType)).before args0 about1 = true := code_word (m := ⟨3, 10⟩) (meth := k3m10) (c := k3c10) (by decide +kernel) rfl rfl rfl (by decide +kernel)
set_option maxRecDepth 65536 in
theorem w_c10 : (Jvm.Cond.code ({ cls := "satura/ntriples/Spelling", name := "byteAt", desc := "(I)B" } : Jvm.MethodName) prog_63_method_8_code (2 : Nat) (Option.some Jvm.ClassFile.FieldType.byte)).before args0 about1 = true := code_word (m := ⟨3, 4⟩) (meth := k3m4) (c := k3c4) (by decide +kernel) rfl rfl rfl (by decide +kernel)
set_option maxRecDepth 65536 in
theorem w_c11 : (Jvm.Cond.code ({ cls := "satura/ntriples/Spelling", name := "set", desc := "([BII)V" } : Jvm.MethodName) prog_63_method_10_code (4 : Nat) (Option.none : Option Jvm.ClassFile.FieldType)).before args0 about1 = true := code_word (m := ⟨3, 5⟩) (meth := k3m5) (c := k3c5) (by decide +kernel) rfl rfl rfl (by decide +kernel)
set_option maxRecDepth 65536 in
theorem w_c12 : (Jvm.Cond.code ({ cls := "satura/ntriples/Spelling", name := "keepMaking", desc := "()V" } : Jvm.MethodName) prog_63_method_12_code (4 : Nat) (Option.none : Option Jvm.ClassFile.FieldType)).before args0 about1 = true := code_word (m := ⟨3, 7⟩) (meth := k3m7) (c := k3c7) (by decide +kernel) rfl rfl rfl (by decide +kernel)
set_option maxRecDepth 65536 in
theorem w_c13 : (Jvm.Cond.code ({ cls := "satura/ntriples/Spelling", name := "append", desc := "([BII)V" } : Jvm.MethodName) prog_63_method_14_code (5 : Nat) (Option.none : Option Jvm.ClassFile.FieldType)).before args0 about1 = true := code_word (m := ⟨3, 9⟩) (meth := k3m9) (c := k3c9) (by decide +kernel) rfl rfl rfl (by decide +kernel)
def codes1 : List Jvm.Cond := [Jvm.Cond.code x code maxLocals ret, Jvm.Cond.code ({ cls := "java/lang/Math", name := "min", desc := "(II)I" } : Jvm.MethodName) jdk_29_method_69_code (2 : Nat) (Option.some Jvm.ClassFile.FieldType.int), Jvm.Cond.code ({ cls := "satura/ntriples/Spelling", name := "<init>", desc := "()V" } : Jvm.MethodName) prog_63_method_1_code (1 : Nat) (Option.none : Option Jvm.ClassFile.FieldType), Jvm.Cond.code ({ cls := "java/lang/Object", name := "<init>", desc := "()V" } : Jvm.MethodName) object_method_1_code (1 : Nat) (Option.none : Option Jvm.ClassFile.FieldType), Jvm.Cond.code ({ cls := "satura/ntriples/Spelling", name := "startMaking", desc := "()V" } : Jvm.MethodName) prog_63_method_11_code (1 : Nat) (Option.none : Option Jvm.ClassFile.FieldType), Jvm.Cond.code ({ cls := "satura/ntriples/Spelling", name := "bytes", desc := "()[B" } : Jvm.MethodName) prog_63_method_2_code (1 : Nat) (Option.some (Jvm.ClassFile.FieldType.array Jvm.ClassFile.FieldType.byte)), Jvm.Cond.code ({ cls := "satura/ntriples/Spelling", name := "offset", desc := "()I" } : Jvm.MethodName) prog_63_method_3_code (1 : Nat) (Option.some Jvm.ClassFile.FieldType.int), Jvm.Cond.code ({ cls := "satura/ntriples/Spelling", name := "length", desc := "()I" } : Jvm.MethodName) prog_63_method_4_code (1 : Nat) (Option.some Jvm.ClassFile.FieldType.int), Jvm.Cond.code ({ cls := "satura/ntriples/Spelling", name := "append", desc := "(B)V" } : Jvm.MethodName) prog_63_method_13_code (2 : Nat) (Option.none : Option Jvm.ClassFile.FieldType), Jvm.Cond.code ({ cls := "satura/ntriples/Spelling", name := "room", desc := "(I)V" } : Jvm.MethodName) prog_63_method_16_code (6 : Nat) (Option.none : Option Jvm.ClassFile.FieldType), Jvm.Cond.code ({ cls := "satura/ntriples/Spelling", name := "byteAt", desc := "(I)B" } : Jvm.MethodName) prog_63_method_8_code (2 : Nat) (Option.some Jvm.ClassFile.FieldType.byte), Jvm.Cond.code ({ cls := "satura/ntriples/Spelling", name := "set", desc := "([BII)V" } : Jvm.MethodName) prog_63_method_10_code (4 : Nat) (Option.none : Option Jvm.ClassFile.FieldType), Jvm.Cond.code ({ cls := "satura/ntriples/Spelling", name := "keepMaking", desc := "()V" } : Jvm.MethodName) prog_63_method_12_code (4 : Nat) (Option.none : Option Jvm.ClassFile.FieldType), Jvm.Cond.code ({ cls := "satura/ntriples/Spelling", name := "append", desc := "([BII)V" } : Jvm.MethodName) prog_63_method_14_code (5 : Nat) (Option.none : Option Jvm.ClassFile.FieldType)]
set_option maxRecDepth 65536 in
theorem codes_eq : words1.filter isCode = codes1 := rfl
theorem w_codes : ∀ c ∈ words1.filter isCode, c.before args0 about1 = true := by
  rw [codes_eq]
  intro c hc
  simp only [codes1, List.mem_cons, List.not_mem_nil, or_false] at hc
  rcases hc with rfl | rfl | rfl | rfl | rfl | rfl | rfl | rfl | rfl | rfl | rfl | rfl | rfl | rfl
  · exact w_c0
  · exact w_c1
  · exact w_c2
  · exact w_c3
  · exact w_c4
  · exact w_c5
  · exact w_c6
  · exact w_c7
  · exact w_c8
  · exact w_c9
  · exact w_c10
  · exact w_c11
  · exact w_c12
  · exact w_c13
set_option maxRecDepth 65536 in
theorem w_t1 : (words1.take 24).all (fun c => isCode c || c.before args0 about1) = true := by decide +kernel
set_option maxRecDepth 65536 in
theorem w_t2 : ((words1.drop 24).take 24).all (fun c => isCode c || c.before args0 about1) = true := by decide +kernel
set_option maxRecDepth 65536 in
theorem w_t3 : (((words1.drop 24).drop 24).take 24).all (fun c => isCode c || c.before args0 about1) = true := by decide +kernel
set_option maxRecDepth 65536 in
theorem w_t4 : (((words1.drop 24).drop 24).drop 24).all (fun c => isCode c || c.before args0 about1) = true := by decide +kernel
theorem w_tables : (allAtoms (Jvm.Cond.code x code maxLocals ret :: tables_1)).before args0 about1 = true := by
  rw [allAtoms_all]
  show words1.all (fun c => c.before args0 about1) = true
  refine all_split ?_ w_codes
  rw [← List.take_append_drop 24 words1, List.all_append, w_t1, ← List.take_append_drop 24 (words1.drop 24), List.all_append, w_t2, ← List.take_append_drop 24 ((words1.drop 24).drop 24), List.all_append, w_t3, w_t4]
  rfl
set_option maxRecDepth 65536 in
theorem w_case : (Jvm.Cond.and given_1 narrow_1).before args0 about1 = true := by decide +kernel
theorem w_applies : (headSpec (Jvm.Cond.code x code maxLocals ret :: tables_1) room_1).applies x e0.platform about1 = true :=
  (Spec.applies_iff w_frames).mpr ⟨w_running, w_runnable, w_alone, w_named, w_hears, w_ripe, w_room, w_tables⟩
theorem atStart : AtStart classFile x code maxLocals ret World_1 tables_1 room_1 Calls_1 rest_1 Pre_1 launch0 p0 e0 about1 theMethod args0 below0 :=
  ⟨lists_1, trivial, launch0.admits_env _ _ _, launch0.least_env, fairChoices_fair.cas, fairChoices_fair.clock, w_frames, w_args, w_heap, w_applies, trivial, trivial, w_case⟩
end start1
theorem witness_1 : WitnessClaimed_1 := ⟨start1.p0, start1.e0, start1.about1, start1.theMethod, start1.args0, start1.below0, start1.atStart⟩
end Jvm.Pilot.@@N@@
