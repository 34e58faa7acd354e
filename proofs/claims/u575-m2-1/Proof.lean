import JvmDerived
import JvmDerived.Pilot.@@N@@Statement
import JvmDerived.Pilot.@@N@@Code
set_option linter.unusedVariables false
set_option linter.unusedSimpArgs false
namespace Jvm.RoadKit
open Sem ClassFile Op Lib Jvm.Stand Jvm.Free Jvm.LawKit
section New
variable {p : Program} {l : Launch} {e : Env} {R : Room} {s : State} {m : MethodId} {args : Array Value} {below : List Frame} {meth : Method} {c : Code} {T : State} {locs : List Loc} {cells slots : Nat}
theorem retI (X : Stand p l e R s m args below meth c T locs cells slots) (hx : p.tables.exec = Jvm.exec) {pc : Nat} {Ls : Array Slot} {z : Int32} {rest : List Value} (hret : meth.sig.returnType = some .int) (hd : decode c.code pc = .ok (.ireturn, 1)) {fs : List Frame}
    (hl : ∀ (f : JFrame) (acts : List Action), f.method = m → f.locked = none → f.entered = [] → (doReturn e (T.setTop f) acts (some (.int z))).1 = T.setFrames fs) : Steps p.tables e below (T.setTop (mkF m pc Ls (.int z :: rest))) (T.setFrames fs) := by
  have hm' : T.vm.method? m = some meth := X.method'
  have hn : narrow .int (.int z) = .int z := rfl
  show Steps p.tables e below (T.setTop { method := m, pc := pc, locals := Ls, stack := _ :: rest, locked := none }) _
  jvm_step X.here [X.here.top, hx, hd, hm', hret, hn]
  first | (intro acts; rw [hl _ acts rfl rfl rfl]) | rw [hl _ _ rfl rfl rfl]
  exact Steps.refl _
end New
end Jvm.RoadKit
namespace Jvm.Pilot.@@N@@
open Jvm Jvm.ClassFile Sem Op Lib Jvm.Free Jvm.Stand Jvm.LawKit Jvm.RoadKit Bundle Jvm.Pilot.@@N@@.Jvm.D
def own_ar (Z : State) (h : Heap) (b : Addr) (z : Int32) : Prop := ∃ cl : Cell, Arr Z h b cl .int ∧ cl.slots.size = z.toNatClampNeg
def own_I (Z : State) (h : Heap) (a b : Addr) (cc x u : Int32) : Prop := a ≠ b ∧ Exa Z h a "com/example/ringweld/ringweld/sim/LookupBatch" ∧ Fld Z h a "com/example/ringweld/ringweld/sim/LookupBatch" "count" "I" (.int cc) ∧ Fld Z h a "com/example/ringweld/ringweld/sim/LookupBatch" "answered" "I" (.int x) ∧ Fld Z h a "com/example/ringweld/ringweld/sim/LookupBatch" "unresolved" "I" (.int u) ∧ (∃ w : Int32, Fld Z h a "com/example/ringweld/ringweld/sim/LookupBatch" "wrong" "I" (.int w)) ∧ Fld Z h a "com/example/ringweld/ringweld/sim/LookupBatch" "hops" "[I" (.ref b) ∧ own_ar Z h b cc
def own_min (a b : Int32) : Int32 := if b < a then b else a
def own_e (a b : Int32) : Int32 := if a = b then 1 else 0
theorem own_e1 {a b : Int32} (h : a = b) : own_e a b = 1 := if_pos h
theorem own_e0 {a b : Int32} (h : ¬ a = b) : own_e a b = 0 := if_neg h
theorem own_enar (a b : Int32) : nar .boolean (own_e a b) = own_e a b := by
  by_cases h : a = b
  · rw [own_e1 h]; rfl
  · rw [own_e0 h]; rfl
def own_f (a b : Int32) : Int32 := if a = b then 1 else 0
theorem own_f1 {a b : Int32} (h : a = b) : own_f a b = 1 := if_pos h
theorem own_f0 {a b : Int32} (h : ¬ a = b) : own_f a b = 0 := if_neg h
def own_q (v : Int32) : Int32 := if v = 0 then 0 else 1
def own_st (a k x : Int32) : Int32 := if a < k then x else x + 1
theorem own_cl (x : Int32) : x.toNatClampNeg = x.toInt.toNat := rfl
theorem own_four (x : Int32) (h1 : 0 ≤ x.toInt) (h2 : x.toInt ≤ 3) : x = 0 ∨ x = 1 ∨ x = 2 ∨ x = 3 := by
  have q : x.toInt = 0 ∨ x.toInt = 1 ∨ x.toInt = 2 ∨ x.toInt = 3 := by omega
  rcases q with q | q | q | q
  · exact Or.inl (Int32.toInt_inj.mp q)
  · exact Or.inr (Or.inl (Int32.toInt_inj.mp q))
  · exact Or.inr (Or.inr (Or.inl (Int32.toInt_inj.mp q)))
  · exact Or.inr (Or.inr (Or.inr (Int32.toInt_inj.mp q)))
theorem own_mask3 (x : Int32) : 0 ≤ (x &&& (3 : Int32)).toInt ∧ (x &&& (3 : Int32)).toInt ≤ 3 := by
  have m := c_mask x 3 2 (by decide) (by decide)
  omega
theorem own_minT (a b : Int32) : (own_min a b).toInt = min a.toInt b.toInt := by
  unfold own_min
  by_cases h : b < a
  · rw [if_pos h]; rw [Int32.lt_iff_toInt_lt] at h; omega
  · rw [if_neg h]; rw [Int32.lt_iff_toInt_lt] at h; omega
theorem own_sub (a b : Int32) (h1 : 0 ≤ a.toInt) (h2 : a.toInt ≤ 3) (h3 : 0 ≤ b.toInt) (h4 : b.toInt ≤ a.toInt) : (a - b).toInt = a.toInt - b.toInt := by
  have q := c_isub a b
  have r := rng32 (a - b)
  omega
theorem d1_0 : decode jdk_29_method_69_code 0 = .ok (.iload_n 0, 1) := by decide +kernel
theorem d1_1 : decode jdk_29_method_69_code 1 = .ok (.iload_n 1, 1) := by decide +kernel
theorem d1_2 : decode jdk_29_method_69_code 2 = .ok (.if_icmp .gt 7, 3) := by decide +kernel
theorem d1_9 : decode jdk_29_method_69_code 9 = .ok (.iload_n 1, 1) := by decide +kernel
theorem d1_5 : decode jdk_29_method_69_code 5 = .ok (.iload_n 0, 1) := by decide +kernel
theorem d1_6 : decode jdk_29_method_69_code 6 = .ok (.goto 4, 3) := by decide +kernel
theorem d1_10 : decode jdk_29_method_69_code 10 = .ok (.ireturn, 1) := by decide +kernel
theorem ef_1 (m : MethodId) (p1 : Int32) (p2 : Int32) : entryFrame m #[(.int p1), (.int p2)] 2 = mkF m 0 #[.val (.int p1), .val (.int p2)] [] := by first | (simp [entryFrame, mkF, argsToLocals, Value.category]; done) | rfl
def Q_1 (Z : State) (p1 : Int32) (p2 : Int32)  (h0 : Heap) (n0 : Nat) (v : Option Value) (h : Heap) (L : List Loc) : Prop := v = some (.int (own_min p1 p2)) ∧ Fr n0 L ∧ h = h0
set_option maxRecDepth 65536 in
set_option maxHeartbeats 40000000 in
theorem rm_1 (l : Launch) (Z : State) (a0 : Array Value) (hw : ∀ d ∈ tables_1, d.before a0 Z = true) (ws : List Jvm.Cond) (p1 : Int32) (p2 : Int32)  (h0 : Heap) (n0 : Nat) (Z0 : n0 ≤ h0.size)  :
    MetFree l (⟨"java/lang/Math", "min", "(II)I"⟩ : MethodName) (head1 (Jvm.Cond.code (⟨"java/lang/Math", "min", "(II)I"⟩ : MethodName) jdk_29_method_69_code 2 (some .int) :: ws) ({ frames := 0, cells := 0, slots := 0, locals := 0 } : Room)) (fun a U => a = #[(.int p1), (.int p2)] ∧ Z.Warmed39 U.vm ∧ U.heap = h0) (fun _ _ _ _ _ => True) (fun _ U o U' => ∃ v L, o = .returned v ∧ Q_1 Z p1 p2  h0 n0 v U'.heap L ∧ FrameEnd U o U' L ({ frames := 0, cells := 0, slots := 0, locals := 0 } : Room).cells ({ frames := 0, cells := 0, slots := 0, locals := 0 } : Room).slots) := by
  refine MetFree.of_bodySF (Jvm.Free.JP.mathPlain rfl (by decide +kernel)) hisR ?_
  intro p e s m args below meth c s₁ Bd hml0 hP hK
  obtain ⟨rfl, hZ, hh⟩ := hP
  have hx := Bd.exec
  have hby := Bd.bytes
  have hml : c.maxLocals = 2 := hml0
  have hown : s.vm.findClass "java/lang/Math" = some m.cls := findClass_of_methodNamed Bd.named
  have hnm := (name_of_methodNamed Bd.named Bd.method).1
  have X0 : Stand p l e ({ frames := 0, cells := 0, slots := 0, locals := 0 } : Room) s m #[(.int p1), (.int p2)] below meth c s₁ [] 0 0 := Stand.of_body Bd
  have e0 : s₁.heap = h0 := by rw [← hh, Bd.state]; rfl
  have N0 := Fr.nil n0
  have pre0 : ∀ t, Steps p.tables e below (s₁.setTop (mkF m 0 #[.val (.int p1), .val (.int p2)] [])) t → Steps p.tables e below (s₁.setTop (entryFrame m #[(.int p1), (.int p2)] 2)) t := fun t k => castTop (ef_1 m p1 p2) k
  have j10 : ∀ t, Steps p.tables e below (s₁.setTop (mkF m 10 #[.val (.int p1), .val (.int p2)] [(.int (own_min p1 p2))])) t → Steps p.tables e below (s₁.setTop (mkF m 0 #[.val (.int p1), .val (.int p2)] [])) t := by
    intro t kt
    by_cases hc : p2 < p1
    · have hv : own_min p1 p2 = p2 := if_pos hc
      rw [hv] at kt
      show Steps p.tables e below (s₁.setTop (mkF m 0 #[.val (.int p1), .val (.int p2)] [])) _
      refine XS.iloadN X0.here hx rfl (hb hby d1_0) rfl ?_
      show Steps p.tables e below (s₁.setTop (mkF m 1 #[.val (.int p1), .val (.int p2)] [(.int p1)])) _
      refine XS.iloadN X0.here hx rfl (hb hby d1_1) rfl ?_
      show Steps p.tables e below (s₁.setTop (mkF m 2 #[.val (.int p1), .val (.int p2)] [(.int p2), (.int p1)])) _
      refine XS.icmpYes X0.here hx rfl (pc0 := 2) (pc' := 9) rfl (hb hby d1_2) rfl (tlt (hc : p2 < p1)).2.2.1 (by decide) (by decide) ?_
      show Steps p.tables e below (s₁.setTop (mkF m 9 #[.val (.int p1), .val (.int p2)] [])) _
      refine XS.iloadN X0.here hx rfl (hb hby d1_9) rfl ?_
      exact kt
    · have hv : own_min p1 p2 = p1 := if_neg hc
      rw [hv] at kt
      show Steps p.tables e below (s₁.setTop (mkF m 0 #[.val (.int p1), .val (.int p2)] [])) _
      refine XS.iloadN X0.here hx rfl (hb hby d1_0) rfl ?_
      show Steps p.tables e below (s₁.setTop (mkF m 1 #[.val (.int p1), .val (.int p2)] [(.int p1)])) _
      refine XS.iloadN X0.here hx rfl (hb hby d1_1) rfl ?_
      show Steps p.tables e below (s₁.setTop (mkF m 2 #[.val (.int p1), .val (.int p2)] [(.int p2), (.int p1)])) _
      refine XS.icmpNo X0.here hx rfl (hb hby d1_2) rfl (flt (hc : ¬ (p2 < p1))).2.2.1 ?_
      show Steps p.tables e below (s₁.setTop (mkF m 5 #[.val (.int p1), .val (.int p2)] [])) _
      refine XS.iloadN X0.here hx rfl (hb hby d1_5) rfl ?_
      show Steps p.tables e below (s₁.setTop (mkF m 6 #[.val (.int p1), .val (.int p2)] [(.int p1)])) _
      refine XS.goto X0.here hx rfl (pc0 := 6) (pc' := 10) rfl (hb hby d1_6) (by decide) (by decide) ?_
      exact kt
  obtain ⟨fs, hr, hrun, hended, hW, hsame⟩ := X0.leave (v := some (.int (own_min p1 p2))) (fun h => by rw [Bd.returns] at h; cases h)
  refine ⟨_, _, pre0 _ ?_, hrun, hended, _, _, rfl, ?_, ⟨_, rfl⟩, hW, hsame.mono (by decide) (by decide)⟩
  · show Steps p.tables e below (s₁.setTop (mkF m 0 #[.val (.int p1), .val (.int p2)] [])) _
    refine j10 _ ?_
    show Steps p.tables e below (s₁.setTop (mkF m 10 #[.val (.int p1), .val (.int p2)] [(.int (own_min p1 p2))])) _
    exact retI X0 hx Bd.returns (hb hby d1_10) hr
  · show Q_1 Z p1 p2  h0 n0 _ s₁.heap _
    rw [e0]
    exact ⟨rfl, N0, rfl⟩
theorem d2_0 : decode prog_78_method_1_code 0 = .ok (.aload_n 0, 1) := by decide +kernel
theorem d2_1 : decode prog_78_method_1_code 1 = .ok (.invokespecial 1, 3) := by decide +kernel
theorem d2_4 : decode prog_78_method_1_code 4 = .ok (.aload_n 0, 1) := by decide +kernel
theorem d2_5 : decode prog_78_method_1_code 5 = .ok (.lload_n 1, 1) := by decide +kernel
theorem d2_6 : decode prog_78_method_1_code 6 = .ok (.putfield 7, 3) := by decide +kernel
theorem d2_9 : decode prog_78_method_1_code 9 = .ok (.aload_n 0, 1) := by decide +kernel
theorem d2_10 : decode prog_78_method_1_code 10 = .ok (.iload_n 3, 1) := by decide +kernel
theorem d2_11 : decode prog_78_method_1_code 11 = .ok (.putfield 13, 3) := by decide +kernel
theorem d2_14 : decode prog_78_method_1_code 14 = .ok (.aload_n 0, 1) := by decide +kernel
theorem d2_15 : decode prog_78_method_1_code 15 = .ok (.iload_n 3, 1) := by decide +kernel
theorem d2_16 : decode prog_78_method_1_code 16 = .ok (.newarray .int, 2) := by decide +kernel
theorem d2_18 : decode prog_78_method_1_code 18 = .ok (.putfield 17, 3) := by decide +kernel
theorem d2_21 : decode prog_78_method_1_code 21 = .ok (.return_, 1) := by decide +kernel
theorem pn_0 : plainName "com/example/ringweld/ringweld/sim/LookupBatch" = true := by first | (simp [plainName, overriddenIn]; done) | decide +kernel
theorem ef_2 (m : MethodId) (a1 : Addr) (q2 : Int64) (p3 : Int32) : entryFrame m #[(.ref a1), (.long q2), (.int p3)] 4 = mkF m 0 #[.val (.ref a1), .val (.long q2), .second, .val (.int p3)] [] := by first | (simp [entryFrame, mkF, argsToLocals, Value.category]; done) | rfl
def Q_2 (Z : State) (a1 : Addr) (q2 : Int64) (p3 : Int32)  (h0 : Heap) (n0 : Nat) (v : Option Value) (h : Heap) (L : List Loc) : Prop := v = none ∧ Fr n0 L ∧ Keep h0 h [a1] ∧ ∃ b : Addr, n0 ≤ b ∧ own_I Z h a1 b p3 0 0
set_option maxRecDepth 65536 in
set_option maxHeartbeats 40000000 in
theorem rm_2 (l : Launch) (Z : State) (a0 : Array Value) (hw : ∀ d ∈ tables_1, d.before a0 Z = true) (ws : List Jvm.Cond) (a1 : Addr) (q2 : Int64) (p3 : Int32)  (h0 : Heap) (n0 : Nat) (Z0 : n0 ≤ h0.size) (E_a1 : Exa Z h0 a1 "com/example/ringweld/ringweld/sim/LookupBatch") (g_a1 : n0 ≤ a1) (F_issued : Fld Z h0 a1 "com/example/ringweld/ringweld/sim/LookupBatch" "issued" "J" (.long (0 : Int64))) (F_count : Fld Z h0 a1 "com/example/ringweld/ringweld/sim/LookupBatch" "count" "I" (.int (0 : Int32))) (F_hops : Fld Z h0 a1 "com/example/ringweld/ringweld/sim/LookupBatch" "hops" "[I" .null) (F_answered : Fld Z h0 a1 "com/example/ringweld/ringweld/sim/LookupBatch" "answered" "I" (.int (0 : Int32))) (F_unresolved : Fld Z h0 a1 "com/example/ringweld/ringweld/sim/LookupBatch" "unresolved" "I" (.int (0 : Int32))) (F_wrong : Fld Z h0 a1 "com/example/ringweld/ringweld/sim/LookupBatch" "wrong" "I" (.int (0 : Int32))) (hneg : ¬ p3 < 0) (hcap : p3.toNatClampNeg ≤ 3) :
    MetFree l (⟨"com/example/ringweld/ringweld/sim/LookupBatch", "<init>", "(JI)V"⟩ : MethodName) (head1 (Jvm.Cond.code (⟨"com/example/ringweld/ringweld/sim/LookupBatch", "<init>", "(JI)V"⟩ : MethodName) prog_78_method_1_code 4 none :: ws) ({ frames := 1, cells := 1, slots := 3, locals := 12 } : Room)) (fun a U => a = #[(.ref a1), (.long q2), (.int p3)] ∧ Z.Warmed39 U.vm ∧ U.heap = h0) (fun _ _ _ _ _ => True) (fun _ U o U' => ∃ v L, o = .returned v ∧ Q_2 Z a1 q2 p3  h0 n0 v U'.heap L ∧ FrameEnd U o U' L ({ frames := 1, cells := 1, slots := 3, locals := 12 } : Room).cells ({ frames := 1, cells := 1, slots := 3, locals := 12 } : Room).slots) := by
  refine MetFree.of_bodySF (plainFor_of_name pn_0) hisR ?_
  intro p e s m args below meth c s₁ Bd hml0 hP hK
  obtain ⟨rfl, hZ, hh⟩ := hP
  have hx := Bd.exec
  have hby := Bd.bytes
  have hml : c.maxLocals = 4 := hml0
  have hown : s.vm.findClass "com/example/ringweld/ringweld/sim/LookupBatch" = some m.cls := findClass_of_methodNamed Bd.named
  have hnm := (name_of_methodNamed Bd.named Bd.method).1
  have X0 : Stand p l e ({ frames := 1, cells := 1, slots := 3, locals := 12 } : Room) s m #[(.ref a1), (.long q2), (.int p3)] below meth c s₁ [] 0 0 := Stand.of_body Bd
  have e0 : s₁.heap = h0 := by rw [← hh, Bd.state]; rfl
  have N0 := Fr.nil n0
  have pre0 : ∀ t, Steps p.tables e below (s₁.setTop (mkF m 0 #[.val (.ref a1), .val (.long q2), .second, .val (.int p3)] [])) t → Steps p.tables e below (s₁.setTop (entryFrame m #[(.ref a1), (.long q2), (.int p3)] 4)) t := fun t k => castTop (ef_2 m a1 q2 p3) k
  obtain ⟨T1, X1, e1, st1⟩ := initO X0 hx hZ hown (hw _ (List.mem_of_getElem? (i := 10) rfl)) (hw _ (List.mem_of_getElem? (i := 11) rfl)) (hw _ (List.mem_of_getElem? (i := 12) rfl)) e0 (g := (mkF m 1 #[.val (.ref a1), .val (.long q2), .second, .val (.int p3)] [(.ref a1)])) rfl (by rw [hml]; rfl) rfl (hb hby d2_1) (by decide) (W := 0) (by show 2 * 0 + _ ≤ _; exact Nat.le_of_eq rfl) (by decide)
  obtain ⟨T2, h2, X2, e2, W2, st2⟩ := putF X1 hx hZ hown (host := "") (Or.inl (hw _ (List.mem_of_getElem? (i := 13) rfl))) Via.refl e1 F_issued E_a1 (Or.inr ⟨(hw _ (List.mem_of_getElem? (i := 14) rfl)), rfl, hnm⟩) (hw _ (List.mem_of_getElem? (i := 5) rfl)) (ty := .long) (by decide) rfl rfl (g := (mkF m 6 #[.val (.ref a1), .val (.long q2), .second, .val (.int p3)] [(.long q2), (.ref a1)])) rfl rfl (hb hby d2_6)
  have N2 := Fr.snoc X2 N0 g_a1
  have Z2 : n0 ≤ h2.size := Nat.le_trans Z0 (Keep.of_wr W2).1
  have G2_a1_issued := Fld.same W2 F_issued
  have G2_a1_count := Fld.other W2 F_count (Or.inr (slot_ne (Or.inr (hw _ (List.mem_of_getElem? (i := 16) rfl))) (Or.inr (hw _ (List.mem_of_getElem? (i := 14) rfl))) (by decide) (t := .int) (t' := .long) (by decide) (by decide)))
  have G2_a1_hops := Fld.other W2 F_hops (Or.inr (slot_ne (Or.inr (hw _ (List.mem_of_getElem? (i := 19) rfl))) (Or.inr (hw _ (List.mem_of_getElem? (i := 14) rfl))) (by decide) (t := (.array .int)) (t' := .long) (by decide) (by decide)))
  have G2_a1_answered := Fld.other W2 F_answered (Or.inr (slot_ne (Or.inl (hw _ (List.mem_of_getElem? (i := 26) rfl))) (Or.inr (hw _ (List.mem_of_getElem? (i := 14) rfl))) (by decide) (t := .int) (t' := .long) (by decide) (by decide)))
  have G2_a1_unresolved := Fld.other W2 F_unresolved (Or.inr (slot_ne (Or.inl (hw _ (List.mem_of_getElem? (i := 28) rfl))) (Or.inr (hw _ (List.mem_of_getElem? (i := 14) rfl))) (by decide) (t := .int) (t' := .long) (by decide) (by decide)))
  have G2_a1_wrong := Fld.other W2 F_wrong (Or.inr (slot_ne (Or.inl (hw _ (List.mem_of_getElem? (i := 35) rfl))) (Or.inr (hw _ (List.mem_of_getElem? (i := 14) rfl))) (by decide) (t := .int) (t' := .long) (by decide) (by decide)))
  have GE2_a1 := Exa.wr W2 E_a1
  have K2 : Keep h0 h2 [a1] := Keep.wr (Keep.refl h0 [a1]) W2 (Or.inl (List.mem_of_getElem? (i := 0) rfl))
  obtain ⟨T3, h3, X3, e3, W3, st3⟩ := putF X2 hx hZ hown (host := "") (Or.inl (hw _ (List.mem_of_getElem? (i := 15) rfl))) Via.refl e2 G2_a1_count GE2_a1 (Or.inr ⟨(hw _ (List.mem_of_getElem? (i := 16) rfl)), rfl, hnm⟩) (hw _ (List.mem_of_getElem? (i := 5) rfl)) (ty := .int) (by decide) rfl rfl (g := (mkF m 11 #[.val (.ref a1), .val (.long q2), .second, .val (.int p3)] [(.int p3), (.ref a1)])) rfl rfl (hb hby d2_11)
  have N3 := Fr.snoc X3 N2 g_a1
  have Z3 : n0 ≤ h3.size := Nat.le_trans Z2 (Keep.of_wr W3).1
  have G3_a1_issued := Fld.other W3 G2_a1_issued (Or.inr (slot_ne (Or.inr (hw _ (List.mem_of_getElem? (i := 14) rfl))) (Or.inr (hw _ (List.mem_of_getElem? (i := 16) rfl))) (by decide) (t := .long) (t' := .int) (by decide) (by decide)))
  have G3_a1_count := Fld.same W3 G2_a1_count
  have G3_a1_hops := Fld.other W3 G2_a1_hops (Or.inr (slot_ne (Or.inr (hw _ (List.mem_of_getElem? (i := 19) rfl))) (Or.inr (hw _ (List.mem_of_getElem? (i := 16) rfl))) (by decide) (t := (.array .int)) (t' := .int) (by decide) (by decide)))
  have G3_a1_answered := Fld.other W3 G2_a1_answered (Or.inr (slot_ne (Or.inl (hw _ (List.mem_of_getElem? (i := 26) rfl))) (Or.inr (hw _ (List.mem_of_getElem? (i := 16) rfl))) (by decide) (t := .int) (t' := .int) (by decide) (by decide)))
  have G3_a1_unresolved := Fld.other W3 G2_a1_unresolved (Or.inr (slot_ne (Or.inl (hw _ (List.mem_of_getElem? (i := 28) rfl))) (Or.inr (hw _ (List.mem_of_getElem? (i := 16) rfl))) (by decide) (t := .int) (t' := .int) (by decide) (by decide)))
  have G3_a1_wrong := Fld.other W3 G2_a1_wrong (Or.inr (slot_ne (Or.inl (hw _ (List.mem_of_getElem? (i := 35) rfl))) (Or.inr (hw _ (List.mem_of_getElem? (i := 16) rfl))) (by decide) (t := .int) (t' := .int) (by decide) (by decide)))
  have GE3_a1 := Exa.wr W3 GE2_a1
  have K3 : Keep h0 h3 [a1] := Keep.wr K2 W3 (Or.inl (List.mem_of_getElem? (i := 0) rfl))
  obtain ⟨T4, h4, k4, X4, e4, E4, A4, st4⟩ := newP X3 hx hZ (hw _ (List.mem_of_getElem? (i := 17) rfl)) e3 (g := (mkF m 16 #[.val (.ref a1), .val (.long q2), .second, .val (.int p3)] [(.int p3), (.ref a1)])) rfl (hb hby d2_16) rfl hneg (cap := 3) hcap (by decide) (by decide) (by decide)
  obtain ⟨b, g4⟩ : ∃ z, z = h3.size := ⟨_, rfl⟩
  rw [← g4] at A4 st4
  have g_b : n0 ≤ b := Nat.le_trans Z3 (Nat.le_of_eq g4.symm)
  have Z4 : n0 ≤ h4.size := Nat.le_trans Z3 E4.1
  have ne_ab : a1 ≠ b := Nat.ne_of_lt (Nat.lt_of_lt_of_le GE3_a1.lt (Nat.le_of_eq g4.symm))
  have K4 : Keep h0 h4 [a1] := Keep.ext K3 E4
  have G4_a1_issued := Fld.ext E4 G3_a1_issued
  have G4_a1_count := Fld.ext E4 G3_a1_count
  have G4_a1_hops := Fld.ext E4 G3_a1_hops
  have G4_a1_answered := Fld.ext E4 G3_a1_answered
  have G4_a1_unresolved := Fld.ext E4 G3_a1_unresolved
  have G4_a1_wrong := Fld.ext E4 G3_a1_wrong
  have GE4_a1 := Exa.ext E4 GE3_a1
  obtain ⟨T5, h5, X5, e5, W5, st5⟩ := putF X4 hx hZ hown (host := "") (Or.inl (hw _ (List.mem_of_getElem? (i := 18) rfl))) Via.refl e4 G4_a1_hops GE4_a1 (Or.inr ⟨(hw _ (List.mem_of_getElem? (i := 19) rfl)), rfl, hnm⟩) (hw _ (List.mem_of_getElem? (i := 5) rfl)) (ty := (.array .int)) (by decide) rfl rfl (g := (mkF m 18 #[.val (.ref a1), .val (.long q2), .second, .val (.int p3)] [(.ref b), (.ref a1)])) rfl rfl (hb hby d2_18)
  have N5 := Fr.snoc X5 N3 g_a1
  have Z5 : n0 ≤ h5.size := Nat.le_trans Z4 (Keep.of_wr W5).1
  have G5_a1_issued := Fld.other W5 G4_a1_issued (Or.inr (slot_ne (Or.inr (hw _ (List.mem_of_getElem? (i := 14) rfl))) (Or.inr (hw _ (List.mem_of_getElem? (i := 19) rfl))) (by decide) (t := .long) (t' := (.array .int)) (by decide) (by decide)))
  have G5_a1_count := Fld.other W5 G4_a1_count (Or.inr (slot_ne (Or.inr (hw _ (List.mem_of_getElem? (i := 16) rfl))) (Or.inr (hw _ (List.mem_of_getElem? (i := 19) rfl))) (by decide) (t := .int) (t' := (.array .int)) (by decide) (by decide)))
  have G5_a1_hops := Fld.same W5 G4_a1_hops
  have G5_a1_answered := Fld.other W5 G4_a1_answered (Or.inr (slot_ne (Or.inl (hw _ (List.mem_of_getElem? (i := 26) rfl))) (Or.inr (hw _ (List.mem_of_getElem? (i := 19) rfl))) (by decide) (t := .int) (t' := (.array .int)) (by decide) (by decide)))
  have G5_a1_unresolved := Fld.other W5 G4_a1_unresolved (Or.inr (slot_ne (Or.inl (hw _ (List.mem_of_getElem? (i := 28) rfl))) (Or.inr (hw _ (List.mem_of_getElem? (i := 19) rfl))) (by decide) (t := .int) (t' := (.array .int)) (by decide) (by decide)))
  have G5_a1_wrong := Fld.other W5 G4_a1_wrong (Or.inr (slot_ne (Or.inl (hw _ (List.mem_of_getElem? (i := 35) rfl))) (Or.inr (hw _ (List.mem_of_getElem? (i := 19) rfl))) (by decide) (t := .int) (t' := (.array .int)) (by decide) (by decide)))
  have GE5_a1 := Exa.wr W5 GE4_a1
  have K5 : Keep h0 h5 [a1] := Keep.wr K4 W5 (Or.inl (List.mem_of_getElem? (i := 0) rfl))
  have Ab := Arr.other W5 A4 (Ne.symm ne_ab)
  obtain ⟨fs, hr, hrun, hended, hW, hsame⟩ := X5.leave (v := none) (fun _ => rfl)
  refine ⟨_, _, pre0 _ ?_, hrun, hended, _, _, rfl, ?_, ⟨_, rfl⟩, hW, hsame.mono (by decide) (by decide)⟩
  · show Steps p.tables e below (s₁.setTop (mkF m 0 #[.val (.ref a1), .val (.long q2), .second, .val (.int p3)] [])) _
    refine XS.aloadN X0.here hx rfl (hb hby d2_0) rfl rfl ?_
    show Steps p.tables e below (s₁.setTop (mkF m 1 #[.val (.ref a1), .val (.long q2), .second, .val (.int p3)] [(.ref a1)])) _
    refine st1 _ ?_
    show Steps p.tables e below (T1.setTop (mkF m 4 #[.val (.ref a1), .val (.long q2), .second, .val (.int p3)] [])) _
    refine XS.aloadN X1.here hx rfl (hb hby d2_4) rfl rfl ?_
    show Steps p.tables e below (T1.setTop (mkF m 5 #[.val (.ref a1), .val (.long q2), .second, .val (.int p3)] [(.ref a1)])) _
    refine XS.lloadN X1.here hx rfl (hb hby d2_5) rfl ?_
    show Steps p.tables e below (T1.setTop (mkF m 6 #[.val (.ref a1), .val (.long q2), .second, .val (.int p3)] [(.long q2), (.ref a1)])) _
    refine st2 _ ?_
    show Steps p.tables e below (T2.setTop (mkF m 9 #[.val (.ref a1), .val (.long q2), .second, .val (.int p3)] [])) _
    refine XS.aloadN X2.here hx rfl (hb hby d2_9) rfl rfl ?_
    show Steps p.tables e below (T2.setTop (mkF m 10 #[.val (.ref a1), .val (.long q2), .second, .val (.int p3)] [(.ref a1)])) _
    refine XS.iloadN X2.here hx rfl (hb hby d2_10) rfl ?_
    show Steps p.tables e below (T2.setTop (mkF m 11 #[.val (.ref a1), .val (.long q2), .second, .val (.int p3)] [(.int p3), (.ref a1)])) _
    refine st3 _ ?_
    show Steps p.tables e below (T3.setTop (mkF m 14 #[.val (.ref a1), .val (.long q2), .second, .val (.int p3)] [])) _
    refine XS.aloadN X3.here hx rfl (hb hby d2_14) rfl rfl ?_
    show Steps p.tables e below (T3.setTop (mkF m 15 #[.val (.ref a1), .val (.long q2), .second, .val (.int p3)] [(.ref a1)])) _
    refine XS.iloadN X3.here hx rfl (hb hby d2_15) rfl ?_
    show Steps p.tables e below (T3.setTop (mkF m 16 #[.val (.ref a1), .val (.long q2), .second, .val (.int p3)] [(.int p3), (.ref a1)])) _
    refine st4 _ ?_
    show Steps p.tables e below (T4.setTop (mkF m 18 #[.val (.ref a1), .val (.long q2), .second, .val (.int p3)] [(.ref b), (.ref a1)])) _
    refine st5 _ ?_
    show Steps p.tables e below (T5.setTop (mkF m 21 #[.val (.ref a1), .val (.long q2), .second, .val (.int p3)] [])) _
    exact X5.returnOut hx Bd.returns (hb hby d2_21) hr
  · show Q_2 Z a1 q2 p3  h0 n0 _ T5.heap _
    rw [e5]
    exact ⟨rfl, N5, K5, b, g_b, ne_ab, GE5_a1, G5_a1_count, G5_a1_answered, G5_a1_unresolved, ⟨_, G5_a1_wrong⟩, G5_a1_hops, _, Ab, sz_new _ _ _⟩
theorem d4_0 : decode prog_78_method_4_code 0 = .ok (.aload_n 0, 1) := by decide +kernel
theorem d4_1 : decode prog_78_method_4_code 1 = .ok (.getfield 21, 3) := by decide +kernel
theorem d4_4 : decode prog_78_method_4_code 4 = .ok (.aload_n 0, 1) := by decide +kernel
theorem d4_5 : decode prog_78_method_4_code 5 = .ok (.getfield 27, 3) := by decide +kernel
theorem d4_8 : decode prog_78_method_4_code 8 = .ok (.iadd, 1) := by decide +kernel
theorem d4_9 : decode prog_78_method_4_code 9 = .ok (.aload_n 0, 1) := by decide +kernel
theorem d4_10 : decode prog_78_method_4_code 10 = .ok (.getfield 13, 3) := by decide +kernel
theorem d4_13 : decode prog_78_method_4_code 13 = .ok (.if_icmp .ne 7, 3) := by decide +kernel
theorem d4_16 : decode prog_78_method_4_code 16 = .ok (.iconst 1, 1) := by decide +kernel
theorem d4_17 : decode prog_78_method_4_code 17 = .ok (.goto 4, 3) := by decide +kernel
theorem d4_20 : decode prog_78_method_4_code 20 = .ok (.iconst 0, 1) := by decide +kernel
theorem d4_21 : decode prog_78_method_4_code 21 = .ok (.ireturn, 1) := by decide +kernel
theorem ef_4 (m : MethodId) (a1 : Addr) : entryFrame m #[(.ref a1)] 1 = mkF m 0 #[.val (.ref a1)] [] := by first | (simp [entryFrame, mkF, argsToLocals, Value.category]; done) | rfl
def Q_4 (Z : State) (a1 : Addr) (b : Addr) (cc x u : Int32) (h0 : Heap) (n0 : Nat) (v : Option Value) (h : Heap) (L : List Loc) : Prop := v = some (.int (own_e (x + u) cc)) ∧ Fr n0 L ∧ h = h0
set_option maxRecDepth 65536 in
set_option maxHeartbeats 40000000 in
theorem rm_4 (l : Launch) (Z : State) (a0 : Array Value) (hw : ∀ d ∈ tables_1, d.before a0 Z = true) (ws : List Jvm.Cond) (a1 : Addr) (b : Addr) (cc x u : Int32) (h0 : Heap) (n0 : Nat) (Z0 : n0 ≤ h0.size) (I0 : own_I Z h0 a1 b cc x u) :
    MetFree l (⟨"com/example/ringweld/ringweld/sim/LookupBatch", "ended", "()Z"⟩ : MethodName) (head1 (Jvm.Cond.code (⟨"com/example/ringweld/ringweld/sim/LookupBatch", "ended", "()Z"⟩ : MethodName) prog_78_method_4_code 1 (some .boolean) :: ws) ({ frames := 0, cells := 0, slots := 0, locals := 0 } : Room)) (fun a U => a = #[(.ref a1)] ∧ Z.Warmed39 U.vm ∧ U.heap = h0) (fun _ _ _ _ _ => True) (fun _ U o U' => ∃ v L, o = .returned v ∧ Q_4 Z a1 b cc x u h0 n0 v U'.heap L ∧ FrameEnd U o U' L ({ frames := 0, cells := 0, slots := 0, locals := 0 } : Room).cells ({ frames := 0, cells := 0, slots := 0, locals := 0 } : Room).slots) := by
  refine MetFree.of_bodySF (plainFor_of_name pn_0) hisR ?_
  intro p e s m args below meth c s₁ Bd hml0 hP hK
  obtain ⟨rfl, hZ, hh⟩ := hP
  have hx := Bd.exec
  have hby := Bd.bytes
  have hml : c.maxLocals = 1 := hml0
  have hown : s.vm.findClass "com/example/ringweld/ringweld/sim/LookupBatch" = some m.cls := findClass_of_methodNamed Bd.named
  have hnm := (name_of_methodNamed Bd.named Bd.method).1
  have X0 : Stand p l e ({ frames := 0, cells := 0, slots := 0, locals := 0 } : Room) s m #[(.ref a1)] below meth c s₁ [] 0 0 := Stand.of_body Bd
  have e0 : s₁.heap = h0 := by rw [← hh, Bd.state]; rfl
  have N0 := Fr.nil n0
  have pre0 : ∀ t, Steps p.tables e below (s₁.setTop (mkF m 0 #[.val (.ref a1)] [])) t → Steps p.tables e below (s₁.setTop (entryFrame m #[(.ref a1)] 1)) t := fun t k => castTop (ef_4 m a1) k
  obtain ⟨ne_ab, E_a, F_c, F_x, F_u, ⟨wv, F_w⟩, F_h, cl, Ar, Sz⟩ := I0
  obtain ⟨T6, X6, e6, st6⟩ := getF X0 hx hZ hown (host := "") (Or.inl (hw _ (List.mem_of_getElem? (i := 25) rfl))) Via.refl e0 F_x (g := (mkF m 1 #[.val (.ref a1)] [(.ref a1)])) rfl rfl (hb hby d4_1)
  obtain ⟨T7, X7, e7, st7⟩ := getF X6 hx hZ hown (host := "") (Or.inl (hw _ (List.mem_of_getElem? (i := 27) rfl))) Via.refl e6 F_u (g := (mkF m 5 #[.val (.ref a1)] [(.ref a1), (.int x)])) rfl rfl (hb hby d4_5)
  obtain ⟨T8, X8, e8, st8⟩ := getF X7 hx hZ hown (host := "") (Or.inl (hw _ (List.mem_of_getElem? (i := 15) rfl))) Via.refl e7 F_c (g := (mkF m 10 #[.val (.ref a1)] [(.ref a1), (.int (x + u))])) rfl rfl (hb hby d4_10)
  have j21 : ∀ t, Steps p.tables e below (T8.setTop (mkF m 21 #[.val (.ref a1)] [(.int (own_e (x + u) cc))])) t → Steps p.tables e below (T8.setTop (mkF m 13 #[.val (.ref a1)] [(.int cc), (.int (x + u))])) t := by
    intro t kt
    by_cases hc : x + u = cc
    · rw [own_e1 hc] at kt
      show Steps p.tables e below (T8.setTop (mkF m 13 #[.val (.ref a1)] [(.int cc), (.int (x + u))])) _
      refine XS.icmpNo X8.here hx rfl (hb hby d4_13) rfl (teq (hc : (x + u) = cc)).2 ?_
      show Steps p.tables e below (T8.setTop (mkF m 16 #[.val (.ref a1)] [])) _
      refine XS.iconst X8.here hx rfl (hb hby d4_16) ?_
      show Steps p.tables e below (T8.setTop (mkF m 17 #[.val (.ref a1)] [(.int (1 : Int32))])) _
      refine XS.goto X8.here hx rfl (pc0 := 17) (pc' := 21) rfl (hb hby d4_17) (by decide) (by decide) ?_
      exact kt
    · rw [own_e0 hc] at kt
      show Steps p.tables e below (T8.setTop (mkF m 13 #[.val (.ref a1)] [(.int cc), (.int (x + u))])) _
      refine XS.icmpYes X8.here hx rfl (pc0 := 13) (pc' := 20) rfl (hb hby d4_13) rfl (feq (hc : ¬ ((x + u) = cc))).2 (by decide) (by decide) ?_
      show Steps p.tables e below (T8.setTop (mkF m 20 #[.val (.ref a1)] [])) _
      refine XS.iconst X8.here hx rfl (hb hby d4_20) ?_
      exact kt
  obtain ⟨fs, hr, hrun, hended, hW, hsame⟩ := X8.leave (v := some (.int (own_e (x + u) cc))) (fun h => by rw [Bd.returns] at h; cases h)
  refine ⟨_, _, pre0 _ ?_, hrun, hended, _, _, rfl, ?_, ⟨_, rfl⟩, hW, hsame.mono (by decide) (by decide)⟩
  · show Steps p.tables e below (s₁.setTop (mkF m 0 #[.val (.ref a1)] [])) _
    refine XS.aloadN X0.here hx rfl (hb hby d4_0) rfl rfl ?_
    show Steps p.tables e below (s₁.setTop (mkF m 1 #[.val (.ref a1)] [(.ref a1)])) _
    refine st6 _ ?_
    show Steps p.tables e below (T6.setTop (mkF m 4 #[.val (.ref a1)] [(.int x)])) _
    refine XS.aloadN X6.here hx rfl (hb hby d4_4) rfl rfl ?_
    show Steps p.tables e below (T6.setTop (mkF m 5 #[.val (.ref a1)] [(.ref a1), (.int x)])) _
    refine st7 _ ?_
    show Steps p.tables e below (T7.setTop (mkF m 8 #[.val (.ref a1)] [(.int u), (.int x)])) _
    refine XS.iadd X7.here hx rfl (hb hby d4_8) rfl ?_
    show Steps p.tables e below (T7.setTop (mkF m 9 #[.val (.ref a1)] [(.int (x + u))])) _
    refine XS.aloadN X7.here hx rfl (hb hby d4_9) rfl rfl ?_
    show Steps p.tables e below (T7.setTop (mkF m 10 #[.val (.ref a1)] [(.ref a1), (.int (x + u))])) _
    refine st8 _ ?_
    show Steps p.tables e below (T8.setTop (mkF m 13 #[.val (.ref a1)] [(.int cc), (.int (x + u))])) _
    refine j21 _ ?_
    show Steps p.tables e below (T8.setTop (mkF m 21 #[.val (.ref a1)] [(.int (own_e (x + u) cc))])) _
    exact retN X8 hx (t := .boolean) Bd.returns (by simp) (hb hby d4_21) (by rw [own_enar _ _]; exact hr)
  · show Q_4 Z a1 b cc x u h0 n0 _ T8.heap _
    rw [e8]
    exact ⟨rfl, N0, rfl⟩
theorem d5_0 : decode prog_78_method_2_code 0 = .ok (.aload_n 0, 1) := by decide +kernel
theorem d5_1 : decode prog_78_method_2_code 1 = .ok (.getfield 17, 3) := by decide +kernel
theorem d5_4 : decode prog_78_method_2_code 4 = .ok (.aload_n 0, 1) := by decide +kernel
theorem d5_5 : decode prog_78_method_2_code 5 = .ok (.dup, 1) := by decide +kernel
theorem d5_6 : decode prog_78_method_2_code 6 = .ok (.getfield 21, 3) := by decide +kernel
theorem d5_9 : decode prog_78_method_2_code 9 = .ok (.dup_x1, 1) := by decide +kernel
theorem d5_10 : decode prog_78_method_2_code 10 = .ok (.iconst 1, 1) := by decide +kernel
theorem d5_11 : decode prog_78_method_2_code 11 = .ok (.iadd, 1) := by decide +kernel
theorem d5_12 : decode prog_78_method_2_code 12 = .ok (.putfield 21, 3) := by decide +kernel
theorem d5_15 : decode prog_78_method_2_code 15 = .ok (.iload_n 1, 1) := by decide +kernel
theorem d5_16 : decode prog_78_method_2_code 16 = .ok (.iastore, 1) := by decide +kernel
theorem d5_17 : decode prog_78_method_2_code 17 = .ok (.iload_n 2, 1) := by decide +kernel
theorem d5_18 : decode prog_78_method_2_code 18 = .ok (.ifCond .ne 13, 3) := by decide +kernel
theorem d5_21 : decode prog_78_method_2_code 21 = .ok (.aload_n 0, 1) := by decide +kernel
theorem d5_22 : decode prog_78_method_2_code 22 = .ok (.dup, 1) := by decide +kernel
theorem d5_23 : decode prog_78_method_2_code 23 = .ok (.getfield 24, 3) := by decide +kernel
theorem d5_26 : decode prog_78_method_2_code 26 = .ok (.iconst 1, 1) := by decide +kernel
theorem d5_27 : decode prog_78_method_2_code 27 = .ok (.iadd, 1) := by decide +kernel
theorem d5_28 : decode prog_78_method_2_code 28 = .ok (.putfield 24, 3) := by decide +kernel
theorem d5_31 : decode prog_78_method_2_code 31 = .ok (.return_, 1) := by decide +kernel
theorem ef_5a (m : MethodId) (a1 : Addr) (p2 : Int32) (p3 : Int32) : entryFrame m #[(.ref a1), (.int p2), (.int p3)] 3 = mkF m 0 #[.val (.ref a1), .val (.int p2), .val (.int p3)] [] := by first | (simp [entryFrame, mkF, argsToLocals, Value.category]; done) | rfl
def Q_5a (Z : State) (a1 : Addr) (p2 : Int32) (p3 : Int32) (b : Addr) (cc x u : Int32) (h0 : Heap) (n0 : Nat) (v : Option Value) (h : Heap) (L : List Loc) : Prop := v = none ∧ Fr n0 L ∧ Keep h0 h [a1, b] ∧ own_I Z h a1 b cc (x + 1) u
set_option maxRecDepth 65536 in
set_option maxHeartbeats 40000000 in
theorem rm_5a (l : Launch) (Z : State) (a0 : Array Value) (hw : ∀ d ∈ tables_1, d.before a0 Z = true) (ws : List Jvm.Cond) (a1 : Addr) (p2 : Int32) (p3 : Int32) (b : Addr) (cc x u : Int32) (h0 : Heap) (n0 : Nat) (Z0 : n0 ≤ h0.size) (I0 : own_I Z h0 a1 b cc x u) (hin : ¬ x < 0 ∧ x < cc) (g_a1 : n0 ≤ a1) (g_b : n0 ≤ b) (hc : p3 = 0) :
    MetFree l (⟨"com/example/ringweld/ringweld/sim/LookupBatch", "answered", "(IZ)V"⟩ : MethodName) (head1 (Jvm.Cond.code (⟨"com/example/ringweld/ringweld/sim/LookupBatch", "answered", "(IZ)V"⟩ : MethodName) prog_78_method_2_code 3 none :: ws) ({ frames := 0, cells := 0, slots := 0, locals := 0 } : Room)) (fun a U => a = #[(.ref a1), (.int p2), (.int p3)] ∧ Z.Warmed39 U.vm ∧ U.heap = h0) (fun _ _ _ _ _ => True) (fun _ U o U' => ∃ v L, o = .returned v ∧ Q_5a Z a1 p2 p3 b cc x u h0 n0 v U'.heap L ∧ FrameEnd U o U' L ({ frames := 0, cells := 0, slots := 0, locals := 0 } : Room).cells ({ frames := 0, cells := 0, slots := 0, locals := 0 } : Room).slots) := by
  refine MetFree.of_bodySF (plainFor_of_name pn_0) hisR ?_
  intro p e s m args below meth c s₁ Bd hml0 hP hK
  obtain ⟨rfl, hZ, hh⟩ := hP
  have hx := Bd.exec
  have hby := Bd.bytes
  have hml : c.maxLocals = 3 := hml0
  have hown : s.vm.findClass "com/example/ringweld/ringweld/sim/LookupBatch" = some m.cls := findClass_of_methodNamed Bd.named
  have hnm := (name_of_methodNamed Bd.named Bd.method).1
  have X0 : Stand p l e ({ frames := 0, cells := 0, slots := 0, locals := 0 } : Room) s m #[(.ref a1), (.int p2), (.int p3)] below meth c s₁ [] 0 0 := Stand.of_body Bd
  have e0 : s₁.heap = h0 := by rw [← hh, Bd.state]; rfl
  have N0 := Fr.nil n0
  have pre0 : ∀ t, Steps p.tables e below (s₁.setTop (mkF m 0 #[.val (.ref a1), .val (.int p2), .val (.int p3)] [])) t → Steps p.tables e below (s₁.setTop (entryFrame m #[(.ref a1), (.int p2), (.int p3)] 3)) t := fun t k => castTop (ef_5a m a1 p2 p3) k
  obtain ⟨ne_ab, E_a, F_c, F_x, F_u, ⟨wv, F_w⟩, F_h, cl, Ar, Sz⟩ := I0
  obtain ⟨T9, X9, e9, st9⟩ := getF X0 hx hZ hown (host := "") (Or.inl (hw _ (List.mem_of_getElem? (i := 18) rfl))) Via.refl e0 F_h (g := (mkF m 1 #[.val (.ref a1), .val (.int p2), .val (.int p3)] [(.ref a1)])) rfl rfl (hb hby d5_1)
  obtain ⟨T10, X10, e10, st10⟩ := getF X9 hx hZ hown (host := "") (Or.inl (hw _ (List.mem_of_getElem? (i := 25) rfl))) Via.refl e9 F_x (g := (mkF m 6 #[.val (.ref a1), .val (.int p2), .val (.int p3)] [(.ref a1), (.ref a1), (.ref b)])) rfl rfl (hb hby d5_6)
  obtain ⟨T11, h11, X11, e11, W11, st11⟩ := putF X10 hx hZ hown (host := "") (Or.inl (hw _ (List.mem_of_getElem? (i := 25) rfl))) Via.refl e10 F_x E_a (Or.inl (hw _ (List.mem_of_getElem? (i := 26) rfl))) (hw _ (List.mem_of_getElem? (i := 5) rfl)) (ty := .int) (by decide) rfl rfl (g := (mkF m 12 #[.val (.ref a1), .val (.int p2), .val (.int p3)] [(.int (x + (1 : Int32))), (.ref a1), (.int x), (.ref b)])) rfl rfl (hb hby d5_12)
  have N11 := Fr.snoc X11 N0 g_a1
  have Z11 : n0 ≤ h11.size := Nat.le_trans Z0 (Keep.of_wr W11).1
  have G11_a1_count := Fld.other W11 F_c (Or.inr (slot_ne (Or.inr (hw _ (List.mem_of_getElem? (i := 16) rfl))) (Or.inl (hw _ (List.mem_of_getElem? (i := 26) rfl))) (by decide) (t := .int) (t' := .int) (by decide) (by decide)))
  have G11_a1_answered := Fld.same W11 F_x
  have G11_a1_unresolved := Fld.other W11 F_u (Or.inr (slot_ne (Or.inl (hw _ (List.mem_of_getElem? (i := 28) rfl))) (Or.inl (hw _ (List.mem_of_getElem? (i := 26) rfl))) (by decide) (t := .int) (t' := .int) (by decide) (by decide)))
  have G11_a1_wrong := Fld.other W11 F_w (Or.inr (slot_ne (Or.inl (hw _ (List.mem_of_getElem? (i := 35) rfl))) (Or.inl (hw _ (List.mem_of_getElem? (i := 26) rfl))) (by decide) (t := .int) (t' := .int) (by decide) (by decide)))
  have G11_a1_hops := Fld.other W11 F_h (Or.inr (slot_ne (Or.inr (hw _ (List.mem_of_getElem? (i := 19) rfl))) (Or.inl (hw _ (List.mem_of_getElem? (i := 26) rfl))) (by decide) (t := (.array .int)) (t' := .int) (by decide) (by decide)))
  have GE11_a1 := Exa.wr W11 E_a
  have Ar11 := Arr.other W11 Ar (Ne.symm ne_ab)
  have K11 : Keep h0 h11 [a1, b] := Keep.wr (Keep.refl h0 [a1, b]) W11 (Or.inl (List.mem_of_getElem? (i := 0) rfl))
  obtain ⟨T12, h12, X12, e12, W12, st12⟩ := stI X11 hx hZ e11 Ar11 (j := x) (inb_of Sz hin) (g := (mkF m 16 #[.val (.ref a1), .val (.int p2), .val (.int p3)] [(.int p2), (.int x), (.ref b)])) rfl rfl (hb hby d5_16)
  have N12 := Fr.snoc X12 N11 g_b
  have Z12 : n0 ≤ h12.size := Nat.le_trans Z11 (Keep.of_wr W12).1
  have G12_a1_count := Fld.other W12 G11_a1_count (Or.inl ne_ab)
  have G12_a1_answered := Fld.other W12 G11_a1_answered (Or.inl ne_ab)
  have G12_a1_unresolved := Fld.other W12 G11_a1_unresolved (Or.inl ne_ab)
  have G12_a1_wrong := Fld.other W12 G11_a1_wrong (Or.inl ne_ab)
  have G12_a1_hops := Fld.other W12 G11_a1_hops (Or.inl ne_ab)
  have GE12_a1 := Exa.wr W12 GE11_a1
  have Ar12 := Arr.same W12 Ar11
  have K12 : Keep h0 h12 [a1, b] := Keep.wr K11 W12 (Or.inl (List.mem_of_getElem? (i := 1) rfl))
  obtain ⟨T13, X13, e13, st13⟩ := getF X12 hx hZ hown (host := "") (Or.inl (hw _ (List.mem_of_getElem? (i := 34) rfl))) Via.refl e12 G12_a1_wrong (g := (mkF m 23 #[.val (.ref a1), .val (.int p2), .val (.int p3)] [(.ref a1), (.ref a1)])) rfl rfl (hb hby d5_23)
  obtain ⟨T14, h14, X14, e14, W14, st14⟩ := putF X13 hx hZ hown (host := "") (Or.inl (hw _ (List.mem_of_getElem? (i := 34) rfl))) Via.refl e13 G12_a1_wrong GE12_a1 (Or.inl (hw _ (List.mem_of_getElem? (i := 35) rfl))) (hw _ (List.mem_of_getElem? (i := 5) rfl)) (ty := .int) (by decide) rfl rfl (g := (mkF m 28 #[.val (.ref a1), .val (.int p2), .val (.int p3)] [(.int (wv + (1 : Int32))), (.ref a1)])) rfl rfl (hb hby d5_28)
  have N14 := Fr.snoc X14 N12 g_a1
  have Z14 : n0 ≤ h14.size := Nat.le_trans Z12 (Keep.of_wr W14).1
  have G14_a1_count := Fld.other W14 G12_a1_count (Or.inr (slot_ne (Or.inr (hw _ (List.mem_of_getElem? (i := 16) rfl))) (Or.inl (hw _ (List.mem_of_getElem? (i := 35) rfl))) (by decide) (t := .int) (t' := .int) (by decide) (by decide)))
  have G14_a1_answered := Fld.other W14 G12_a1_answered (Or.inr (slot_ne (Or.inl (hw _ (List.mem_of_getElem? (i := 26) rfl))) (Or.inl (hw _ (List.mem_of_getElem? (i := 35) rfl))) (by decide) (t := .int) (t' := .int) (by decide) (by decide)))
  have G14_a1_unresolved := Fld.other W14 G12_a1_unresolved (Or.inr (slot_ne (Or.inl (hw _ (List.mem_of_getElem? (i := 28) rfl))) (Or.inl (hw _ (List.mem_of_getElem? (i := 35) rfl))) (by decide) (t := .int) (t' := .int) (by decide) (by decide)))
  have G14_a1_wrong := Fld.same W14 G12_a1_wrong
  have G14_a1_hops := Fld.other W14 G12_a1_hops (Or.inr (slot_ne (Or.inr (hw _ (List.mem_of_getElem? (i := 19) rfl))) (Or.inl (hw _ (List.mem_of_getElem? (i := 35) rfl))) (by decide) (t := (.array .int)) (t' := .int) (by decide) (by decide)))
  have GE14_a1 := Exa.wr W14 GE12_a1
  have Ar14 := Arr.other W14 Ar12 (Ne.symm ne_ab)
  have K14 : Keep h0 h14 [a1, b] := Keep.wr K12 W14 (Or.inl (List.mem_of_getElem? (i := 0) rfl))
  obtain ⟨fs, hr, hrun, hended, hW, hsame⟩ := X14.leave (v := none) (fun _ => rfl)
  refine ⟨_, _, pre0 _ ?_, hrun, hended, _, _, rfl, ?_, ⟨_, rfl⟩, hW, hsame.mono (by decide) (by decide)⟩
  · show Steps p.tables e below (s₁.setTop (mkF m 0 #[.val (.ref a1), .val (.int p2), .val (.int p3)] [])) _
    refine XS.aloadN X0.here hx rfl (hb hby d5_0) rfl rfl ?_
    show Steps p.tables e below (s₁.setTop (mkF m 1 #[.val (.ref a1), .val (.int p2), .val (.int p3)] [(.ref a1)])) _
    refine st9 _ ?_
    show Steps p.tables e below (T9.setTop (mkF m 4 #[.val (.ref a1), .val (.int p2), .val (.int p3)] [(.ref b)])) _
    refine XS.aloadN X9.here hx rfl (hb hby d5_4) rfl rfl ?_
    show Steps p.tables e below (T9.setTop (mkF m 5 #[.val (.ref a1), .val (.int p2), .val (.int p3)] [(.ref a1), (.ref b)])) _
    refine XS.dup X9.here hx rfl (hb hby d5_5) rfl rfl ?_
    show Steps p.tables e below (T9.setTop (mkF m 6 #[.val (.ref a1), .val (.int p2), .val (.int p3)] [(.ref a1), (.ref a1), (.ref b)])) _
    refine st10 _ ?_
    show Steps p.tables e below (T10.setTop (mkF m 9 #[.val (.ref a1), .val (.int p2), .val (.int p3)] [(.int x), (.ref a1), (.ref b)])) _
    refine XS.dupX1 X10.here hx rfl (hb hby d5_9) rfl rfl rfl ?_
    show Steps p.tables e below (T10.setTop (mkF m 10 #[.val (.ref a1), .val (.int p2), .val (.int p3)] [(.int x), (.ref a1), (.int x), (.ref b)])) _
    refine XS.iconst X10.here hx rfl (hb hby d5_10) ?_
    show Steps p.tables e below (T10.setTop (mkF m 11 #[.val (.ref a1), .val (.int p2), .val (.int p3)] [(.int (1 : Int32)), (.int x), (.ref a1), (.int x), (.ref b)])) _
    refine XS.iadd X10.here hx rfl (hb hby d5_11) rfl ?_
    show Steps p.tables e below (T10.setTop (mkF m 12 #[.val (.ref a1), .val (.int p2), .val (.int p3)] [(.int (x + (1 : Int32))), (.ref a1), (.int x), (.ref b)])) _
    refine st11 _ ?_
    show Steps p.tables e below (T11.setTop (mkF m 15 #[.val (.ref a1), .val (.int p2), .val (.int p3)] [(.int x), (.ref b)])) _
    refine XS.iloadN X11.here hx rfl (hb hby d5_15) rfl ?_
    show Steps p.tables e below (T11.setTop (mkF m 16 #[.val (.ref a1), .val (.int p2), .val (.int p3)] [(.int p2), (.int x), (.ref b)])) _
    refine st12 _ ?_
    show Steps p.tables e below (T12.setTop (mkF m 17 #[.val (.ref a1), .val (.int p2), .val (.int p3)] [])) _
    refine XS.iloadN X12.here hx rfl (hb hby d5_17) rfl ?_
    show Steps p.tables e below (T12.setTop (mkF m 18 #[.val (.ref a1), .val (.int p2), .val (.int p3)] [(.int p3)])) _
    refine XS.ifNo X12.here hx rfl (hb hby d5_18) rfl ((if0 _ _).trans (teq (hc : p3 = (0 : Int32))).2) ?_
    show Steps p.tables e below (T12.setTop (mkF m 21 #[.val (.ref a1), .val (.int p2), .val (.int p3)] [])) _
    refine XS.aloadN X12.here hx rfl (hb hby d5_21) rfl rfl ?_
    show Steps p.tables e below (T12.setTop (mkF m 22 #[.val (.ref a1), .val (.int p2), .val (.int p3)] [(.ref a1)])) _
    refine XS.dup X12.here hx rfl (hb hby d5_22) rfl rfl ?_
    show Steps p.tables e below (T12.setTop (mkF m 23 #[.val (.ref a1), .val (.int p2), .val (.int p3)] [(.ref a1), (.ref a1)])) _
    refine st13 _ ?_
    show Steps p.tables e below (T13.setTop (mkF m 26 #[.val (.ref a1), .val (.int p2), .val (.int p3)] [(.int wv), (.ref a1)])) _
    refine XS.iconst X13.here hx rfl (hb hby d5_26) ?_
    show Steps p.tables e below (T13.setTop (mkF m 27 #[.val (.ref a1), .val (.int p2), .val (.int p3)] [(.int (1 : Int32)), (.int wv), (.ref a1)])) _
    refine XS.iadd X13.here hx rfl (hb hby d5_27) rfl ?_
    show Steps p.tables e below (T13.setTop (mkF m 28 #[.val (.ref a1), .val (.int p2), .val (.int p3)] [(.int (wv + (1 : Int32))), (.ref a1)])) _
    refine st14 _ ?_
    show Steps p.tables e below (T14.setTop (mkF m 31 #[.val (.ref a1), .val (.int p2), .val (.int p3)] [])) _
    exact X14.returnOut hx Bd.returns (hb hby d5_31) hr
  · show Q_5a Z a1 p2 p3 b cc x u h0 n0 _ T14.heap _
    rw [e14]
    exact ⟨rfl, N14, K14, ne_ab, GE14_a1, G14_a1_count, G14_a1_answered, G14_a1_unresolved, ⟨_, G14_a1_wrong⟩, G14_a1_hops, _, Ar14, (sz_set _ _ _).trans Sz⟩
theorem ef_5b (m : MethodId) (a1 : Addr) (p2 : Int32) (p3 : Int32) : entryFrame m #[(.ref a1), (.int p2), (.int p3)] 3 = mkF m 0 #[.val (.ref a1), .val (.int p2), .val (.int p3)] [] := by first | (simp [entryFrame, mkF, argsToLocals, Value.category]; done) | rfl
set_option maxRecDepth 65536 in
set_option maxHeartbeats 40000000 in
theorem rm_5b (l : Launch) (Z : State) (a0 : Array Value) (hw : ∀ d ∈ tables_1, d.before a0 Z = true) (ws : List Jvm.Cond) (a1 : Addr) (p2 : Int32) (p3 : Int32) (b : Addr) (cc x u : Int32) (h0 : Heap) (n0 : Nat) (Z0 : n0 ≤ h0.size) (I0 : own_I Z h0 a1 b cc x u) (hin : ¬ x < 0 ∧ x < cc) (g_a1 : n0 ≤ a1) (g_b : n0 ≤ b) (hc : ¬ p3 = 0) :
    MetFree l (⟨"com/example/ringweld/ringweld/sim/LookupBatch", "answered", "(IZ)V"⟩ : MethodName) (head1 (Jvm.Cond.code (⟨"com/example/ringweld/ringweld/sim/LookupBatch", "answered", "(IZ)V"⟩ : MethodName) prog_78_method_2_code 3 none :: ws) ({ frames := 0, cells := 0, slots := 0, locals := 0 } : Room)) (fun a U => a = #[(.ref a1), (.int p2), (.int p3)] ∧ Z.Warmed39 U.vm ∧ U.heap = h0) (fun _ _ _ _ _ => True) (fun _ U o U' => ∃ v L, o = .returned v ∧ Q_5a Z a1 p2 p3 b cc x u h0 n0 v U'.heap L ∧ FrameEnd U o U' L ({ frames := 0, cells := 0, slots := 0, locals := 0 } : Room).cells ({ frames := 0, cells := 0, slots := 0, locals := 0 } : Room).slots) := by
  refine MetFree.of_bodySF (plainFor_of_name pn_0) hisR ?_
  intro p e s m args below meth c s₁ Bd hml0 hP hK
  obtain ⟨rfl, hZ, hh⟩ := hP
  have hx := Bd.exec
  have hby := Bd.bytes
  have hml : c.maxLocals = 3 := hml0
  have hown : s.vm.findClass "com/example/ringweld/ringweld/sim/LookupBatch" = some m.cls := findClass_of_methodNamed Bd.named
  have hnm := (name_of_methodNamed Bd.named Bd.method).1
  have X0 : Stand p l e ({ frames := 0, cells := 0, slots := 0, locals := 0 } : Room) s m #[(.ref a1), (.int p2), (.int p3)] below meth c s₁ [] 0 0 := Stand.of_body Bd
  have e0 : s₁.heap = h0 := by rw [← hh, Bd.state]; rfl
  have N0 := Fr.nil n0
  have pre0 : ∀ t, Steps p.tables e below (s₁.setTop (mkF m 0 #[.val (.ref a1), .val (.int p2), .val (.int p3)] [])) t → Steps p.tables e below (s₁.setTop (entryFrame m #[(.ref a1), (.int p2), (.int p3)] 3)) t := fun t k => castTop (ef_5b m a1 p2 p3) k
  obtain ⟨ne_ab, E_a, F_c, F_x, F_u, ⟨wv, F_w⟩, F_h, cl, Ar, Sz⟩ := I0
  obtain ⟨T15, X15, e15, st15⟩ := getF X0 hx hZ hown (host := "") (Or.inl (hw _ (List.mem_of_getElem? (i := 18) rfl))) Via.refl e0 F_h (g := (mkF m 1 #[.val (.ref a1), .val (.int p2), .val (.int p3)] [(.ref a1)])) rfl rfl (hb hby d5_1)
  obtain ⟨T16, X16, e16, st16⟩ := getF X15 hx hZ hown (host := "") (Or.inl (hw _ (List.mem_of_getElem? (i := 25) rfl))) Via.refl e15 F_x (g := (mkF m 6 #[.val (.ref a1), .val (.int p2), .val (.int p3)] [(.ref a1), (.ref a1), (.ref b)])) rfl rfl (hb hby d5_6)
  obtain ⟨T17, h17, X17, e17, W17, st17⟩ := putF X16 hx hZ hown (host := "") (Or.inl (hw _ (List.mem_of_getElem? (i := 25) rfl))) Via.refl e16 F_x E_a (Or.inl (hw _ (List.mem_of_getElem? (i := 26) rfl))) (hw _ (List.mem_of_getElem? (i := 5) rfl)) (ty := .int) (by decide) rfl rfl (g := (mkF m 12 #[.val (.ref a1), .val (.int p2), .val (.int p3)] [(.int (x + (1 : Int32))), (.ref a1), (.int x), (.ref b)])) rfl rfl (hb hby d5_12)
  have N17 := Fr.snoc X17 N0 g_a1
  have Z17 : n0 ≤ h17.size := Nat.le_trans Z0 (Keep.of_wr W17).1
  have G17_a1_count := Fld.other W17 F_c (Or.inr (slot_ne (Or.inr (hw _ (List.mem_of_getElem? (i := 16) rfl))) (Or.inl (hw _ (List.mem_of_getElem? (i := 26) rfl))) (by decide) (t := .int) (t' := .int) (by decide) (by decide)))
  have G17_a1_answered := Fld.same W17 F_x
  have G17_a1_unresolved := Fld.other W17 F_u (Or.inr (slot_ne (Or.inl (hw _ (List.mem_of_getElem? (i := 28) rfl))) (Or.inl (hw _ (List.mem_of_getElem? (i := 26) rfl))) (by decide) (t := .int) (t' := .int) (by decide) (by decide)))
  have G17_a1_wrong := Fld.other W17 F_w (Or.inr (slot_ne (Or.inl (hw _ (List.mem_of_getElem? (i := 35) rfl))) (Or.inl (hw _ (List.mem_of_getElem? (i := 26) rfl))) (by decide) (t := .int) (t' := .int) (by decide) (by decide)))
  have G17_a1_hops := Fld.other W17 F_h (Or.inr (slot_ne (Or.inr (hw _ (List.mem_of_getElem? (i := 19) rfl))) (Or.inl (hw _ (List.mem_of_getElem? (i := 26) rfl))) (by decide) (t := (.array .int)) (t' := .int) (by decide) (by decide)))
  have GE17_a1 := Exa.wr W17 E_a
  have Ar17 := Arr.other W17 Ar (Ne.symm ne_ab)
  have K17 : Keep h0 h17 [a1, b] := Keep.wr (Keep.refl h0 [a1, b]) W17 (Or.inl (List.mem_of_getElem? (i := 0) rfl))
  obtain ⟨T18, h18, X18, e18, W18, st18⟩ := stI X17 hx hZ e17 Ar17 (j := x) (inb_of Sz hin) (g := (mkF m 16 #[.val (.ref a1), .val (.int p2), .val (.int p3)] [(.int p2), (.int x), (.ref b)])) rfl rfl (hb hby d5_16)
  have N18 := Fr.snoc X18 N17 g_b
  have Z18 : n0 ≤ h18.size := Nat.le_trans Z17 (Keep.of_wr W18).1
  have G18_a1_count := Fld.other W18 G17_a1_count (Or.inl ne_ab)
  have G18_a1_answered := Fld.other W18 G17_a1_answered (Or.inl ne_ab)
  have G18_a1_unresolved := Fld.other W18 G17_a1_unresolved (Or.inl ne_ab)
  have G18_a1_wrong := Fld.other W18 G17_a1_wrong (Or.inl ne_ab)
  have G18_a1_hops := Fld.other W18 G17_a1_hops (Or.inl ne_ab)
  have GE18_a1 := Exa.wr W18 GE17_a1
  have Ar18 := Arr.same W18 Ar17
  have K18 : Keep h0 h18 [a1, b] := Keep.wr K17 W18 (Or.inl (List.mem_of_getElem? (i := 1) rfl))
  obtain ⟨fs, hr, hrun, hended, hW, hsame⟩ := X18.leave (v := none) (fun _ => rfl)
  refine ⟨_, _, pre0 _ ?_, hrun, hended, _, _, rfl, ?_, ⟨_, rfl⟩, hW, hsame.mono (by decide) (by decide)⟩
  · show Steps p.tables e below (s₁.setTop (mkF m 0 #[.val (.ref a1), .val (.int p2), .val (.int p3)] [])) _
    refine XS.aloadN X0.here hx rfl (hb hby d5_0) rfl rfl ?_
    show Steps p.tables e below (s₁.setTop (mkF m 1 #[.val (.ref a1), .val (.int p2), .val (.int p3)] [(.ref a1)])) _
    refine st15 _ ?_
    show Steps p.tables e below (T15.setTop (mkF m 4 #[.val (.ref a1), .val (.int p2), .val (.int p3)] [(.ref b)])) _
    refine XS.aloadN X15.here hx rfl (hb hby d5_4) rfl rfl ?_
    show Steps p.tables e below (T15.setTop (mkF m 5 #[.val (.ref a1), .val (.int p2), .val (.int p3)] [(.ref a1), (.ref b)])) _
    refine XS.dup X15.here hx rfl (hb hby d5_5) rfl rfl ?_
    show Steps p.tables e below (T15.setTop (mkF m 6 #[.val (.ref a1), .val (.int p2), .val (.int p3)] [(.ref a1), (.ref a1), (.ref b)])) _
    refine st16 _ ?_
    show Steps p.tables e below (T16.setTop (mkF m 9 #[.val (.ref a1), .val (.int p2), .val (.int p3)] [(.int x), (.ref a1), (.ref b)])) _
    refine XS.dupX1 X16.here hx rfl (hb hby d5_9) rfl rfl rfl ?_
    show Steps p.tables e below (T16.setTop (mkF m 10 #[.val (.ref a1), .val (.int p2), .val (.int p3)] [(.int x), (.ref a1), (.int x), (.ref b)])) _
    refine XS.iconst X16.here hx rfl (hb hby d5_10) ?_
    show Steps p.tables e below (T16.setTop (mkF m 11 #[.val (.ref a1), .val (.int p2), .val (.int p3)] [(.int (1 : Int32)), (.int x), (.ref a1), (.int x), (.ref b)])) _
    refine XS.iadd X16.here hx rfl (hb hby d5_11) rfl ?_
    show Steps p.tables e below (T16.setTop (mkF m 12 #[.val (.ref a1), .val (.int p2), .val (.int p3)] [(.int (x + (1 : Int32))), (.ref a1), (.int x), (.ref b)])) _
    refine st17 _ ?_
    show Steps p.tables e below (T17.setTop (mkF m 15 #[.val (.ref a1), .val (.int p2), .val (.int p3)] [(.int x), (.ref b)])) _
    refine XS.iloadN X17.here hx rfl (hb hby d5_15) rfl ?_
    show Steps p.tables e below (T17.setTop (mkF m 16 #[.val (.ref a1), .val (.int p2), .val (.int p3)] [(.int p2), (.int x), (.ref b)])) _
    refine st18 _ ?_
    show Steps p.tables e below (T18.setTop (mkF m 17 #[.val (.ref a1), .val (.int p2), .val (.int p3)] [])) _
    refine XS.iloadN X18.here hx rfl (hb hby d5_17) rfl ?_
    show Steps p.tables e below (T18.setTop (mkF m 18 #[.val (.ref a1), .val (.int p2), .val (.int p3)] [(.int p3)])) _
    refine XS.ifYes X18.here hx rfl (pc0 := 18) (pc' := 31) rfl (hb hby d5_18) rfl ((if0 _ _).trans (feq (hc : ¬ (p3 = (0 : Int32)))).2) (by decide) (by decide) ?_
    show Steps p.tables e below (T18.setTop (mkF m 31 #[.val (.ref a1), .val (.int p2), .val (.int p3)] [])) _
    exact X18.returnOut hx Bd.returns (hb hby d5_31) hr
  · show Q_5a Z a1 p2 p3 b cc x u h0 n0 _ T18.heap _
    rw [e18]
    exact ⟨rfl, N18, K18, ne_ab, GE18_a1, G18_a1_count, G18_a1_answered, G18_a1_unresolved, ⟨_, G18_a1_wrong⟩, G18_a1_hops, _, Ar18, (sz_set _ _ _).trans Sz⟩
theorem rm_5 (l : Launch) (Z : State) (a0 : Array Value) (hw : ∀ d ∈ tables_1, d.before a0 Z = true) (ws : List Jvm.Cond) (a1 : Addr) (p2 : Int32) (p3 : Int32) (b : Addr) (cc x u : Int32) (h0 : Heap) (n0 : Nat) (Z0 : n0 ≤ h0.size) (I0 : own_I Z h0 a1 b cc x u) (hin : ¬ x < 0 ∧ x < cc) (g_a1 : n0 ≤ a1) (g_b : n0 ≤ b) :
    MetFree l (⟨"com/example/ringweld/ringweld/sim/LookupBatch", "answered", "(IZ)V"⟩ : MethodName) (head1 (Jvm.Cond.code (⟨"com/example/ringweld/ringweld/sim/LookupBatch", "answered", "(IZ)V"⟩ : MethodName) prog_78_method_2_code 3 none :: ws) ({ frames := 0, cells := 0, slots := 0, locals := 0 } : Room)) (fun a U => a = #[(.ref a1), (.int p2), (.int p3)] ∧ Z.Warmed39 U.vm ∧ U.heap = h0) (fun _ _ _ _ _ => True) (fun _ U o U' => ∃ v L, o = .returned v ∧ Q_5a Z a1 p2 p3 b cc x u h0 n0 v U'.heap L ∧ FrameEnd U o U' L ({ frames := 0, cells := 0, slots := 0, locals := 0 } : Room).cells ({ frames := 0, cells := 0, slots := 0, locals := 0 } : Room).slots) := by
  by_cases hc : p3 = 0
  · exact rm_5a l Z a0 hw ws a1 p2 p3 b cc x u h0 n0 Z0 I0 hin g_a1 g_b hc
  · exact rm_5b l Z a0 hw ws a1 p2 p3 b cc x u h0 n0 Z0 I0 hin g_a1 g_b hc
theorem d6_0 : decode prog_78_method_3_code 0 = .ok (.aload_n 0, 1) := by decide +kernel
theorem d6_1 : decode prog_78_method_3_code 1 = .ok (.dup, 1) := by decide +kernel
theorem d6_2 : decode prog_78_method_3_code 2 = .ok (.getfield 27, 3) := by decide +kernel
theorem d6_5 : decode prog_78_method_3_code 5 = .ok (.iconst 1, 1) := by decide +kernel
theorem d6_6 : decode prog_78_method_3_code 6 = .ok (.iadd, 1) := by decide +kernel
theorem d6_7 : decode prog_78_method_3_code 7 = .ok (.putfield 27, 3) := by decide +kernel
theorem d6_10 : decode prog_78_method_3_code 10 = .ok (.return_, 1) := by decide +kernel
theorem ef_6 (m : MethodId) (a1 : Addr) : entryFrame m #[(.ref a1)] 1 = mkF m 0 #[.val (.ref a1)] [] := by first | (simp [entryFrame, mkF, argsToLocals, Value.category]; done) | rfl
def Q_6 (Z : State) (a1 : Addr) (b : Addr) (cc x u : Int32) (h0 : Heap) (n0 : Nat) (v : Option Value) (h : Heap) (L : List Loc) : Prop := v = none ∧ Fr n0 L ∧ Keep h0 h [a1] ∧ own_I Z h a1 b cc x (u + 1)
set_option maxRecDepth 65536 in
set_option maxHeartbeats 40000000 in
theorem rm_6 (l : Launch) (Z : State) (a0 : Array Value) (hw : ∀ d ∈ tables_1, d.before a0 Z = true) (ws : List Jvm.Cond) (a1 : Addr) (b : Addr) (cc x u : Int32) (h0 : Heap) (n0 : Nat) (Z0 : n0 ≤ h0.size) (I0 : own_I Z h0 a1 b cc x u) (g_a1 : n0 ≤ a1) :
    MetFree l (⟨"com/example/ringweld/ringweld/sim/LookupBatch", "unresolved", "()V"⟩ : MethodName) (head1 (Jvm.Cond.code (⟨"com/example/ringweld/ringweld/sim/LookupBatch", "unresolved", "()V"⟩ : MethodName) prog_78_method_3_code 1 none :: ws) ({ frames := 0, cells := 0, slots := 0, locals := 0 } : Room)) (fun a U => a = #[(.ref a1)] ∧ Z.Warmed39 U.vm ∧ U.heap = h0) (fun _ _ _ _ _ => True) (fun _ U o U' => ∃ v L, o = .returned v ∧ Q_6 Z a1 b cc x u h0 n0 v U'.heap L ∧ FrameEnd U o U' L ({ frames := 0, cells := 0, slots := 0, locals := 0 } : Room).cells ({ frames := 0, cells := 0, slots := 0, locals := 0 } : Room).slots) := by
  refine MetFree.of_bodySF (plainFor_of_name pn_0) hisR ?_
  intro p e s m args below meth c s₁ Bd hml0 hP hK
  obtain ⟨rfl, hZ, hh⟩ := hP
  have hx := Bd.exec
  have hby := Bd.bytes
  have hml : c.maxLocals = 1 := hml0
  have hown : s.vm.findClass "com/example/ringweld/ringweld/sim/LookupBatch" = some m.cls := findClass_of_methodNamed Bd.named
  have hnm := (name_of_methodNamed Bd.named Bd.method).1
  have X0 : Stand p l e ({ frames := 0, cells := 0, slots := 0, locals := 0 } : Room) s m #[(.ref a1)] below meth c s₁ [] 0 0 := Stand.of_body Bd
  have e0 : s₁.heap = h0 := by rw [← hh, Bd.state]; rfl
  have N0 := Fr.nil n0
  have pre0 : ∀ t, Steps p.tables e below (s₁.setTop (mkF m 0 #[.val (.ref a1)] [])) t → Steps p.tables e below (s₁.setTop (entryFrame m #[(.ref a1)] 1)) t := fun t k => castTop (ef_6 m a1) k
  obtain ⟨ne_ab, E_a, F_c, F_x, F_u, ⟨wv, F_w⟩, F_h, cl, Ar, Sz⟩ := I0
  obtain ⟨T19, X19, e19, st19⟩ := getF X0 hx hZ hown (host := "") (Or.inl (hw _ (List.mem_of_getElem? (i := 27) rfl))) Via.refl e0 F_u (g := (mkF m 2 #[.val (.ref a1)] [(.ref a1), (.ref a1)])) rfl rfl (hb hby d6_2)
  obtain ⟨T20, h20, X20, e20, W20, st20⟩ := putF X19 hx hZ hown (host := "") (Or.inl (hw _ (List.mem_of_getElem? (i := 27) rfl))) Via.refl e19 F_u E_a (Or.inl (hw _ (List.mem_of_getElem? (i := 28) rfl))) (hw _ (List.mem_of_getElem? (i := 5) rfl)) (ty := .int) (by decide) rfl rfl (g := (mkF m 7 #[.val (.ref a1)] [(.int (u + (1 : Int32))), (.ref a1)])) rfl rfl (hb hby d6_7)
  have N20 := Fr.snoc X20 N0 g_a1
  have Z20 : n0 ≤ h20.size := Nat.le_trans Z0 (Keep.of_wr W20).1
  have G20_a1_count := Fld.other W20 F_c (Or.inr (slot_ne (Or.inr (hw _ (List.mem_of_getElem? (i := 16) rfl))) (Or.inl (hw _ (List.mem_of_getElem? (i := 28) rfl))) (by decide) (t := .int) (t' := .int) (by decide) (by decide)))
  have G20_a1_answered := Fld.other W20 F_x (Or.inr (slot_ne (Or.inl (hw _ (List.mem_of_getElem? (i := 26) rfl))) (Or.inl (hw _ (List.mem_of_getElem? (i := 28) rfl))) (by decide) (t := .int) (t' := .int) (by decide) (by decide)))
  have G20_a1_unresolved := Fld.same W20 F_u
  have G20_a1_wrong := Fld.other W20 F_w (Or.inr (slot_ne (Or.inl (hw _ (List.mem_of_getElem? (i := 35) rfl))) (Or.inl (hw _ (List.mem_of_getElem? (i := 28) rfl))) (by decide) (t := .int) (t' := .int) (by decide) (by decide)))
  have G20_a1_hops := Fld.other W20 F_h (Or.inr (slot_ne (Or.inr (hw _ (List.mem_of_getElem? (i := 19) rfl))) (Or.inl (hw _ (List.mem_of_getElem? (i := 28) rfl))) (by decide) (t := (.array .int)) (t' := .int) (by decide) (by decide)))
  have GE20_a1 := Exa.wr W20 E_a
  have Ar20 := Arr.other W20 Ar (Ne.symm ne_ab)
  have K20 : Keep h0 h20 [a1] := Keep.wr (Keep.refl h0 [a1]) W20 (Or.inl (List.mem_of_getElem? (i := 0) rfl))
  obtain ⟨fs, hr, hrun, hended, hW, hsame⟩ := X20.leave (v := none) (fun _ => rfl)
  refine ⟨_, _, pre0 _ ?_, hrun, hended, _, _, rfl, ?_, ⟨_, rfl⟩, hW, hsame.mono (by decide) (by decide)⟩
  · show Steps p.tables e below (s₁.setTop (mkF m 0 #[.val (.ref a1)] [])) _
    refine XS.aloadN X0.here hx rfl (hb hby d6_0) rfl rfl ?_
    show Steps p.tables e below (s₁.setTop (mkF m 1 #[.val (.ref a1)] [(.ref a1)])) _
    refine XS.dup X0.here hx rfl (hb hby d6_1) rfl rfl ?_
    show Steps p.tables e below (s₁.setTop (mkF m 2 #[.val (.ref a1)] [(.ref a1), (.ref a1)])) _
    refine st19 _ ?_
    show Steps p.tables e below (T19.setTop (mkF m 5 #[.val (.ref a1)] [(.int u), (.ref a1)])) _
    refine XS.iconst X19.here hx rfl (hb hby d6_5) ?_
    show Steps p.tables e below (T19.setTop (mkF m 6 #[.val (.ref a1)] [(.int (1 : Int32)), (.int u), (.ref a1)])) _
    refine XS.iadd X19.here hx rfl (hb hby d6_6) rfl ?_
    show Steps p.tables e below (T19.setTop (mkF m 7 #[.val (.ref a1)] [(.int (u + (1 : Int32))), (.ref a1)])) _
    refine st20 _ ?_
    show Steps p.tables e below (T20.setTop (mkF m 10 #[.val (.ref a1)] [])) _
    exact X20.returnOut hx Bd.returns (hb hby d6_10) hr
  · show Q_6 Z a1 b cc x u h0 n0 _ T20.heap _
    rw [e20]
    exact ⟨rfl, N20, K20, ne_ab, GE20_a1, G20_a1_count, G20_a1_answered, G20_a1_unresolved, ⟨_, G20_a1_wrong⟩, G20_a1_hops, _, Ar20, Sz⟩
theorem pd_0 : parseMethodDescriptor "(IZ)V" = some ⟨[.int, .boolean], none⟩ := by decide +kernel
set_option maxRecDepth 65536 in
set_option maxHeartbeats 40000000 in
theorem sa1 {p : Program} {l : Launch} {e : Env} {s : State} {m : MethodId} {args : Array Value} {below : List Frame} {meth : Method} {c : Code} {T0 : State} {locs : List Loc} {Z : State} {a0 : Array Value} {h0 : Heap} {n0 : Nat} (q0 : Int64) (p1 p2 p3 p4 p5 cc aa uu : Int32) (a b : Addr) (s11 s12 s13 : Slot) (x u : Int32)
    (X0 : Stand p l e room_1 s m args below meth c T0 locs 2 9) (hx : p.tables.exec = Jvm.exec) (hZ : Z.Warmed39 s.vm) (hw : ∀ d ∈ tables_1, d.before a0 Z = true) (hby : c.code = code) (hml : c.maxLocals = 14) (hown : s.vm.findClass "com/example/ringweld/ringweld/sim/LookupBatchEndedPinLaw" = some m.cls) (e0 : T0.heap = h0) (N0 : Fr n0 locs) (Z0 : n0 ≤ h0.size) (I0 : own_I Z h0 a b cc x u) (g_a : n0 ≤ a) (g_b : n0 ≤ b) (hin : ¬ aa < (1 : Int32) → ¬ x < 0 ∧ x < cc) :
    ∃ (T' : State) (h' : Heap) (locs' : List Loc), Stand p l e room_1 s m args below meth c T' locs' 2 9 ∧ T'.heap = h' ∧ Fr n0 locs' ∧ n0 ≤ h'.size ∧ (own_I Z h' a b cc (own_st aa (1 : Int32) x) u) ∧
      ∀ target, Steps p.tables e below (T'.setTop (mkF m 93 #[.val (.long q0), .second, .val (.int p1), .val (.int p2), .val (.int p3), .val (.int p4), .val (.int p5), .val (.int cc), .val (.int aa), .val (.int uu), .val (.ref a), s11, s12, s13] [])) target → Steps p.tables e below (T0.setTop (mkF m 67 #[.val (.long q0), .second, .val (.int p1), .val (.int p2), .val (.int p3), .val (.int p4), .val (.int p5), .val (.int cc), .val (.int aa), .val (.int uu), .val (.ref a), s11, s12, s13] [])) target := by
  by_cases hc : aa < (1 : Int32)
  · skip
    refine ⟨T0, _, _, X0, e0, N0, Z0, (show own_I Z h0 a b cc (if aa < (1 : Int32) then x else x + 1) u by rw [if_pos hc]; exact I0), fun target kt => ?_⟩
    show Steps p.tables e below (T0.setTop (mkF m 67 #[.val (.long q0), .second, .val (.int p1), .val (.int p2), .val (.int p3), .val (.int p4), .val (.int p5), .val (.int cc), .val (.int aa), .val (.int uu), .val (.ref a), s11, s12, s13] [])) _
    refine XS.iload X0.here hx rfl (hb hby at_67) rfl ?_
    show Steps p.tables e below (T0.setTop (mkF m 69 #[.val (.long q0), .second, .val (.int p1), .val (.int p2), .val (.int p3), .val (.int p4), .val (.int p5), .val (.int cc), .val (.int aa), .val (.int uu), .val (.ref a), s11, s12, s13] [(.int aa)])) _
    refine XS.iconst X0.here hx rfl (hb hby at_69) ?_
    show Steps p.tables e below (T0.setTop (mkF m 70 #[.val (.long q0), .second, .val (.int p1), .val (.int p2), .val (.int p3), .val (.int p4), .val (.int p5), .val (.int cc), .val (.int aa), .val (.int uu), .val (.ref a), s11, s12, s13] [(.int (1 : Int32)), (.int aa)])) _
    refine XS.icmpYes X0.here hx rfl (pc0 := 70) (pc' := 93) rfl (hb hby at_70) rfl (tlt (hc : aa < (1 : Int32))).1 (by decide) (by decide) ?_
    exact kt
  · skip
    have jq : ∀ t, Steps p.tables e below (T0.setTop (mkF m 90 #[.val (.long q0), .second, .val (.int p1), .val (.int p2), .val (.int p3), .val (.int p4), .val (.int p5), .val (.int cc), .val (.int aa), .val (.int uu), .val (.ref a), s11, s12, s13] [(.int (own_q (((p2.toUInt32 >>> ((4 : Int32) &&& 31).toUInt32).toInt32) &&& (1 : Int32)))), (.int p3), (.ref a)])) t → Steps p.tables e below (T0.setTop (mkF m 82 #[.val (.long q0), .second, .val (.int p1), .val (.int p2), .val (.int p3), .val (.int p4), .val (.int p5), .val (.int cc), .val (.int aa), .val (.int uu), .val (.ref a), s11, s12, s13] [(.int (((p2.toUInt32 >>> ((4 : Int32) &&& 31).toUInt32).toInt32) &&& (1 : Int32))), (.int p3), (.ref a)])) t := by
      intro t kt
      by_cases h1 : (((p2.toUInt32 >>> ((4 : Int32) &&& 31).toUInt32).toInt32) &&& (1 : Int32)) = 0
      · have hv : own_q (((p2.toUInt32 >>> ((4 : Int32) &&& 31).toUInt32).toInt32) &&& (1 : Int32)) = 0 := if_pos h1
        rw [hv] at kt
        show Steps p.tables e below (T0.setTop (mkF m 82 #[.val (.long q0), .second, .val (.int p1), .val (.int p2), .val (.int p3), .val (.int p4), .val (.int p5), .val (.int cc), .val (.int aa), .val (.int uu), .val (.ref a), s11, s12, s13] [(.int (((p2.toUInt32 >>> ((4 : Int32) &&& 31).toUInt32).toInt32) &&& (1 : Int32))), (.int p3), (.ref a)])) _
        refine XS.ifYes X0.here hx rfl (pc0 := 82) (pc' := 89) rfl (hb hby at_82) rfl ((if0 _ _).trans (teq (h1 : (((p2.toUInt32 >>> ((4 : Int32) &&& 31).toUInt32).toInt32) &&& (1 : Int32)) = (0 : Int32))).1) (by decide) (by decide) ?_
        show Steps p.tables e below (T0.setTop (mkF m 89 #[.val (.long q0), .second, .val (.int p1), .val (.int p2), .val (.int p3), .val (.int p4), .val (.int p5), .val (.int cc), .val (.int aa), .val (.int uu), .val (.ref a), s11, s12, s13] [(.int p3), (.ref a)])) _
        refine XS.iconst X0.here hx rfl (hb hby at_89) ?_
        exact kt
      · have hv : own_q (((p2.toUInt32 >>> ((4 : Int32) &&& 31).toUInt32).toInt32) &&& (1 : Int32)) = 1 := if_neg h1
        rw [hv] at kt
        show Steps p.tables e below (T0.setTop (mkF m 82 #[.val (.long q0), .second, .val (.int p1), .val (.int p2), .val (.int p3), .val (.int p4), .val (.int p5), .val (.int cc), .val (.int aa), .val (.int uu), .val (.ref a), s11, s12, s13] [(.int (((p2.toUInt32 >>> ((4 : Int32) &&& 31).toUInt32).toInt32) &&& (1 : Int32))), (.int p3), (.ref a)])) _
        refine XS.ifNo X0.here hx rfl (hb hby at_82) rfl ((if0 _ _).trans (feq (h1 : ¬ ((((p2.toUInt32 >>> ((4 : Int32) &&& 31).toUInt32).toInt32) &&& (1 : Int32)) = (0 : Int32)))).1) ?_
        show Steps p.tables e below (T0.setTop (mkF m 85 #[.val (.long q0), .second, .val (.int p1), .val (.int p2), .val (.int p3), .val (.int p4), .val (.int p5), .val (.int cc), .val (.int aa), .val (.int uu), .val (.ref a), s11, s12, s13] [(.int p3), (.ref a)])) _
        refine XS.iconst X0.here hx rfl (hb hby at_85) ?_
        show Steps p.tables e below (T0.setTop (mkF m 86 #[.val (.long q0), .second, .val (.int p1), .val (.int p2), .val (.int p3), .val (.int p4), .val (.int p5), .val (.int cc), .val (.int aa), .val (.int uu), .val (.ref a), s11, s12, s13] [(.int (1 : Int32)), (.int p3), (.ref a)])) _
        refine XS.goto X0.here hx rfl (pc0 := 86) (pc' := 90) rfl (hb hby at_86) (by decide) (by decide) ?_
        exact kt
    obtain ⟨cq21, kq21, q21a, q21b, q21c⟩ := isOf hZ e0 I0.2.1
    obtain ⟨_, _, ⟨T21, L21, k21, n21⟩, -, X21, ⟨Lc21, hQ21, l21, y21, z21⟩, st21⟩ := X0.virtualBack hx (y := (⟨"com/example/ringweld/ringweld/sim/LookupBatch", "answered", "(IZ)V"⟩ : MethodName)) (z := (⟨"com/example/ringweld/ringweld/sim/LookupBatch", "answered", "(IZ)V"⟩ : MethodName)) hown (mvT hZ (hw _ (List.mem_of_getElem? (i := 29) rfl))) (mvT hZ (hw _ (List.mem_of_getElem? (i := 30) rfl))) (notFace_of_selects (args := #[]) (mvT hZ (hw _ (List.mem_of_getElem? (i := 32) rfl)))) (mvT hZ (hw _ (List.mem_of_getElem? (i := 32) rfl))) (mvT hZ (hw _ (List.mem_of_getElem? (i := 31) rfl))) (by decide) (backOf (W := 0) (rm_5 l Z a0 hw [] a p3 (own_q (((p2.toUInt32 >>> ((4 : Int32) &&& 31).toUInt32).toInt32) &&& (1 : Int32))) b cc x u h0 n0 Z0 I0 (hin hc) g_a g_b) hZ (hw _ (List.mem_of_getElem? (i := 33) rfl)) (hw _ (List.mem_of_getElem? (i := 6) rfl)) (by decide) (by decide)) q21a q21c (g := (mkF m 90 #[.val (.long q0), .second, .val (.int p1), .val (.int p2), .val (.int p3), .val (.int p4), .val (.int p5), .val (.int cc), .val (.int aa), .val (.int uu), .val (.ref a), s11, s12, s13] [(.int (own_q (((p2.toUInt32 >>> ((4 : Int32) &&& 31).toUInt32).toInt32) &&& (1 : Int32)))), (.int p3), (.ref a)])) rfl (by rw [hml]; rfl) (Steps.refl _) (argsL := [(.int p3), (.int (own_q (((p2.toUInt32 >>> ((4 : Int32) &&& 31).toUInt32).toInt32) &&& (1 : Int32))))]) (rest := []) (lenOf pd_0 rfl) rfl (by show 2 * 0 + _ ≤ _; exact Nat.le_of_eq rfl) (hb hby at_90) (fun _ _ => ⟨rfl, e0, (by decide : 2 + 0 ≤ _), (by decide : 9 + 0 ≤ _)⟩)
    dsimp only [Pt.U, Pt.locs, Pt.cells, Pt.slots] at X21 l21 y21 z21 st21 hQ21
    subst l21 y21 z21
    obtain ⟨rfl, N21q, K1, I1⟩ := hQ21
    have N21 := Fr.app N0 N21q
    have Z21 : n0 ≤ T21.heap.size := Nat.le_trans Z0 K1.1
    refine ⟨T21, _, _, X21, rfl, N21, Z21, (show own_I Z T21.heap a b cc (if aa < (1 : Int32) then x else x + 1) u by rw [if_neg hc]; exact I1), fun target kt => ?_⟩
    show Steps p.tables e below (T0.setTop (mkF m 67 #[.val (.long q0), .second, .val (.int p1), .val (.int p2), .val (.int p3), .val (.int p4), .val (.int p5), .val (.int cc), .val (.int aa), .val (.int uu), .val (.ref a), s11, s12, s13] [])) _
    refine XS.iload X0.here hx rfl (hb hby at_67) rfl ?_
    show Steps p.tables e below (T0.setTop (mkF m 69 #[.val (.long q0), .second, .val (.int p1), .val (.int p2), .val (.int p3), .val (.int p4), .val (.int p5), .val (.int cc), .val (.int aa), .val (.int uu), .val (.ref a), s11, s12, s13] [(.int aa)])) _
    refine XS.iconst X0.here hx rfl (hb hby at_69) ?_
    show Steps p.tables e below (T0.setTop (mkF m 70 #[.val (.long q0), .second, .val (.int p1), .val (.int p2), .val (.int p3), .val (.int p4), .val (.int p5), .val (.int cc), .val (.int aa), .val (.int uu), .val (.ref a), s11, s12, s13] [(.int (1 : Int32)), (.int aa)])) _
    refine XS.icmpNo X0.here hx rfl (hb hby at_70) rfl (flt (hc : ¬ (aa < (1 : Int32)))).1 ?_
    show Steps p.tables e below (T0.setTop (mkF m 73 #[.val (.long q0), .second, .val (.int p1), .val (.int p2), .val (.int p3), .val (.int p4), .val (.int p5), .val (.int cc), .val (.int aa), .val (.int uu), .val (.ref a), s11, s12, s13] [])) _
    refine XS.aload X0.here hx rfl (hb hby at_73) rfl rfl ?_
    show Steps p.tables e below (T0.setTop (mkF m 75 #[.val (.long q0), .second, .val (.int p1), .val (.int p2), .val (.int p3), .val (.int p4), .val (.int p5), .val (.int cc), .val (.int aa), .val (.int uu), .val (.ref a), s11, s12, s13] [(.ref a)])) _
    refine XS.iload X0.here hx rfl (hb hby at_75) rfl ?_
    show Steps p.tables e below (T0.setTop (mkF m 77 #[.val (.long q0), .second, .val (.int p1), .val (.int p2), .val (.int p3), .val (.int p4), .val (.int p5), .val (.int cc), .val (.int aa), .val (.int uu), .val (.ref a), s11, s12, s13] [(.int p3), (.ref a)])) _
    refine XS.iloadN X0.here hx rfl (hb hby at_77) rfl ?_
    show Steps p.tables e below (T0.setTop (mkF m 78 #[.val (.long q0), .second, .val (.int p1), .val (.int p2), .val (.int p3), .val (.int p4), .val (.int p5), .val (.int cc), .val (.int aa), .val (.int uu), .val (.ref a), s11, s12, s13] [(.int p2), (.int p3), (.ref a)])) _
    refine XS.iconst X0.here hx rfl (hb hby at_78) ?_
    show Steps p.tables e below (T0.setTop (mkF m 79 #[.val (.long q0), .second, .val (.int p1), .val (.int p2), .val (.int p3), .val (.int p4), .val (.int p5), .val (.int cc), .val (.int aa), .val (.int uu), .val (.ref a), s11, s12, s13] [(.int (4 : Int32)), (.int p2), (.int p3), (.ref a)])) _
    refine XS.iushr X0.here hx rfl (hb hby at_79) rfl ?_
    show Steps p.tables e below (T0.setTop (mkF m 80 #[.val (.long q0), .second, .val (.int p1), .val (.int p2), .val (.int p3), .val (.int p4), .val (.int p5), .val (.int cc), .val (.int aa), .val (.int uu), .val (.ref a), s11, s12, s13] [(.int ((p2.toUInt32 >>> ((4 : Int32) &&& 31).toUInt32).toInt32)), (.int p3), (.ref a)])) _
    refine XS.iconst X0.here hx rfl (hb hby at_80) ?_
    show Steps p.tables e below (T0.setTop (mkF m 81 #[.val (.long q0), .second, .val (.int p1), .val (.int p2), .val (.int p3), .val (.int p4), .val (.int p5), .val (.int cc), .val (.int aa), .val (.int uu), .val (.ref a), s11, s12, s13] [(.int (1 : Int32)), (.int ((p2.toUInt32 >>> ((4 : Int32) &&& 31).toUInt32).toInt32)), (.int p3), (.ref a)])) _
    refine XS.iand X0.here hx rfl (hb hby at_81) rfl ?_
    show Steps p.tables e below (T0.setTop (mkF m 82 #[.val (.long q0), .second, .val (.int p1), .val (.int p2), .val (.int p3), .val (.int p4), .val (.int p5), .val (.int cc), .val (.int aa), .val (.int uu), .val (.ref a), s11, s12, s13] [(.int (((p2.toUInt32 >>> ((4 : Int32) &&& 31).toUInt32).toInt32) &&& (1 : Int32))), (.int p3), (.ref a)])) _
    refine jq _ ?_
    show Steps p.tables e below (T0.setTop (mkF m 90 #[.val (.long q0), .second, .val (.int p1), .val (.int p2), .val (.int p3), .val (.int p4), .val (.int p5), .val (.int cc), .val (.int aa), .val (.int uu), .val (.ref a), s11, s12, s13] [(.int (own_q (((p2.toUInt32 >>> ((4 : Int32) &&& 31).toUInt32).toInt32) &&& (1 : Int32)))), (.int p3), (.ref a)])) _
    refine st21.trans ?_
    exact kt
set_option maxRecDepth 65536 in
set_option maxHeartbeats 40000000 in
theorem sa2 {p : Program} {l : Launch} {e : Env} {s : State} {m : MethodId} {args : Array Value} {below : List Frame} {meth : Method} {c : Code} {T0 : State} {locs : List Loc} {Z : State} {a0 : Array Value} {h0 : Heap} {n0 : Nat} (q0 : Int64) (p1 p2 p3 p4 p5 cc aa uu : Int32) (a b : Addr) (s11 s12 s13 : Slot) (x u : Int32)
    (X0 : Stand p l e room_1 s m args below meth c T0 locs 2 9) (hx : p.tables.exec = Jvm.exec) (hZ : Z.Warmed39 s.vm) (hw : ∀ d ∈ tables_1, d.before a0 Z = true) (hby : c.code = code) (hml : c.maxLocals = 14) (hown : s.vm.findClass "com/example/ringweld/ringweld/sim/LookupBatchEndedPinLaw" = some m.cls) (e0 : T0.heap = h0) (N0 : Fr n0 locs) (Z0 : n0 ≤ h0.size) (I0 : own_I Z h0 a b cc x u) (g_a : n0 ≤ a) (g_b : n0 ≤ b) (hin : ¬ aa < (2 : Int32) → ¬ x < 0 ∧ x < cc) :
    ∃ (T' : State) (h' : Heap) (locs' : List Loc), Stand p l e room_1 s m args below meth c T' locs' 2 9 ∧ T'.heap = h' ∧ Fr n0 locs' ∧ n0 ≤ h'.size ∧ (own_I Z h' a b cc (own_st aa (2 : Int32) x) u) ∧
      ∀ target, Steps p.tables e below (T'.setTop (mkF m 119 #[.val (.long q0), .second, .val (.int p1), .val (.int p2), .val (.int p3), .val (.int p4), .val (.int p5), .val (.int cc), .val (.int aa), .val (.int uu), .val (.ref a), s11, s12, s13] [])) target → Steps p.tables e below (T0.setTop (mkF m 93 #[.val (.long q0), .second, .val (.int p1), .val (.int p2), .val (.int p3), .val (.int p4), .val (.int p5), .val (.int cc), .val (.int aa), .val (.int uu), .val (.ref a), s11, s12, s13] [])) target := by
  by_cases hc : aa < (2 : Int32)
  · skip
    refine ⟨T0, _, _, X0, e0, N0, Z0, (show own_I Z h0 a b cc (if aa < (2 : Int32) then x else x + 1) u by rw [if_pos hc]; exact I0), fun target kt => ?_⟩
    show Steps p.tables e below (T0.setTop (mkF m 93 #[.val (.long q0), .second, .val (.int p1), .val (.int p2), .val (.int p3), .val (.int p4), .val (.int p5), .val (.int cc), .val (.int aa), .val (.int uu), .val (.ref a), s11, s12, s13] [])) _
    refine XS.iload X0.here hx rfl (hb hby at_93) rfl ?_
    show Steps p.tables e below (T0.setTop (mkF m 95 #[.val (.long q0), .second, .val (.int p1), .val (.int p2), .val (.int p3), .val (.int p4), .val (.int p5), .val (.int cc), .val (.int aa), .val (.int uu), .val (.ref a), s11, s12, s13] [(.int aa)])) _
    refine XS.iconst X0.here hx rfl (hb hby at_95) ?_
    show Steps p.tables e below (T0.setTop (mkF m 96 #[.val (.long q0), .second, .val (.int p1), .val (.int p2), .val (.int p3), .val (.int p4), .val (.int p5), .val (.int cc), .val (.int aa), .val (.int uu), .val (.ref a), s11, s12, s13] [(.int (2 : Int32)), (.int aa)])) _
    refine XS.icmpYes X0.here hx rfl (pc0 := 96) (pc' := 119) rfl (hb hby at_96) rfl (tlt (hc : aa < (2 : Int32))).1 (by decide) (by decide) ?_
    exact kt
  · skip
    have jq : ∀ t, Steps p.tables e below (T0.setTop (mkF m 116 #[.val (.long q0), .second, .val (.int p1), .val (.int p2), .val (.int p3), .val (.int p4), .val (.int p5), .val (.int cc), .val (.int aa), .val (.int uu), .val (.ref a), s11, s12, s13] [(.int (own_q (((p2.toUInt32 >>> ((5 : Int32) &&& 31).toUInt32).toInt32) &&& (1 : Int32)))), (.int p4), (.ref a)])) t → Steps p.tables e below (T0.setTop (mkF m 108 #[.val (.long q0), .second, .val (.int p1), .val (.int p2), .val (.int p3), .val (.int p4), .val (.int p5), .val (.int cc), .val (.int aa), .val (.int uu), .val (.ref a), s11, s12, s13] [(.int (((p2.toUInt32 >>> ((5 : Int32) &&& 31).toUInt32).toInt32) &&& (1 : Int32))), (.int p4), (.ref a)])) t := by
      intro t kt
      by_cases h1 : (((p2.toUInt32 >>> ((5 : Int32) &&& 31).toUInt32).toInt32) &&& (1 : Int32)) = 0
      · have hv : own_q (((p2.toUInt32 >>> ((5 : Int32) &&& 31).toUInt32).toInt32) &&& (1 : Int32)) = 0 := if_pos h1
        rw [hv] at kt
        show Steps p.tables e below (T0.setTop (mkF m 108 #[.val (.long q0), .second, .val (.int p1), .val (.int p2), .val (.int p3), .val (.int p4), .val (.int p5), .val (.int cc), .val (.int aa), .val (.int uu), .val (.ref a), s11, s12, s13] [(.int (((p2.toUInt32 >>> ((5 : Int32) &&& 31).toUInt32).toInt32) &&& (1 : Int32))), (.int p4), (.ref a)])) _
        refine XS.ifYes X0.here hx rfl (pc0 := 108) (pc' := 115) rfl (hb hby at_108) rfl ((if0 _ _).trans (teq (h1 : (((p2.toUInt32 >>> ((5 : Int32) &&& 31).toUInt32).toInt32) &&& (1 : Int32)) = (0 : Int32))).1) (by decide) (by decide) ?_
        show Steps p.tables e below (T0.setTop (mkF m 115 #[.val (.long q0), .second, .val (.int p1), .val (.int p2), .val (.int p3), .val (.int p4), .val (.int p5), .val (.int cc), .val (.int aa), .val (.int uu), .val (.ref a), s11, s12, s13] [(.int p4), (.ref a)])) _
        refine XS.iconst X0.here hx rfl (hb hby at_115) ?_
        exact kt
      · have hv : own_q (((p2.toUInt32 >>> ((5 : Int32) &&& 31).toUInt32).toInt32) &&& (1 : Int32)) = 1 := if_neg h1
        rw [hv] at kt
        show Steps p.tables e below (T0.setTop (mkF m 108 #[.val (.long q0), .second, .val (.int p1), .val (.int p2), .val (.int p3), .val (.int p4), .val (.int p5), .val (.int cc), .val (.int aa), .val (.int uu), .val (.ref a), s11, s12, s13] [(.int (((p2.toUInt32 >>> ((5 : Int32) &&& 31).toUInt32).toInt32) &&& (1 : Int32))), (.int p4), (.ref a)])) _
        refine XS.ifNo X0.here hx rfl (hb hby at_108) rfl ((if0 _ _).trans (feq (h1 : ¬ ((((p2.toUInt32 >>> ((5 : Int32) &&& 31).toUInt32).toInt32) &&& (1 : Int32)) = (0 : Int32)))).1) ?_
        show Steps p.tables e below (T0.setTop (mkF m 111 #[.val (.long q0), .second, .val (.int p1), .val (.int p2), .val (.int p3), .val (.int p4), .val (.int p5), .val (.int cc), .val (.int aa), .val (.int uu), .val (.ref a), s11, s12, s13] [(.int p4), (.ref a)])) _
        refine XS.iconst X0.here hx rfl (hb hby at_111) ?_
        show Steps p.tables e below (T0.setTop (mkF m 112 #[.val (.long q0), .second, .val (.int p1), .val (.int p2), .val (.int p3), .val (.int p4), .val (.int p5), .val (.int cc), .val (.int aa), .val (.int uu), .val (.ref a), s11, s12, s13] [(.int (1 : Int32)), (.int p4), (.ref a)])) _
        refine XS.goto X0.here hx rfl (pc0 := 112) (pc' := 116) rfl (hb hby at_112) (by decide) (by decide) ?_
        exact kt
    obtain ⟨cq22, kq22, q22a, q22b, q22c⟩ := isOf hZ e0 I0.2.1
    obtain ⟨_, _, ⟨T22, L22, k22, n22⟩, -, X22, ⟨Lc22, hQ22, l22, y22, z22⟩, st22⟩ := X0.virtualBack hx (y := (⟨"com/example/ringweld/ringweld/sim/LookupBatch", "answered", "(IZ)V"⟩ : MethodName)) (z := (⟨"com/example/ringweld/ringweld/sim/LookupBatch", "answered", "(IZ)V"⟩ : MethodName)) hown (mvT hZ (hw _ (List.mem_of_getElem? (i := 29) rfl))) (mvT hZ (hw _ (List.mem_of_getElem? (i := 30) rfl))) (notFace_of_selects (args := #[]) (mvT hZ (hw _ (List.mem_of_getElem? (i := 32) rfl)))) (mvT hZ (hw _ (List.mem_of_getElem? (i := 32) rfl))) (mvT hZ (hw _ (List.mem_of_getElem? (i := 31) rfl))) (by decide) (backOf (W := 0) (rm_5 l Z a0 hw [] a p4 (own_q (((p2.toUInt32 >>> ((5 : Int32) &&& 31).toUInt32).toInt32) &&& (1 : Int32))) b cc x u h0 n0 Z0 I0 (hin hc) g_a g_b) hZ (hw _ (List.mem_of_getElem? (i := 33) rfl)) (hw _ (List.mem_of_getElem? (i := 6) rfl)) (by decide) (by decide)) q22a q22c (g := (mkF m 116 #[.val (.long q0), .second, .val (.int p1), .val (.int p2), .val (.int p3), .val (.int p4), .val (.int p5), .val (.int cc), .val (.int aa), .val (.int uu), .val (.ref a), s11, s12, s13] [(.int (own_q (((p2.toUInt32 >>> ((5 : Int32) &&& 31).toUInt32).toInt32) &&& (1 : Int32)))), (.int p4), (.ref a)])) rfl (by rw [hml]; rfl) (Steps.refl _) (argsL := [(.int p4), (.int (own_q (((p2.toUInt32 >>> ((5 : Int32) &&& 31).toUInt32).toInt32) &&& (1 : Int32))))]) (rest := []) (lenOf pd_0 rfl) rfl (by show 2 * 0 + _ ≤ _; exact Nat.le_of_eq rfl) (hb hby at_116) (fun _ _ => ⟨rfl, e0, (by decide : 2 + 0 ≤ _), (by decide : 9 + 0 ≤ _)⟩)
    dsimp only [Pt.U, Pt.locs, Pt.cells, Pt.slots] at X22 l22 y22 z22 st22 hQ22
    subst l22 y22 z22
    obtain ⟨rfl, N22q, K1, I1⟩ := hQ22
    have N22 := Fr.app N0 N22q
    have Z22 : n0 ≤ T22.heap.size := Nat.le_trans Z0 K1.1
    refine ⟨T22, _, _, X22, rfl, N22, Z22, (show own_I Z T22.heap a b cc (if aa < (2 : Int32) then x else x + 1) u by rw [if_neg hc]; exact I1), fun target kt => ?_⟩
    show Steps p.tables e below (T0.setTop (mkF m 93 #[.val (.long q0), .second, .val (.int p1), .val (.int p2), .val (.int p3), .val (.int p4), .val (.int p5), .val (.int cc), .val (.int aa), .val (.int uu), .val (.ref a), s11, s12, s13] [])) _
    refine XS.iload X0.here hx rfl (hb hby at_93) rfl ?_
    show Steps p.tables e below (T0.setTop (mkF m 95 #[.val (.long q0), .second, .val (.int p1), .val (.int p2), .val (.int p3), .val (.int p4), .val (.int p5), .val (.int cc), .val (.int aa), .val (.int uu), .val (.ref a), s11, s12, s13] [(.int aa)])) _
    refine XS.iconst X0.here hx rfl (hb hby at_95) ?_
    show Steps p.tables e below (T0.setTop (mkF m 96 #[.val (.long q0), .second, .val (.int p1), .val (.int p2), .val (.int p3), .val (.int p4), .val (.int p5), .val (.int cc), .val (.int aa), .val (.int uu), .val (.ref a), s11, s12, s13] [(.int (2 : Int32)), (.int aa)])) _
    refine XS.icmpNo X0.here hx rfl (hb hby at_96) rfl (flt (hc : ¬ (aa < (2 : Int32)))).1 ?_
    show Steps p.tables e below (T0.setTop (mkF m 99 #[.val (.long q0), .second, .val (.int p1), .val (.int p2), .val (.int p3), .val (.int p4), .val (.int p5), .val (.int cc), .val (.int aa), .val (.int uu), .val (.ref a), s11, s12, s13] [])) _
    refine XS.aload X0.here hx rfl (hb hby at_99) rfl rfl ?_
    show Steps p.tables e below (T0.setTop (mkF m 101 #[.val (.long q0), .second, .val (.int p1), .val (.int p2), .val (.int p3), .val (.int p4), .val (.int p5), .val (.int cc), .val (.int aa), .val (.int uu), .val (.ref a), s11, s12, s13] [(.ref a)])) _
    refine XS.iload X0.here hx rfl (hb hby at_101) rfl ?_
    show Steps p.tables e below (T0.setTop (mkF m 103 #[.val (.long q0), .second, .val (.int p1), .val (.int p2), .val (.int p3), .val (.int p4), .val (.int p5), .val (.int cc), .val (.int aa), .val (.int uu), .val (.ref a), s11, s12, s13] [(.int p4), (.ref a)])) _
    refine XS.iloadN X0.here hx rfl (hb hby at_103) rfl ?_
    show Steps p.tables e below (T0.setTop (mkF m 104 #[.val (.long q0), .second, .val (.int p1), .val (.int p2), .val (.int p3), .val (.int p4), .val (.int p5), .val (.int cc), .val (.int aa), .val (.int uu), .val (.ref a), s11, s12, s13] [(.int p2), (.int p4), (.ref a)])) _
    refine XS.iconst X0.here hx rfl (hb hby at_104) ?_
    show Steps p.tables e below (T0.setTop (mkF m 105 #[.val (.long q0), .second, .val (.int p1), .val (.int p2), .val (.int p3), .val (.int p4), .val (.int p5), .val (.int cc), .val (.int aa), .val (.int uu), .val (.ref a), s11, s12, s13] [(.int (5 : Int32)), (.int p2), (.int p4), (.ref a)])) _
    refine XS.iushr X0.here hx rfl (hb hby at_105) rfl ?_
    show Steps p.tables e below (T0.setTop (mkF m 106 #[.val (.long q0), .second, .val (.int p1), .val (.int p2), .val (.int p3), .val (.int p4), .val (.int p5), .val (.int cc), .val (.int aa), .val (.int uu), .val (.ref a), s11, s12, s13] [(.int ((p2.toUInt32 >>> ((5 : Int32) &&& 31).toUInt32).toInt32)), (.int p4), (.ref a)])) _
    refine XS.iconst X0.here hx rfl (hb hby at_106) ?_
    show Steps p.tables e below (T0.setTop (mkF m 107 #[.val (.long q0), .second, .val (.int p1), .val (.int p2), .val (.int p3), .val (.int p4), .val (.int p5), .val (.int cc), .val (.int aa), .val (.int uu), .val (.ref a), s11, s12, s13] [(.int (1 : Int32)), (.int ((p2.toUInt32 >>> ((5 : Int32) &&& 31).toUInt32).toInt32)), (.int p4), (.ref a)])) _
    refine XS.iand X0.here hx rfl (hb hby at_107) rfl ?_
    show Steps p.tables e below (T0.setTop (mkF m 108 #[.val (.long q0), .second, .val (.int p1), .val (.int p2), .val (.int p3), .val (.int p4), .val (.int p5), .val (.int cc), .val (.int aa), .val (.int uu), .val (.ref a), s11, s12, s13] [(.int (((p2.toUInt32 >>> ((5 : Int32) &&& 31).toUInt32).toInt32) &&& (1 : Int32))), (.int p4), (.ref a)])) _
    refine jq _ ?_
    show Steps p.tables e below (T0.setTop (mkF m 116 #[.val (.long q0), .second, .val (.int p1), .val (.int p2), .val (.int p3), .val (.int p4), .val (.int p5), .val (.int cc), .val (.int aa), .val (.int uu), .val (.ref a), s11, s12, s13] [(.int (own_q (((p2.toUInt32 >>> ((5 : Int32) &&& 31).toUInt32).toInt32) &&& (1 : Int32)))), (.int p4), (.ref a)])) _
    refine st22.trans ?_
    exact kt
set_option maxRecDepth 65536 in
set_option maxHeartbeats 40000000 in
theorem sa3 {p : Program} {l : Launch} {e : Env} {s : State} {m : MethodId} {args : Array Value} {below : List Frame} {meth : Method} {c : Code} {T0 : State} {locs : List Loc} {Z : State} {a0 : Array Value} {h0 : Heap} {n0 : Nat} (q0 : Int64) (p1 p2 p3 p4 p5 cc aa uu : Int32) (a b : Addr) (s11 s12 s13 : Slot) (x u : Int32)
    (X0 : Stand p l e room_1 s m args below meth c T0 locs 2 9) (hx : p.tables.exec = Jvm.exec) (hZ : Z.Warmed39 s.vm) (hw : ∀ d ∈ tables_1, d.before a0 Z = true) (hby : c.code = code) (hml : c.maxLocals = 14) (hown : s.vm.findClass "com/example/ringweld/ringweld/sim/LookupBatchEndedPinLaw" = some m.cls) (e0 : T0.heap = h0) (N0 : Fr n0 locs) (Z0 : n0 ≤ h0.size) (I0 : own_I Z h0 a b cc x u) (g_a : n0 ≤ a) (g_b : n0 ≤ b) (hin : ¬ aa < (3 : Int32) → ¬ x < 0 ∧ x < cc) :
    ∃ (T' : State) (h' : Heap) (locs' : List Loc), Stand p l e room_1 s m args below meth c T' locs' 2 9 ∧ T'.heap = h' ∧ Fr n0 locs' ∧ n0 ≤ h'.size ∧ (own_I Z h' a b cc (own_st aa (3 : Int32) x) u) ∧
      ∀ target, Steps p.tables e below (T'.setTop (mkF m 146 #[.val (.long q0), .second, .val (.int p1), .val (.int p2), .val (.int p3), .val (.int p4), .val (.int p5), .val (.int cc), .val (.int aa), .val (.int uu), .val (.ref a), s11, s12, s13] [])) target → Steps p.tables e below (T0.setTop (mkF m 119 #[.val (.long q0), .second, .val (.int p1), .val (.int p2), .val (.int p3), .val (.int p4), .val (.int p5), .val (.int cc), .val (.int aa), .val (.int uu), .val (.ref a), s11, s12, s13] [])) target := by
  by_cases hc : aa < (3 : Int32)
  · skip
    refine ⟨T0, _, _, X0, e0, N0, Z0, (show own_I Z h0 a b cc (if aa < (3 : Int32) then x else x + 1) u by rw [if_pos hc]; exact I0), fun target kt => ?_⟩
    show Steps p.tables e below (T0.setTop (mkF m 119 #[.val (.long q0), .second, .val (.int p1), .val (.int p2), .val (.int p3), .val (.int p4), .val (.int p5), .val (.int cc), .val (.int aa), .val (.int uu), .val (.ref a), s11, s12, s13] [])) _
    refine XS.iload X0.here hx rfl (hb hby at_119) rfl ?_
    show Steps p.tables e below (T0.setTop (mkF m 121 #[.val (.long q0), .second, .val (.int p1), .val (.int p2), .val (.int p3), .val (.int p4), .val (.int p5), .val (.int cc), .val (.int aa), .val (.int uu), .val (.ref a), s11, s12, s13] [(.int aa)])) _
    refine XS.iconst X0.here hx rfl (hb hby at_121) ?_
    show Steps p.tables e below (T0.setTop (mkF m 122 #[.val (.long q0), .second, .val (.int p1), .val (.int p2), .val (.int p3), .val (.int p4), .val (.int p5), .val (.int cc), .val (.int aa), .val (.int uu), .val (.ref a), s11, s12, s13] [(.int (3 : Int32)), (.int aa)])) _
    refine XS.icmpYes X0.here hx rfl (pc0 := 122) (pc' := 146) rfl (hb hby at_122) rfl (tlt (hc : aa < (3 : Int32))).1 (by decide) (by decide) ?_
    exact kt
  · skip
    have jq : ∀ t, Steps p.tables e below (T0.setTop (mkF m 143 #[.val (.long q0), .second, .val (.int p1), .val (.int p2), .val (.int p3), .val (.int p4), .val (.int p5), .val (.int cc), .val (.int aa), .val (.int uu), .val (.ref a), s11, s12, s13] [(.int (own_q (((p2.toUInt32 >>> ((6 : Int32) &&& 31).toUInt32).toInt32) &&& (1 : Int32)))), (.int p5), (.ref a)])) t → Steps p.tables e below (T0.setTop (mkF m 135 #[.val (.long q0), .second, .val (.int p1), .val (.int p2), .val (.int p3), .val (.int p4), .val (.int p5), .val (.int cc), .val (.int aa), .val (.int uu), .val (.ref a), s11, s12, s13] [(.int (((p2.toUInt32 >>> ((6 : Int32) &&& 31).toUInt32).toInt32) &&& (1 : Int32))), (.int p5), (.ref a)])) t := by
      intro t kt
      by_cases h1 : (((p2.toUInt32 >>> ((6 : Int32) &&& 31).toUInt32).toInt32) &&& (1 : Int32)) = 0
      · have hv : own_q (((p2.toUInt32 >>> ((6 : Int32) &&& 31).toUInt32).toInt32) &&& (1 : Int32)) = 0 := if_pos h1
        rw [hv] at kt
        show Steps p.tables e below (T0.setTop (mkF m 135 #[.val (.long q0), .second, .val (.int p1), .val (.int p2), .val (.int p3), .val (.int p4), .val (.int p5), .val (.int cc), .val (.int aa), .val (.int uu), .val (.ref a), s11, s12, s13] [(.int (((p2.toUInt32 >>> ((6 : Int32) &&& 31).toUInt32).toInt32) &&& (1 : Int32))), (.int p5), (.ref a)])) _
        refine XS.ifYes X0.here hx rfl (pc0 := 135) (pc' := 142) rfl (hb hby at_135) rfl ((if0 _ _).trans (teq (h1 : (((p2.toUInt32 >>> ((6 : Int32) &&& 31).toUInt32).toInt32) &&& (1 : Int32)) = (0 : Int32))).1) (by decide) (by decide) ?_
        show Steps p.tables e below (T0.setTop (mkF m 142 #[.val (.long q0), .second, .val (.int p1), .val (.int p2), .val (.int p3), .val (.int p4), .val (.int p5), .val (.int cc), .val (.int aa), .val (.int uu), .val (.ref a), s11, s12, s13] [(.int p5), (.ref a)])) _
        refine XS.iconst X0.here hx rfl (hb hby at_142) ?_
        exact kt
      · have hv : own_q (((p2.toUInt32 >>> ((6 : Int32) &&& 31).toUInt32).toInt32) &&& (1 : Int32)) = 1 := if_neg h1
        rw [hv] at kt
        show Steps p.tables e below (T0.setTop (mkF m 135 #[.val (.long q0), .second, .val (.int p1), .val (.int p2), .val (.int p3), .val (.int p4), .val (.int p5), .val (.int cc), .val (.int aa), .val (.int uu), .val (.ref a), s11, s12, s13] [(.int (((p2.toUInt32 >>> ((6 : Int32) &&& 31).toUInt32).toInt32) &&& (1 : Int32))), (.int p5), (.ref a)])) _
        refine XS.ifNo X0.here hx rfl (hb hby at_135) rfl ((if0 _ _).trans (feq (h1 : ¬ ((((p2.toUInt32 >>> ((6 : Int32) &&& 31).toUInt32).toInt32) &&& (1 : Int32)) = (0 : Int32)))).1) ?_
        show Steps p.tables e below (T0.setTop (mkF m 138 #[.val (.long q0), .second, .val (.int p1), .val (.int p2), .val (.int p3), .val (.int p4), .val (.int p5), .val (.int cc), .val (.int aa), .val (.int uu), .val (.ref a), s11, s12, s13] [(.int p5), (.ref a)])) _
        refine XS.iconst X0.here hx rfl (hb hby at_138) ?_
        show Steps p.tables e below (T0.setTop (mkF m 139 #[.val (.long q0), .second, .val (.int p1), .val (.int p2), .val (.int p3), .val (.int p4), .val (.int p5), .val (.int cc), .val (.int aa), .val (.int uu), .val (.ref a), s11, s12, s13] [(.int (1 : Int32)), (.int p5), (.ref a)])) _
        refine XS.goto X0.here hx rfl (pc0 := 139) (pc' := 143) rfl (hb hby at_139) (by decide) (by decide) ?_
        exact kt
    obtain ⟨cq23, kq23, q23a, q23b, q23c⟩ := isOf hZ e0 I0.2.1
    obtain ⟨_, _, ⟨T23, L23, k23, n23⟩, -, X23, ⟨Lc23, hQ23, l23, y23, z23⟩, st23⟩ := X0.virtualBack hx (y := (⟨"com/example/ringweld/ringweld/sim/LookupBatch", "answered", "(IZ)V"⟩ : MethodName)) (z := (⟨"com/example/ringweld/ringweld/sim/LookupBatch", "answered", "(IZ)V"⟩ : MethodName)) hown (mvT hZ (hw _ (List.mem_of_getElem? (i := 29) rfl))) (mvT hZ (hw _ (List.mem_of_getElem? (i := 30) rfl))) (notFace_of_selects (args := #[]) (mvT hZ (hw _ (List.mem_of_getElem? (i := 32) rfl)))) (mvT hZ (hw _ (List.mem_of_getElem? (i := 32) rfl))) (mvT hZ (hw _ (List.mem_of_getElem? (i := 31) rfl))) (by decide) (backOf (W := 0) (rm_5 l Z a0 hw [] a p5 (own_q (((p2.toUInt32 >>> ((6 : Int32) &&& 31).toUInt32).toInt32) &&& (1 : Int32))) b cc x u h0 n0 Z0 I0 (hin hc) g_a g_b) hZ (hw _ (List.mem_of_getElem? (i := 33) rfl)) (hw _ (List.mem_of_getElem? (i := 6) rfl)) (by decide) (by decide)) q23a q23c (g := (mkF m 143 #[.val (.long q0), .second, .val (.int p1), .val (.int p2), .val (.int p3), .val (.int p4), .val (.int p5), .val (.int cc), .val (.int aa), .val (.int uu), .val (.ref a), s11, s12, s13] [(.int (own_q (((p2.toUInt32 >>> ((6 : Int32) &&& 31).toUInt32).toInt32) &&& (1 : Int32)))), (.int p5), (.ref a)])) rfl (by rw [hml]; rfl) (Steps.refl _) (argsL := [(.int p5), (.int (own_q (((p2.toUInt32 >>> ((6 : Int32) &&& 31).toUInt32).toInt32) &&& (1 : Int32))))]) (rest := []) (lenOf pd_0 rfl) rfl (by show 2 * 0 + _ ≤ _; exact Nat.le_of_eq rfl) (hb hby at_143) (fun _ _ => ⟨rfl, e0, (by decide : 2 + 0 ≤ _), (by decide : 9 + 0 ≤ _)⟩)
    dsimp only [Pt.U, Pt.locs, Pt.cells, Pt.slots] at X23 l23 y23 z23 st23 hQ23
    subst l23 y23 z23
    obtain ⟨rfl, N23q, K1, I1⟩ := hQ23
    have N23 := Fr.app N0 N23q
    have Z23 : n0 ≤ T23.heap.size := Nat.le_trans Z0 K1.1
    refine ⟨T23, _, _, X23, rfl, N23, Z23, (show own_I Z T23.heap a b cc (if aa < (3 : Int32) then x else x + 1) u by rw [if_neg hc]; exact I1), fun target kt => ?_⟩
    show Steps p.tables e below (T0.setTop (mkF m 119 #[.val (.long q0), .second, .val (.int p1), .val (.int p2), .val (.int p3), .val (.int p4), .val (.int p5), .val (.int cc), .val (.int aa), .val (.int uu), .val (.ref a), s11, s12, s13] [])) _
    refine XS.iload X0.here hx rfl (hb hby at_119) rfl ?_
    show Steps p.tables e below (T0.setTop (mkF m 121 #[.val (.long q0), .second, .val (.int p1), .val (.int p2), .val (.int p3), .val (.int p4), .val (.int p5), .val (.int cc), .val (.int aa), .val (.int uu), .val (.ref a), s11, s12, s13] [(.int aa)])) _
    refine XS.iconst X0.here hx rfl (hb hby at_121) ?_
    show Steps p.tables e below (T0.setTop (mkF m 122 #[.val (.long q0), .second, .val (.int p1), .val (.int p2), .val (.int p3), .val (.int p4), .val (.int p5), .val (.int cc), .val (.int aa), .val (.int uu), .val (.ref a), s11, s12, s13] [(.int (3 : Int32)), (.int aa)])) _
    refine XS.icmpNo X0.here hx rfl (hb hby at_122) rfl (flt (hc : ¬ (aa < (3 : Int32)))).1 ?_
    show Steps p.tables e below (T0.setTop (mkF m 125 #[.val (.long q0), .second, .val (.int p1), .val (.int p2), .val (.int p3), .val (.int p4), .val (.int p5), .val (.int cc), .val (.int aa), .val (.int uu), .val (.ref a), s11, s12, s13] [])) _
    refine XS.aload X0.here hx rfl (hb hby at_125) rfl rfl ?_
    show Steps p.tables e below (T0.setTop (mkF m 127 #[.val (.long q0), .second, .val (.int p1), .val (.int p2), .val (.int p3), .val (.int p4), .val (.int p5), .val (.int cc), .val (.int aa), .val (.int uu), .val (.ref a), s11, s12, s13] [(.ref a)])) _
    refine XS.iload X0.here hx rfl (hb hby at_127) rfl ?_
    show Steps p.tables e below (T0.setTop (mkF m 129 #[.val (.long q0), .second, .val (.int p1), .val (.int p2), .val (.int p3), .val (.int p4), .val (.int p5), .val (.int cc), .val (.int aa), .val (.int uu), .val (.ref a), s11, s12, s13] [(.int p5), (.ref a)])) _
    refine XS.iloadN X0.here hx rfl (hb hby at_129) rfl ?_
    show Steps p.tables e below (T0.setTop (mkF m 130 #[.val (.long q0), .second, .val (.int p1), .val (.int p2), .val (.int p3), .val (.int p4), .val (.int p5), .val (.int cc), .val (.int aa), .val (.int uu), .val (.ref a), s11, s12, s13] [(.int p2), (.int p5), (.ref a)])) _
    refine XS.bipush X0.here hx rfl (hb hby at_130) ?_
    show Steps p.tables e below (T0.setTop (mkF m 132 #[.val (.long q0), .second, .val (.int p1), .val (.int p2), .val (.int p3), .val (.int p4), .val (.int p5), .val (.int cc), .val (.int aa), .val (.int uu), .val (.ref a), s11, s12, s13] [(.int (6 : Int32)), (.int p2), (.int p5), (.ref a)])) _
    refine XS.iushr X0.here hx rfl (hb hby at_132) rfl ?_
    show Steps p.tables e below (T0.setTop (mkF m 133 #[.val (.long q0), .second, .val (.int p1), .val (.int p2), .val (.int p3), .val (.int p4), .val (.int p5), .val (.int cc), .val (.int aa), .val (.int uu), .val (.ref a), s11, s12, s13] [(.int ((p2.toUInt32 >>> ((6 : Int32) &&& 31).toUInt32).toInt32)), (.int p5), (.ref a)])) _
    refine XS.iconst X0.here hx rfl (hb hby at_133) ?_
    show Steps p.tables e below (T0.setTop (mkF m 134 #[.val (.long q0), .second, .val (.int p1), .val (.int p2), .val (.int p3), .val (.int p4), .val (.int p5), .val (.int cc), .val (.int aa), .val (.int uu), .val (.ref a), s11, s12, s13] [(.int (1 : Int32)), (.int ((p2.toUInt32 >>> ((6 : Int32) &&& 31).toUInt32).toInt32)), (.int p5), (.ref a)])) _
    refine XS.iand X0.here hx rfl (hb hby at_134) rfl ?_
    show Steps p.tables e below (T0.setTop (mkF m 135 #[.val (.long q0), .second, .val (.int p1), .val (.int p2), .val (.int p3), .val (.int p4), .val (.int p5), .val (.int cc), .val (.int aa), .val (.int uu), .val (.ref a), s11, s12, s13] [(.int (((p2.toUInt32 >>> ((6 : Int32) &&& 31).toUInt32).toInt32) &&& (1 : Int32))), (.int p5), (.ref a)])) _
    refine jq _ ?_
    show Steps p.tables e below (T0.setTop (mkF m 143 #[.val (.long q0), .second, .val (.int p1), .val (.int p2), .val (.int p3), .val (.int p4), .val (.int p5), .val (.int cc), .val (.int aa), .val (.int uu), .val (.ref a), s11, s12, s13] [(.int (own_q (((p2.toUInt32 >>> ((6 : Int32) &&& 31).toUInt32).toInt32) &&& (1 : Int32)))), (.int p5), (.ref a)])) _
    refine st23.trans ?_
    exact kt
theorem pd_1 : parseMethodDescriptor "()V" = some ⟨[], none⟩ := by decide +kernel
set_option maxRecDepth 65536 in
set_option maxHeartbeats 40000000 in
theorem su1 {p : Program} {l : Launch} {e : Env} {s : State} {m : MethodId} {args : Array Value} {below : List Frame} {meth : Method} {c : Code} {T0 : State} {locs : List Loc} {Z : State} {a0 : Array Value} {h0 : Heap} {n0 : Nat} (q0 : Int64) (p1 p2 p3 p4 p5 cc aa uu : Int32) (a b : Addr) (s11 s12 s13 : Slot) (x u : Int32)
    (X0 : Stand p l e room_1 s m args below meth c T0 locs 2 9) (hx : p.tables.exec = Jvm.exec) (hZ : Z.Warmed39 s.vm) (hw : ∀ d ∈ tables_1, d.before a0 Z = true) (hby : c.code = code) (hml : c.maxLocals = 14) (hown : s.vm.findClass "com/example/ringweld/ringweld/sim/LookupBatchEndedPinLaw" = some m.cls) (e0 : T0.heap = h0) (N0 : Fr n0 locs) (Z0 : n0 ≤ h0.size) (I0 : own_I Z h0 a b cc x u) (g_a : n0 ≤ a) :
    ∃ (T' : State) (h' : Heap) (locs' : List Loc), Stand p l e room_1 s m args below meth c T' locs' 2 9 ∧ T'.heap = h' ∧ Fr n0 locs' ∧ n0 ≤ h'.size ∧ (own_I Z h' a b cc x (own_st uu (1 : Int32) u)) ∧
      ∀ target, Steps p.tables e below (T'.setTop (mkF m 184 #[.val (.long q0), .second, .val (.int p1), .val (.int p2), .val (.int p3), .val (.int p4), .val (.int p5), .val (.int cc), .val (.int aa), .val (.int uu), .val (.ref a), s11, s12, s13] [])) target → Steps p.tables e below (T0.setTop (mkF m 173 #[.val (.long q0), .second, .val (.int p1), .val (.int p2), .val (.int p3), .val (.int p4), .val (.int p5), .val (.int cc), .val (.int aa), .val (.int uu), .val (.ref a), s11, s12, s13] [])) target := by
  by_cases hc : uu < (1 : Int32)
  · skip
    refine ⟨T0, _, _, X0, e0, N0, Z0, (show own_I Z h0 a b cc x (if uu < (1 : Int32) then u else u + 1) by rw [if_pos hc]; exact I0), fun target kt => ?_⟩
    show Steps p.tables e below (T0.setTop (mkF m 173 #[.val (.long q0), .second, .val (.int p1), .val (.int p2), .val (.int p3), .val (.int p4), .val (.int p5), .val (.int cc), .val (.int aa), .val (.int uu), .val (.ref a), s11, s12, s13] [])) _
    refine XS.iload X0.here hx rfl (hb hby at_173) rfl ?_
    show Steps p.tables e below (T0.setTop (mkF m 175 #[.val (.long q0), .second, .val (.int p1), .val (.int p2), .val (.int p3), .val (.int p4), .val (.int p5), .val (.int cc), .val (.int aa), .val (.int uu), .val (.ref a), s11, s12, s13] [(.int uu)])) _
    refine XS.iconst X0.here hx rfl (hb hby at_175) ?_
    show Steps p.tables e below (T0.setTop (mkF m 176 #[.val (.long q0), .second, .val (.int p1), .val (.int p2), .val (.int p3), .val (.int p4), .val (.int p5), .val (.int cc), .val (.int aa), .val (.int uu), .val (.ref a), s11, s12, s13] [(.int (1 : Int32)), (.int uu)])) _
    refine XS.icmpYes X0.here hx rfl (pc0 := 176) (pc' := 184) rfl (hb hby at_176) rfl (tlt (hc : uu < (1 : Int32))).1 (by decide) (by decide) ?_
    exact kt
  · skip
    obtain ⟨cq24, kq24, q24a, q24b, q24c⟩ := isOf hZ e0 I0.2.1
    obtain ⟨_, _, ⟨T24, L24, k24, n24⟩, -, X24, ⟨Lc24, hQ24, l24, y24, z24⟩, st24⟩ := X0.virtualBack hx (y := (⟨"com/example/ringweld/ringweld/sim/LookupBatch", "unresolved", "()V"⟩ : MethodName)) (z := (⟨"com/example/ringweld/ringweld/sim/LookupBatch", "unresolved", "()V"⟩ : MethodName)) hown (mvT hZ (hw _ (List.mem_of_getElem? (i := 36) rfl))) (mvT hZ (hw _ (List.mem_of_getElem? (i := 37) rfl))) (notFace_of_selects (args := #[]) (mvT hZ (hw _ (List.mem_of_getElem? (i := 39) rfl)))) (mvT hZ (hw _ (List.mem_of_getElem? (i := 39) rfl))) (mvT hZ (hw _ (List.mem_of_getElem? (i := 38) rfl))) (by decide) (backOf (W := 0) (rm_6 l Z a0 hw [] a b cc x u h0 n0 Z0 I0 g_a) hZ (hw _ (List.mem_of_getElem? (i := 40) rfl)) (hw _ (List.mem_of_getElem? (i := 6) rfl)) (by decide) (by decide)) q24a q24c (g := (mkF m 181 #[.val (.long q0), .second, .val (.int p1), .val (.int p2), .val (.int p3), .val (.int p4), .val (.int p5), .val (.int cc), .val (.int aa), .val (.int uu), .val (.ref a), s11, s12, s13] [(.ref a)])) rfl (by rw [hml]; rfl) (Steps.refl _) (argsL := []) (rest := []) (lenOf pd_1 rfl) rfl (by show 2 * 0 + _ ≤ _; exact Nat.le_of_eq rfl) (hb hby at_181) (fun _ _ => ⟨rfl, e0, (by decide : 2 + 0 ≤ _), (by decide : 9 + 0 ≤ _)⟩)
    dsimp only [Pt.U, Pt.locs, Pt.cells, Pt.slots] at X24 l24 y24 z24 st24 hQ24
    subst l24 y24 z24
    obtain ⟨rfl, N24q, K1, I1⟩ := hQ24
    have N24 := Fr.app N0 N24q
    have Z24 : n0 ≤ T24.heap.size := Nat.le_trans Z0 K1.1
    refine ⟨T24, _, _, X24, rfl, N24, Z24, (show own_I Z T24.heap a b cc x (if uu < (1 : Int32) then u else u + 1) by rw [if_neg hc]; exact I1), fun target kt => ?_⟩
    show Steps p.tables e below (T0.setTop (mkF m 173 #[.val (.long q0), .second, .val (.int p1), .val (.int p2), .val (.int p3), .val (.int p4), .val (.int p5), .val (.int cc), .val (.int aa), .val (.int uu), .val (.ref a), s11, s12, s13] [])) _
    refine XS.iload X0.here hx rfl (hb hby at_173) rfl ?_
    show Steps p.tables e below (T0.setTop (mkF m 175 #[.val (.long q0), .second, .val (.int p1), .val (.int p2), .val (.int p3), .val (.int p4), .val (.int p5), .val (.int cc), .val (.int aa), .val (.int uu), .val (.ref a), s11, s12, s13] [(.int uu)])) _
    refine XS.iconst X0.here hx rfl (hb hby at_175) ?_
    show Steps p.tables e below (T0.setTop (mkF m 176 #[.val (.long q0), .second, .val (.int p1), .val (.int p2), .val (.int p3), .val (.int p4), .val (.int p5), .val (.int cc), .val (.int aa), .val (.int uu), .val (.ref a), s11, s12, s13] [(.int (1 : Int32)), (.int uu)])) _
    refine XS.icmpNo X0.here hx rfl (hb hby at_176) rfl (flt (hc : ¬ (uu < (1 : Int32)))).1 ?_
    show Steps p.tables e below (T0.setTop (mkF m 179 #[.val (.long q0), .second, .val (.int p1), .val (.int p2), .val (.int p3), .val (.int p4), .val (.int p5), .val (.int cc), .val (.int aa), .val (.int uu), .val (.ref a), s11, s12, s13] [])) _
    refine XS.aload X0.here hx rfl (hb hby at_179) rfl rfl ?_
    show Steps p.tables e below (T0.setTop (mkF m 181 #[.val (.long q0), .second, .val (.int p1), .val (.int p2), .val (.int p3), .val (.int p4), .val (.int p5), .val (.int cc), .val (.int aa), .val (.int uu), .val (.ref a), s11, s12, s13] [(.ref a)])) _
    refine st24.trans ?_
    exact kt
set_option maxRecDepth 65536 in
set_option maxHeartbeats 40000000 in
theorem su2 {p : Program} {l : Launch} {e : Env} {s : State} {m : MethodId} {args : Array Value} {below : List Frame} {meth : Method} {c : Code} {T0 : State} {locs : List Loc} {Z : State} {a0 : Array Value} {h0 : Heap} {n0 : Nat} (q0 : Int64) (p1 p2 p3 p4 p5 cc aa uu : Int32) (a b : Addr) (s11 s12 s13 : Slot) (x u : Int32)
    (X0 : Stand p l e room_1 s m args below meth c T0 locs 2 9) (hx : p.tables.exec = Jvm.exec) (hZ : Z.Warmed39 s.vm) (hw : ∀ d ∈ tables_1, d.before a0 Z = true) (hby : c.code = code) (hml : c.maxLocals = 14) (hown : s.vm.findClass "com/example/ringweld/ringweld/sim/LookupBatchEndedPinLaw" = some m.cls) (e0 : T0.heap = h0) (N0 : Fr n0 locs) (Z0 : n0 ≤ h0.size) (I0 : own_I Z h0 a b cc x u) (g_a : n0 ≤ a) :
    ∃ (T' : State) (h' : Heap) (locs' : List Loc), Stand p l e room_1 s m args below meth c T' locs' 2 9 ∧ T'.heap = h' ∧ Fr n0 locs' ∧ n0 ≤ h'.size ∧ (own_I Z h' a b cc x (own_st uu (2 : Int32) u)) ∧
      ∀ target, Steps p.tables e below (T'.setTop (mkF m 195 #[.val (.long q0), .second, .val (.int p1), .val (.int p2), .val (.int p3), .val (.int p4), .val (.int p5), .val (.int cc), .val (.int aa), .val (.int uu), .val (.ref a), s11, s12, s13] [])) target → Steps p.tables e below (T0.setTop (mkF m 184 #[.val (.long q0), .second, .val (.int p1), .val (.int p2), .val (.int p3), .val (.int p4), .val (.int p5), .val (.int cc), .val (.int aa), .val (.int uu), .val (.ref a), s11, s12, s13] [])) target := by
  by_cases hc : uu < (2 : Int32)
  · skip
    refine ⟨T0, _, _, X0, e0, N0, Z0, (show own_I Z h0 a b cc x (if uu < (2 : Int32) then u else u + 1) by rw [if_pos hc]; exact I0), fun target kt => ?_⟩
    show Steps p.tables e below (T0.setTop (mkF m 184 #[.val (.long q0), .second, .val (.int p1), .val (.int p2), .val (.int p3), .val (.int p4), .val (.int p5), .val (.int cc), .val (.int aa), .val (.int uu), .val (.ref a), s11, s12, s13] [])) _
    refine XS.iload X0.here hx rfl (hb hby at_184) rfl ?_
    show Steps p.tables e below (T0.setTop (mkF m 186 #[.val (.long q0), .second, .val (.int p1), .val (.int p2), .val (.int p3), .val (.int p4), .val (.int p5), .val (.int cc), .val (.int aa), .val (.int uu), .val (.ref a), s11, s12, s13] [(.int uu)])) _
    refine XS.iconst X0.here hx rfl (hb hby at_186) ?_
    show Steps p.tables e below (T0.setTop (mkF m 187 #[.val (.long q0), .second, .val (.int p1), .val (.int p2), .val (.int p3), .val (.int p4), .val (.int p5), .val (.int cc), .val (.int aa), .val (.int uu), .val (.ref a), s11, s12, s13] [(.int (2 : Int32)), (.int uu)])) _
    refine XS.icmpYes X0.here hx rfl (pc0 := 187) (pc' := 195) rfl (hb hby at_187) rfl (tlt (hc : uu < (2 : Int32))).1 (by decide) (by decide) ?_
    exact kt
  · skip
    obtain ⟨cq25, kq25, q25a, q25b, q25c⟩ := isOf hZ e0 I0.2.1
    obtain ⟨_, _, ⟨T25, L25, k25, n25⟩, -, X25, ⟨Lc25, hQ25, l25, y25, z25⟩, st25⟩ := X0.virtualBack hx (y := (⟨"com/example/ringweld/ringweld/sim/LookupBatch", "unresolved", "()V"⟩ : MethodName)) (z := (⟨"com/example/ringweld/ringweld/sim/LookupBatch", "unresolved", "()V"⟩ : MethodName)) hown (mvT hZ (hw _ (List.mem_of_getElem? (i := 36) rfl))) (mvT hZ (hw _ (List.mem_of_getElem? (i := 37) rfl))) (notFace_of_selects (args := #[]) (mvT hZ (hw _ (List.mem_of_getElem? (i := 39) rfl)))) (mvT hZ (hw _ (List.mem_of_getElem? (i := 39) rfl))) (mvT hZ (hw _ (List.mem_of_getElem? (i := 38) rfl))) (by decide) (backOf (W := 0) (rm_6 l Z a0 hw [] a b cc x u h0 n0 Z0 I0 g_a) hZ (hw _ (List.mem_of_getElem? (i := 40) rfl)) (hw _ (List.mem_of_getElem? (i := 6) rfl)) (by decide) (by decide)) q25a q25c (g := (mkF m 192 #[.val (.long q0), .second, .val (.int p1), .val (.int p2), .val (.int p3), .val (.int p4), .val (.int p5), .val (.int cc), .val (.int aa), .val (.int uu), .val (.ref a), s11, s12, s13] [(.ref a)])) rfl (by rw [hml]; rfl) (Steps.refl _) (argsL := []) (rest := []) (lenOf pd_1 rfl) rfl (by show 2 * 0 + _ ≤ _; exact Nat.le_of_eq rfl) (hb hby at_192) (fun _ _ => ⟨rfl, e0, (by decide : 2 + 0 ≤ _), (by decide : 9 + 0 ≤ _)⟩)
    dsimp only [Pt.U, Pt.locs, Pt.cells, Pt.slots] at X25 l25 y25 z25 st25 hQ25
    subst l25 y25 z25
    obtain ⟨rfl, N25q, K1, I1⟩ := hQ25
    have N25 := Fr.app N0 N25q
    have Z25 : n0 ≤ T25.heap.size := Nat.le_trans Z0 K1.1
    refine ⟨T25, _, _, X25, rfl, N25, Z25, (show own_I Z T25.heap a b cc x (if uu < (2 : Int32) then u else u + 1) by rw [if_neg hc]; exact I1), fun target kt => ?_⟩
    show Steps p.tables e below (T0.setTop (mkF m 184 #[.val (.long q0), .second, .val (.int p1), .val (.int p2), .val (.int p3), .val (.int p4), .val (.int p5), .val (.int cc), .val (.int aa), .val (.int uu), .val (.ref a), s11, s12, s13] [])) _
    refine XS.iload X0.here hx rfl (hb hby at_184) rfl ?_
    show Steps p.tables e below (T0.setTop (mkF m 186 #[.val (.long q0), .second, .val (.int p1), .val (.int p2), .val (.int p3), .val (.int p4), .val (.int p5), .val (.int cc), .val (.int aa), .val (.int uu), .val (.ref a), s11, s12, s13] [(.int uu)])) _
    refine XS.iconst X0.here hx rfl (hb hby at_186) ?_
    show Steps p.tables e below (T0.setTop (mkF m 187 #[.val (.long q0), .second, .val (.int p1), .val (.int p2), .val (.int p3), .val (.int p4), .val (.int p5), .val (.int cc), .val (.int aa), .val (.int uu), .val (.ref a), s11, s12, s13] [(.int (2 : Int32)), (.int uu)])) _
    refine XS.icmpNo X0.here hx rfl (hb hby at_187) rfl (flt (hc : ¬ (uu < (2 : Int32)))).1 ?_
    show Steps p.tables e below (T0.setTop (mkF m 190 #[.val (.long q0), .second, .val (.int p1), .val (.int p2), .val (.int p3), .val (.int p4), .val (.int p5), .val (.int cc), .val (.int aa), .val (.int uu), .val (.ref a), s11, s12, s13] [])) _
    refine XS.aload X0.here hx rfl (hb hby at_190) rfl rfl ?_
    show Steps p.tables e below (T0.setTop (mkF m 192 #[.val (.long q0), .second, .val (.int p1), .val (.int p2), .val (.int p3), .val (.int p4), .val (.int p5), .val (.int cc), .val (.int aa), .val (.int uu), .val (.ref a), s11, s12, s13] [(.ref a)])) _
    refine st25.trans ?_
    exact kt
set_option maxRecDepth 65536 in
set_option maxHeartbeats 40000000 in
theorem su3 {p : Program} {l : Launch} {e : Env} {s : State} {m : MethodId} {args : Array Value} {below : List Frame} {meth : Method} {c : Code} {T0 : State} {locs : List Loc} {Z : State} {a0 : Array Value} {h0 : Heap} {n0 : Nat} (q0 : Int64) (p1 p2 p3 p4 p5 cc aa uu : Int32) (a b : Addr) (s11 s12 s13 : Slot) (x u : Int32)
    (X0 : Stand p l e room_1 s m args below meth c T0 locs 2 9) (hx : p.tables.exec = Jvm.exec) (hZ : Z.Warmed39 s.vm) (hw : ∀ d ∈ tables_1, d.before a0 Z = true) (hby : c.code = code) (hml : c.maxLocals = 14) (hown : s.vm.findClass "com/example/ringweld/ringweld/sim/LookupBatchEndedPinLaw" = some m.cls) (e0 : T0.heap = h0) (N0 : Fr n0 locs) (Z0 : n0 ≤ h0.size) (I0 : own_I Z h0 a b cc x u) (g_a : n0 ≤ a) :
    ∃ (T' : State) (h' : Heap) (locs' : List Loc), Stand p l e room_1 s m args below meth c T' locs' 2 9 ∧ T'.heap = h' ∧ Fr n0 locs' ∧ n0 ≤ h'.size ∧ (own_I Z h' a b cc x (own_st uu (3 : Int32) u)) ∧
      ∀ target, Steps p.tables e below (T'.setTop (mkF m 206 #[.val (.long q0), .second, .val (.int p1), .val (.int p2), .val (.int p3), .val (.int p4), .val (.int p5), .val (.int cc), .val (.int aa), .val (.int uu), .val (.ref a), s11, s12, s13] [])) target → Steps p.tables e below (T0.setTop (mkF m 195 #[.val (.long q0), .second, .val (.int p1), .val (.int p2), .val (.int p3), .val (.int p4), .val (.int p5), .val (.int cc), .val (.int aa), .val (.int uu), .val (.ref a), s11, s12, s13] [])) target := by
  by_cases hc : uu < (3 : Int32)
  · skip
    refine ⟨T0, _, _, X0, e0, N0, Z0, (show own_I Z h0 a b cc x (if uu < (3 : Int32) then u else u + 1) by rw [if_pos hc]; exact I0), fun target kt => ?_⟩
    show Steps p.tables e below (T0.setTop (mkF m 195 #[.val (.long q0), .second, .val (.int p1), .val (.int p2), .val (.int p3), .val (.int p4), .val (.int p5), .val (.int cc), .val (.int aa), .val (.int uu), .val (.ref a), s11, s12, s13] [])) _
    refine XS.iload X0.here hx rfl (hb hby at_195) rfl ?_
    show Steps p.tables e below (T0.setTop (mkF m 197 #[.val (.long q0), .second, .val (.int p1), .val (.int p2), .val (.int p3), .val (.int p4), .val (.int p5), .val (.int cc), .val (.int aa), .val (.int uu), .val (.ref a), s11, s12, s13] [(.int uu)])) _
    refine XS.iconst X0.here hx rfl (hb hby at_197) ?_
    show Steps p.tables e below (T0.setTop (mkF m 198 #[.val (.long q0), .second, .val (.int p1), .val (.int p2), .val (.int p3), .val (.int p4), .val (.int p5), .val (.int cc), .val (.int aa), .val (.int uu), .val (.ref a), s11, s12, s13] [(.int (3 : Int32)), (.int uu)])) _
    refine XS.icmpYes X0.here hx rfl (pc0 := 198) (pc' := 206) rfl (hb hby at_198) rfl (tlt (hc : uu < (3 : Int32))).1 (by decide) (by decide) ?_
    exact kt
  · skip
    obtain ⟨cq26, kq26, q26a, q26b, q26c⟩ := isOf hZ e0 I0.2.1
    obtain ⟨_, _, ⟨T26, L26, k26, n26⟩, -, X26, ⟨Lc26, hQ26, l26, y26, z26⟩, st26⟩ := X0.virtualBack hx (y := (⟨"com/example/ringweld/ringweld/sim/LookupBatch", "unresolved", "()V"⟩ : MethodName)) (z := (⟨"com/example/ringweld/ringweld/sim/LookupBatch", "unresolved", "()V"⟩ : MethodName)) hown (mvT hZ (hw _ (List.mem_of_getElem? (i := 36) rfl))) (mvT hZ (hw _ (List.mem_of_getElem? (i := 37) rfl))) (notFace_of_selects (args := #[]) (mvT hZ (hw _ (List.mem_of_getElem? (i := 39) rfl)))) (mvT hZ (hw _ (List.mem_of_getElem? (i := 39) rfl))) (mvT hZ (hw _ (List.mem_of_getElem? (i := 38) rfl))) (by decide) (backOf (W := 0) (rm_6 l Z a0 hw [] a b cc x u h0 n0 Z0 I0 g_a) hZ (hw _ (List.mem_of_getElem? (i := 40) rfl)) (hw _ (List.mem_of_getElem? (i := 6) rfl)) (by decide) (by decide)) q26a q26c (g := (mkF m 203 #[.val (.long q0), .second, .val (.int p1), .val (.int p2), .val (.int p3), .val (.int p4), .val (.int p5), .val (.int cc), .val (.int aa), .val (.int uu), .val (.ref a), s11, s12, s13] [(.ref a)])) rfl (by rw [hml]; rfl) (Steps.refl _) (argsL := []) (rest := []) (lenOf pd_1 rfl) rfl (by show 2 * 0 + _ ≤ _; exact Nat.le_of_eq rfl) (hb hby at_203) (fun _ _ => ⟨rfl, e0, (by decide : 2 + 0 ≤ _), (by decide : 9 + 0 ≤ _)⟩)
    dsimp only [Pt.U, Pt.locs, Pt.cells, Pt.slots] at X26 l26 y26 z26 st26 hQ26
    subst l26 y26 z26
    obtain ⟨rfl, N26q, K1, I1⟩ := hQ26
    have N26 := Fr.app N0 N26q
    have Z26 : n0 ≤ T26.heap.size := Nat.le_trans Z0 K1.1
    refine ⟨T26, _, _, X26, rfl, N26, Z26, (show own_I Z T26.heap a b cc x (if uu < (3 : Int32) then u else u + 1) by rw [if_neg hc]; exact I1), fun target kt => ?_⟩
    show Steps p.tables e below (T0.setTop (mkF m 195 #[.val (.long q0), .second, .val (.int p1), .val (.int p2), .val (.int p3), .val (.int p4), .val (.int p5), .val (.int cc), .val (.int aa), .val (.int uu), .val (.ref a), s11, s12, s13] [])) _
    refine XS.iload X0.here hx rfl (hb hby at_195) rfl ?_
    show Steps p.tables e below (T0.setTop (mkF m 197 #[.val (.long q0), .second, .val (.int p1), .val (.int p2), .val (.int p3), .val (.int p4), .val (.int p5), .val (.int cc), .val (.int aa), .val (.int uu), .val (.ref a), s11, s12, s13] [(.int uu)])) _
    refine XS.iconst X0.here hx rfl (hb hby at_197) ?_
    show Steps p.tables e below (T0.setTop (mkF m 198 #[.val (.long q0), .second, .val (.int p1), .val (.int p2), .val (.int p3), .val (.int p4), .val (.int p5), .val (.int cc), .val (.int aa), .val (.int uu), .val (.ref a), s11, s12, s13] [(.int (3 : Int32)), (.int uu)])) _
    refine XS.icmpNo X0.here hx rfl (hb hby at_198) rfl (flt (hc : ¬ (uu < (3 : Int32)))).1 ?_
    show Steps p.tables e below (T0.setTop (mkF m 201 #[.val (.long q0), .second, .val (.int p1), .val (.int p2), .val (.int p3), .val (.int p4), .val (.int p5), .val (.int cc), .val (.int aa), .val (.int uu), .val (.ref a), s11, s12, s13] [])) _
    refine XS.aload X0.here hx rfl (hb hby at_201) rfl rfl ?_
    show Steps p.tables e below (T0.setTop (mkF m 203 #[.val (.long q0), .second, .val (.int p1), .val (.int p2), .val (.int p3), .val (.int p4), .val (.int p5), .val (.int cc), .val (.int aa), .val (.int uu), .val (.ref a), s11, s12, s13] [(.ref a)])) _
    refine st26.trans ?_
    exact kt
theorem own_st3 {a : Int32} (h : a = 0 ∨ a = 1 ∨ a = 2 ∨ a = 3) : own_st a 3 (own_st a 2 (own_st a 1 0)) = a := by
  rcases h with rfl | rfl | rfl | rfl <;> decide
theorem own_b1 {a c : Int32} (h : a = 0 ∨ a = 1 ∨ a = 2 ∨ a = 3) (q : ¬ c < a) : ¬ a < (1 : Int32) → ¬ (0 : Int32) < 0 ∧ (0 : Int32) < c := by
  intro r
  refine ⟨by decide, ?_⟩
  rw [Int32.lt_iff_toInt_lt] at q r ⊢
  have l0 : (0 : Int32).toInt = 0 := by decide
  have l1 : (1 : Int32).toInt = 1 := by decide
  omega
theorem own_b2 {a c : Int32} (h : a = 0 ∨ a = 1 ∨ a = 2 ∨ a = 3) (q : ¬ c < a) : ¬ a < (2 : Int32) → ¬ own_st a 1 0 < 0 ∧ own_st a 1 0 < c := by
  intro r
  rcases h with rfl | rfl | rfl | rfl
  · exact absurd (by decide) r
  · exact absurd (by decide) r
  · have e : own_st 2 1 0 = 1 := by decide
    rw [e]; refine ⟨by decide, ?_⟩
    rw [Int32.lt_iff_toInt_lt] at q ⊢
    have l1 : (1 : Int32).toInt = 1 := by decide
    have l2 : (2 : Int32).toInt = 2 := by decide
    omega
  · have e : own_st 3 1 0 = 1 := by decide
    rw [e]; refine ⟨by decide, ?_⟩
    rw [Int32.lt_iff_toInt_lt] at q ⊢
    have l1 : (1 : Int32).toInt = 1 := by decide
    have l2 : (3 : Int32).toInt = 3 := by decide
    omega
theorem own_b3 {a c : Int32} (h : a = 0 ∨ a = 1 ∨ a = 2 ∨ a = 3) (q : ¬ c < a) : ¬ a < (3 : Int32) → ¬ own_st a 2 (own_st a 1 0) < 0 ∧ own_st a 2 (own_st a 1 0) < c := by
  intro r
  rcases h with rfl | rfl | rfl | rfl
  · exact absurd (by decide) r
  · exact absurd (by decide) r
  · exact absurd (by decide) r
  · have e : own_st 3 2 (own_st 3 1 0) = 2 := by decide
    rw [e]; refine ⟨by decide, ?_⟩
    rw [Int32.lt_iff_toInt_lt] at q ⊢
    have l1 : (2 : Int32).toInt = 2 := by decide
    have l2 : (3 : Int32).toInt = 3 := by decide
    omega
theorem own_00 (c : Int32) : own_e ((0 : Int32) + 0) c = own_f c 0 := by
  by_cases h : c = 0
  · rw [own_f1 h, own_e1 (by rw [h]; decide)]
  · rw [own_f0 h, own_e0 (fun q => h (by rw [← q]; decide))]
theorem pd_2 : parseMethodDescriptor "(II)I" = some ⟨[.int, .int], some .int⟩ := by decide +kernel
theorem pd_3 : parseMethodDescriptor "(JI)V" = some ⟨[.long, .int], none⟩ := by decide +kernel
theorem pd_4 : parseMethodDescriptor "()Z" = some ⟨[], some .boolean⟩ := by decide +kernel
theorem pn_1 : plainName "com/example/ringweld/ringweld/sim/LookupBatchEndedPinLaw" = true := by first | (simp [plainName, overriddenIn]; done) | decide +kernel
theorem ef_0 (m : MethodId) (q0 : Int64) (p1 : Int32) (p2 : Int32) (p3 : Int32) (p4 : Int32) (p5 : Int32) : entryFrame m #[(.long q0), (.int p1), (.int p2), (.int p3), (.int p4), (.int p5)] maxLocals = mkF m 0 #[.val (.long q0), .second, .val (.int p1), .val (.int p2), .val (.int p3), .val (.int p4), .val (.int p5), .unset, .unset, .unset, .unset, .unset, .unset, .unset] [] := by first | (simp [entryFrame, mkF, argsToLocals, Value.category, maxLocals]; done) | rfl
def Q_0 (Z : State) (q0 : Int64) (p1 : Int32) (p2 : Int32) (p3 : Int32) (p4 : Int32) (p5 : Int32)  (h0 : Heap) (n0 : Nat) (v : Option Value) (h : Heap) (L : List Loc) : Prop := v = some (.int (1 : Int32)) ∧ Fr n0 L
set_option maxRecDepth 65536 in
set_option maxHeartbeats 40000000 in
theorem rm_0 (l : Launch) (Z : State) (a0 : Array Value) (hw : ∀ d ∈ tables_1, d.before a0 Z = true) (ws : List Jvm.Cond) (q0 : Int64) (p1 : Int32) (p2 : Int32) (p3 : Int32) (p4 : Int32) (p5 : Int32)  (h0 : Heap) (n0 : Nat) (Z0 : n0 ≤ h0.size)  :
    MetFree l x (head1 (Jvm.Cond.code x code maxLocals ret :: ws) room_1) (fun a U => a = #[(.long q0), (.int p1), (.int p2), (.int p3), (.int p4), (.int p5)] ∧ Z.Warmed39 U.vm ∧ U.heap = h0) (fun _ _ _ _ _ => True) (fun _ U o U' => ∃ v L, o = .returned v ∧ Q_0 Z q0 p1 p2 p3 p4 p5  h0 n0 v U'.heap L ∧ FrameEnd U o U' L room_1.cells room_1.slots) := by
  refine MetFree.of_bodySF (plainFor_of_name pn_1) hisR ?_
  intro p e s m args below meth c s₁ Bd hml0 hP hK
  obtain ⟨rfl, hZ, hh⟩ := hP
  have hx := Bd.exec
  have hby := Bd.bytes
  have hml : c.maxLocals = 14 := hml0
  have hown : s.vm.findClass "com/example/ringweld/ringweld/sim/LookupBatchEndedPinLaw" = some m.cls := findClass_of_methodNamed Bd.named
  have hnm := (name_of_methodNamed Bd.named Bd.method).1
  have X0 : Stand p l e room_1 s m #[(.long q0), (.int p1), (.int p2), (.int p3), (.int p4), (.int p5)] below meth c s₁ [] 0 0 := Stand.of_body Bd
  have e0 : s₁.heap = h0 := by rw [← hh, Bd.state]; rfl
  have N0 := Fr.nil n0
  have pre0 : ∀ t, Steps p.tables e below (s₁.setTop (mkF m 0 #[.val (.long q0), .second, .val (.int p1), .val (.int p2), .val (.int p3), .val (.int p4), .val (.int p5), .unset, .unset, .unset, .unset, .unset, .unset, .unset] [])) t → Steps p.tables e below (s₁.setTop (entryFrame m #[(.long q0), (.int p1), (.int p2), (.int p3), (.int p4), (.int p5)] maxLocals)) t := fun t k => castTop (ef_0 m q0 p1 p2 p3 p4 p5) k
  obtain ⟨cc, hcc⟩ : ∃ z : Int32, z = (p1 &&& (3 : Int32)) := ⟨_, rfl⟩
  obtain ⟨aa, haa⟩ : ∃ z : Int32, z = (own_min (p2 &&& (3 : Int32)) cc) := ⟨_, rfl⟩
  obtain ⟨uu, huu⟩ : ∃ z : Int32, z = (own_min (((p2.toUInt32 >>> ((2 : Int32) &&& 31).toUInt32).toInt32) &&& (3 : Int32)) (cc - aa)) := ⟨_, rfl⟩
  have hc3 := own_mask3 p1
  rw [← hcc] at hc3
  have hx3 := own_mask3 p2
  have hA := own_minT (p2 &&& (3 : Int32)) cc
  rw [← haa] at hA
  have hs := own_sub cc aa hc3.1 hc3.2 (by omega) (by omega)
  have hu3 := own_mask3 ((p2.toUInt32 >>> ((2 : Int32) &&& 31).toUInt32).toInt32)
  have hU := own_minT (((p2.toUInt32 >>> ((2 : Int32) &&& 31).toUInt32).toInt32) &&& (3 : Int32)) (cc - aa)
  rw [← huu] at hU
  have a4 := own_four aa (by omega) (by omega)
  have u4 := own_four uu (by omega) (by omega)
  have hac : ¬ cc < aa := by rw [Int32.lt_iff_toInt_lt]; omega
  have l0 : (0 : Int32).toInt = 0 := by decide
  have hneg : ¬ cc < 0 := by rw [Int32.lt_iff_toInt_lt]; omega
  have hcap : cc.toNatClampNeg ≤ 3 := by rw [own_cl]; omega
  obtain ⟨_, _, ⟨T27, L27, k27, n27⟩, -, X27, ⟨Lc27, hQ27, l27, y27, z27⟩, st27⟩ := Jvm.LawKit.callS X0 hx (y := (⟨"java/lang/Math", "min", "(II)I"⟩ : MethodName)) hown (mvT hZ (hw _ (List.mem_of_getElem? (i := 0) rfl))) (mvT hZ (hw _ (List.mem_of_getElem? (i := 1) rfl))) (mvT hZ (hw _ (List.mem_of_getElem? (i := 2) rfl))) (mvT hZ (hw _ (List.mem_of_getElem? (i := 3) rfl))) (by decide) (backOf (W := 0) (rm_1 l Z a0 hw [] (p2 &&& (3 : Int32)) cc h0 n0 Z0) hZ (hw _ (List.mem_of_getElem? (i := 3) rfl)) (hw _ (List.mem_of_getElem? (i := 2) rfl)) (by decide) (by decide)) (g := (mkF m 10 #[.val (.long q0), .second, .val (.int p1), .val (.int p2), .val (.int p3), .val (.int p4), .val (.int p5), .val (.int cc), .unset, .unset, .unset, .unset, .unset, .unset] [(.int cc), (.int (p2 &&& (3 : Int32)))])) rfl (by rw [hml]; rfl) (argsL := [(.int (p2 &&& (3 : Int32))), (.int cc)]) (rest := []) (lenOf pd_2 rfl) rfl (by show 2 * 0 + _ ≤ _; exact Nat.le_of_eq rfl) (hb hby at_10) (fun _ _ => ⟨rfl, e0, (by decide : 0 + 0 ≤ _), (by decide : 0 + 0 ≤ _)⟩)
  dsimp only [Pt.U, Pt.locs, Pt.cells, Pt.slots] at X27 l27 y27 z27 st27 hQ27
  subst l27 y27 z27
  obtain ⟨rfl, N27q, em1⟩ := hQ27
  have N27 := Fr.app N0 N27q
  obtain ⟨_, _, ⟨T28, L28, k28, n28⟩, -, X28, ⟨Lc28, hQ28, l28, y28, z28⟩, st28⟩ := Jvm.LawKit.callS X27 hx (y := (⟨"java/lang/Math", "min", "(II)I"⟩ : MethodName)) hown (mvT hZ (hw _ (List.mem_of_getElem? (i := 0) rfl))) (mvT hZ (hw _ (List.mem_of_getElem? (i := 1) rfl))) (mvT hZ (hw _ (List.mem_of_getElem? (i := 2) rfl))) (mvT hZ (hw _ (List.mem_of_getElem? (i := 3) rfl))) (by decide) (backOf (W := 0) (rm_1 l Z a0 hw [] (((p2.toUInt32 >>> ((2 : Int32) &&& 31).toUInt32).toInt32) &&& (3 : Int32)) (cc - aa) h0 n0 Z0) hZ (hw _ (List.mem_of_getElem? (i := 3) rfl)) (hw _ (List.mem_of_getElem? (i := 2) rfl)) (by decide) (by decide)) (g := (mkF m 25 #[.val (.long q0), .second, .val (.int p1), .val (.int p2), .val (.int p3), .val (.int p4), .val (.int p5), .val (.int cc), .val (.int aa), .unset, .unset, .unset, .unset, .unset] [(.int (cc - aa)), (.int (((p2.toUInt32 >>> ((2 : Int32) &&& 31).toUInt32).toInt32) &&& (3 : Int32)))])) rfl (by rw [hml]; rfl) (argsL := [(.int (((p2.toUInt32 >>> ((2 : Int32) &&& 31).toUInt32).toInt32) &&& (3 : Int32))), (.int (cc - aa))]) (rest := []) (lenOf pd_2 rfl) rfl (by show 2 * 0 + _ ≤ _; exact Nat.le_of_eq rfl) (hb hby at_25) (fun _ _ => ⟨rfl, em1, (by decide : 0 + 0 ≤ _), (by decide : 0 + 0 ≤ _)⟩)
  dsimp only [Pt.U, Pt.locs, Pt.cells, Pt.slots] at X28 l28 y28 z28 st28 hQ28
  subst l28 y28 z28
  obtain ⟨rfl, N28q, em2⟩ := hQ28
  have N28 := Fr.app N27 N28q
  obtain ⟨T29, h29, X29, e29, E29, A29, D29, -, st29⟩ := newO X28 hx hZ hown (hw _ (List.mem_of_getElem? (i := 4) rfl)) (hw _ (List.mem_of_getElem? (i := 5) rfl)) (hw _ (List.mem_of_getElem? (i := 6) rfl)) em2 (g := (mkF m 30 #[.val (.long q0), .second, .val (.int p1), .val (.int p2), .val (.int p3), .val (.int p4), .val (.int p5), .val (.int cc), .val (.int aa), .val (.int uu), .unset, .unset, .unset, .unset] [])) rfl (hb hby at_30) (by decide) (by decide)
  obtain ⟨a, g29⟩ : ∃ z, z = h0.size := ⟨_, rfl⟩
  rw [← g29] at A29 D29 st29
  have E_a := A29
  have g_a : n0 ≤ a := Nat.le_trans Z0 (Nat.le_of_eq g29.symm)
  have F_issued_a : Fld Z h29 a "com/example/ringweld/ringweld/sim/LookupBatch" "issued" "J" (.long (0 : Int64)) := D29 (Or.inr (hw _ (List.mem_of_getElem? (i := 14) rfl))) (ty := .long) (by decide)
  have F_count_a : Fld Z h29 a "com/example/ringweld/ringweld/sim/LookupBatch" "count" "I" (.int (0 : Int32)) := D29 (Or.inr (hw _ (List.mem_of_getElem? (i := 16) rfl))) (ty := .int) (by decide)
  have F_hops_a : Fld Z h29 a "com/example/ringweld/ringweld/sim/LookupBatch" "hops" "[I" .null := D29 (Or.inr (hw _ (List.mem_of_getElem? (i := 19) rfl))) (ty := (.array .int)) (by decide)
  have F_answered_a : Fld Z h29 a "com/example/ringweld/ringweld/sim/LookupBatch" "answered" "I" (.int (0 : Int32)) := D29 (Or.inl (hw _ (List.mem_of_getElem? (i := 26) rfl))) (ty := .int) (by decide)
  have F_unresolved_a : Fld Z h29 a "com/example/ringweld/ringweld/sim/LookupBatch" "unresolved" "I" (.int (0 : Int32)) := D29 (Or.inl (hw _ (List.mem_of_getElem? (i := 28) rfl))) (ty := .int) (by decide)
  have F_wrong_a : Fld Z h29 a "com/example/ringweld/ringweld/sim/LookupBatch" "wrong" "I" (.int (0 : Int32)) := D29 (Or.inl (hw _ (List.mem_of_getElem? (i := 35) rfl))) (ty := .int) (by decide)
  have Z29 : n0 ≤ h29.size := Nat.le_trans Z0 E29.1
  obtain ⟨_, _, ⟨T30, L30, k30, n30⟩, -, X30, ⟨Lc30, hQ30, l30, y30, z30⟩, st30⟩ := X29.specialBack hx (y := (⟨"com/example/ringweld/ringweld/sim/LookupBatch", "<init>", "(JI)V"⟩ : MethodName)) rfl hown (mvT hZ (hw _ (List.mem_of_getElem? (i := 7) rfl))) (mvT hZ (hw _ (List.mem_of_getElem? (i := 8) rfl))) (mvT hZ (hw _ (List.mem_of_getElem? (i := 9) rfl))) (by decide) (backOf (W := 1) (rm_2 l Z a0 hw [] a q0 cc h29 n0 Z29 E_a g_a F_issued_a F_count_a F_hops_a F_answered_a F_unresolved_a F_wrong_a hneg hcap) hZ (hw _ (List.mem_of_getElem? (i := 9) rfl)) (hw _ (List.mem_of_getElem? (i := 6) rfl)) (by decide) (by decide)) (g := (mkF m 37 #[.val (.long q0), .second, .val (.int p1), .val (.int p2), .val (.int p3), .val (.int p4), .val (.int p5), .val (.int cc), .val (.int aa), .val (.int uu), .unset, .unset, .unset, .unset] [(.int cc), (.long q0), (.ref a), (.ref a)])) rfl (by rw [hml]; rfl) (Steps.refl _) (a := a) (argsL := [(.long q0), (.int cc)]) (rest := [(.ref a)]) (lenOf pd_3 rfl) rfl (by show 2 * 0 + _ ≤ _; exact Nat.le_of_eq rfl) (hb hby at_37) (fun _ _ => ⟨rfl, e29, (by decide : 1 + 1 ≤ _), (by decide : 6 + 3 ≤ _)⟩)
  dsimp only [Pt.U, Pt.locs, Pt.cells, Pt.slots] at X30 l30 y30 z30 st30 hQ30
  subst l30 y30 z30
  obtain ⟨rfl, N30q, K1, b, g_b, I1⟩ := hQ30
  have N30 := Fr.app N28 N30q
  have Z30 : n0 ≤ T30.heap.size := Nat.le_trans Z29 K1.1
  obtain ⟨cq31, kq31, q31a, q31b, q31c⟩ := isOf hZ rfl I1.2.1
  obtain ⟨_, _, ⟨T31, L31, k31, n31⟩, -, X31, ⟨Lc31, hQ31, l31, y31, z31⟩, st31⟩ := X30.virtualBack hx (y := (⟨"com/example/ringweld/ringweld/sim/LookupBatch", "ended", "()Z"⟩ : MethodName)) (z := (⟨"com/example/ringweld/ringweld/sim/LookupBatch", "ended", "()Z"⟩ : MethodName)) hown (mvT hZ (hw _ (List.mem_of_getElem? (i := 20) rfl))) (mvT hZ (hw _ (List.mem_of_getElem? (i := 21) rfl))) (notFace_of_selects (args := #[]) (mvT hZ (hw _ (List.mem_of_getElem? (i := 23) rfl)))) (mvT hZ (hw _ (List.mem_of_getElem? (i := 23) rfl))) (mvT hZ (hw _ (List.mem_of_getElem? (i := 22) rfl))) (by decide) (backOf (W := 0) (rm_4 l Z a0 hw [] a b cc 0 0 T30.heap n0 Z30 I1) hZ (hw _ (List.mem_of_getElem? (i := 24) rfl)) (hw _ (List.mem_of_getElem? (i := 6) rfl)) (by decide) (by decide)) q31a q31c (g := (mkF m 44 #[.val (.long q0), .second, .val (.int p1), .val (.int p2), .val (.int p3), .val (.int p4), .val (.int p5), .val (.int cc), .val (.int aa), .val (.int uu), .val (.ref a), .unset, .unset, .unset] [(.ref a)])) rfl (by rw [hml]; rfl) (Steps.refl _) (argsL := []) (rest := []) (lenOf pd_4 rfl) rfl (by show 2 * 0 + _ ≤ _; exact Nat.le_of_eq rfl) (hb hby at_44) (fun _ _ => ⟨rfl, rfl, (by decide : 2 + 0 ≤ _), (by decide : 9 + 0 ≤ _)⟩)
  dsimp only [Pt.U, Pt.locs, Pt.cells, Pt.slots] at X31 l31 y31 z31 st31 hQ31
  subst l31 y31 z31
  obtain ⟨rfl, N31q, en1⟩ := hQ31
  have N31 := Fr.app N30 N31q
  have j57 : ∀ t, Steps p.tables e below (T31.setTop (mkF m 57 #[.val (.long q0), .second, .val (.int p1), .val (.int p2), .val (.int p3), .val (.int p4), .val (.int p5), .val (.int cc), .val (.int aa), .val (.int uu), .val (.ref a), .unset, .unset, .unset] [(.int (own_f cc 0)), (.int (own_e ((0 : Int32) + 0) cc))])) t → Steps p.tables e below (T31.setTop (mkF m 49 #[.val (.long q0), .second, .val (.int p1), .val (.int p2), .val (.int p3), .val (.int p4), .val (.int p5), .val (.int cc), .val (.int aa), .val (.int uu), .val (.ref a), .unset, .unset, .unset] [(.int cc), (.int (own_e ((0 : Int32) + 0) cc))])) t := by
    intro t kt
    by_cases hc : cc = 0
    · rw [own_f1 hc] at kt
      show Steps p.tables e below (T31.setTop (mkF m 49 #[.val (.long q0), .second, .val (.int p1), .val (.int p2), .val (.int p3), .val (.int p4), .val (.int p5), .val (.int cc), .val (.int aa), .val (.int uu), .val (.ref a), .unset, .unset, .unset] [(.int cc), (.int (own_e ((0 : Int32) + 0) cc))])) _
      refine XS.ifNo X31.here hx rfl (hb hby at_49) rfl ((if0 _ _).trans (teq (hc : cc = (0 : Int32))).2) ?_
      show Steps p.tables e below (T31.setTop (mkF m 52 #[.val (.long q0), .second, .val (.int p1), .val (.int p2), .val (.int p3), .val (.int p4), .val (.int p5), .val (.int cc), .val (.int aa), .val (.int uu), .val (.ref a), .unset, .unset, .unset] [(.int (own_e ((0 : Int32) + 0) cc))])) _
      refine XS.iconst X31.here hx rfl (hb hby at_52) ?_
      show Steps p.tables e below (T31.setTop (mkF m 53 #[.val (.long q0), .second, .val (.int p1), .val (.int p2), .val (.int p3), .val (.int p4), .val (.int p5), .val (.int cc), .val (.int aa), .val (.int uu), .val (.ref a), .unset, .unset, .unset] [(.int (1 : Int32)), (.int (own_e ((0 : Int32) + 0) cc))])) _
      refine XS.goto X31.here hx rfl (pc0 := 53) (pc' := 57) rfl (hb hby at_53) (by decide) (by decide) ?_
      exact kt
    · rw [own_f0 hc] at kt
      show Steps p.tables e below (T31.setTop (mkF m 49 #[.val (.long q0), .second, .val (.int p1), .val (.int p2), .val (.int p3), .val (.int p4), .val (.int p5), .val (.int cc), .val (.int aa), .val (.int uu), .val (.ref a), .unset, .unset, .unset] [(.int cc), (.int (own_e ((0 : Int32) + 0) cc))])) _
      refine XS.ifYes X31.here hx rfl (pc0 := 49) (pc' := 56) rfl (hb hby at_49) rfl ((if0 _ _).trans (feq (hc : ¬ (cc = (0 : Int32)))).2) (by decide) (by decide) ?_
      show Steps p.tables e below (T31.setTop (mkF m 56 #[.val (.long q0), .second, .val (.int p1), .val (.int p2), .val (.int p3), .val (.int p4), .val (.int p5), .val (.int cc), .val (.int aa), .val (.int uu), .val (.ref a), .unset, .unset, .unset] [(.int (own_e ((0 : Int32) + 0) cc))])) _
      refine XS.iconst X31.here hx rfl (hb hby at_56) ?_
      exact kt
  have I1b : own_I Z T30.heap a b cc 0 0 := I1
  obtain ⟨T32, h32, Lc32, X32, e32, N32, Z32, J1, st32⟩ := sa1 q0 p1 p2 p3 p4 p5 cc aa uu a b (.val (.int (1 : Int32))) (.unset) (.unset) 0 0 X31 hx hZ hw hby hml hown en1 N31 Z30 I1b g_a g_b (own_b1 a4 hac)
  obtain ⟨T33, h33, Lc33, X33, e33, N33, Z33, J2, st33⟩ := sa2 q0 p1 p2 p3 p4 p5 cc aa uu a b (.val (.int (1 : Int32))) (.unset) (.unset) (own_st aa 1 0) 0 X32 hx hZ hw hby hml hown e32 N32 Z32 J1 g_a g_b (own_b2 a4 hac)
  obtain ⟨T34, h34, Lc34, X34, e34, N34, Z34, J3, st34⟩ := sa3 q0 p1 p2 p3 p4 p5 cc aa uu a b (.val (.int (1 : Int32))) (.unset) (.unset) (own_st aa 2 (own_st aa 1 0)) 0 X33 hx hZ hw hby hml hown e33 N33 Z33 J2 g_a g_b (own_b3 a4 hac)
  rw [own_st3 a4] at J3
  obtain ⟨cq35, kq35, q35a, q35b, q35c⟩ := isOf hZ e34 J3.2.1
  obtain ⟨_, _, ⟨T35, L35, k35, n35⟩, -, X35, ⟨Lc35, hQ35, l35, y35, z35⟩, st35⟩ := X34.virtualBack hx (y := (⟨"com/example/ringweld/ringweld/sim/LookupBatch", "ended", "()Z"⟩ : MethodName)) (z := (⟨"com/example/ringweld/ringweld/sim/LookupBatch", "ended", "()Z"⟩ : MethodName)) hown (mvT hZ (hw _ (List.mem_of_getElem? (i := 20) rfl))) (mvT hZ (hw _ (List.mem_of_getElem? (i := 21) rfl))) (notFace_of_selects (args := #[]) (mvT hZ (hw _ (List.mem_of_getElem? (i := 23) rfl)))) (mvT hZ (hw _ (List.mem_of_getElem? (i := 23) rfl))) (mvT hZ (hw _ (List.mem_of_getElem? (i := 22) rfl))) (by decide) (backOf (W := 0) (rm_4 l Z a0 hw [] a b cc aa 0 h34 n0 Z34 J3) hZ (hw _ (List.mem_of_getElem? (i := 24) rfl)) (hw _ (List.mem_of_getElem? (i := 6) rfl)) (by decide) (by decide)) q35a q35c (g := (mkF m 148 #[.val (.long q0), .second, .val (.int p1), .val (.int p2), .val (.int p3), .val (.int p4), .val (.int p5), .val (.int cc), .val (.int aa), .val (.int uu), .val (.ref a), .val (.int (1 : Int32)), .unset, .unset] [(.ref a)])) rfl (by rw [hml]; rfl) (Steps.refl _) (argsL := []) (rest := []) (lenOf pd_4 rfl) rfl (by show 2 * 0 + _ ≤ _; exact Nat.le_of_eq rfl) (hb hby at_148) (fun _ _ => ⟨rfl, e34, (by decide : 2 + 0 ≤ _), (by decide : 9 + 0 ≤ _)⟩)
  dsimp only [Pt.U, Pt.locs, Pt.cells, Pt.slots] at X35 l35 y35 z35 st35 hQ35
  subst l35 y35 z35
  obtain ⟨rfl, N35q, en2⟩ := hQ35
  have N35 := Fr.app N34 N35q
  have j163 : ∀ t, Steps p.tables e below (T35.setTop (mkF m 163 #[.val (.long q0), .second, .val (.int p1), .val (.int p2), .val (.int p3), .val (.int p4), .val (.int p5), .val (.int cc), .val (.int aa), .val (.int uu), .val (.ref a), .val (.int (1 : Int32)), .unset, .unset] [(.int (own_f aa cc)), (.int (own_e (aa + 0) cc))])) t → Steps p.tables e below (T35.setTop (mkF m 155 #[.val (.long q0), .second, .val (.int p1), .val (.int p2), .val (.int p3), .val (.int p4), .val (.int p5), .val (.int cc), .val (.int aa), .val (.int uu), .val (.ref a), .val (.int (1 : Int32)), .unset, .unset] [(.int cc), (.int aa), (.int (own_e (aa + 0) cc))])) t := by
    intro t kt
    by_cases hc : aa = cc
    · rw [own_f1 hc] at kt
      show Steps p.tables e below (T35.setTop (mkF m 155 #[.val (.long q0), .second, .val (.int p1), .val (.int p2), .val (.int p3), .val (.int p4), .val (.int p5), .val (.int cc), .val (.int aa), .val (.int uu), .val (.ref a), .val (.int (1 : Int32)), .unset, .unset] [(.int cc), (.int aa), (.int (own_e (aa + 0) cc))])) _
      refine XS.icmpNo X35.here hx rfl (hb hby at_155) rfl (teq (hc : aa = cc)).2 ?_
      show Steps p.tables e below (T35.setTop (mkF m 158 #[.val (.long q0), .second, .val (.int p1), .val (.int p2), .val (.int p3), .val (.int p4), .val (.int p5), .val (.int cc), .val (.int aa), .val (.int uu), .val (.ref a), .val (.int (1 : Int32)), .unset, .unset] [(.int (own_e (aa + 0) cc))])) _
      refine XS.iconst X35.here hx rfl (hb hby at_158) ?_
      show Steps p.tables e below (T35.setTop (mkF m 159 #[.val (.long q0), .second, .val (.int p1), .val (.int p2), .val (.int p3), .val (.int p4), .val (.int p5), .val (.int cc), .val (.int aa), .val (.int uu), .val (.ref a), .val (.int (1 : Int32)), .unset, .unset] [(.int (1 : Int32)), (.int (own_e (aa + 0) cc))])) _
      refine XS.goto X35.here hx rfl (pc0 := 159) (pc' := 163) rfl (hb hby at_159) (by decide) (by decide) ?_
      exact kt
    · rw [own_f0 hc] at kt
      show Steps p.tables e below (T35.setTop (mkF m 155 #[.val (.long q0), .second, .val (.int p1), .val (.int p2), .val (.int p3), .val (.int p4), .val (.int p5), .val (.int cc), .val (.int aa), .val (.int uu), .val (.ref a), .val (.int (1 : Int32)), .unset, .unset] [(.int cc), (.int aa), (.int (own_e (aa + 0) cc))])) _
      refine XS.icmpYes X35.here hx rfl (pc0 := 155) (pc' := 162) rfl (hb hby at_155) rfl (feq (hc : ¬ (aa = cc))).2 (by decide) (by decide) ?_
      show Steps p.tables e below (T35.setTop (mkF m 162 #[.val (.long q0), .second, .val (.int p1), .val (.int p2), .val (.int p3), .val (.int p4), .val (.int p5), .val (.int cc), .val (.int aa), .val (.int uu), .val (.ref a), .val (.int (1 : Int32)), .unset, .unset] [(.int (own_e (aa + 0) cc))])) _
      refine XS.iconst X35.here hx rfl (hb hby at_162) ?_
      exact kt
  obtain ⟨T36, h36, Lc36, X36, e36, N36, Z36, M1, st36⟩ := su1 q0 p1 p2 p3 p4 p5 cc aa uu a b (.val (.int (1 : Int32))) (.val (.int (1 : Int32))) (.unset) aa 0 X35 hx hZ hw hby hml hown en2 N35 Z34 J3 g_a
  obtain ⟨T37, h37, Lc37, X37, e37, N37, Z37, M2, st37⟩ := su2 q0 p1 p2 p3 p4 p5 cc aa uu a b (.val (.int (1 : Int32))) (.val (.int (1 : Int32))) (.unset) aa (own_st uu 1 0) X36 hx hZ hw hby hml hown e36 N36 Z36 M1 g_a
  obtain ⟨T38, h38, Lc38, X38, e38, N38, Z38, M3, st38⟩ := su3 q0 p1 p2 p3 p4 p5 cc aa uu a b (.val (.int (1 : Int32))) (.val (.int (1 : Int32))) (.unset) aa (own_st uu 2 (own_st uu 1 0)) X37 hx hZ hw hby hml hown e37 N37 Z37 M2 g_a
  rw [own_st3 u4] at M3
  obtain ⟨cq39, kq39, q39a, q39b, q39c⟩ := isOf hZ e38 M3.2.1
  obtain ⟨_, _, ⟨T39, L39, k39, n39⟩, -, X39, ⟨Lc39, hQ39, l39, y39, z39⟩, st39⟩ := X38.virtualBack hx (y := (⟨"com/example/ringweld/ringweld/sim/LookupBatch", "ended", "()Z"⟩ : MethodName)) (z := (⟨"com/example/ringweld/ringweld/sim/LookupBatch", "ended", "()Z"⟩ : MethodName)) hown (mvT hZ (hw _ (List.mem_of_getElem? (i := 20) rfl))) (mvT hZ (hw _ (List.mem_of_getElem? (i := 21) rfl))) (notFace_of_selects (args := #[]) (mvT hZ (hw _ (List.mem_of_getElem? (i := 23) rfl)))) (mvT hZ (hw _ (List.mem_of_getElem? (i := 23) rfl))) (mvT hZ (hw _ (List.mem_of_getElem? (i := 22) rfl))) (by decide) (backOf (W := 0) (rm_4 l Z a0 hw [] a b cc aa uu h38 n0 Z38 M3) hZ (hw _ (List.mem_of_getElem? (i := 24) rfl)) (hw _ (List.mem_of_getElem? (i := 6) rfl)) (by decide) (by decide)) q39a q39c (g := (mkF m 208 #[.val (.long q0), .second, .val (.int p1), .val (.int p2), .val (.int p3), .val (.int p4), .val (.int p5), .val (.int cc), .val (.int aa), .val (.int uu), .val (.ref a), .val (.int (1 : Int32)), .val (.int (1 : Int32)), .unset] [(.ref a)])) rfl (by rw [hml]; rfl) (Steps.refl _) (argsL := []) (rest := []) (lenOf pd_4 rfl) rfl (by show 2 * 0 + _ ≤ _; exact Nat.le_of_eq rfl) (hb hby at_208) (fun _ _ => ⟨rfl, e38, (by decide : 2 + 0 ≤ _), (by decide : 9 + 0 ≤ _)⟩)
  dsimp only [Pt.U, Pt.locs, Pt.cells, Pt.slots] at X39 l39 y39 z39 st39 hQ39
  subst l39 y39 z39
  obtain ⟨rfl, N39q, en3⟩ := hQ39
  have N39 := Fr.app N38 N39q
  have j226 : ∀ t, Steps p.tables e below (T39.setTop (mkF m 226 #[.val (.long q0), .second, .val (.int p1), .val (.int p2), .val (.int p3), .val (.int p4), .val (.int p5), .val (.int cc), .val (.int aa), .val (.int uu), .val (.ref a), .val (.int (1 : Int32)), .val (.int (1 : Int32)), .unset] [(.int (own_f (aa + uu) cc)), (.int (own_e (aa + uu) cc))])) t → Steps p.tables e below (T39.setTop (mkF m 218 #[.val (.long q0), .second, .val (.int p1), .val (.int p2), .val (.int p3), .val (.int p4), .val (.int p5), .val (.int cc), .val (.int aa), .val (.int uu), .val (.ref a), .val (.int (1 : Int32)), .val (.int (1 : Int32)), .unset] [(.int cc), (.int (aa + uu)), (.int (own_e (aa + uu) cc))])) t := by
    intro t kt
    by_cases hc : (aa + uu) = cc
    · rw [own_f1 hc] at kt
      show Steps p.tables e below (T39.setTop (mkF m 218 #[.val (.long q0), .second, .val (.int p1), .val (.int p2), .val (.int p3), .val (.int p4), .val (.int p5), .val (.int cc), .val (.int aa), .val (.int uu), .val (.ref a), .val (.int (1 : Int32)), .val (.int (1 : Int32)), .unset] [(.int cc), (.int (aa + uu)), (.int (own_e (aa + uu) cc))])) _
      refine XS.icmpNo X39.here hx rfl (hb hby at_218) rfl (teq (hc : (aa + uu) = cc)).2 ?_
      show Steps p.tables e below (T39.setTop (mkF m 221 #[.val (.long q0), .second, .val (.int p1), .val (.int p2), .val (.int p3), .val (.int p4), .val (.int p5), .val (.int cc), .val (.int aa), .val (.int uu), .val (.ref a), .val (.int (1 : Int32)), .val (.int (1 : Int32)), .unset] [(.int (own_e (aa + uu) cc))])) _
      refine XS.iconst X39.here hx rfl (hb hby at_221) ?_
      show Steps p.tables e below (T39.setTop (mkF m 222 #[.val (.long q0), .second, .val (.int p1), .val (.int p2), .val (.int p3), .val (.int p4), .val (.int p5), .val (.int cc), .val (.int aa), .val (.int uu), .val (.ref a), .val (.int (1 : Int32)), .val (.int (1 : Int32)), .unset] [(.int (1 : Int32)), (.int (own_e (aa + uu) cc))])) _
      refine XS.goto X39.here hx rfl (pc0 := 222) (pc' := 226) rfl (hb hby at_222) (by decide) (by decide) ?_
      exact kt
    · rw [own_f0 hc] at kt
      show Steps p.tables e below (T39.setTop (mkF m 218 #[.val (.long q0), .second, .val (.int p1), .val (.int p2), .val (.int p3), .val (.int p4), .val (.int p5), .val (.int cc), .val (.int aa), .val (.int uu), .val (.ref a), .val (.int (1 : Int32)), .val (.int (1 : Int32)), .unset] [(.int cc), (.int (aa + uu)), (.int (own_e (aa + uu) cc))])) _
      refine XS.icmpYes X39.here hx rfl (pc0 := 218) (pc' := 225) rfl (hb hby at_218) rfl (feq (hc : ¬ ((aa + uu) = cc))).2 (by decide) (by decide) ?_
      show Steps p.tables e below (T39.setTop (mkF m 225 #[.val (.long q0), .second, .val (.int p1), .val (.int p2), .val (.int p3), .val (.int p4), .val (.int p5), .val (.int cc), .val (.int aa), .val (.int uu), .val (.ref a), .val (.int (1 : Int32)), .val (.int (1 : Int32)), .unset] [(.int (own_e (aa + uu) cc))])) _
      refine XS.iconst X39.here hx rfl (hb hby at_225) ?_
      exact kt
  obtain ⟨fs, hr, hrun, hended, hW, hsame⟩ := X39.leave (v := some (.int (1 : Int32))) (fun h => by rw [Bd.returns] at h; cases h)
  refine ⟨_, _, pre0 _ ?_, hrun, hended, _, _, rfl, ?_, ⟨_, rfl⟩, hW, hsame.mono (by decide) (by decide)⟩
  · show Steps p.tables e below (s₁.setTop (mkF m 0 #[.val (.long q0), .second, .val (.int p1), .val (.int p2), .val (.int p3), .val (.int p4), .val (.int p5), .unset, .unset, .unset, .unset, .unset, .unset, .unset] [])) _
    refine XS.iloadN X0.here hx rfl (hb hby at_0) rfl ?_
    show Steps p.tables e below (s₁.setTop (mkF m 1 #[.val (.long q0), .second, .val (.int p1), .val (.int p2), .val (.int p3), .val (.int p4), .val (.int p5), .unset, .unset, .unset, .unset, .unset, .unset, .unset] [(.int p1)])) _
    refine XS.iconst X0.here hx rfl (hb hby at_1) ?_
    show Steps p.tables e below (s₁.setTop (mkF m 2 #[.val (.long q0), .second, .val (.int p1), .val (.int p2), .val (.int p3), .val (.int p4), .val (.int p5), .unset, .unset, .unset, .unset, .unset, .unset, .unset] [(.int (3 : Int32)), (.int p1)])) _
    refine XS.iand X0.here hx rfl (hb hby at_2) rfl ?_
    show Steps p.tables e below (s₁.setTop (mkF m 3 #[.val (.long q0), .second, .val (.int p1), .val (.int p2), .val (.int p3), .val (.int p4), .val (.int p5), .unset, .unset, .unset, .unset, .unset, .unset, .unset] [(.int (p1 &&& (3 : Int32)))])) _
    rw [← hcc]
    show Steps p.tables e below (s₁.setTop (mkF m 3 #[.val (.long q0), .second, .val (.int p1), .val (.int p2), .val (.int p3), .val (.int p4), .val (.int p5), .unset, .unset, .unset, .unset, .unset, .unset, .unset] [(.int cc)])) _
    refine XS.istore X0.here hx rfl (hb hby at_3) rfl (l' := #[.val (.long q0), .second, .val (.int p1), .val (.int p2), .val (.int p3), .val (.int p4), .val (.int p5), .val (.int cc), .unset, .unset, .unset, .unset, .unset, .unset]) rfl ?_
    show Steps p.tables e below (s₁.setTop (mkF m 5 #[.val (.long q0), .second, .val (.int p1), .val (.int p2), .val (.int p3), .val (.int p4), .val (.int p5), .val (.int cc), .unset, .unset, .unset, .unset, .unset, .unset] [])) _
    refine XS.iloadN X0.here hx rfl (hb hby at_5) rfl ?_
    show Steps p.tables e below (s₁.setTop (mkF m 6 #[.val (.long q0), .second, .val (.int p1), .val (.int p2), .val (.int p3), .val (.int p4), .val (.int p5), .val (.int cc), .unset, .unset, .unset, .unset, .unset, .unset] [(.int p2)])) _
    refine XS.iconst X0.here hx rfl (hb hby at_6) ?_
    show Steps p.tables e below (s₁.setTop (mkF m 7 #[.val (.long q0), .second, .val (.int p1), .val (.int p2), .val (.int p3), .val (.int p4), .val (.int p5), .val (.int cc), .unset, .unset, .unset, .unset, .unset, .unset] [(.int (3 : Int32)), (.int p2)])) _
    refine XS.iand X0.here hx rfl (hb hby at_7) rfl ?_
    show Steps p.tables e below (s₁.setTop (mkF m 8 #[.val (.long q0), .second, .val (.int p1), .val (.int p2), .val (.int p3), .val (.int p4), .val (.int p5), .val (.int cc), .unset, .unset, .unset, .unset, .unset, .unset] [(.int (p2 &&& (3 : Int32)))])) _
    refine XS.iload X0.here hx rfl (hb hby at_8) rfl ?_
    show Steps p.tables e below (s₁.setTop (mkF m 10 #[.val (.long q0), .second, .val (.int p1), .val (.int p2), .val (.int p3), .val (.int p4), .val (.int p5), .val (.int cc), .unset, .unset, .unset, .unset, .unset, .unset] [(.int cc), (.int (p2 &&& (3 : Int32)))])) _
    refine st27 _ ?_
    show Steps p.tables e below (T27.setTop (mkF m 13 #[.val (.long q0), .second, .val (.int p1), .val (.int p2), .val (.int p3), .val (.int p4), .val (.int p5), .val (.int cc), .unset, .unset, .unset, .unset, .unset, .unset] [(.int (own_min (p2 &&& (3 : Int32)) cc))])) _
    rw [← haa]
    show Steps p.tables e below (T27.setTop (mkF m 13 #[.val (.long q0), .second, .val (.int p1), .val (.int p2), .val (.int p3), .val (.int p4), .val (.int p5), .val (.int cc), .unset, .unset, .unset, .unset, .unset, .unset] [(.int aa)])) _
    refine XS.istore X27.here hx rfl (hb hby at_13) rfl (l' := #[.val (.long q0), .second, .val (.int p1), .val (.int p2), .val (.int p3), .val (.int p4), .val (.int p5), .val (.int cc), .val (.int aa), .unset, .unset, .unset, .unset, .unset]) rfl ?_
    show Steps p.tables e below (T27.setTop (mkF m 15 #[.val (.long q0), .second, .val (.int p1), .val (.int p2), .val (.int p3), .val (.int p4), .val (.int p5), .val (.int cc), .val (.int aa), .unset, .unset, .unset, .unset, .unset] [])) _
    refine XS.iloadN X27.here hx rfl (hb hby at_15) rfl ?_
    show Steps p.tables e below (T27.setTop (mkF m 16 #[.val (.long q0), .second, .val (.int p1), .val (.int p2), .val (.int p3), .val (.int p4), .val (.int p5), .val (.int cc), .val (.int aa), .unset, .unset, .unset, .unset, .unset] [(.int p2)])) _
    refine XS.iconst X27.here hx rfl (hb hby at_16) ?_
    show Steps p.tables e below (T27.setTop (mkF m 17 #[.val (.long q0), .second, .val (.int p1), .val (.int p2), .val (.int p3), .val (.int p4), .val (.int p5), .val (.int cc), .val (.int aa), .unset, .unset, .unset, .unset, .unset] [(.int (2 : Int32)), (.int p2)])) _
    refine XS.iushr X27.here hx rfl (hb hby at_17) rfl ?_
    show Steps p.tables e below (T27.setTop (mkF m 18 #[.val (.long q0), .second, .val (.int p1), .val (.int p2), .val (.int p3), .val (.int p4), .val (.int p5), .val (.int cc), .val (.int aa), .unset, .unset, .unset, .unset, .unset] [(.int ((p2.toUInt32 >>> ((2 : Int32) &&& 31).toUInt32).toInt32))])) _
    refine XS.iconst X27.here hx rfl (hb hby at_18) ?_
    show Steps p.tables e below (T27.setTop (mkF m 19 #[.val (.long q0), .second, .val (.int p1), .val (.int p2), .val (.int p3), .val (.int p4), .val (.int p5), .val (.int cc), .val (.int aa), .unset, .unset, .unset, .unset, .unset] [(.int (3 : Int32)), (.int ((p2.toUInt32 >>> ((2 : Int32) &&& 31).toUInt32).toInt32))])) _
    refine XS.iand X27.here hx rfl (hb hby at_19) rfl ?_
    show Steps p.tables e below (T27.setTop (mkF m 20 #[.val (.long q0), .second, .val (.int p1), .val (.int p2), .val (.int p3), .val (.int p4), .val (.int p5), .val (.int cc), .val (.int aa), .unset, .unset, .unset, .unset, .unset] [(.int (((p2.toUInt32 >>> ((2 : Int32) &&& 31).toUInt32).toInt32) &&& (3 : Int32)))])) _
    refine XS.iload X27.here hx rfl (hb hby at_20) rfl ?_
    show Steps p.tables e below (T27.setTop (mkF m 22 #[.val (.long q0), .second, .val (.int p1), .val (.int p2), .val (.int p3), .val (.int p4), .val (.int p5), .val (.int cc), .val (.int aa), .unset, .unset, .unset, .unset, .unset] [(.int cc), (.int (((p2.toUInt32 >>> ((2 : Int32) &&& 31).toUInt32).toInt32) &&& (3 : Int32)))])) _
    refine XS.iload X27.here hx rfl (hb hby at_22) rfl ?_
    show Steps p.tables e below (T27.setTop (mkF m 24 #[.val (.long q0), .second, .val (.int p1), .val (.int p2), .val (.int p3), .val (.int p4), .val (.int p5), .val (.int cc), .val (.int aa), .unset, .unset, .unset, .unset, .unset] [(.int aa), (.int cc), (.int (((p2.toUInt32 >>> ((2 : Int32) &&& 31).toUInt32).toInt32) &&& (3 : Int32)))])) _
    refine XS.isub X27.here hx rfl (hb hby at_24) rfl ?_
    show Steps p.tables e below (T27.setTop (mkF m 25 #[.val (.long q0), .second, .val (.int p1), .val (.int p2), .val (.int p3), .val (.int p4), .val (.int p5), .val (.int cc), .val (.int aa), .unset, .unset, .unset, .unset, .unset] [(.int (cc - aa)), (.int (((p2.toUInt32 >>> ((2 : Int32) &&& 31).toUInt32).toInt32) &&& (3 : Int32)))])) _
    refine st28 _ ?_
    show Steps p.tables e below (T28.setTop (mkF m 28 #[.val (.long q0), .second, .val (.int p1), .val (.int p2), .val (.int p3), .val (.int p4), .val (.int p5), .val (.int cc), .val (.int aa), .unset, .unset, .unset, .unset, .unset] [(.int (own_min (((p2.toUInt32 >>> ((2 : Int32) &&& 31).toUInt32).toInt32) &&& (3 : Int32)) (cc - aa)))])) _
    rw [← huu]
    show Steps p.tables e below (T28.setTop (mkF m 28 #[.val (.long q0), .second, .val (.int p1), .val (.int p2), .val (.int p3), .val (.int p4), .val (.int p5), .val (.int cc), .val (.int aa), .unset, .unset, .unset, .unset, .unset] [(.int uu)])) _
    refine XS.istore X28.here hx rfl (hb hby at_28) rfl (l' := #[.val (.long q0), .second, .val (.int p1), .val (.int p2), .val (.int p3), .val (.int p4), .val (.int p5), .val (.int cc), .val (.int aa), .val (.int uu), .unset, .unset, .unset, .unset]) rfl ?_
    show Steps p.tables e below (T28.setTop (mkF m 30 #[.val (.long q0), .second, .val (.int p1), .val (.int p2), .val (.int p3), .val (.int p4), .val (.int p5), .val (.int cc), .val (.int aa), .val (.int uu), .unset, .unset, .unset, .unset] [])) _
    refine st29 _ ?_
    show Steps p.tables e below (T29.setTop (mkF m 33 #[.val (.long q0), .second, .val (.int p1), .val (.int p2), .val (.int p3), .val (.int p4), .val (.int p5), .val (.int cc), .val (.int aa), .val (.int uu), .unset, .unset, .unset, .unset] [(.ref a)])) _
    refine XS.dup X29.here hx rfl (hb hby at_33) rfl rfl ?_
    show Steps p.tables e below (T29.setTop (mkF m 34 #[.val (.long q0), .second, .val (.int p1), .val (.int p2), .val (.int p3), .val (.int p4), .val (.int p5), .val (.int cc), .val (.int aa), .val (.int uu), .unset, .unset, .unset, .unset] [(.ref a), (.ref a)])) _
    refine XS.lloadN X29.here hx rfl (hb hby at_34) rfl ?_
    show Steps p.tables e below (T29.setTop (mkF m 35 #[.val (.long q0), .second, .val (.int p1), .val (.int p2), .val (.int p3), .val (.int p4), .val (.int p5), .val (.int cc), .val (.int aa), .val (.int uu), .unset, .unset, .unset, .unset] [(.long q0), (.ref a), (.ref a)])) _
    refine XS.iload X29.here hx rfl (hb hby at_35) rfl ?_
    show Steps p.tables e below (T29.setTop (mkF m 37 #[.val (.long q0), .second, .val (.int p1), .val (.int p2), .val (.int p3), .val (.int p4), .val (.int p5), .val (.int cc), .val (.int aa), .val (.int uu), .unset, .unset, .unset, .unset] [(.int cc), (.long q0), (.ref a), (.ref a)])) _
    refine st30.trans ?_
    show Steps p.tables e below (T30.setTop (mkF m 40 #[.val (.long q0), .second, .val (.int p1), .val (.int p2), .val (.int p3), .val (.int p4), .val (.int p5), .val (.int cc), .val (.int aa), .val (.int uu), .unset, .unset, .unset, .unset] [(.ref a)])) _
    refine XS.astore X30.here hx rfl (hb hby at_40) rfl rfl (l' := #[.val (.long q0), .second, .val (.int p1), .val (.int p2), .val (.int p3), .val (.int p4), .val (.int p5), .val (.int cc), .val (.int aa), .val (.int uu), .val (.ref a), .unset, .unset, .unset]) rfl ?_
    show Steps p.tables e below (T30.setTop (mkF m 42 #[.val (.long q0), .second, .val (.int p1), .val (.int p2), .val (.int p3), .val (.int p4), .val (.int p5), .val (.int cc), .val (.int aa), .val (.int uu), .val (.ref a), .unset, .unset, .unset] [])) _
    refine XS.aload X30.here hx rfl (hb hby at_42) rfl rfl ?_
    show Steps p.tables e below (T30.setTop (mkF m 44 #[.val (.long q0), .second, .val (.int p1), .val (.int p2), .val (.int p3), .val (.int p4), .val (.int p5), .val (.int cc), .val (.int aa), .val (.int uu), .val (.ref a), .unset, .unset, .unset] [(.ref a)])) _
    refine st31.trans ?_
    show Steps p.tables e below (T31.setTop (mkF m 47 #[.val (.long q0), .second, .val (.int p1), .val (.int p2), .val (.int p3), .val (.int p4), .val (.int p5), .val (.int cc), .val (.int aa), .val (.int uu), .val (.ref a), .unset, .unset, .unset] [(.int (own_e ((0 : Int32) + 0) cc))])) _
    refine XS.iload X31.here hx rfl (hb hby at_47) rfl ?_
    show Steps p.tables e below (T31.setTop (mkF m 49 #[.val (.long q0), .second, .val (.int p1), .val (.int p2), .val (.int p3), .val (.int p4), .val (.int p5), .val (.int cc), .val (.int aa), .val (.int uu), .val (.ref a), .unset, .unset, .unset] [(.int cc), (.int (own_e ((0 : Int32) + 0) cc))])) _
    refine j57 _ ?_
    show Steps p.tables e below (T31.setTop (mkF m 57 #[.val (.long q0), .second, .val (.int p1), .val (.int p2), .val (.int p3), .val (.int p4), .val (.int p5), .val (.int cc), .val (.int aa), .val (.int uu), .val (.ref a), .unset, .unset, .unset] [(.int (own_f cc 0)), (.int (own_e ((0 : Int32) + 0) cc))])) _
    refine XS.icmpNo X31.here hx rfl (hb hby at_57) rfl (teq (own_00 cc : (own_e ((0 : Int32) + 0) cc) = (own_f cc 0))).2 ?_
    show Steps p.tables e below (T31.setTop (mkF m 60 #[.val (.long q0), .second, .val (.int p1), .val (.int p2), .val (.int p3), .val (.int p4), .val (.int p5), .val (.int cc), .val (.int aa), .val (.int uu), .val (.ref a), .unset, .unset, .unset] [])) _
    refine XS.iconst X31.here hx rfl (hb hby at_60) ?_
    show Steps p.tables e below (T31.setTop (mkF m 61 #[.val (.long q0), .second, .val (.int p1), .val (.int p2), .val (.int p3), .val (.int p4), .val (.int p5), .val (.int cc), .val (.int aa), .val (.int uu), .val (.ref a), .unset, .unset, .unset] [(.int (1 : Int32))])) _
    refine XS.goto X31.here hx rfl (pc0 := 61) (pc' := 65) rfl (hb hby at_61) (by decide) (by decide) ?_
    show Steps p.tables e below (T31.setTop (mkF m 65 #[.val (.long q0), .second, .val (.int p1), .val (.int p2), .val (.int p3), .val (.int p4), .val (.int p5), .val (.int cc), .val (.int aa), .val (.int uu), .val (.ref a), .unset, .unset, .unset] [(.int (1 : Int32))])) _
    refine XS.istore X31.here hx rfl (hb hby at_65) rfl (l' := #[.val (.long q0), .second, .val (.int p1), .val (.int p2), .val (.int p3), .val (.int p4), .val (.int p5), .val (.int cc), .val (.int aa), .val (.int uu), .val (.ref a), .val (.int (1 : Int32)), .unset, .unset]) rfl ?_
    show Steps p.tables e below (T31.setTop (mkF m 67 #[.val (.long q0), .second, .val (.int p1), .val (.int p2), .val (.int p3), .val (.int p4), .val (.int p5), .val (.int cc), .val (.int aa), .val (.int uu), .val (.ref a), .val (.int (1 : Int32)), .unset, .unset] [])) _
    refine st32 _ ?_
    show Steps p.tables e below (T32.setTop (mkF m 93 #[.val (.long q0), .second, .val (.int p1), .val (.int p2), .val (.int p3), .val (.int p4), .val (.int p5), .val (.int cc), .val (.int aa), .val (.int uu), .val (.ref a), .val (.int (1 : Int32)), .unset, .unset] [])) _
    refine st33 _ ?_
    show Steps p.tables e below (T33.setTop (mkF m 119 #[.val (.long q0), .second, .val (.int p1), .val (.int p2), .val (.int p3), .val (.int p4), .val (.int p5), .val (.int cc), .val (.int aa), .val (.int uu), .val (.ref a), .val (.int (1 : Int32)), .unset, .unset] [])) _
    refine st34 _ ?_
    show Steps p.tables e below (T34.setTop (mkF m 146 #[.val (.long q0), .second, .val (.int p1), .val (.int p2), .val (.int p3), .val (.int p4), .val (.int p5), .val (.int cc), .val (.int aa), .val (.int uu), .val (.ref a), .val (.int (1 : Int32)), .unset, .unset] [])) _
    refine XS.aload X34.here hx rfl (hb hby at_146) rfl rfl ?_
    show Steps p.tables e below (T34.setTop (mkF m 148 #[.val (.long q0), .second, .val (.int p1), .val (.int p2), .val (.int p3), .val (.int p4), .val (.int p5), .val (.int cc), .val (.int aa), .val (.int uu), .val (.ref a), .val (.int (1 : Int32)), .unset, .unset] [(.ref a)])) _
    refine st35.trans ?_
    show Steps p.tables e below (T35.setTop (mkF m 151 #[.val (.long q0), .second, .val (.int p1), .val (.int p2), .val (.int p3), .val (.int p4), .val (.int p5), .val (.int cc), .val (.int aa), .val (.int uu), .val (.ref a), .val (.int (1 : Int32)), .unset, .unset] [(.int (own_e (aa + 0) cc))])) _
    refine XS.iload X35.here hx rfl (hb hby at_151) rfl ?_
    show Steps p.tables e below (T35.setTop (mkF m 153 #[.val (.long q0), .second, .val (.int p1), .val (.int p2), .val (.int p3), .val (.int p4), .val (.int p5), .val (.int cc), .val (.int aa), .val (.int uu), .val (.ref a), .val (.int (1 : Int32)), .unset, .unset] [(.int aa), (.int (own_e (aa + 0) cc))])) _
    refine XS.iload X35.here hx rfl (hb hby at_153) rfl ?_
    show Steps p.tables e below (T35.setTop (mkF m 155 #[.val (.long q0), .second, .val (.int p1), .val (.int p2), .val (.int p3), .val (.int p4), .val (.int p5), .val (.int cc), .val (.int aa), .val (.int uu), .val (.ref a), .val (.int (1 : Int32)), .unset, .unset] [(.int cc), (.int aa), (.int (own_e (aa + 0) cc))])) _
    refine j163 _ ?_
    show Steps p.tables e below (T35.setTop (mkF m 163 #[.val (.long q0), .second, .val (.int p1), .val (.int p2), .val (.int p3), .val (.int p4), .val (.int p5), .val (.int cc), .val (.int aa), .val (.int uu), .val (.ref a), .val (.int (1 : Int32)), .unset, .unset] [(.int (own_f aa cc)), (.int (own_e (aa + 0) cc))])) _
    refine XS.icmpNo X35.here hx rfl (hb hby at_163) rfl (teq (by rw [Int32.add_zero]; rfl : (own_e (aa + 0) cc) = (own_f aa cc))).2 ?_
    show Steps p.tables e below (T35.setTop (mkF m 166 #[.val (.long q0), .second, .val (.int p1), .val (.int p2), .val (.int p3), .val (.int p4), .val (.int p5), .val (.int cc), .val (.int aa), .val (.int uu), .val (.ref a), .val (.int (1 : Int32)), .unset, .unset] [])) _
    refine XS.iconst X35.here hx rfl (hb hby at_166) ?_
    show Steps p.tables e below (T35.setTop (mkF m 167 #[.val (.long q0), .second, .val (.int p1), .val (.int p2), .val (.int p3), .val (.int p4), .val (.int p5), .val (.int cc), .val (.int aa), .val (.int uu), .val (.ref a), .val (.int (1 : Int32)), .unset, .unset] [(.int (1 : Int32))])) _
    refine XS.goto X35.here hx rfl (pc0 := 167) (pc' := 171) rfl (hb hby at_167) (by decide) (by decide) ?_
    show Steps p.tables e below (T35.setTop (mkF m 171 #[.val (.long q0), .second, .val (.int p1), .val (.int p2), .val (.int p3), .val (.int p4), .val (.int p5), .val (.int cc), .val (.int aa), .val (.int uu), .val (.ref a), .val (.int (1 : Int32)), .unset, .unset] [(.int (1 : Int32))])) _
    refine XS.istore X35.here hx rfl (hb hby at_171) rfl (l' := #[.val (.long q0), .second, .val (.int p1), .val (.int p2), .val (.int p3), .val (.int p4), .val (.int p5), .val (.int cc), .val (.int aa), .val (.int uu), .val (.ref a), .val (.int (1 : Int32)), .val (.int (1 : Int32)), .unset]) rfl ?_
    show Steps p.tables e below (T35.setTop (mkF m 173 #[.val (.long q0), .second, .val (.int p1), .val (.int p2), .val (.int p3), .val (.int p4), .val (.int p5), .val (.int cc), .val (.int aa), .val (.int uu), .val (.ref a), .val (.int (1 : Int32)), .val (.int (1 : Int32)), .unset] [])) _
    refine st36 _ ?_
    show Steps p.tables e below (T36.setTop (mkF m 184 #[.val (.long q0), .second, .val (.int p1), .val (.int p2), .val (.int p3), .val (.int p4), .val (.int p5), .val (.int cc), .val (.int aa), .val (.int uu), .val (.ref a), .val (.int (1 : Int32)), .val (.int (1 : Int32)), .unset] [])) _
    refine st37 _ ?_
    show Steps p.tables e below (T37.setTop (mkF m 195 #[.val (.long q0), .second, .val (.int p1), .val (.int p2), .val (.int p3), .val (.int p4), .val (.int p5), .val (.int cc), .val (.int aa), .val (.int uu), .val (.ref a), .val (.int (1 : Int32)), .val (.int (1 : Int32)), .unset] [])) _
    refine st38 _ ?_
    show Steps p.tables e below (T38.setTop (mkF m 206 #[.val (.long q0), .second, .val (.int p1), .val (.int p2), .val (.int p3), .val (.int p4), .val (.int p5), .val (.int cc), .val (.int aa), .val (.int uu), .val (.ref a), .val (.int (1 : Int32)), .val (.int (1 : Int32)), .unset] [])) _
    refine XS.aload X38.here hx rfl (hb hby at_206) rfl rfl ?_
    show Steps p.tables e below (T38.setTop (mkF m 208 #[.val (.long q0), .second, .val (.int p1), .val (.int p2), .val (.int p3), .val (.int p4), .val (.int p5), .val (.int cc), .val (.int aa), .val (.int uu), .val (.ref a), .val (.int (1 : Int32)), .val (.int (1 : Int32)), .unset] [(.ref a)])) _
    refine st39.trans ?_
    show Steps p.tables e below (T39.setTop (mkF m 211 #[.val (.long q0), .second, .val (.int p1), .val (.int p2), .val (.int p3), .val (.int p4), .val (.int p5), .val (.int cc), .val (.int aa), .val (.int uu), .val (.ref a), .val (.int (1 : Int32)), .val (.int (1 : Int32)), .unset] [(.int (own_e (aa + uu) cc))])) _
    refine XS.iload X39.here hx rfl (hb hby at_211) rfl ?_
    show Steps p.tables e below (T39.setTop (mkF m 213 #[.val (.long q0), .second, .val (.int p1), .val (.int p2), .val (.int p3), .val (.int p4), .val (.int p5), .val (.int cc), .val (.int aa), .val (.int uu), .val (.ref a), .val (.int (1 : Int32)), .val (.int (1 : Int32)), .unset] [(.int aa), (.int (own_e (aa + uu) cc))])) _
    refine XS.iload X39.here hx rfl (hb hby at_213) rfl ?_
    show Steps p.tables e below (T39.setTop (mkF m 215 #[.val (.long q0), .second, .val (.int p1), .val (.int p2), .val (.int p3), .val (.int p4), .val (.int p5), .val (.int cc), .val (.int aa), .val (.int uu), .val (.ref a), .val (.int (1 : Int32)), .val (.int (1 : Int32)), .unset] [(.int uu), (.int aa), (.int (own_e (aa + uu) cc))])) _
    refine XS.iadd X39.here hx rfl (hb hby at_215) rfl ?_
    show Steps p.tables e below (T39.setTop (mkF m 216 #[.val (.long q0), .second, .val (.int p1), .val (.int p2), .val (.int p3), .val (.int p4), .val (.int p5), .val (.int cc), .val (.int aa), .val (.int uu), .val (.ref a), .val (.int (1 : Int32)), .val (.int (1 : Int32)), .unset] [(.int (aa + uu)), (.int (own_e (aa + uu) cc))])) _
    refine XS.iload X39.here hx rfl (hb hby at_216) rfl ?_
    show Steps p.tables e below (T39.setTop (mkF m 218 #[.val (.long q0), .second, .val (.int p1), .val (.int p2), .val (.int p3), .val (.int p4), .val (.int p5), .val (.int cc), .val (.int aa), .val (.int uu), .val (.ref a), .val (.int (1 : Int32)), .val (.int (1 : Int32)), .unset] [(.int cc), (.int (aa + uu)), (.int (own_e (aa + uu) cc))])) _
    refine j226 _ ?_
    show Steps p.tables e below (T39.setTop (mkF m 226 #[.val (.long q0), .second, .val (.int p1), .val (.int p2), .val (.int p3), .val (.int p4), .val (.int p5), .val (.int cc), .val (.int aa), .val (.int uu), .val (.ref a), .val (.int (1 : Int32)), .val (.int (1 : Int32)), .unset] [(.int (own_f (aa + uu) cc)), (.int (own_e (aa + uu) cc))])) _
    refine XS.icmpNo X39.here hx rfl (hb hby at_226) rfl (teq (rfl : (own_e (aa + uu) cc) = (own_f (aa + uu) cc))).2 ?_
    show Steps p.tables e below (T39.setTop (mkF m 229 #[.val (.long q0), .second, .val (.int p1), .val (.int p2), .val (.int p3), .val (.int p4), .val (.int p5), .val (.int cc), .val (.int aa), .val (.int uu), .val (.ref a), .val (.int (1 : Int32)), .val (.int (1 : Int32)), .unset] [])) _
    refine XS.iconst X39.here hx rfl (hb hby at_229) ?_
    show Steps p.tables e below (T39.setTop (mkF m 230 #[.val (.long q0), .second, .val (.int p1), .val (.int p2), .val (.int p3), .val (.int p4), .val (.int p5), .val (.int cc), .val (.int aa), .val (.int uu), .val (.ref a), .val (.int (1 : Int32)), .val (.int (1 : Int32)), .unset] [(.int (1 : Int32))])) _
    refine XS.goto X39.here hx rfl (pc0 := 230) (pc' := 234) rfl (hb hby at_230) (by decide) (by decide) ?_
    show Steps p.tables e below (T39.setTop (mkF m 234 #[.val (.long q0), .second, .val (.int p1), .val (.int p2), .val (.int p3), .val (.int p4), .val (.int p5), .val (.int cc), .val (.int aa), .val (.int uu), .val (.ref a), .val (.int (1 : Int32)), .val (.int (1 : Int32)), .unset] [(.int (1 : Int32))])) _
    refine XS.istore X39.here hx rfl (hb hby at_234) rfl (l' := #[.val (.long q0), .second, .val (.int p1), .val (.int p2), .val (.int p3), .val (.int p4), .val (.int p5), .val (.int cc), .val (.int aa), .val (.int uu), .val (.ref a), .val (.int (1 : Int32)), .val (.int (1 : Int32)), .val (.int (1 : Int32))]) rfl ?_
    show Steps p.tables e below (T39.setTop (mkF m 236 #[.val (.long q0), .second, .val (.int p1), .val (.int p2), .val (.int p3), .val (.int p4), .val (.int p5), .val (.int cc), .val (.int aa), .val (.int uu), .val (.ref a), .val (.int (1 : Int32)), .val (.int (1 : Int32)), .val (.int (1 : Int32))] [])) _
    refine XS.iload X39.here hx rfl (hb hby at_236) rfl ?_
    show Steps p.tables e below (T39.setTop (mkF m 238 #[.val (.long q0), .second, .val (.int p1), .val (.int p2), .val (.int p3), .val (.int p4), .val (.int p5), .val (.int cc), .val (.int aa), .val (.int uu), .val (.ref a), .val (.int (1 : Int32)), .val (.int (1 : Int32)), .val (.int (1 : Int32))] [(.int (1 : Int32))])) _
    refine XS.ifNo X39.here hx rfl (hb hby at_238) rfl ((if0 _ _).trans (feq (by decide : ¬ ((1 : Int32) = (0 : Int32)))).1) ?_
    show Steps p.tables e below (T39.setTop (mkF m 241 #[.val (.long q0), .second, .val (.int p1), .val (.int p2), .val (.int p3), .val (.int p4), .val (.int p5), .val (.int cc), .val (.int aa), .val (.int uu), .val (.ref a), .val (.int (1 : Int32)), .val (.int (1 : Int32)), .val (.int (1 : Int32))] [])) _
    refine XS.iload X39.here hx rfl (hb hby at_241) rfl ?_
    show Steps p.tables e below (T39.setTop (mkF m 243 #[.val (.long q0), .second, .val (.int p1), .val (.int p2), .val (.int p3), .val (.int p4), .val (.int p5), .val (.int cc), .val (.int aa), .val (.int uu), .val (.ref a), .val (.int (1 : Int32)), .val (.int (1 : Int32)), .val (.int (1 : Int32))] [(.int (1 : Int32))])) _
    refine XS.ifNo X39.here hx rfl (hb hby at_243) rfl ((if0 _ _).trans (feq (by decide : ¬ ((1 : Int32) = (0 : Int32)))).1) ?_
    show Steps p.tables e below (T39.setTop (mkF m 246 #[.val (.long q0), .second, .val (.int p1), .val (.int p2), .val (.int p3), .val (.int p4), .val (.int p5), .val (.int cc), .val (.int aa), .val (.int uu), .val (.ref a), .val (.int (1 : Int32)), .val (.int (1 : Int32)), .val (.int (1 : Int32))] [])) _
    refine XS.iload X39.here hx rfl (hb hby at_246) rfl ?_
    show Steps p.tables e below (T39.setTop (mkF m 248 #[.val (.long q0), .second, .val (.int p1), .val (.int p2), .val (.int p3), .val (.int p4), .val (.int p5), .val (.int cc), .val (.int aa), .val (.int uu), .val (.ref a), .val (.int (1 : Int32)), .val (.int (1 : Int32)), .val (.int (1 : Int32))] [(.int (1 : Int32))])) _
    refine XS.ifNo X39.here hx rfl (hb hby at_248) rfl ((if0 _ _).trans (feq (by decide : ¬ ((1 : Int32) = (0 : Int32)))).1) ?_
    show Steps p.tables e below (T39.setTop (mkF m 251 #[.val (.long q0), .second, .val (.int p1), .val (.int p2), .val (.int p3), .val (.int p4), .val (.int p5), .val (.int cc), .val (.int aa), .val (.int uu), .val (.ref a), .val (.int (1 : Int32)), .val (.int (1 : Int32)), .val (.int (1 : Int32))] [])) _
    refine XS.iconst X39.here hx rfl (hb hby at_251) ?_
    show Steps p.tables e below (T39.setTop (mkF m 252 #[.val (.long q0), .second, .val (.int p1), .val (.int p2), .val (.int p3), .val (.int p4), .val (.int p5), .val (.int cc), .val (.int aa), .val (.int uu), .val (.ref a), .val (.int (1 : Int32)), .val (.int (1 : Int32)), .val (.int (1 : Int32))] [(.int (1 : Int32))])) _
    refine XS.goto X39.here hx rfl (pc0 := 252) (pc' := 256) rfl (hb hby at_252) (by decide) (by decide) ?_
    show Steps p.tables e below (T39.setTop (mkF m 256 #[.val (.long q0), .second, .val (.int p1), .val (.int p2), .val (.int p3), .val (.int p4), .val (.int p5), .val (.int cc), .val (.int aa), .val (.int uu), .val (.ref a), .val (.int (1 : Int32)), .val (.int (1 : Int32)), .val (.int (1 : Int32))] [(.int (1 : Int32))])) _
    exact retN X39 hx (t := .boolean) Bd.returns (by simp) (hb hby at_256) hr
  · show Q_0 Z q0 p1 p2 p3 p4 p5  h0 n0 _ T39.heap _
    rw [en3]
    exact ⟨rfl, N39⟩
set_option maxRecDepth 65536 in
set_option maxHeartbeats 40000000 in
theorem comes_1 {Post : Tables → Env → Array Value → State → Outcome → State → Prop} (hpost : ∀ tb e args s v u, (limb_1_1.after args s (.returned v) u = true ∧ limb_1_2.after args s (.returned v) u = true ∧ True) → FrameEnd s (.returned v) u (Jvm.fieldLocs frame_1_writes args s ++ Jvm.arrayLocs frame_1_arrays args s ++ Jvm.staticLocs frame_1_statics s) 16 128 → Post tb e args s (.returned v) u) :
    ArmFor flags0 classFile x code maxLocals ret World_1 tables_1 room_1 Calls_1 rest_1 Pre_1 Post := by
  intro l hfl _ _ p e ha hc hk s m args below hf hA hF happ hP
  obtain ⟨hcalls, hrest, hpre⟩ := hP
  obtain ⟨-, -, -, hnamed, -, -, -, hat⟩ := (Spec.applies_iff hf).mp happ
  obtain ⟨hg, hn⟩ := and_e (Cond.before_iff.mp (show (Jvm.Cond.and given_1 narrow_1).before args s = true from hpre))
  obtain ⟨gc, gr0⟩ := and_e hg
  obtain ⟨ga0, gr1⟩ := and_e gr0
  obtain ⟨ga1, gr2⟩ := and_e gr1
  obtain ⟨ga2, gr3⟩ := and_e gr2
  obtain ⟨ga3, gr4⟩ := and_e gr3
  obtain ⟨ga4, gr5⟩ := and_e gr4
  obtain ⟨w0, w1, w2, w3, w4, w5, rfl⟩ : ∃ w0 w1 w2 w3 w4 w5 : Value, args = #[w0, w1, w2, w3, w4, w5] := by
    have hs : args.size = 6 := by simpa [Cond.value, given_1] using gc
    obtain ⟨L⟩ := args
    match L, hs with
    | [w0, w1, w2, w3, w4, w5], _ => exact ⟨w0, w1, w2, w3, w4, w5, rfl⟩
  have hw := fun d (hd : d ∈ tables_1) => atoms_spec (ws := Jvm.Cond.code x code maxLocals ret :: tables_1) hat d (List.mem_cons_of_mem _ hd)
  obtain ⟨i0, ei0⟩ := isL_v ga0
  obtain rfl : w0 = (.long i0) := Option.some.inj ei0
  obtain ⟨i1, ei1⟩ := is_v ga1
  obtain rfl : w1 = (.int i1) := Option.some.inj ei1
  obtain ⟨i2, ei2⟩ := is_v ga2
  obtain rfl : w2 = (.int i2) := Option.some.inj ei2
  obtain ⟨i3, ei3⟩ := is_v ga3
  obtain rfl : w3 = (.int i3) := Option.some.inj ei3
  obtain ⟨i4, ei4⟩ := is_v ga4
  obtain rfl : w4 = (.int i4) := Option.some.inj ei4
  obtain ⟨i5, ei5⟩ := is_v gr5
  obtain rfl : w5 = (.int i5) := Option.some.inj ei5
  obtain ⟨n, o, h1, h2, h3, _, L, rfl, ⟨rfl, N⟩, hq⟩ := rm_0 l s _ hw tables_1 i0 i1 i2 i3 i4 i5 s.heap s.heap.size (Nat.le_refl _) p e ha hc hk s m _ below hf ((Spec.applies_iff_loose hf).mp happ).1 ⟨rfl, State.Warmed39.refl s, rfl⟩ trivial
  refine ⟨n, _, h1, h2, h3, hpost _ _ _ _ _ _ ⟨Cond.after_iff.mpr rfl, Cond.after_iff.mpr (eq_i res_at (Term.int_eval (1)) rfl), trivial⟩ ⟨hq.1, hq.2.1, (hq.2.2.sift fun y hy => Or.inr (N y hy)).mono (by decide) (by decide)⟩⟩
theorem main_1_1 : Claimed_1_1 := comes_1 fun _ _ _ _ _ _ h hF => ⟨h.1, hF⟩
theorem main_1_2 : Claimed_1_2 := comes_1 fun _ _ _ _ _ _ h hF => ⟨h.2.1, hF⟩
end Jvm.Pilot.@@N@@
namespace Jvm.Pilot.@@N@@
open Jvm Jvm.ClassFile Sem Op Lib Jvm.Free Jvm.Stand Jvm.Pilot.@@N@@.Jvm.D
/-! MADE BY PROGRAM (witnessworld.py) out of the Statement's table words and the real class files: 10 classes; the members and pool entries that the words name. The judged class is class 1, her method 1. -/
namespace start1
open Jvm.ClassFile
def u (s : String) : CpInfo := .utf8 (stringToUtf16 s)
/-- a pool by its gaps: so many unusable entries, then the entry; so many at the end -/
def gap : Nat → List CpInfo → List CpInfo
  | 0, r => r
  | n + 1, r => .unusable :: gap n r
def poolList (es : List (Nat × CpInfo)) (last : Nat) : List CpInfo := es.foldr (fun e r => gap e.1 (e.2 :: r)) (gap last [])
def pool (es : List (Nat × CpInfo)) (last : Nat) : Array CpInfo := ⟨poolList es last⟩
def fileOf (pool : Array CpInfo) (this : Nat) (attrs : Array Attribute := #[]) (ms : Array MethodInfo := #[]) (fl : Nat := 33) (sup : Nat := 0) (ifs : Array Nat := #[]) (fds : Array FieldInfo := #[]) : ClassFile where
  minorVersion := 0
  majorVersion := 65
  constantPool := pool
  accessFlags := fl
  thisClass := this
  superClass := sup
  interfaces := ifs
  fields := fds
  methods := ms
  attributes := attrs
def plain (name : String) (sup : Option ClassId) : Class where
  name := name
  kind := .ordinary
  loader := none
  accessFlags := 33
  super := sup
  interfaces := #[]
  cf := none
  fields := #[]
  methods := #[]
  instanceTypes := #[]
  staticTypes := #[]
  resolved := #[]
  callSites := []
  init := .initialized
  statics := none
  mirror := none

def pool0 : Array CpInfo := pool [(5, u "<init>"), (0, u "()V"), (1, .class_ 10), (1, u "java/lang/Object")] 113

def k0c0 : Code := { maxStack := 0, maxLocals := 1, code := object_method_1_code, exceptionTable := #[], attributes := #[] }
def k0m0 : Method := { name := "<init>", desc := "()V", sig := { parameters := [], returnType := none }, accessFlags := 1, code := some k0c0 }
/-- java/lang/Object -/
def k0 : Class := { plain "java/lang/Object" none with
  accessFlags := 33
  interfaces := #[]
  cf := some (fileOf pool0 8 #[] #[{ accessFlags := 1, nameIndex := 5, descriptorIndex := 6, attributes := #[] }] 33 0 #[] #[])
  fields := #[]
  methods := #[k0m0]
  instanceTypes := #[]
  staticTypes := #[]
  resolved := Array.replicate 124 none
  statics := none }

def pool1 : Array CpInfo := pool [(2, .class_ 4), (1, u "java/lang/Object"), (0, u "<init>"), (0, u "()V"), (0, .methodref 8 9), (0, .class_ 10), (0, .nameAndType 11 12), (0, u "java/lang/Math"), (0, u "min"), (0, u "(II)I"), (0, .class_ 14), (0, u "com/example/ringweld/ringweld/sim/LookupBatch"), (0, .methodref 13 16), (0, .nameAndType 5 17), (0, u "(JI)V"), (0, .methodref 13 19), (0, .nameAndType 20 21), (0, u "ended"), (0, u "()Z"), (0, .methodref 13 23), (0, .nameAndType 24 25), (0, u "answered"), (0, u "(IZ)V"), (0, .methodref 13 27), (0, .nameAndType 28 6), (0, u "unresolved"), (0, .class_ 30), (0, u "com/example/ringweld/ringweld/sim/LookupBatchEndedPinLaw"), (2, u "law"), (0, u "(JIIIII)Z")] 3

def k1m0 : Method := { name := "<init>", desc := "()V", sig := { parameters := [], returnType := none }, accessFlags := 1, code := none }
def k1c1 : Code := { maxStack := 5, maxLocals := 14, code := code, exceptionTable := #[], attributes := #[] }
def k1m1 : Method := { name := "law", desc := "(JIIIII)Z", sig := { parameters := [.long, .int, .int, .int, .int, .int], returnType := some .boolean }, accessFlags := 9, code := some k1c1 }
/-- com/example/ringweld/ringweld/sim/LookupBatchEndedPinLaw -/
def k1 : Class := { plain "com/example/ringweld/ringweld/sim/LookupBatchEndedPinLaw" (some 0) with
  accessFlags := 49
  interfaces := #[]
  cf := some (fileOf pool1 29 #[] #[{ accessFlags := 1, nameIndex := 5, descriptorIndex := 6, attributes := #[] }, { accessFlags := 9, nameIndex := 33, descriptorIndex := 34, attributes := #[] }] 49 2 #[] #[])
  fields := #[]
  methods := #[k1m0, k1m1]
  instanceTypes := #[]
  staticTypes := #[]
  resolved := Array.replicate 38 none
  statics := none }

def pool2 : Array CpInfo := pool [(1, .class_ 2), (0, u "java/lang/Math"), (1, .class_ 6), (1, u "java/lang/Object"), (0, u "<init>"), (0, u "()V"), (89, .class_ 100), (1, u "java/lang/Math$RandomNumberGeneratorHolder"), (71, u "negativeZeroFloatBits"), (0, u "J"), (2, u "negativeZeroDoubleBits"), (24, u "min"), (43, u "$assertionsDisabled"), (0, u "Z"), (88, u "(II)I"), (2, u "twoToTheDoubleScaleDown"), (0, u "D"), (4, u "twoToTheDoubleScaleUp"), (9, u "E"), (3, u "PI"), (2, u "TAU"), (2, u "DEGREES_TO_RADIANS"), (0, u "RADIANS_TO_DEGREES")] 94

def k2m0 : Method := { name := "<init>", desc := "()V", sig := { parameters := [], returnType := none }, accessFlags := 2, code := none }
def k2c1 : Code := { maxStack := 2, maxLocals := 2, code := jdk_29_method_69_code, exceptionTable := #[], attributes := #[] }
def k2m1 : Method := { name := "min", desc := "(II)I", sig := { parameters := [.int, .int], returnType := some .int }, accessFlags := 9, code := some k2c1 }
/-- java/lang/Math -/
def k2 : Class := { plain "java/lang/Math" (some 0) with
  accessFlags := 49
  interfaces := #[]
  cf := some (fileOf pool2 1 #[.nestMembers #[98]] #[{ accessFlags := 2, nameIndex := 7, descriptorIndex := 8, attributes := #[] }, { accessFlags := 9, nameIndex := 201, descriptorIndex := 335, attributes := #[] }] 49 4 #[] #[{ accessFlags := 25, nameIndex := 354, descriptorIndex := 339, attributes := #[] }, { accessFlags := 25, nameIndex := 358, descriptorIndex := 339, attributes := #[] }, { accessFlags := 25, nameIndex := 361, descriptorIndex := 339, attributes := #[] }, { accessFlags := 26, nameIndex := 364, descriptorIndex := 339, attributes := #[] }, { accessFlags := 26, nameIndex := 365, descriptorIndex := 339, attributes := #[] }, { accessFlags := 26, nameIndex := 172, descriptorIndex := 173, attributes := #[] }, { accessFlags := 26, nameIndex := 176, descriptorIndex := 173, attributes := #[] }, { accessFlags := 8, nameIndex := 344, descriptorIndex := 339, attributes := #[] }, { accessFlags := 8, nameIndex := 338, descriptorIndex := 339, attributes := #[] }, { accessFlags := 4120, nameIndex := 245, descriptorIndex := 246, attributes := #[] }])
  fields := #[{ name := "E", type := .double, accessFlags := 25, slot := 0, constantValue := 0 }, { name := "PI", type := .double, accessFlags := 25, slot := 1, constantValue := 0 }, { name := "TAU", type := .double, accessFlags := 25, slot := 2, constantValue := 0 }, { name := "DEGREES_TO_RADIANS", type := .double, accessFlags := 26, slot := 3, constantValue := 0 }, { name := "RADIANS_TO_DEGREES", type := .double, accessFlags := 26, slot := 4, constantValue := 0 }, { name := "negativeZeroFloatBits", type := .long, accessFlags := 26, slot := 5, constantValue := 0 }, { name := "negativeZeroDoubleBits", type := .long, accessFlags := 26, slot := 6, constantValue := 0 }, { name := "twoToTheDoubleScaleUp", type := .double, accessFlags := 8, slot := 7, constantValue := 0 }, { name := "twoToTheDoubleScaleDown", type := .double, accessFlags := 8, slot := 8, constantValue := 0 }, { name := "$assertionsDisabled", type := .boolean, accessFlags := 4120, slot := 9, constantValue := 0 }]
  methods := #[k2m0, k2m1]
  instanceTypes := #[]
  staticTypes := #[.double, .double, .double, .double, .double, .long, .long, .double, .double, .boolean]
  resolved := Array.replicate 460 none
  statics := none }

def pool3 : Array CpInfo := pool [(1, .methodref 2 3), (0, .class_ 4), (0, .nameAndType 5 6), (0, u "java/lang/Object"), (0, u "<init>"), (0, u "()V"), (0, .fieldref 8 9), (0, .class_ 10), (0, .nameAndType 11 12), (0, u "com/example/ringweld/ringweld/sim/LookupBatch"), (0, u "issued"), (0, u "J"), (0, .fieldref 8 14), (0, .nameAndType 15 16), (0, u "count"), (0, u "I"), (0, .fieldref 8 18), (0, .nameAndType 19 20), (0, u "hops"), (0, u "[I"), (0, .fieldref 8 22), (0, .nameAndType 23 16), (0, u "answered"), (0, .fieldref 8 25), (0, .nameAndType 26 16), (0, u "wrong"), (0, .fieldref 8 28), (0, .nameAndType 29 16), (0, u "unresolved"), (40, u "(JI)V"), (2, u "(IZ)V"), (1, u "ended"), (0, u "()Z")] 22

def k3c0 : Code := { maxStack := 3, maxLocals := 4, code := prog_78_method_1_code, exceptionTable := #[], attributes := #[] }
def k3m0 : Method := { name := "<init>", desc := "(JI)V", sig := { parameters := [.long, .int], returnType := none }, accessFlags := 0, code := some k3c0 }
def k3c1 : Code := { maxStack := 5, maxLocals := 3, code := prog_78_method_2_code, exceptionTable := #[], attributes := #[] }
def k3m1 : Method := { name := "answered", desc := "(IZ)V", sig := { parameters := [.int, .boolean], returnType := none }, accessFlags := 0, code := some k3c1 }
def k3c2 : Code := { maxStack := 3, maxLocals := 1, code := prog_78_method_3_code, exceptionTable := #[], attributes := #[] }
def k3m2 : Method := { name := "unresolved", desc := "()V", sig := { parameters := [], returnType := none }, accessFlags := 0, code := some k3c2 }
def k3c3 : Code := { maxStack := 2, maxLocals := 1, code := prog_78_method_4_code, exceptionTable := #[], attributes := #[] }
def k3m3 : Method := { name := "ended", desc := "()Z", sig := { parameters := [], returnType := some .boolean }, accessFlags := 0, code := some k3c3 }
/-- com/example/ringweld/ringweld/sim/LookupBatch -/
def k3 : Class := { plain "com/example/ringweld/ringweld/sim/LookupBatch" (some 0) with
  accessFlags := 48
  interfaces := #[]
  cf := some (fileOf pool3 8 #[] #[{ accessFlags := 0, nameIndex := 5, descriptorIndex := 70, attributes := #[] }, { accessFlags := 0, nameIndex := 23, descriptorIndex := 73, attributes := #[] }, { accessFlags := 0, nameIndex := 29, descriptorIndex := 6, attributes := #[] }, { accessFlags := 0, nameIndex := 75, descriptorIndex := 76, attributes := #[] }] 48 2 #[] #[{ accessFlags := 18, nameIndex := 11, descriptorIndex := 12, attributes := #[] }, { accessFlags := 18, nameIndex := 15, descriptorIndex := 16, attributes := #[] }, { accessFlags := 18, nameIndex := 19, descriptorIndex := 20, attributes := #[] }, { accessFlags := 2, nameIndex := 23, descriptorIndex := 16, attributes := #[] }, { accessFlags := 2, nameIndex := 26, descriptorIndex := 16, attributes := #[] }, { accessFlags := 2, nameIndex := 29, descriptorIndex := 16, attributes := #[] }])
  fields := #[{ name := "issued", type := .long, accessFlags := 18, slot := 0, constantValue := 0 }, { name := "count", type := .int, accessFlags := 18, slot := 1, constantValue := 0 }, { name := "hops", type := (.array .int), accessFlags := 18, slot := 2, constantValue := 0 }, { name := "answered", type := .int, accessFlags := 2, slot := 3, constantValue := 0 }, { name := "wrong", type := .int, accessFlags := 2, slot := 4, constantValue := 0 }, { name := "unresolved", type := .int, accessFlags := 2, slot := 5, constantValue := 0 }]
  methods := #[k3m0, k3m1, k3m2, k3m3]
  instanceTypes := #[.long, .int, (.array .int), .int, .int, .int]
  staticTypes := #[]
  resolved := Array.replicate 99 none
  statics := none }

def pool4 : Array CpInfo := pool [(1, u "java/lang/Cloneable"), (0, .class_ 1), (0, u "java/lang/Object"), (0, .class_ 3)] 3

/-- java/lang/Cloneable -/
def k4 : Class := { plain "java/lang/Cloneable" (some 0) with
  accessFlags := 1537
  interfaces := #[]
  cf := some (fileOf pool4 2 #[] #[] 1537 4 #[] #[])
  fields := #[]
  methods := #[]
  instanceTypes := #[]
  staticTypes := #[]
  resolved := Array.replicate 8 none
  statics := none }

def pool5 : Array CpInfo := pool [(1, u "java/io/Serializable"), (0, .class_ 1), (0, u "java/lang/Object"), (0, .class_ 3)] 3

/-- java/io/Serializable -/
def k5 : Class := { plain "java/io/Serializable" (some 0) with
  accessFlags := 1537
  interfaces := #[]
  cf := some (fileOf pool5 2 #[] #[] 1537 4 #[] #[])
  fields := #[]
  methods := #[]
  instanceTypes := #[]
  staticTypes := #[]
  resolved := Array.replicate 8 none
  statics := none }

/-- the primitive byte -/
def k6 : Class := { plain "byte" none with kind := .primitive 'B', accessFlags := 0x411 }
/-- [B -/
def k7 : Class := { plain "[B" (some 0) with kind := .array 6 .byte, interfaces := #[4, 5], accessFlags := 1041 }

/-- the primitive int -/
def k8 : Class := { plain "int" none with kind := .primitive 'I', accessFlags := 0x411 }
/-- [I -/
def k9 : Class := { plain "[I" (some 0) with kind := .array 8 .int, interfaces := #[4, 5], accessFlags := 1041 }

def heap : Heap := #[]
def classes : Array Class := #[k0, k1, k2, k3, k4, k5, k6, k7, k8, k9]
def interned : List (Array UInt16 × Addr) := []
def slotsUsed : Nat := 0
def theMethod : MethodId := ⟨1, 1⟩
def args0 : Array Value := #[.long 5, .int 7, .int 9, .int 11, .int 13, .int 15]
def aboutOver (below : List Frame) : State where
  vm := { classes := classes, interned := interned.toArray }
  heap := heap
  slotsUsed := slotsUsed
  threads := #[{ frames := .invoking theMethod args0 :: below }]
def below0 : List Frame := [.native { method := ⟨0, 0⟩, args := #[] }]
def about1 : State := aboutOver below0
def p0 : Program := .bare "" "" ""
def e0 : Env := launch0.env 0 0 0
theorem w_frames : about1.frames = Frame.invoking theMethod args0 :: below0 := rfl
set_option maxRecDepth 65536 in
theorem w_args : argsFit about1.vm theMethod args0 = true := by decide +kernel
set_option maxRecDepth 65536 in
theorem w_heap : heapFits about1 = true := by decide +kernel
set_option maxRecDepth 65536 in
theorem w_runnable : about1.curStatus? = some .runnable := by decide +kernel
set_option maxRecDepth 65536 in
theorem w_alone : about1.alone = true := by decide +kernel
set_option maxRecDepth 65536 in
theorem w_named : about1.methodNamed? x = some theMethod := by decide +kernel
set_option maxRecDepth 65536 in
theorem w_hears : about1.hears theMethod below0 = true := by decide +kernel
set_option maxRecDepth 65536 in
theorem w_ripe : about1.ripe theMethod args0 below0 = true := by decide +kernel
theorem w_running : about1.status = .running := rfl
set_option maxRecDepth 65536 in
theorem w_room : about1.hasRoom e0.platform room_1 = true :=
  launch0.hasRoom_least _ room_1 (by decide +kernel) (by decide +kernel) (by decide +kernel) (by decide +kernel) (by decide +kernel) (by decide +kernel)
theorem allAtoms_all (ts : List Jvm.Cond) (a : Array Jvm.Value) (st : Jvm.State) : (allAtoms ts).before a st = ts.all (fun c => c.before a st) := by
  induction ts with
  | nil => rfl
  | cons c t ih =>
    show (Jvm.Cond.and c (allAtoms t)).before a st = _
    rw [Jvm.Cond.before_and, ih, List.all_cons]
def words1 : List Jvm.Cond := Jvm.Cond.code x code maxLocals ret :: tables_1
/-- a 'code' word, met by the world's own term for the bytes: nothing is compared byte by byte -/
theorem code_word {y : MethodName} {bytes : ByteArray} {mx : Nat} {rt : Option FieldType} {a : Array Value} {s : State} {m : MethodId} {meth : Method} {c : Code} (h1 : s.methodNamed? y = some m) (h2 : s.vm.method? m = some meth) (h3 : meth.code = some c) (h4 : c.code = bytes)
    (h5 : (c.maxLocals == mx && c.exceptionTable.isEmpty && decide (c.maxStack ≤ mostOperands) && decide (meth.sig.returnType = rt) && !meth.locks && decide (parseMethodDescriptor y.desc = some meth.sig)) = true) : (Jvm.Cond.code y bytes mx rt).before a s = true := by
  simp only [Bool.and_eq_true, beq_iff_eq, Bool.not_eq_true', decide_eq_true_eq] at h5
  obtain ⟨⟨⟨⟨⟨g1, g2⟩, g3⟩, g4⟩, g5⟩, g6⟩ := h5
  simp [Cond.before, Cond.holds, Cond.value, h1, h2, h3, h4, g1, g2, g3, g4, g5, g6]
def isCode : Jvm.Cond → Bool
  | .code _ _ _ _ => true
  | _ => false
theorem all_split {L : List Jvm.Cond} {P : Jvm.Cond → Bool} (h1 : L.all (fun c => isCode c || P c) = true) (h2 : ∀ c ∈ L.filter isCode, P c = true) : L.all P = true := by
  refine List.all_eq_true.mpr fun c hc => ?_
  have h := List.all_eq_true.mp h1 c hc
  rcases Bool.eq_false_or_eq_true (isCode c) with hi | hi
  · exact h2 c (List.mem_filter.mpr ⟨hc, hi⟩)
  · simpa [hi] using h
set_option maxRecDepth 65536 in
theorem w_c0 : (Jvm.Cond.code x code maxLocals ret).before args0 about1 = true := code_word (m := ⟨1, 1⟩) (meth := k1m1) (c := k1c1) (by decide +kernel) rfl rfl rfl (by decide +kernel)
set_option maxRecDepth 65536 in
theorem w_c1 : (Jvm.Cond.code ({ cls := "java/lang/Math", name := "min", desc := "(II)I" } : Jvm.MethodName) jdk_29_method_69_code (2 : Nat) (Option.some Jvm.ClassFile.FieldType.int)).before args0 about1 = true := code_word (m := ⟨2, 1⟩) (meth := k2m1) (c := k2c1) (by decide +kernel) rfl rfl rfl (by decide +kernel)
set_option maxRecDepth 65536 in
theorem w_c2 : (Jvm.Cond.code ({ cls := "com/example/ringweld/ringweld/sim/LookupBatch", name := "<init>", desc := "(JI)V" } : Jvm.MethodName) prog_78_method_1_code (4 : Nat) (Option.none : Option Jvm.ClassFile.FieldType)).before args0 about1 = true := code_word (m := ⟨3, 0⟩) (meth := k3m0) (c := k3c0) (by decide +kernel) rfl rfl rfl (by decide +kernel)
set_option maxRecDepth 65536 in
theorem w_c3 : (Jvm.Cond.code ({ cls := "java/lang/Object", name := "<init>", desc := "()V" } : Jvm.MethodName) object_method_1_code (1 : Nat) (Option.none : Option Jvm.ClassFile.FieldType)).before args0 about1 = true := code_word (m := ⟨0, 0⟩) (meth := k0m0) (c := k0c0) (by decide +kernel) rfl rfl rfl (by decide +kernel)
set_option maxRecDepth 65536 in
theorem w_c4 : (Jvm.Cond.code ({ cls := "com/example/ringweld/ringweld/sim/LookupBatch", name := "ended", desc := "()Z" } : Jvm.MethodName) prog_78_method_4_code (1 : Nat) (Option.some Jvm.ClassFile.FieldType.boolean)).before args0 about1 = true := code_word (m := ⟨3, 3⟩) (meth := k3m3) (c := k3c3) (by decide +kernel) rfl rfl rfl (by decide +kernel)
set_option maxRecDepth 65536 in
theorem w_c5 : (Jvm.Cond.code ({ cls := "com/example/ringweld/ringweld/sim/LookupBatch", name := "answered", desc := "(IZ)V" } : Jvm.MethodName) prog_78_method_2_code (3 : Nat) (Option.none : Option Jvm.ClassFile.FieldType)).before args0 about1 = true := code_word (m := ⟨3, 1⟩) (meth := k3m1) (c := k3c1) (by decide +kernel) rfl rfl rfl (by decide +kernel)
set_option maxRecDepth 65536 in
theorem w_c6 : (Jvm.Cond.code ({ cls := "com/example/ringweld/ringweld/sim/LookupBatch", name := "unresolved", desc := "()V" } : Jvm.MethodName) prog_78_method_3_code (1 : Nat) (Option.none : Option Jvm.ClassFile.FieldType)).before args0 about1 = true := code_word (m := ⟨3, 2⟩) (meth := k3m2) (c := k3c2) (by decide +kernel) rfl rfl rfl (by decide +kernel)
def codes1 : List Jvm.Cond := [Jvm.Cond.code x code maxLocals ret, Jvm.Cond.code ({ cls := "java/lang/Math", name := "min", desc := "(II)I" } : Jvm.MethodName) jdk_29_method_69_code (2 : Nat) (Option.some Jvm.ClassFile.FieldType.int), Jvm.Cond.code ({ cls := "com/example/ringweld/ringweld/sim/LookupBatch", name := "<init>", desc := "(JI)V" } : Jvm.MethodName) prog_78_method_1_code (4 : Nat) (Option.none : Option Jvm.ClassFile.FieldType), Jvm.Cond.code ({ cls := "java/lang/Object", name := "<init>", desc := "()V" } : Jvm.MethodName) object_method_1_code (1 : Nat) (Option.none : Option Jvm.ClassFile.FieldType), Jvm.Cond.code ({ cls := "com/example/ringweld/ringweld/sim/LookupBatch", name := "ended", desc := "()Z" } : Jvm.MethodName) prog_78_method_4_code (1 : Nat) (Option.some Jvm.ClassFile.FieldType.boolean), Jvm.Cond.code ({ cls := "com/example/ringweld/ringweld/sim/LookupBatch", name := "answered", desc := "(IZ)V" } : Jvm.MethodName) prog_78_method_2_code (3 : Nat) (Option.none : Option Jvm.ClassFile.FieldType), Jvm.Cond.code ({ cls := "com/example/ringweld/ringweld/sim/LookupBatch", name := "unresolved", desc := "()V" } : Jvm.MethodName) prog_78_method_3_code (1 : Nat) (Option.none : Option Jvm.ClassFile.FieldType)]
set_option maxRecDepth 65536 in
theorem codes_eq : words1.filter isCode = codes1 := rfl
theorem w_codes : ∀ c ∈ words1.filter isCode, c.before args0 about1 = true := by
  rw [codes_eq]
  intro c hc
  simp only [codes1, List.mem_cons, List.not_mem_nil, or_false] at hc
  rcases hc with rfl | rfl | rfl | rfl | rfl | rfl | rfl
  · exact w_c0
  · exact w_c1
  · exact w_c2
  · exact w_c3
  · exact w_c4
  · exact w_c5
  · exact w_c6
set_option maxRecDepth 65536 in
theorem w_t1 : (words1.take 24).all (fun c => isCode c || c.before args0 about1) = true := by decide +kernel
set_option maxRecDepth 65536 in
theorem w_t2 : (words1.drop 24).all (fun c => isCode c || c.before args0 about1) = true := by decide +kernel
theorem w_tables : (allAtoms (Jvm.Cond.code x code maxLocals ret :: tables_1)).before args0 about1 = true := by
  rw [allAtoms_all]
  show words1.all (fun c => c.before args0 about1) = true
  refine all_split ?_ w_codes
  rw [← List.take_append_drop 24 words1, List.all_append, w_t1, w_t2]
  rfl
set_option maxRecDepth 65536 in
theorem w_case : (Jvm.Cond.and given_1 narrow_1).before args0 about1 = true := by decide +kernel
theorem w_applies : (headSpec (Jvm.Cond.code x code maxLocals ret :: tables_1) room_1).applies x e0.platform about1 = true :=
  (Spec.applies_iff w_frames).mpr ⟨w_running, w_runnable, w_alone, w_named, w_hears, w_ripe, w_room, w_tables⟩
theorem atStart : AtStart classFile x code maxLocals ret World_1 tables_1 room_1 Calls_1 rest_1 Pre_1 launch0 p0 e0 about1 theMethod args0 below0 :=
  ⟨lists_1, trivial, launch0.admits_env _ _ _, launch0.least_env, fairChoices_fair.cas, fairChoices_fair.clock, w_frames, w_args, w_heap, w_applies, trivial, trivial, w_case⟩
end start1
theorem witness_1 : WitnessClaimed_1 := ⟨start1.p0, start1.e0, start1.about1, start1.theMethod, start1.args0, start1.below0, start1.atStart⟩
end Jvm.Pilot.@@N@@
