import JvmDerived
import JvmDerived.Pilot.@@N@@Statement
import JvmDerived.Pilot.@@N@@Code
set_option linter.unusedVariables false
set_option linter.unusedSimpArgs false
namespace Jvm.RoadKit
open Sem ClassFile Op Lib Jvm.Stand Jvm.Free Jvm.LawKit
section New
variable {p : Program} {l : Launch} {e : Env} {R : Room} {s : State} {m : MethodId} {args : Array Value} {below : List Frame} {meth : Method} {c : Code} {T : State} {locs : List Loc} {cells slots : Nat}
theorem retI (X : Stand p l e R s m args below meth c T locs cells slots) (hx : p.tables.exec = Jvm.exec) {pc : Nat} {Ls : Array Slot} {z : Int32} {rest : List Value} (hret : meth.sig.returnType = some .int) (hd : decode c.code pc = .ok (.ireturn, 1)) {fs : List Frame}
    (hl : ∀ (f : JFrame) (acts : List Action), f.method = m → f.locked = none → f.entered = [] → (doReturn e (T.setTop f) acts (some (.int z))).1 = T.setFrames fs) : Steps p.tables e below (T.setTop (mkF m pc Ls (.int z :: rest))) (T.setFrames fs) := by
  have hm' : T.vm.method? m = some meth := X.method'
  have hn : narrow .int (.int z) = .int z := rfl
  show Steps p.tables e below (T.setTop { method := m, pc := pc, locals := Ls, stack := _ :: rest, locked := none }) _
  jvm_step X.here [X.here.top, hx, hd, hm', hret, hn]
  first | (intro acts; rw [hl _ acts rfl rfl rfl]) | rw [hl _ _ rfl rfl rfl]
  exact Steps.refl _
end New
end Jvm.RoadKit
namespace Jvm.Pilot.@@N@@
open Jvm Jvm.ClassFile Sem Op Lib Jvm.Free Jvm.Stand Jvm.LawKit Jvm.RoadKit Bundle Jvm.Pilot.@@N@@.Jvm.D
theorem own_grow {p : Program} {l : Launch} {e : Env} {R : Room} {s : State} {m : MethodId} {args : Array Value} {below : List Frame} {meth : Method} {c : Code} {T : State} {locs : List Loc} {cells slots cells' slots' : Nat} (X : Stand p l e R s m args below meth c T locs cells slots) (h1 : cells ≤ cells') (h2 : slots ≤ slots') : Stand p l e R s m args below meth c T locs cells' slots' := { X with same := X.same.mono h1 h2 }
def own_c (s t : Int64) : Int32 := if (t &&& (s ^^^ (-1 : Int64))) = 0 then 0 else 1
def own_d (s t : Int64) : Int32 := if (s ||| t) = s then 0 else 1
theorem own_bits (s t : Int64) : (t &&& (s ^^^ (-1 : Int64))) = 0 ↔ (s ||| t) = s := by
  have e1 : (t &&& (s ^^^ (-1 : Int64))) = 0 ↔ t.toBitVec &&& ~~~ s.toBitVec = 0#64 := by
    rw [← Int64.toBitVec_inj, Int64.toBitVec_and, Int64.toBitVec_xor]
    have q : (-1 : Int64).toBitVec = BitVec.allOnes 64 := by decide
    have q0 : (0 : Int64).toBitVec = 0#64 := by decide
    rw [q, q0, BitVec.xor_allOnes]
  have e2 : (s ||| t) = s ↔ s.toBitVec ||| t.toBitVec = s.toBitVec := by rw [← Int64.toBitVec_inj, Int64.toBitVec_or]
  rw [e1, e2]
  generalize s.toBitVec = x
  generalize t.toBitVec = y
  constructor
  · intro h
    apply BitVec.eq_of_getLsbD_eq
    intro i hi
    have q := congrArg (fun z => BitVec.getLsbD z i) h
    simp only [BitVec.getLsbD_and, BitVec.getLsbD_not, BitVec.getLsbD_zero, hi, decide_true, Bool.true_and] at q
    rw [BitVec.getLsbD_or]
    revert q
    cases x.getLsbD i <;> cases y.getLsbD i <;> simp
  · intro h
    apply BitVec.eq_of_getLsbD_eq
    intro i hi
    have q := congrArg (fun z => BitVec.getLsbD z i) h
    simp only [BitVec.getLsbD_or] at q
    simp only [BitVec.getLsbD_and, BitVec.getLsbD_not, BitVec.getLsbD_zero, hi, decide_true, Bool.true_and]
    revert q
    cases x.getLsbD i <;> cases y.getLsbD i <;> simp
theorem own_cd (s t : Int64) : own_c s t = own_d s t := by
  unfold own_c own_d
  by_cases h : (t &&& (s ^^^ (-1 : Int64))) = 0
  · rw [if_pos h, if_pos ((own_bits s t).mp h)]
  · rw [if_neg h, if_neg (fun q => h ((own_bits s t).mpr q))]
theorem own_d01 (s t : Int64) : own_d s t = 0 ∨ own_d s t = 1 := by
  unfold own_d
  by_cases h : (s ||| t) = s
  · exact Or.inl (if_pos h)
  · exact Or.inr (if_neg h)
def own_d2 (x y : Int32) : Int32 := if x = 0 then y else 1
theorem own_fin1 (s t : Int64) : ((0 : Int32) ||| own_c s t) = own_d s t := by
  rw [own_cd]; rcases own_d01 s t with h | h <;> rw [h] <;> decide
theorem own_fin2 (s t s' t' : Int64) : (((0 : Int32) ||| own_c s t) ||| own_c s' t') = own_d2 (own_d s t) (own_d s' t') := by
  rw [own_cd, own_cd]; rcases own_d01 s t with h | h <;> rcases own_d01 s' t' with h' | h' <;> rw [h, h'] <;> decide
theorem own_nar1 (s t : Int64) : nar .boolean ((0 : Int32) ||| own_c s t) = ((0 : Int32) ||| own_c s t) := by
  rw [own_fin1]; rcases own_d01 s t with h | h <;> rw [h] <;> decide
theorem own_nar2 (s t s' t' : Int64) : nar .boolean (((0 : Int32) ||| own_c s t) ||| own_c s' t') = (((0 : Int32) ||| own_c s t) ||| own_c s' t') := by
  rw [own_fin2]; rcases own_d01 s t with h | h <;> rcases own_d01 s' t' with h' | h' <;> rw [h, h'] <;> decide
theorem own_rem (k : Int32) : ((k &&& (2147483647 : Int32)) - ((k &&& (2147483647 : Int32)) / (3 : Int32)) * (3 : Int32)) = 0 ∨ ((k &&& (2147483647 : Int32)) - ((k &&& (2147483647 : Int32)) / (3 : Int32)) * (3 : Int32)) = 1 ∨ ((k &&& (2147483647 : Int32)) - ((k &&& (2147483647 : Int32)) / (3 : Int32)) * (3 : Int32)) = 2 := by
  have m := c_mask k 2147483647 31 (by decide) (by decide)
  generalize (k &&& (2147483647 : Int32)) = x at *
  have r := rng32 k
  have d := (c_idiv x 3 3 (by decide) (by decide)).1 (by omega)
  have u := c_imul (x / 3) 3
  have l3 : (3 : Int32).toInt = 3 := by decide
  rw [l3] at u
  have v := c_isub x (x / 3 * 3)
  have r1 := rng32 x
  have r2 := rng32 (x / 3 * 3)
  have r3 := rng32 (x - x / 3 * 3)
  have q : (x - x / 3 * 3).toInt = 0 ∨ (x - x / 3 * 3).toInt = 1 ∨ (x - x / 3 * 3).toInt = 2 := by omega
  rcases q with q | q | q
  · exact Or.inl (Int32.toInt_inj.mp q)
  · exact Or.inr (Or.inl (Int32.toInt_inj.mp q))
  · exact Or.inr (Or.inr (Int32.toInt_inj.mp q))
theorem d1_0 : decode prog_49_method_5_code 0 = .ok (.iconst 0, 1) := by decide +kernel
theorem d1_1 : decode prog_49_method_5_code 1 = .ok (.istore_n 2, 1) := by decide +kernel
theorem d1_2 : decode prog_49_method_5_code 2 = .ok (.iconst 0, 1) := by decide +kernel
theorem d1_3 : decode prog_49_method_5_code 3 = .ok (.istore_n 3, 1) := by decide +kernel
theorem d1_4 : decode prog_49_method_5_code 4 = .ok (.iload_n 3, 1) := by decide +kernel
theorem d1_5 : decode prog_49_method_5_code 5 = .ok (.aload_n 0, 1) := by decide +kernel
theorem d1_6 : decode prog_49_method_5_code 6 = .ok (.arraylength, 1) := by decide +kernel
theorem d1_7 : decode prog_49_method_5_code 7 = .ok (.if_icmp .ge 42, 3) := by decide +kernel
theorem d1_49 : decode prog_49_method_5_code 49 = .ok (.iload_n 2, 1) := by decide +kernel
theorem d1_50 : decode prog_49_method_5_code 50 = .ok (.ireturn, 1) := by decide +kernel
theorem pn_0 : plainName "com/example/coterie/coterie/engine/CodeSets" = true := by first | (simp [plainName, overriddenIn]; done) | decide +kernel
theorem ef_1_0 (m : MethodId) (a1 : Addr) (a2 : Addr) : entryFrame m #[(.ref a1), (.ref a2)] 4 = mkF m 0 #[.val (.ref a1), .val (.ref a2), .unset, .unset] [] := by first | (simp [entryFrame, mkF, argsToLocals, Value.category]; done) | rfl
def Q_1_0 (Z : State) (a1 : Addr) (a2 : Addr) (ka kb : ClassId) (h0 : Heap) (n0 : Nat) (v : Option Value) (h : Heap) (L : List Loc) : Prop := v = some (.int (0 : Int32)) ∧ Fr n0 L ∧ Keep h0 h [a1] ∧ Arv Z h a1 ka .long (0 : Int32) [] (.long (0 : Int64))
set_option maxRecDepth 65536 in
set_option maxHeartbeats 40000000 in
theorem rm_1_0 (l : Launch) (Z : State) (a0 : Array Value) (hw : ∀ d ∈ tables_1, d.before a0 Z = true) (ws : List Jvm.Cond) (a1 : Addr) (a2 : Addr) (ka kb : ClassId) (h0 : Heap) (n0 : Nat) (Z0 : n0 ≤ h0.size) (V1 : Arv Z h0 a1 ka .long (0 : Int32) [] (.long (0 : Int64))) (V2 : Arv Z h0 a2 kb .long (0 : Int32) [] (.long (0 : Int64))) (ne : a1 ≠ a2) (g_a1 : n0 ≤ a1) :
    MetFree l (⟨"com/example/coterie/coterie/engine/CodeSets", "addAll", "([J[J)Z"⟩ : MethodName) (head1 (Jvm.Cond.code (⟨"com/example/coterie/coterie/engine/CodeSets", "addAll", "([J[J)Z"⟩ : MethodName) prog_49_method_5_code 4 (some .boolean) :: ws) ({ frames := 0, cells := 0, slots := 0, locals := 0 } : Room)) (fun a U => a = #[(.ref a1), (.ref a2)] ∧ Z.Warmed39 U.vm ∧ U.heap = h0) (fun _ _ _ _ _ => True) (fun _ U o U' => ∃ v L, o = .returned v ∧ Q_1_0 Z a1 a2 ka kb h0 n0 v U'.heap L ∧ FrameEnd U o U' L ({ frames := 0, cells := 0, slots := 0, locals := 0 } : Room).cells ({ frames := 0, cells := 0, slots := 0, locals := 0 } : Room).slots) := by
  refine MetFree.of_bodySF (plainFor_of_name pn_0) hisR ?_
  intro p e s m args below meth c s₁ Bd hml0 hP hK
  obtain ⟨rfl, hZ, hh⟩ := hP
  have hx := Bd.exec
  have hby := Bd.bytes
  have hml : c.maxLocals = 4 := hml0
  have hown : s.vm.findClass "com/example/coterie/coterie/engine/CodeSets" = some m.cls := findClass_of_methodNamed Bd.named
  have hnm := (name_of_methodNamed Bd.named Bd.method).1
  have X0 : Stand p l e ({ frames := 0, cells := 0, slots := 0, locals := 0 } : Room) s m #[(.ref a1), (.ref a2)] below meth c s₁ [] 0 0 := Stand.of_body Bd
  have e0 : s₁.heap = h0 := by rw [← hh, Bd.state]; rfl
  have N0 := Fr.nil n0
  have pre0 : ∀ t, Steps p.tables e below (s₁.setTop (mkF m 0 #[.val (.ref a1), .val (.ref a2), .unset, .unset] [])) t → Steps p.tables e below (s₁.setTop (entryFrame m #[(.ref a1), (.ref a2)] 4)) t := fun t k => castTop (ef_1_0 m a1 a2) k
  obtain ⟨cl0a, Ar0a, q0a, S0a, M0a, H0a, G0a⟩ := V1
  obtain ⟨cl0b, Ar0b, q0b, S0b, M0b, H0b, G0b⟩ := V2
  obtain ⟨fs, hr, hrun, hended, hW, hsame⟩ := X0.leave (v := some (.int (0 : Int32))) (fun h => by rw [Bd.returns] at h; cases h)
  refine ⟨_, _, pre0 _ ?_, hrun, hended, _, _, rfl, ?_, ⟨_, rfl⟩, hW, hsame.mono (by decide) (by decide)⟩
  · show Steps p.tables e below (s₁.setTop (mkF m 0 #[.val (.ref a1), .val (.ref a2), .unset, .unset] [])) _
    refine XS.iconst X0.here hx rfl (hb hby d1_0) ?_
    show Steps p.tables e below (s₁.setTop (mkF m 1 #[.val (.ref a1), .val (.ref a2), .unset, .unset] [(.int (0 : Int32))])) _
    refine XS.istoreN X0.here hx rfl (hb hby d1_1) rfl (l' := #[.val (.ref a1), .val (.ref a2), .val (.int (0 : Int32)), .unset]) rfl ?_
    show Steps p.tables e below (s₁.setTop (mkF m 2 #[.val (.ref a1), .val (.ref a2), .val (.int (0 : Int32)), .unset] [])) _
    refine XS.iconst X0.here hx rfl (hb hby d1_2) ?_
    show Steps p.tables e below (s₁.setTop (mkF m 3 #[.val (.ref a1), .val (.ref a2), .val (.int (0 : Int32)), .unset] [(.int (0 : Int32))])) _
    refine XS.istoreN X0.here hx rfl (hb hby d1_3) rfl (l' := #[.val (.ref a1), .val (.ref a2), .val (.int (0 : Int32)), .val (.int (0 : Int32))]) rfl ?_
    show Steps p.tables e below (s₁.setTop (mkF m 4 #[.val (.ref a1), .val (.ref a2), .val (.int (0 : Int32)), .val (.int (0 : Int32))] [])) _
    refine XS.iloadN X0.here hx rfl (hb hby d1_4) rfl ?_
    show Steps p.tables e below (s₁.setTop (mkF m 5 #[.val (.ref a1), .val (.ref a2), .val (.int (0 : Int32)), .val (.int (0 : Int32))] [(.int (0 : Int32))])) _
    refine XS.aloadN X0.here hx rfl (hb hby d1_5) rfl rfl ?_
    show Steps p.tables e below (s₁.setTop (mkF m 6 #[.val (.ref a1), .val (.ref a2), .val (.int (0 : Int32)), .val (.int (0 : Int32))] [(.ref a1), (.int (0 : Int32))])) _
    refine X0.arraylength hx (by rw [e0]; exact Ar0a.1) (State.isArrayOf_alike hZ.alike Ar0a.2.1) (g := (mkF m 6 #[.val (.ref a1), .val (.ref a2), .val (.int (0 : Int32)), .val (.int (0 : Int32))] [(.ref a1), (.int (0 : Int32))])) rfl rfl (hb hby d1_6) _ ?_
    rw [len_of S0a M0a]
    show Steps p.tables e below (s₁.setTop (mkF m 7 #[.val (.ref a1), .val (.ref a2), .val (.int (0 : Int32)), .val (.int (0 : Int32))] [(.int (0 : Int32)), (.int (0 : Int32))])) _
    refine XS.icmpYes X0.here hx rfl (pc0 := 7) (pc' := 49) rfl (hb hby d1_7) rfl (flt (by decide : ¬ ((0 : Int32) < (0 : Int32)))).2.1 (by decide) (by decide) ?_
    show Steps p.tables e below (s₁.setTop (mkF m 49 #[.val (.ref a1), .val (.ref a2), .val (.int (0 : Int32)), .val (.int (0 : Int32))] [])) _
    refine XS.iloadN X0.here hx rfl (hb hby d1_49) rfl ?_
    show Steps p.tables e below (s₁.setTop (mkF m 50 #[.val (.ref a1), .val (.ref a2), .val (.int (0 : Int32)), .val (.int (0 : Int32))] [(.int (0 : Int32))])) _
    exact retN X0 hx (t := .boolean) Bd.returns (by simp) (hb hby d1_50) hr
  · show Q_1_0 Z a1 a2 ka kb h0 n0 _ s₁.heap _
    rw [e0]
    exact ⟨rfl, N0, (Keep.refl h0 [a1]), ⟨cl0a, Ar0a, q0a, S0a, M0a, H0a, G0a⟩⟩
theorem d1_10 : decode prog_49_method_5_code 10 = .ok (.iload_n 2, 1) := by decide +kernel
theorem d1_11 : decode prog_49_method_5_code 11 = .ok (.aload_n 1, 1) := by decide +kernel
theorem d1_12 : decode prog_49_method_5_code 12 = .ok (.iload_n 3, 1) := by decide +kernel
theorem d1_13 : decode prog_49_method_5_code 13 = .ok (.laload, 1) := by decide +kernel
theorem d1_14 : decode prog_49_method_5_code 14 = .ok (.aload_n 0, 1) := by decide +kernel
theorem d1_15 : decode prog_49_method_5_code 15 = .ok (.iload_n 3, 1) := by decide +kernel
theorem d1_16 : decode prog_49_method_5_code 16 = .ok (.laload, 1) := by decide +kernel
theorem d1_17 : decode prog_49_method_5_code 17 = .ok (.ldc2_w 9, 3) := by decide +kernel
theorem d1_20 : decode prog_49_method_5_code 20 = .ok (.lxor, 1) := by decide +kernel
theorem d1_21 : decode prog_49_method_5_code 21 = .ok (.land, 1) := by decide +kernel
theorem d1_22 : decode prog_49_method_5_code 22 = .ok (.lconst 0, 1) := by decide +kernel
theorem d1_23 : decode prog_49_method_5_code 23 = .ok (.lcmp, 1) := by decide +kernel
theorem d1_24 : decode prog_49_method_5_code 24 = .ok (.ifCond .eq 7, 3) := by decide +kernel
theorem d1_31 : decode prog_49_method_5_code 31 = .ok (.iconst 0, 1) := by decide +kernel
theorem d1_27 : decode prog_49_method_5_code 27 = .ok (.iconst 1, 1) := by decide +kernel
theorem d1_28 : decode prog_49_method_5_code 28 = .ok (.goto 4, 3) := by decide +kernel
theorem d1_32 : decode prog_49_method_5_code 32 = .ok (.ior, 1) := by decide +kernel
theorem d1_33 : decode prog_49_method_5_code 33 = .ok (.istore_n 2, 1) := by decide +kernel
theorem d1_34 : decode prog_49_method_5_code 34 = .ok (.aload_n 0, 1) := by decide +kernel
theorem d1_35 : decode prog_49_method_5_code 35 = .ok (.iload_n 3, 1) := by decide +kernel
theorem d1_36 : decode prog_49_method_5_code 36 = .ok (.dup2, 1) := by decide +kernel
theorem d1_37 : decode prog_49_method_5_code 37 = .ok (.laload, 1) := by decide +kernel
theorem d1_38 : decode prog_49_method_5_code 38 = .ok (.aload_n 1, 1) := by decide +kernel
theorem d1_39 : decode prog_49_method_5_code 39 = .ok (.iload_n 3, 1) := by decide +kernel
theorem d1_40 : decode prog_49_method_5_code 40 = .ok (.laload, 1) := by decide +kernel
theorem d1_41 : decode prog_49_method_5_code 41 = .ok (.lor, 1) := by decide +kernel
theorem d1_42 : decode prog_49_method_5_code 42 = .ok (.lastore, 1) := by decide +kernel
theorem d1_43 : decode prog_49_method_5_code 43 = .ok (.iinc 3 1, 3) := by decide +kernel
theorem d1_46 : decode prog_49_method_5_code 46 = .ok (.goto (-42), 3) := by decide +kernel
theorem ef_1_1 (m : MethodId) (a1 : Addr) (a2 : Addr) : entryFrame m #[(.ref a1), (.ref a2)] 4 = mkF m 0 #[.val (.ref a1), .val (.ref a2), .unset, .unset] [] := by first | (simp [entryFrame, mkF, argsToLocals, Value.category]; done) | rfl
def Q_1_1 (Z : State) (a1 : Addr) (a2 : Addr) (ka kb : ClassId) (s0 t0 : Int64) (h0 : Heap) (n0 : Nat) (v : Option Value) (h : Heap) (L : List Loc) : Prop := v = some (.int ((0 : Int32) ||| (own_c s0 t0))) ∧ Fr n0 L ∧ Keep h0 h [a1] ∧ Arv Z h a1 ka .long (1 : Int32) [(.long (s0 ||| t0))] (.long (0 : Int64))
set_option maxRecDepth 65536 in
set_option maxHeartbeats 40000000 in
theorem rm_1_1 (l : Launch) (Z : State) (a0 : Array Value) (hw : ∀ d ∈ tables_1, d.before a0 Z = true) (ws : List Jvm.Cond) (a1 : Addr) (a2 : Addr) (ka kb : ClassId) (s0 t0 : Int64) (h0 : Heap) (n0 : Nat) (Z0 : n0 ≤ h0.size) (V1 : Arv Z h0 a1 ka .long (1 : Int32) [(.long s0)] (.long (0 : Int64))) (V2 : Arv Z h0 a2 kb .long (1 : Int32) [(.long t0)] (.long (0 : Int64))) (ne : a1 ≠ a2) (g_a1 : n0 ≤ a1) :
    MetFree l (⟨"com/example/coterie/coterie/engine/CodeSets", "addAll", "([J[J)Z"⟩ : MethodName) (head1 (Jvm.Cond.code (⟨"com/example/coterie/coterie/engine/CodeSets", "addAll", "([J[J)Z"⟩ : MethodName) prog_49_method_5_code 4 (some .boolean) :: ws) ({ frames := 0, cells := 0, slots := 0, locals := 0 } : Room)) (fun a U => a = #[(.ref a1), (.ref a2)] ∧ Z.Warmed39 U.vm ∧ U.heap = h0) (fun _ _ _ _ _ => True) (fun _ U o U' => ∃ v L, o = .returned v ∧ Q_1_1 Z a1 a2 ka kb s0 t0 h0 n0 v U'.heap L ∧ FrameEnd U o U' L ({ frames := 0, cells := 0, slots := 0, locals := 0 } : Room).cells ({ frames := 0, cells := 0, slots := 0, locals := 0 } : Room).slots) := by
  refine MetFree.of_bodySF (plainFor_of_name pn_0) hisR ?_
  intro p e s m args below meth c s₁ Bd hml0 hP hK
  obtain ⟨rfl, hZ, hh⟩ := hP
  have hx := Bd.exec
  have hby := Bd.bytes
  have hml : c.maxLocals = 4 := hml0
  have hown : s.vm.findClass "com/example/coterie/coterie/engine/CodeSets" = some m.cls := findClass_of_methodNamed Bd.named
  have hnm := (name_of_methodNamed Bd.named Bd.method).1
  have X0 : Stand p l e ({ frames := 0, cells := 0, slots := 0, locals := 0 } : Room) s m #[(.ref a1), (.ref a2)] below meth c s₁ [] 0 0 := Stand.of_body Bd
  have e0 : s₁.heap = h0 := by rw [← hh, Bd.state]; rfl
  have N0 := Fr.nil n0
  have pre0 : ∀ t, Steps p.tables e below (s₁.setTop (mkF m 0 #[.val (.ref a1), .val (.ref a2), .unset, .unset] [])) t → Steps p.tables e below (s₁.setTop (entryFrame m #[(.ref a1), (.ref a2)] 4)) t := fun t k => castTop (ef_1_1 m a1 a2) k
  obtain ⟨cl0a, Ar0a, q0a, S0a, M0a, H0a, G0a⟩ := V1
  obtain ⟨cl0b, Ar0b, q0b, S0b, M0b, H0b, G0b⟩ := V2
  have jc0 : ∀ t, Steps p.tables e below (s₁.setTop (mkF m 32 #[.val (.ref a1), .val (.ref a2), .val (.int (0 : Int32)), .val (.int (0 : Int32))] [(.int (own_c s0 t0)), (.int (0 : Int32))])) t → Steps p.tables e below (s₁.setTop (mkF m 24 #[.val (.ref a1), .val (.ref a2), .val (.int (0 : Int32)), .val (.int (0 : Int32))] [(.int (lcmpW (t0 &&& (s0 ^^^ (-1 : Int64))) (0 : Int64))), (.int (0 : Int32))])) t := by
    intro t kt
    by_cases hc : (t0 &&& (s0 ^^^ (-1 : Int64))) = (0 : Int64)
    · have hv : own_c s0 t0 = 0 := if_pos hc
      rw [hv] at kt
      show Steps p.tables e below (s₁.setTop (mkF m 24 #[.val (.ref a1), .val (.ref a2), .val (.int (0 : Int32)), .val (.int (0 : Int32))] [(.int (lcmpW (t0 &&& (s0 ^^^ (-1 : Int64))) (0 : Int64))), (.int (0 : Int32))])) _
      refine XS.ifYes X0.here hx rfl (pc0 := 24) (pc' := 31) rfl (hb hby d1_24) rfl ((if0 _ _).trans (teq ((lw_eq _ _).mpr hc : (lcmpW (t0 &&& (s0 ^^^ (-1 : Int64))) (0 : Int64)) = (0 : Int32))).1) (by decide) (by decide) ?_
      show Steps p.tables e below (s₁.setTop (mkF m 31 #[.val (.ref a1), .val (.ref a2), .val (.int (0 : Int32)), .val (.int (0 : Int32))] [(.int (0 : Int32))])) _
      refine XS.iconst X0.here hx rfl (hb hby d1_31) ?_
      exact kt
    · have hv : own_c s0 t0 = 1 := if_neg hc
      rw [hv] at kt
      show Steps p.tables e below (s₁.setTop (mkF m 24 #[.val (.ref a1), .val (.ref a2), .val (.int (0 : Int32)), .val (.int (0 : Int32))] [(.int (lcmpW (t0 &&& (s0 ^^^ (-1 : Int64))) (0 : Int64))), (.int (0 : Int32))])) _
      refine XS.ifNo X0.here hx rfl (hb hby d1_24) rfl ((if0 _ _).trans (feq (fun q => hc ((lw_eq _ _).mp q) : ¬ ((lcmpW (t0 &&& (s0 ^^^ (-1 : Int64))) (0 : Int64)) = (0 : Int32)))).1) ?_
      show Steps p.tables e below (s₁.setTop (mkF m 27 #[.val (.ref a1), .val (.ref a2), .val (.int (0 : Int32)), .val (.int (0 : Int32))] [(.int (0 : Int32))])) _
      refine XS.iconst X0.here hx rfl (hb hby d1_27) ?_
      show Steps p.tables e below (s₁.setTop (mkF m 28 #[.val (.ref a1), .val (.ref a2), .val (.int (0 : Int32)), .val (.int (0 : Int32))] [(.int (1 : Int32)), (.int (0 : Int32))])) _
      refine XS.goto X0.here hx rfl (pc0 := 28) (pc' := 32) rfl (hb hby d1_28) (by decide) (by decide) ?_
      exact kt
  obtain ⟨T1, h1, X1, e1, W1, st1⟩ := stJ X0 hx hZ e0 Ar0a (j := (0 : Int32)) (inb_of S0a ⟨by decide, by decide⟩) (g := (mkF m 42 #[.val (.ref a1), .val (.ref a2), .val (.int ((0 : Int32) ||| (own_c s0 t0))), .val (.int (0 : Int32))] [(.long (s0 ||| t0)), (.int (0 : Int32)), (.ref a1)])) rfl rfl (hb hby d1_42)
  have N1 := Fr.snoc X1 N0 g_a1
  have Z1 : n0 ≤ h1.size := Nat.le_trans Z0 (Keep.of_wr W1).1
  have V1_0 : Arv Z h1 a1 ka .long (1 : Int32) [(.long (s0 ||| t0))] (.long (0 : Int64)) := Arv.set Ar0a q0a S0a M0a H0a G0a rfl W1 0 rfl (Nat.le_of_ble_eq_true rfl)
  have V2_0 : Arv Z h1 a2 kb .long (1 : Int32) [(.long t0)] (.long (0 : Int64)) := Arv.other ⟨cl0b, Ar0b, q0b, S0b, M0b, H0b, G0b⟩ W1 (Ne.symm ne)
  have K_0 : Keep h0 h1 [a1] := Keep.wr (Keep.refl h0 [a1]) W1 (Or.inl (List.mem_of_getElem? (i := 0) rfl))
  obtain ⟨cl1a, Ar1a, q1a, S1a, M1a, H1a, G1a⟩ := V1_0
  obtain ⟨cl1b, Ar1b, q1b, S1b, M1b, H1b, G1b⟩ := V2_0
  obtain ⟨fs, hr, hrun, hended, hW, hsame⟩ := X1.leave (v := some (.int ((0 : Int32) ||| (own_c s0 t0)))) (fun h => by rw [Bd.returns] at h; cases h)
  refine ⟨_, _, pre0 _ ?_, hrun, hended, _, _, rfl, ?_, ⟨_, rfl⟩, hW, hsame.mono (by decide) (by decide)⟩
  · show Steps p.tables e below (s₁.setTop (mkF m 0 #[.val (.ref a1), .val (.ref a2), .unset, .unset] [])) _
    refine XS.iconst X0.here hx rfl (hb hby d1_0) ?_
    show Steps p.tables e below (s₁.setTop (mkF m 1 #[.val (.ref a1), .val (.ref a2), .unset, .unset] [(.int (0 : Int32))])) _
    refine XS.istoreN X0.here hx rfl (hb hby d1_1) rfl (l' := #[.val (.ref a1), .val (.ref a2), .val (.int (0 : Int32)), .unset]) rfl ?_
    show Steps p.tables e below (s₁.setTop (mkF m 2 #[.val (.ref a1), .val (.ref a2), .val (.int (0 : Int32)), .unset] [])) _
    refine XS.iconst X0.here hx rfl (hb hby d1_2) ?_
    show Steps p.tables e below (s₁.setTop (mkF m 3 #[.val (.ref a1), .val (.ref a2), .val (.int (0 : Int32)), .unset] [(.int (0 : Int32))])) _
    refine XS.istoreN X0.here hx rfl (hb hby d1_3) rfl (l' := #[.val (.ref a1), .val (.ref a2), .val (.int (0 : Int32)), .val (.int (0 : Int32))]) rfl ?_
    show Steps p.tables e below (s₁.setTop (mkF m 4 #[.val (.ref a1), .val (.ref a2), .val (.int (0 : Int32)), .val (.int (0 : Int32))] [])) _
    refine XS.iloadN X0.here hx rfl (hb hby d1_4) rfl ?_
    show Steps p.tables e below (s₁.setTop (mkF m 5 #[.val (.ref a1), .val (.ref a2), .val (.int (0 : Int32)), .val (.int (0 : Int32))] [(.int (0 : Int32))])) _
    refine XS.aloadN X0.here hx rfl (hb hby d1_5) rfl rfl ?_
    show Steps p.tables e below (s₁.setTop (mkF m 6 #[.val (.ref a1), .val (.ref a2), .val (.int (0 : Int32)), .val (.int (0 : Int32))] [(.ref a1), (.int (0 : Int32))])) _
    refine X0.arraylength hx (by rw [e0]; exact Ar0a.1) (State.isArrayOf_alike hZ.alike Ar0a.2.1) (g := (mkF m 6 #[.val (.ref a1), .val (.ref a2), .val (.int (0 : Int32)), .val (.int (0 : Int32))] [(.ref a1), (.int (0 : Int32))])) rfl rfl (hb hby d1_6) _ ?_
    rw [len_of S0a M0a]
    show Steps p.tables e below (s₁.setTop (mkF m 7 #[.val (.ref a1), .val (.ref a2), .val (.int (0 : Int32)), .val (.int (0 : Int32))] [(.int (1 : Int32)), (.int (0 : Int32))])) _
    refine XS.icmpNo X0.here hx rfl (hb hby d1_7) rfl (tlt (by decide : (0 : Int32) < (1 : Int32))).2.1 ?_
    show Steps p.tables e below (s₁.setTop (mkF m 10 #[.val (.ref a1), .val (.ref a2), .val (.int (0 : Int32)), .val (.int (0 : Int32))] [])) _
    refine XS.iloadN X0.here hx rfl (hb hby d1_10) rfl ?_
    show Steps p.tables e below (s₁.setTop (mkF m 11 #[.val (.ref a1), .val (.ref a2), .val (.int (0 : Int32)), .val (.int (0 : Int32))] [(.int (0 : Int32))])) _
    refine XS.aloadN X0.here hx rfl (hb hby d1_11) rfl rfl ?_
    show Steps p.tables e below (s₁.setTop (mkF m 12 #[.val (.ref a1), .val (.ref a2), .val (.int (0 : Int32)), .val (.int (0 : Int32))] [(.ref a2), (.int (0 : Int32))])) _
    refine XS.iloadN X0.here hx rfl (hb hby d1_12) rfl ?_
    show Steps p.tables e below (s₁.setTop (mkF m 13 #[.val (.ref a1), .val (.ref a2), .val (.int (0 : Int32)), .val (.int (0 : Int32))] [(.int (0 : Int32)), (.ref a2), (.int (0 : Int32))])) _
    refine X0.laload hx (j := (0 : Int32)) (v := (.long t0)) (by rw [e0]; exact Ar0b.1) (State.isArrayOf_alike hZ.alike Ar0b.2.1) Ar0b.2.2 (inb_of S0b ⟨by decide, by decide⟩) (Has.at H0b (inb_of S0b ⟨by decide, by decide⟩) rfl) (g := (mkF m 13 #[.val (.ref a1), .val (.ref a2), .val (.int (0 : Int32)), .val (.int (0 : Int32))] [(.int (0 : Int32)), (.ref a2), (.int (0 : Int32))])) rfl rfl (hb hby d1_13) _ ?_
    show Steps p.tables e below (s₁.setTop (mkF m 14 #[.val (.ref a1), .val (.ref a2), .val (.int (0 : Int32)), .val (.int (0 : Int32))] [(.long t0), (.int (0 : Int32))])) _
    refine XS.aloadN X0.here hx rfl (hb hby d1_14) rfl rfl ?_
    show Steps p.tables e below (s₁.setTop (mkF m 15 #[.val (.ref a1), .val (.ref a2), .val (.int (0 : Int32)), .val (.int (0 : Int32))] [(.ref a1), (.long t0), (.int (0 : Int32))])) _
    refine XS.iloadN X0.here hx rfl (hb hby d1_15) rfl ?_
    show Steps p.tables e below (s₁.setTop (mkF m 16 #[.val (.ref a1), .val (.ref a2), .val (.int (0 : Int32)), .val (.int (0 : Int32))] [(.int (0 : Int32)), (.ref a1), (.long t0), (.int (0 : Int32))])) _
    refine X0.laload hx (j := (0 : Int32)) (v := (.long s0)) (by rw [e0]; exact Ar0a.1) (State.isArrayOf_alike hZ.alike Ar0a.2.1) Ar0a.2.2 (inb_of S0a ⟨by decide, by decide⟩) (Has.at H0a (inb_of S0a ⟨by decide, by decide⟩) rfl) (g := (mkF m 16 #[.val (.ref a1), .val (.ref a2), .val (.int (0 : Int32)), .val (.int (0 : Int32))] [(.int (0 : Int32)), (.ref a1), (.long t0), (.int (0 : Int32))])) rfl rfl (hb hby d1_16) _ ?_
    show Steps p.tables e below (s₁.setTop (mkF m 17 #[.val (.ref a1), .val (.ref a2), .val (.int (0 : Int32)), .val (.int (0 : Int32))] [(.long s0), (.long t0), (.int (0 : Int32))])) _
    refine X0.ldc2Long hx hown (mvT hZ (hw _ (List.mem_of_getElem? (i := 6) rfl))) (g := (mkF m 17 #[.val (.ref a1), .val (.ref a2), .val (.int (0 : Int32)), .val (.int (0 : Int32))] [(.long s0), (.long t0), (.int (0 : Int32))])) rfl (hb hby d1_17) _ ?_
    show Steps p.tables e below (s₁.setTop (mkF m 20 #[.val (.ref a1), .val (.ref a2), .val (.int (0 : Int32)), .val (.int (0 : Int32))] [(.long (-1 : Int64)), (.long s0), (.long t0), (.int (0 : Int32))])) _
    refine XS.lxor X0.here hx rfl (hb hby d1_20) rfl ?_
    show Steps p.tables e below (s₁.setTop (mkF m 21 #[.val (.ref a1), .val (.ref a2), .val (.int (0 : Int32)), .val (.int (0 : Int32))] [(.long (s0 ^^^ (-1 : Int64))), (.long t0), (.int (0 : Int32))])) _
    refine XS.land X0.here hx rfl (hb hby d1_21) rfl ?_
    show Steps p.tables e below (s₁.setTop (mkF m 22 #[.val (.ref a1), .val (.ref a2), .val (.int (0 : Int32)), .val (.int (0 : Int32))] [(.long (t0 &&& (s0 ^^^ (-1 : Int64)))), (.int (0 : Int32))])) _
    refine XS.lconst X0.here hx rfl (hb hby d1_22) ?_
    show Steps p.tables e below (s₁.setTop (mkF m 23 #[.val (.ref a1), .val (.ref a2), .val (.int (0 : Int32)), .val (.int (0 : Int32))] [(.long (0 : Int64)), (.long (t0 &&& (s0 ^^^ (-1 : Int64)))), (.int (0 : Int32))])) _
    refine XS.lcmp X0.here hx rfl (hb hby d1_23) rfl ?_
    show Steps p.tables e below (s₁.setTop (mkF m 24 #[.val (.ref a1), .val (.ref a2), .val (.int (0 : Int32)), .val (.int (0 : Int32))] [(.int (lcmpW (t0 &&& (s0 ^^^ (-1 : Int64))) (0 : Int64))), (.int (0 : Int32))])) _
    refine jc0 _ ?_
    show Steps p.tables e below (s₁.setTop (mkF m 32 #[.val (.ref a1), .val (.ref a2), .val (.int (0 : Int32)), .val (.int (0 : Int32))] [(.int (own_c s0 t0)), (.int (0 : Int32))])) _
    refine XS.ior X0.here hx rfl (hb hby d1_32) rfl ?_
    show Steps p.tables e below (s₁.setTop (mkF m 33 #[.val (.ref a1), .val (.ref a2), .val (.int (0 : Int32)), .val (.int (0 : Int32))] [(.int ((0 : Int32) ||| (own_c s0 t0)))])) _
    refine XS.istoreN X0.here hx rfl (hb hby d1_33) rfl (l' := #[.val (.ref a1), .val (.ref a2), .val (.int ((0 : Int32) ||| (own_c s0 t0))), .val (.int (0 : Int32))]) rfl ?_
    show Steps p.tables e below (s₁.setTop (mkF m 34 #[.val (.ref a1), .val (.ref a2), .val (.int ((0 : Int32) ||| (own_c s0 t0))), .val (.int (0 : Int32))] [])) _
    refine XS.aloadN X0.here hx rfl (hb hby d1_34) rfl rfl ?_
    show Steps p.tables e below (s₁.setTop (mkF m 35 #[.val (.ref a1), .val (.ref a2), .val (.int ((0 : Int32) ||| (own_c s0 t0))), .val (.int (0 : Int32))] [(.ref a1)])) _
    refine XS.iloadN X0.here hx rfl (hb hby d1_35) rfl ?_
    show Steps p.tables e below (s₁.setTop (mkF m 36 #[.val (.ref a1), .val (.ref a2), .val (.int ((0 : Int32) ||| (own_c s0 t0))), .val (.int (0 : Int32))] [(.int (0 : Int32)), (.ref a1)])) _
    refine XT.dup2 X0.here hx rfl (hb hby d1_36) rfl rfl rfl ?_
    show Steps p.tables e below (s₁.setTop (mkF m 37 #[.val (.ref a1), .val (.ref a2), .val (.int ((0 : Int32) ||| (own_c s0 t0))), .val (.int (0 : Int32))] [(.int (0 : Int32)), (.ref a1), (.int (0 : Int32)), (.ref a1)])) _
    refine X0.laload hx (j := (0 : Int32)) (v := (.long s0)) (by rw [e0]; exact Ar0a.1) (State.isArrayOf_alike hZ.alike Ar0a.2.1) Ar0a.2.2 (inb_of S0a ⟨by decide, by decide⟩) (Has.at H0a (inb_of S0a ⟨by decide, by decide⟩) rfl) (g := (mkF m 37 #[.val (.ref a1), .val (.ref a2), .val (.int ((0 : Int32) ||| (own_c s0 t0))), .val (.int (0 : Int32))] [(.int (0 : Int32)), (.ref a1), (.int (0 : Int32)), (.ref a1)])) rfl rfl (hb hby d1_37) _ ?_
    show Steps p.tables e below (s₁.setTop (mkF m 38 #[.val (.ref a1), .val (.ref a2), .val (.int ((0 : Int32) ||| (own_c s0 t0))), .val (.int (0 : Int32))] [(.long s0), (.int (0 : Int32)), (.ref a1)])) _
    refine XS.aloadN X0.here hx rfl (hb hby d1_38) rfl rfl ?_
    show Steps p.tables e below (s₁.setTop (mkF m 39 #[.val (.ref a1), .val (.ref a2), .val (.int ((0 : Int32) ||| (own_c s0 t0))), .val (.int (0 : Int32))] [(.ref a2), (.long s0), (.int (0 : Int32)), (.ref a1)])) _
    refine XS.iloadN X0.here hx rfl (hb hby d1_39) rfl ?_
    show Steps p.tables e below (s₁.setTop (mkF m 40 #[.val (.ref a1), .val (.ref a2), .val (.int ((0 : Int32) ||| (own_c s0 t0))), .val (.int (0 : Int32))] [(.int (0 : Int32)), (.ref a2), (.long s0), (.int (0 : Int32)), (.ref a1)])) _
    refine X0.laload hx (j := (0 : Int32)) (v := (.long t0)) (by rw [e0]; exact Ar0b.1) (State.isArrayOf_alike hZ.alike Ar0b.2.1) Ar0b.2.2 (inb_of S0b ⟨by decide, by decide⟩) (Has.at H0b (inb_of S0b ⟨by decide, by decide⟩) rfl) (g := (mkF m 40 #[.val (.ref a1), .val (.ref a2), .val (.int ((0 : Int32) ||| (own_c s0 t0))), .val (.int (0 : Int32))] [(.int (0 : Int32)), (.ref a2), (.long s0), (.int (0 : Int32)), (.ref a1)])) rfl rfl (hb hby d1_40) _ ?_
    show Steps p.tables e below (s₁.setTop (mkF m 41 #[.val (.ref a1), .val (.ref a2), .val (.int ((0 : Int32) ||| (own_c s0 t0))), .val (.int (0 : Int32))] [(.long t0), (.long s0), (.int (0 : Int32)), (.ref a1)])) _
    refine XS.lor X0.here hx rfl (hb hby d1_41) rfl ?_
    show Steps p.tables e below (s₁.setTop (mkF m 42 #[.val (.ref a1), .val (.ref a2), .val (.int ((0 : Int32) ||| (own_c s0 t0))), .val (.int (0 : Int32))] [(.long (s0 ||| t0)), (.int (0 : Int32)), (.ref a1)])) _
    refine st1 _ ?_
    show Steps p.tables e below (T1.setTop (mkF m 43 #[.val (.ref a1), .val (.ref a2), .val (.int ((0 : Int32) ||| (own_c s0 t0))), .val (.int (0 : Int32))] [])) _
    refine XS.iinc X1.here hx rfl (hb hby d1_43) rfl (l' := #[.val (.ref a1), .val (.ref a2), .val (.int ((0 : Int32) ||| (own_c s0 t0))), .val (.int (1 : Int32))]) rfl ?_
    show Steps p.tables e below (T1.setTop (mkF m 46 #[.val (.ref a1), .val (.ref a2), .val (.int ((0 : Int32) ||| (own_c s0 t0))), .val (.int (1 : Int32))] [])) _
    refine XS.goto X1.here hx rfl (pc0 := 46) (pc' := 4) rfl (hb hby d1_46) (by decide) (by decide) ?_
    show Steps p.tables e below (T1.setTop (mkF m 4 #[.val (.ref a1), .val (.ref a2), .val (.int ((0 : Int32) ||| (own_c s0 t0))), .val (.int (1 : Int32))] [])) _
    refine XS.iloadN X1.here hx rfl (hb hby d1_4) rfl ?_
    show Steps p.tables e below (T1.setTop (mkF m 5 #[.val (.ref a1), .val (.ref a2), .val (.int ((0 : Int32) ||| (own_c s0 t0))), .val (.int (1 : Int32))] [(.int (1 : Int32))])) _
    refine XS.aloadN X1.here hx rfl (hb hby d1_5) rfl rfl ?_
    show Steps p.tables e below (T1.setTop (mkF m 6 #[.val (.ref a1), .val (.ref a2), .val (.int ((0 : Int32) ||| (own_c s0 t0))), .val (.int (1 : Int32))] [(.ref a1), (.int (1 : Int32))])) _
    refine X1.arraylength hx (by rw [e1]; exact Ar1a.1) (State.isArrayOf_alike hZ.alike Ar1a.2.1) (g := (mkF m 6 #[.val (.ref a1), .val (.ref a2), .val (.int ((0 : Int32) ||| (own_c s0 t0))), .val (.int (1 : Int32))] [(.ref a1), (.int (1 : Int32))])) rfl rfl (hb hby d1_6) _ ?_
    rw [len_of S1a M1a]
    show Steps p.tables e below (T1.setTop (mkF m 7 #[.val (.ref a1), .val (.ref a2), .val (.int ((0 : Int32) ||| (own_c s0 t0))), .val (.int (1 : Int32))] [(.int (1 : Int32)), (.int (1 : Int32))])) _
    refine XS.icmpYes X1.here hx rfl (pc0 := 7) (pc' := 49) rfl (hb hby d1_7) rfl (flt (by decide : ¬ ((1 : Int32) < (1 : Int32)))).2.1 (by decide) (by decide) ?_
    show Steps p.tables e below (T1.setTop (mkF m 49 #[.val (.ref a1), .val (.ref a2), .val (.int ((0 : Int32) ||| (own_c s0 t0))), .val (.int (1 : Int32))] [])) _
    refine XS.iloadN X1.here hx rfl (hb hby d1_49) rfl ?_
    show Steps p.tables e below (T1.setTop (mkF m 50 #[.val (.ref a1), .val (.ref a2), .val (.int ((0 : Int32) ||| (own_c s0 t0))), .val (.int (1 : Int32))] [(.int ((0 : Int32) ||| (own_c s0 t0)))])) _
    exact retN X1 hx (t := .boolean) Bd.returns (by simp) (hb hby d1_50) (by rw [own_nar1 s0 t0]; exact hr)
  · show Q_1_1 Z a1 a2 ka kb s0 t0 h0 n0 _ T1.heap _
    rw [e1]
    exact ⟨rfl, N1, K_0, ⟨cl1a, Ar1a, q1a, S1a, M1a, H1a, G1a⟩⟩
theorem ef_1_2 (m : MethodId) (a1 : Addr) (a2 : Addr) : entryFrame m #[(.ref a1), (.ref a2)] 4 = mkF m 0 #[.val (.ref a1), .val (.ref a2), .unset, .unset] [] := by first | (simp [entryFrame, mkF, argsToLocals, Value.category]; done) | rfl
def Q_1_2 (Z : State) (a1 : Addr) (a2 : Addr) (ka kb : ClassId) (s0 s1 t0 t1 : Int64) (h0 : Heap) (n0 : Nat) (v : Option Value) (h : Heap) (L : List Loc) : Prop := v = some (.int (((0 : Int32) ||| (own_c s0 t0)) ||| (own_c s1 t1))) ∧ Fr n0 L ∧ Keep h0 h [a1] ∧ Arv Z h a1 ka .long (2 : Int32) [(.long (s0 ||| t0)), (.long (s1 ||| t1))] (.long (0 : Int64))
set_option maxRecDepth 65536 in
set_option maxHeartbeats 40000000 in
theorem rm_1_2 (l : Launch) (Z : State) (a0 : Array Value) (hw : ∀ d ∈ tables_1, d.before a0 Z = true) (ws : List Jvm.Cond) (a1 : Addr) (a2 : Addr) (ka kb : ClassId) (s0 s1 t0 t1 : Int64) (h0 : Heap) (n0 : Nat) (Z0 : n0 ≤ h0.size) (V1 : Arv Z h0 a1 ka .long (2 : Int32) [(.long s0), (.long s1)] (.long (0 : Int64))) (V2 : Arv Z h0 a2 kb .long (2 : Int32) [(.long t0), (.long t1)] (.long (0 : Int64))) (ne : a1 ≠ a2) (g_a1 : n0 ≤ a1) :
    MetFree l (⟨"com/example/coterie/coterie/engine/CodeSets", "addAll", "([J[J)Z"⟩ : MethodName) (head1 (Jvm.Cond.code (⟨"com/example/coterie/coterie/engine/CodeSets", "addAll", "([J[J)Z"⟩ : MethodName) prog_49_method_5_code 4 (some .boolean) :: ws) ({ frames := 0, cells := 0, slots := 0, locals := 0 } : Room)) (fun a U => a = #[(.ref a1), (.ref a2)] ∧ Z.Warmed39 U.vm ∧ U.heap = h0) (fun _ _ _ _ _ => True) (fun _ U o U' => ∃ v L, o = .returned v ∧ Q_1_2 Z a1 a2 ka kb s0 s1 t0 t1 h0 n0 v U'.heap L ∧ FrameEnd U o U' L ({ frames := 0, cells := 0, slots := 0, locals := 0 } : Room).cells ({ frames := 0, cells := 0, slots := 0, locals := 0 } : Room).slots) := by
  refine MetFree.of_bodySF (plainFor_of_name pn_0) hisR ?_
  intro p e s m args below meth c s₁ Bd hml0 hP hK
  obtain ⟨rfl, hZ, hh⟩ := hP
  have hx := Bd.exec
  have hby := Bd.bytes
  have hml : c.maxLocals = 4 := hml0
  have hown : s.vm.findClass "com/example/coterie/coterie/engine/CodeSets" = some m.cls := findClass_of_methodNamed Bd.named
  have hnm := (name_of_methodNamed Bd.named Bd.method).1
  have X0 : Stand p l e ({ frames := 0, cells := 0, slots := 0, locals := 0 } : Room) s m #[(.ref a1), (.ref a2)] below meth c s₁ [] 0 0 := Stand.of_body Bd
  have e0 : s₁.heap = h0 := by rw [← hh, Bd.state]; rfl
  have N0 := Fr.nil n0
  have pre0 : ∀ t, Steps p.tables e below (s₁.setTop (mkF m 0 #[.val (.ref a1), .val (.ref a2), .unset, .unset] [])) t → Steps p.tables e below (s₁.setTop (entryFrame m #[(.ref a1), (.ref a2)] 4)) t := fun t k => castTop (ef_1_2 m a1 a2) k
  obtain ⟨cl0a, Ar0a, q0a, S0a, M0a, H0a, G0a⟩ := V1
  obtain ⟨cl0b, Ar0b, q0b, S0b, M0b, H0b, G0b⟩ := V2
  have jc0 : ∀ t, Steps p.tables e below (s₁.setTop (mkF m 32 #[.val (.ref a1), .val (.ref a2), .val (.int (0 : Int32)), .val (.int (0 : Int32))] [(.int (own_c s0 t0)), (.int (0 : Int32))])) t → Steps p.tables e below (s₁.setTop (mkF m 24 #[.val (.ref a1), .val (.ref a2), .val (.int (0 : Int32)), .val (.int (0 : Int32))] [(.int (lcmpW (t0 &&& (s0 ^^^ (-1 : Int64))) (0 : Int64))), (.int (0 : Int32))])) t := by
    intro t kt
    by_cases hc : (t0 &&& (s0 ^^^ (-1 : Int64))) = (0 : Int64)
    · have hv : own_c s0 t0 = 0 := if_pos hc
      rw [hv] at kt
      show Steps p.tables e below (s₁.setTop (mkF m 24 #[.val (.ref a1), .val (.ref a2), .val (.int (0 : Int32)), .val (.int (0 : Int32))] [(.int (lcmpW (t0 &&& (s0 ^^^ (-1 : Int64))) (0 : Int64))), (.int (0 : Int32))])) _
      refine XS.ifYes X0.here hx rfl (pc0 := 24) (pc' := 31) rfl (hb hby d1_24) rfl ((if0 _ _).trans (teq ((lw_eq _ _).mpr hc : (lcmpW (t0 &&& (s0 ^^^ (-1 : Int64))) (0 : Int64)) = (0 : Int32))).1) (by decide) (by decide) ?_
      show Steps p.tables e below (s₁.setTop (mkF m 31 #[.val (.ref a1), .val (.ref a2), .val (.int (0 : Int32)), .val (.int (0 : Int32))] [(.int (0 : Int32))])) _
      refine XS.iconst X0.here hx rfl (hb hby d1_31) ?_
      exact kt
    · have hv : own_c s0 t0 = 1 := if_neg hc
      rw [hv] at kt
      show Steps p.tables e below (s₁.setTop (mkF m 24 #[.val (.ref a1), .val (.ref a2), .val (.int (0 : Int32)), .val (.int (0 : Int32))] [(.int (lcmpW (t0 &&& (s0 ^^^ (-1 : Int64))) (0 : Int64))), (.int (0 : Int32))])) _
      refine XS.ifNo X0.here hx rfl (hb hby d1_24) rfl ((if0 _ _).trans (feq (fun q => hc ((lw_eq _ _).mp q) : ¬ ((lcmpW (t0 &&& (s0 ^^^ (-1 : Int64))) (0 : Int64)) = (0 : Int32)))).1) ?_
      show Steps p.tables e below (s₁.setTop (mkF m 27 #[.val (.ref a1), .val (.ref a2), .val (.int (0 : Int32)), .val (.int (0 : Int32))] [(.int (0 : Int32))])) _
      refine XS.iconst X0.here hx rfl (hb hby d1_27) ?_
      show Steps p.tables e below (s₁.setTop (mkF m 28 #[.val (.ref a1), .val (.ref a2), .val (.int (0 : Int32)), .val (.int (0 : Int32))] [(.int (1 : Int32)), (.int (0 : Int32))])) _
      refine XS.goto X0.here hx rfl (pc0 := 28) (pc' := 32) rfl (hb hby d1_28) (by decide) (by decide) ?_
      exact kt
  obtain ⟨T2, h2, X2, e2, W2, st2⟩ := stJ X0 hx hZ e0 Ar0a (j := (0 : Int32)) (inb_of S0a ⟨by decide, by decide⟩) (g := (mkF m 42 #[.val (.ref a1), .val (.ref a2), .val (.int ((0 : Int32) ||| (own_c s0 t0))), .val (.int (0 : Int32))] [(.long (s0 ||| t0)), (.int (0 : Int32)), (.ref a1)])) rfl rfl (hb hby d1_42)
  have N2 := Fr.snoc X2 N0 g_a1
  have Z2 : n0 ≤ h2.size := Nat.le_trans Z0 (Keep.of_wr W2).1
  have V1_0 : Arv Z h2 a1 ka .long (2 : Int32) [(.long (s0 ||| t0)), (.long s1)] (.long (0 : Int64)) := Arv.set Ar0a q0a S0a M0a H0a G0a rfl W2 0 rfl (Nat.le_of_ble_eq_true rfl)
  have V2_0 : Arv Z h2 a2 kb .long (2 : Int32) [(.long t0), (.long t1)] (.long (0 : Int64)) := Arv.other ⟨cl0b, Ar0b, q0b, S0b, M0b, H0b, G0b⟩ W2 (Ne.symm ne)
  have K_0 : Keep h0 h2 [a1] := Keep.wr (Keep.refl h0 [a1]) W2 (Or.inl (List.mem_of_getElem? (i := 0) rfl))
  obtain ⟨cl1a, Ar1a, q1a, S1a, M1a, H1a, G1a⟩ := V1_0
  obtain ⟨cl1b, Ar1b, q1b, S1b, M1b, H1b, G1b⟩ := V2_0
  have jc1 : ∀ t, Steps p.tables e below (T2.setTop (mkF m 32 #[.val (.ref a1), .val (.ref a2), .val (.int ((0 : Int32) ||| (own_c s0 t0))), .val (.int (1 : Int32))] [(.int (own_c s1 t1)), (.int ((0 : Int32) ||| (own_c s0 t0)))])) t → Steps p.tables e below (T2.setTop (mkF m 24 #[.val (.ref a1), .val (.ref a2), .val (.int ((0 : Int32) ||| (own_c s0 t0))), .val (.int (1 : Int32))] [(.int (lcmpW (t1 &&& (s1 ^^^ (-1 : Int64))) (0 : Int64))), (.int ((0 : Int32) ||| (own_c s0 t0)))])) t := by
    intro t kt
    by_cases hc : (t1 &&& (s1 ^^^ (-1 : Int64))) = (0 : Int64)
    · have hv : own_c s1 t1 = 0 := if_pos hc
      rw [hv] at kt
      show Steps p.tables e below (T2.setTop (mkF m 24 #[.val (.ref a1), .val (.ref a2), .val (.int ((0 : Int32) ||| (own_c s0 t0))), .val (.int (1 : Int32))] [(.int (lcmpW (t1 &&& (s1 ^^^ (-1 : Int64))) (0 : Int64))), (.int ((0 : Int32) ||| (own_c s0 t0)))])) _
      refine XS.ifYes X2.here hx rfl (pc0 := 24) (pc' := 31) rfl (hb hby d1_24) rfl ((if0 _ _).trans (teq ((lw_eq _ _).mpr hc : (lcmpW (t1 &&& (s1 ^^^ (-1 : Int64))) (0 : Int64)) = (0 : Int32))).1) (by decide) (by decide) ?_
      show Steps p.tables e below (T2.setTop (mkF m 31 #[.val (.ref a1), .val (.ref a2), .val (.int ((0 : Int32) ||| (own_c s0 t0))), .val (.int (1 : Int32))] [(.int ((0 : Int32) ||| (own_c s0 t0)))])) _
      refine XS.iconst X2.here hx rfl (hb hby d1_31) ?_
      exact kt
    · have hv : own_c s1 t1 = 1 := if_neg hc
      rw [hv] at kt
      show Steps p.tables e below (T2.setTop (mkF m 24 #[.val (.ref a1), .val (.ref a2), .val (.int ((0 : Int32) ||| (own_c s0 t0))), .val (.int (1 : Int32))] [(.int (lcmpW (t1 &&& (s1 ^^^ (-1 : Int64))) (0 : Int64))), (.int ((0 : Int32) ||| (own_c s0 t0)))])) _
      refine XS.ifNo X2.here hx rfl (hb hby d1_24) rfl ((if0 _ _).trans (feq (fun q => hc ((lw_eq _ _).mp q) : ¬ ((lcmpW (t1 &&& (s1 ^^^ (-1 : Int64))) (0 : Int64)) = (0 : Int32)))).1) ?_
      show Steps p.tables e below (T2.setTop (mkF m 27 #[.val (.ref a1), .val (.ref a2), .val (.int ((0 : Int32) ||| (own_c s0 t0))), .val (.int (1 : Int32))] [(.int ((0 : Int32) ||| (own_c s0 t0)))])) _
      refine XS.iconst X2.here hx rfl (hb hby d1_27) ?_
      show Steps p.tables e below (T2.setTop (mkF m 28 #[.val (.ref a1), .val (.ref a2), .val (.int ((0 : Int32) ||| (own_c s0 t0))), .val (.int (1 : Int32))] [(.int (1 : Int32)), (.int ((0 : Int32) ||| (own_c s0 t0)))])) _
      refine XS.goto X2.here hx rfl (pc0 := 28) (pc' := 32) rfl (hb hby d1_28) (by decide) (by decide) ?_
      exact kt
  obtain ⟨T3, h3, X3, e3, W3, st3⟩ := stJ X2 hx hZ e2 Ar1a (j := (1 : Int32)) (inb_of S1a ⟨by decide, by decide⟩) (g := (mkF m 42 #[.val (.ref a1), .val (.ref a2), .val (.int (((0 : Int32) ||| (own_c s0 t0)) ||| (own_c s1 t1))), .val (.int (1 : Int32))] [(.long (s1 ||| t1)), (.int (1 : Int32)), (.ref a1)])) rfl rfl (hb hby d1_42)
  have N3 := Fr.snoc X3 N2 g_a1
  have Z3 : n0 ≤ h3.size := Nat.le_trans Z2 (Keep.of_wr W3).1
  have V1_1 : Arv Z h3 a1 ka .long (2 : Int32) [(.long (s0 ||| t0)), (.long (s1 ||| t1))] (.long (0 : Int64)) := Arv.set Ar1a q1a S1a M1a H1a G1a rfl W3 1 rfl (Nat.le_of_ble_eq_true rfl)
  have V2_1 : Arv Z h3 a2 kb .long (2 : Int32) [(.long t0), (.long t1)] (.long (0 : Int64)) := Arv.other ⟨cl1b, Ar1b, q1b, S1b, M1b, H1b, G1b⟩ W3 (Ne.symm ne)
  have K_1 : Keep h0 h3 [a1] := Keep.wr K_0 W3 (Or.inl (List.mem_of_getElem? (i := 0) rfl))
  obtain ⟨cl2a, Ar2a, q2a, S2a, M2a, H2a, G2a⟩ := V1_1
  obtain ⟨cl2b, Ar2b, q2b, S2b, M2b, H2b, G2b⟩ := V2_1
  obtain ⟨fs, hr, hrun, hended, hW, hsame⟩ := X3.leave (v := some (.int (((0 : Int32) ||| (own_c s0 t0)) ||| (own_c s1 t1)))) (fun h => by rw [Bd.returns] at h; cases h)
  refine ⟨_, _, pre0 _ ?_, hrun, hended, _, _, rfl, ?_, ⟨_, rfl⟩, hW, hsame.mono (by decide) (by decide)⟩
  · show Steps p.tables e below (s₁.setTop (mkF m 0 #[.val (.ref a1), .val (.ref a2), .unset, .unset] [])) _
    refine XS.iconst X0.here hx rfl (hb hby d1_0) ?_
    show Steps p.tables e below (s₁.setTop (mkF m 1 #[.val (.ref a1), .val (.ref a2), .unset, .unset] [(.int (0 : Int32))])) _
    refine XS.istoreN X0.here hx rfl (hb hby d1_1) rfl (l' := #[.val (.ref a1), .val (.ref a2), .val (.int (0 : Int32)), .unset]) rfl ?_
    show Steps p.tables e below (s₁.setTop (mkF m 2 #[.val (.ref a1), .val (.ref a2), .val (.int (0 : Int32)), .unset] [])) _
    refine XS.iconst X0.here hx rfl (hb hby d1_2) ?_
    show Steps p.tables e below (s₁.setTop (mkF m 3 #[.val (.ref a1), .val (.ref a2), .val (.int (0 : Int32)), .unset] [(.int (0 : Int32))])) _
    refine XS.istoreN X0.here hx rfl (hb hby d1_3) rfl (l' := #[.val (.ref a1), .val (.ref a2), .val (.int (0 : Int32)), .val (.int (0 : Int32))]) rfl ?_
    show Steps p.tables e below (s₁.setTop (mkF m 4 #[.val (.ref a1), .val (.ref a2), .val (.int (0 : Int32)), .val (.int (0 : Int32))] [])) _
    refine XS.iloadN X0.here hx rfl (hb hby d1_4) rfl ?_
    show Steps p.tables e below (s₁.setTop (mkF m 5 #[.val (.ref a1), .val (.ref a2), .val (.int (0 : Int32)), .val (.int (0 : Int32))] [(.int (0 : Int32))])) _
    refine XS.aloadN X0.here hx rfl (hb hby d1_5) rfl rfl ?_
    show Steps p.tables e below (s₁.setTop (mkF m 6 #[.val (.ref a1), .val (.ref a2), .val (.int (0 : Int32)), .val (.int (0 : Int32))] [(.ref a1), (.int (0 : Int32))])) _
    refine X0.arraylength hx (by rw [e0]; exact Ar0a.1) (State.isArrayOf_alike hZ.alike Ar0a.2.1) (g := (mkF m 6 #[.val (.ref a1), .val (.ref a2), .val (.int (0 : Int32)), .val (.int (0 : Int32))] [(.ref a1), (.int (0 : Int32))])) rfl rfl (hb hby d1_6) _ ?_
    rw [len_of S0a M0a]
    show Steps p.tables e below (s₁.setTop (mkF m 7 #[.val (.ref a1), .val (.ref a2), .val (.int (0 : Int32)), .val (.int (0 : Int32))] [(.int (2 : Int32)), (.int (0 : Int32))])) _
    refine XS.icmpNo X0.here hx rfl (hb hby d1_7) rfl (tlt (by decide : (0 : Int32) < (2 : Int32))).2.1 ?_
    show Steps p.tables e below (s₁.setTop (mkF m 10 #[.val (.ref a1), .val (.ref a2), .val (.int (0 : Int32)), .val (.int (0 : Int32))] [])) _
    refine XS.iloadN X0.here hx rfl (hb hby d1_10) rfl ?_
    show Steps p.tables e below (s₁.setTop (mkF m 11 #[.val (.ref a1), .val (.ref a2), .val (.int (0 : Int32)), .val (.int (0 : Int32))] [(.int (0 : Int32))])) _
    refine XS.aloadN X0.here hx rfl (hb hby d1_11) rfl rfl ?_
    show Steps p.tables e below (s₁.setTop (mkF m 12 #[.val (.ref a1), .val (.ref a2), .val (.int (0 : Int32)), .val (.int (0 : Int32))] [(.ref a2), (.int (0 : Int32))])) _
    refine XS.iloadN X0.here hx rfl (hb hby d1_12) rfl ?_
    show Steps p.tables e below (s₁.setTop (mkF m 13 #[.val (.ref a1), .val (.ref a2), .val (.int (0 : Int32)), .val (.int (0 : Int32))] [(.int (0 : Int32)), (.ref a2), (.int (0 : Int32))])) _
    refine X0.laload hx (j := (0 : Int32)) (v := (.long t0)) (by rw [e0]; exact Ar0b.1) (State.isArrayOf_alike hZ.alike Ar0b.2.1) Ar0b.2.2 (inb_of S0b ⟨by decide, by decide⟩) (Has.at H0b (inb_of S0b ⟨by decide, by decide⟩) rfl) (g := (mkF m 13 #[.val (.ref a1), .val (.ref a2), .val (.int (0 : Int32)), .val (.int (0 : Int32))] [(.int (0 : Int32)), (.ref a2), (.int (0 : Int32))])) rfl rfl (hb hby d1_13) _ ?_
    show Steps p.tables e below (s₁.setTop (mkF m 14 #[.val (.ref a1), .val (.ref a2), .val (.int (0 : Int32)), .val (.int (0 : Int32))] [(.long t0), (.int (0 : Int32))])) _
    refine XS.aloadN X0.here hx rfl (hb hby d1_14) rfl rfl ?_
    show Steps p.tables e below (s₁.setTop (mkF m 15 #[.val (.ref a1), .val (.ref a2), .val (.int (0 : Int32)), .val (.int (0 : Int32))] [(.ref a1), (.long t0), (.int (0 : Int32))])) _
    refine XS.iloadN X0.here hx rfl (hb hby d1_15) rfl ?_
    show Steps p.tables e below (s₁.setTop (mkF m 16 #[.val (.ref a1), .val (.ref a2), .val (.int (0 : Int32)), .val (.int (0 : Int32))] [(.int (0 : Int32)), (.ref a1), (.long t0), (.int (0 : Int32))])) _
    refine X0.laload hx (j := (0 : Int32)) (v := (.long s0)) (by rw [e0]; exact Ar0a.1) (State.isArrayOf_alike hZ.alike Ar0a.2.1) Ar0a.2.2 (inb_of S0a ⟨by decide, by decide⟩) (Has.at H0a (inb_of S0a ⟨by decide, by decide⟩) rfl) (g := (mkF m 16 #[.val (.ref a1), .val (.ref a2), .val (.int (0 : Int32)), .val (.int (0 : Int32))] [(.int (0 : Int32)), (.ref a1), (.long t0), (.int (0 : Int32))])) rfl rfl (hb hby d1_16) _ ?_
    show Steps p.tables e below (s₁.setTop (mkF m 17 #[.val (.ref a1), .val (.ref a2), .val (.int (0 : Int32)), .val (.int (0 : Int32))] [(.long s0), (.long t0), (.int (0 : Int32))])) _
    refine X0.ldc2Long hx hown (mvT hZ (hw _ (List.mem_of_getElem? (i := 6) rfl))) (g := (mkF m 17 #[.val (.ref a1), .val (.ref a2), .val (.int (0 : Int32)), .val (.int (0 : Int32))] [(.long s0), (.long t0), (.int (0 : Int32))])) rfl (hb hby d1_17) _ ?_
    show Steps p.tables e below (s₁.setTop (mkF m 20 #[.val (.ref a1), .val (.ref a2), .val (.int (0 : Int32)), .val (.int (0 : Int32))] [(.long (-1 : Int64)), (.long s0), (.long t0), (.int (0 : Int32))])) _
    refine XS.lxor X0.here hx rfl (hb hby d1_20) rfl ?_
    show Steps p.tables e below (s₁.setTop (mkF m 21 #[.val (.ref a1), .val (.ref a2), .val (.int (0 : Int32)), .val (.int (0 : Int32))] [(.long (s0 ^^^ (-1 : Int64))), (.long t0), (.int (0 : Int32))])) _
    refine XS.land X0.here hx rfl (hb hby d1_21) rfl ?_
    show Steps p.tables e below (s₁.setTop (mkF m 22 #[.val (.ref a1), .val (.ref a2), .val (.int (0 : Int32)), .val (.int (0 : Int32))] [(.long (t0 &&& (s0 ^^^ (-1 : Int64)))), (.int (0 : Int32))])) _
    refine XS.lconst X0.here hx rfl (hb hby d1_22) ?_
    show Steps p.tables e below (s₁.setTop (mkF m 23 #[.val (.ref a1), .val (.ref a2), .val (.int (0 : Int32)), .val (.int (0 : Int32))] [(.long (0 : Int64)), (.long (t0 &&& (s0 ^^^ (-1 : Int64)))), (.int (0 : Int32))])) _
    refine XS.lcmp X0.here hx rfl (hb hby d1_23) rfl ?_
    show Steps p.tables e below (s₁.setTop (mkF m 24 #[.val (.ref a1), .val (.ref a2), .val (.int (0 : Int32)), .val (.int (0 : Int32))] [(.int (lcmpW (t0 &&& (s0 ^^^ (-1 : Int64))) (0 : Int64))), (.int (0 : Int32))])) _
    refine jc0 _ ?_
    show Steps p.tables e below (s₁.setTop (mkF m 32 #[.val (.ref a1), .val (.ref a2), .val (.int (0 : Int32)), .val (.int (0 : Int32))] [(.int (own_c s0 t0)), (.int (0 : Int32))])) _
    refine XS.ior X0.here hx rfl (hb hby d1_32) rfl ?_
    show Steps p.tables e below (s₁.setTop (mkF m 33 #[.val (.ref a1), .val (.ref a2), .val (.int (0 : Int32)), .val (.int (0 : Int32))] [(.int ((0 : Int32) ||| (own_c s0 t0)))])) _
    refine XS.istoreN X0.here hx rfl (hb hby d1_33) rfl (l' := #[.val (.ref a1), .val (.ref a2), .val (.int ((0 : Int32) ||| (own_c s0 t0))), .val (.int (0 : Int32))]) rfl ?_
    show Steps p.tables e below (s₁.setTop (mkF m 34 #[.val (.ref a1), .val (.ref a2), .val (.int ((0 : Int32) ||| (own_c s0 t0))), .val (.int (0 : Int32))] [])) _
    refine XS.aloadN X0.here hx rfl (hb hby d1_34) rfl rfl ?_
    show Steps p.tables e below (s₁.setTop (mkF m 35 #[.val (.ref a1), .val (.ref a2), .val (.int ((0 : Int32) ||| (own_c s0 t0))), .val (.int (0 : Int32))] [(.ref a1)])) _
    refine XS.iloadN X0.here hx rfl (hb hby d1_35) rfl ?_
    show Steps p.tables e below (s₁.setTop (mkF m 36 #[.val (.ref a1), .val (.ref a2), .val (.int ((0 : Int32) ||| (own_c s0 t0))), .val (.int (0 : Int32))] [(.int (0 : Int32)), (.ref a1)])) _
    refine XT.dup2 X0.here hx rfl (hb hby d1_36) rfl rfl rfl ?_
    show Steps p.tables e below (s₁.setTop (mkF m 37 #[.val (.ref a1), .val (.ref a2), .val (.int ((0 : Int32) ||| (own_c s0 t0))), .val (.int (0 : Int32))] [(.int (0 : Int32)), (.ref a1), (.int (0 : Int32)), (.ref a1)])) _
    refine X0.laload hx (j := (0 : Int32)) (v := (.long s0)) (by rw [e0]; exact Ar0a.1) (State.isArrayOf_alike hZ.alike Ar0a.2.1) Ar0a.2.2 (inb_of S0a ⟨by decide, by decide⟩) (Has.at H0a (inb_of S0a ⟨by decide, by decide⟩) rfl) (g := (mkF m 37 #[.val (.ref a1), .val (.ref a2), .val (.int ((0 : Int32) ||| (own_c s0 t0))), .val (.int (0 : Int32))] [(.int (0 : Int32)), (.ref a1), (.int (0 : Int32)), (.ref a1)])) rfl rfl (hb hby d1_37) _ ?_
    show Steps p.tables e below (s₁.setTop (mkF m 38 #[.val (.ref a1), .val (.ref a2), .val (.int ((0 : Int32) ||| (own_c s0 t0))), .val (.int (0 : Int32))] [(.long s0), (.int (0 : Int32)), (.ref a1)])) _
    refine XS.aloadN X0.here hx rfl (hb hby d1_38) rfl rfl ?_
    show Steps p.tables e below (s₁.setTop (mkF m 39 #[.val (.ref a1), .val (.ref a2), .val (.int ((0 : Int32) ||| (own_c s0 t0))), .val (.int (0 : Int32))] [(.ref a2), (.long s0), (.int (0 : Int32)), (.ref a1)])) _
    refine XS.iloadN X0.here hx rfl (hb hby d1_39) rfl ?_
    show Steps p.tables e below (s₁.setTop (mkF m 40 #[.val (.ref a1), .val (.ref a2), .val (.int ((0 : Int32) ||| (own_c s0 t0))), .val (.int (0 : Int32))] [(.int (0 : Int32)), (.ref a2), (.long s0), (.int (0 : Int32)), (.ref a1)])) _
    refine X0.laload hx (j := (0 : Int32)) (v := (.long t0)) (by rw [e0]; exact Ar0b.1) (State.isArrayOf_alike hZ.alike Ar0b.2.1) Ar0b.2.2 (inb_of S0b ⟨by decide, by decide⟩) (Has.at H0b (inb_of S0b ⟨by decide, by decide⟩) rfl) (g := (mkF m 40 #[.val (.ref a1), .val (.ref a2), .val (.int ((0 : Int32) ||| (own_c s0 t0))), .val (.int (0 : Int32))] [(.int (0 : Int32)), (.ref a2), (.long s0), (.int (0 : Int32)), (.ref a1)])) rfl rfl (hb hby d1_40) _ ?_
    show Steps p.tables e below (s₁.setTop (mkF m 41 #[.val (.ref a1), .val (.ref a2), .val (.int ((0 : Int32) ||| (own_c s0 t0))), .val (.int (0 : Int32))] [(.long t0), (.long s0), (.int (0 : Int32)), (.ref a1)])) _
    refine XS.lor X0.here hx rfl (hb hby d1_41) rfl ?_
    show Steps p.tables e below (s₁.setTop (mkF m 42 #[.val (.ref a1), .val (.ref a2), .val (.int ((0 : Int32) ||| (own_c s0 t0))), .val (.int (0 : Int32))] [(.long (s0 ||| t0)), (.int (0 : Int32)), (.ref a1)])) _
    refine st2 _ ?_
    show Steps p.tables e below (T2.setTop (mkF m 43 #[.val (.ref a1), .val (.ref a2), .val (.int ((0 : Int32) ||| (own_c s0 t0))), .val (.int (0 : Int32))] [])) _
    refine XS.iinc X2.here hx rfl (hb hby d1_43) rfl (l' := #[.val (.ref a1), .val (.ref a2), .val (.int ((0 : Int32) ||| (own_c s0 t0))), .val (.int (1 : Int32))]) rfl ?_
    show Steps p.tables e below (T2.setTop (mkF m 46 #[.val (.ref a1), .val (.ref a2), .val (.int ((0 : Int32) ||| (own_c s0 t0))), .val (.int (1 : Int32))] [])) _
    refine XS.goto X2.here hx rfl (pc0 := 46) (pc' := 4) rfl (hb hby d1_46) (by decide) (by decide) ?_
    show Steps p.tables e below (T2.setTop (mkF m 4 #[.val (.ref a1), .val (.ref a2), .val (.int ((0 : Int32) ||| (own_c s0 t0))), .val (.int (1 : Int32))] [])) _
    refine XS.iloadN X2.here hx rfl (hb hby d1_4) rfl ?_
    show Steps p.tables e below (T2.setTop (mkF m 5 #[.val (.ref a1), .val (.ref a2), .val (.int ((0 : Int32) ||| (own_c s0 t0))), .val (.int (1 : Int32))] [(.int (1 : Int32))])) _
    refine XS.aloadN X2.here hx rfl (hb hby d1_5) rfl rfl ?_
    show Steps p.tables e below (T2.setTop (mkF m 6 #[.val (.ref a1), .val (.ref a2), .val (.int ((0 : Int32) ||| (own_c s0 t0))), .val (.int (1 : Int32))] [(.ref a1), (.int (1 : Int32))])) _
    refine X2.arraylength hx (by rw [e2]; exact Ar1a.1) (State.isArrayOf_alike hZ.alike Ar1a.2.1) (g := (mkF m 6 #[.val (.ref a1), .val (.ref a2), .val (.int ((0 : Int32) ||| (own_c s0 t0))), .val (.int (1 : Int32))] [(.ref a1), (.int (1 : Int32))])) rfl rfl (hb hby d1_6) _ ?_
    rw [len_of S1a M1a]
    show Steps p.tables e below (T2.setTop (mkF m 7 #[.val (.ref a1), .val (.ref a2), .val (.int ((0 : Int32) ||| (own_c s0 t0))), .val (.int (1 : Int32))] [(.int (2 : Int32)), (.int (1 : Int32))])) _
    refine XS.icmpNo X2.here hx rfl (hb hby d1_7) rfl (tlt (by decide : (1 : Int32) < (2 : Int32))).2.1 ?_
    show Steps p.tables e below (T2.setTop (mkF m 10 #[.val (.ref a1), .val (.ref a2), .val (.int ((0 : Int32) ||| (own_c s0 t0))), .val (.int (1 : Int32))] [])) _
    refine XS.iloadN X2.here hx rfl (hb hby d1_10) rfl ?_
    show Steps p.tables e below (T2.setTop (mkF m 11 #[.val (.ref a1), .val (.ref a2), .val (.int ((0 : Int32) ||| (own_c s0 t0))), .val (.int (1 : Int32))] [(.int ((0 : Int32) ||| (own_c s0 t0)))])) _
    refine XS.aloadN X2.here hx rfl (hb hby d1_11) rfl rfl ?_
    show Steps p.tables e below (T2.setTop (mkF m 12 #[.val (.ref a1), .val (.ref a2), .val (.int ((0 : Int32) ||| (own_c s0 t0))), .val (.int (1 : Int32))] [(.ref a2), (.int ((0 : Int32) ||| (own_c s0 t0)))])) _
    refine XS.iloadN X2.here hx rfl (hb hby d1_12) rfl ?_
    show Steps p.tables e below (T2.setTop (mkF m 13 #[.val (.ref a1), .val (.ref a2), .val (.int ((0 : Int32) ||| (own_c s0 t0))), .val (.int (1 : Int32))] [(.int (1 : Int32)), (.ref a2), (.int ((0 : Int32) ||| (own_c s0 t0)))])) _
    refine X2.laload hx (j := (1 : Int32)) (v := (.long t1)) (by rw [e2]; exact Ar1b.1) (State.isArrayOf_alike hZ.alike Ar1b.2.1) Ar1b.2.2 (inb_of S1b ⟨by decide, by decide⟩) (Has.at H1b (inb_of S1b ⟨by decide, by decide⟩) rfl) (g := (mkF m 13 #[.val (.ref a1), .val (.ref a2), .val (.int ((0 : Int32) ||| (own_c s0 t0))), .val (.int (1 : Int32))] [(.int (1 : Int32)), (.ref a2), (.int ((0 : Int32) ||| (own_c s0 t0)))])) rfl rfl (hb hby d1_13) _ ?_
    show Steps p.tables e below (T2.setTop (mkF m 14 #[.val (.ref a1), .val (.ref a2), .val (.int ((0 : Int32) ||| (own_c s0 t0))), .val (.int (1 : Int32))] [(.long t1), (.int ((0 : Int32) ||| (own_c s0 t0)))])) _
    refine XS.aloadN X2.here hx rfl (hb hby d1_14) rfl rfl ?_
    show Steps p.tables e below (T2.setTop (mkF m 15 #[.val (.ref a1), .val (.ref a2), .val (.int ((0 : Int32) ||| (own_c s0 t0))), .val (.int (1 : Int32))] [(.ref a1), (.long t1), (.int ((0 : Int32) ||| (own_c s0 t0)))])) _
    refine XS.iloadN X2.here hx rfl (hb hby d1_15) rfl ?_
    show Steps p.tables e below (T2.setTop (mkF m 16 #[.val (.ref a1), .val (.ref a2), .val (.int ((0 : Int32) ||| (own_c s0 t0))), .val (.int (1 : Int32))] [(.int (1 : Int32)), (.ref a1), (.long t1), (.int ((0 : Int32) ||| (own_c s0 t0)))])) _
    refine X2.laload hx (j := (1 : Int32)) (v := (.long s1)) (by rw [e2]; exact Ar1a.1) (State.isArrayOf_alike hZ.alike Ar1a.2.1) Ar1a.2.2 (inb_of S1a ⟨by decide, by decide⟩) (Has.at H1a (inb_of S1a ⟨by decide, by decide⟩) rfl) (g := (mkF m 16 #[.val (.ref a1), .val (.ref a2), .val (.int ((0 : Int32) ||| (own_c s0 t0))), .val (.int (1 : Int32))] [(.int (1 : Int32)), (.ref a1), (.long t1), (.int ((0 : Int32) ||| (own_c s0 t0)))])) rfl rfl (hb hby d1_16) _ ?_
    show Steps p.tables e below (T2.setTop (mkF m 17 #[.val (.ref a1), .val (.ref a2), .val (.int ((0 : Int32) ||| (own_c s0 t0))), .val (.int (1 : Int32))] [(.long s1), (.long t1), (.int ((0 : Int32) ||| (own_c s0 t0)))])) _
    refine X2.ldc2Long hx hown (mvT hZ (hw _ (List.mem_of_getElem? (i := 6) rfl))) (g := (mkF m 17 #[.val (.ref a1), .val (.ref a2), .val (.int ((0 : Int32) ||| (own_c s0 t0))), .val (.int (1 : Int32))] [(.long s1), (.long t1), (.int ((0 : Int32) ||| (own_c s0 t0)))])) rfl (hb hby d1_17) _ ?_
    show Steps p.tables e below (T2.setTop (mkF m 20 #[.val (.ref a1), .val (.ref a2), .val (.int ((0 : Int32) ||| (own_c s0 t0))), .val (.int (1 : Int32))] [(.long (-1 : Int64)), (.long s1), (.long t1), (.int ((0 : Int32) ||| (own_c s0 t0)))])) _
    refine XS.lxor X2.here hx rfl (hb hby d1_20) rfl ?_
    show Steps p.tables e below (T2.setTop (mkF m 21 #[.val (.ref a1), .val (.ref a2), .val (.int ((0 : Int32) ||| (own_c s0 t0))), .val (.int (1 : Int32))] [(.long (s1 ^^^ (-1 : Int64))), (.long t1), (.int ((0 : Int32) ||| (own_c s0 t0)))])) _
    refine XS.land X2.here hx rfl (hb hby d1_21) rfl ?_
    show Steps p.tables e below (T2.setTop (mkF m 22 #[.val (.ref a1), .val (.ref a2), .val (.int ((0 : Int32) ||| (own_c s0 t0))), .val (.int (1 : Int32))] [(.long (t1 &&& (s1 ^^^ (-1 : Int64)))), (.int ((0 : Int32) ||| (own_c s0 t0)))])) _
    refine XS.lconst X2.here hx rfl (hb hby d1_22) ?_
    show Steps p.tables e below (T2.setTop (mkF m 23 #[.val (.ref a1), .val (.ref a2), .val (.int ((0 : Int32) ||| (own_c s0 t0))), .val (.int (1 : Int32))] [(.long (0 : Int64)), (.long (t1 &&& (s1 ^^^ (-1 : Int64)))), (.int ((0 : Int32) ||| (own_c s0 t0)))])) _
    refine XS.lcmp X2.here hx rfl (hb hby d1_23) rfl ?_
    show Steps p.tables e below (T2.setTop (mkF m 24 #[.val (.ref a1), .val (.ref a2), .val (.int ((0 : Int32) ||| (own_c s0 t0))), .val (.int (1 : Int32))] [(.int (lcmpW (t1 &&& (s1 ^^^ (-1 : Int64))) (0 : Int64))), (.int ((0 : Int32) ||| (own_c s0 t0)))])) _
    refine jc1 _ ?_
    show Steps p.tables e below (T2.setTop (mkF m 32 #[.val (.ref a1), .val (.ref a2), .val (.int ((0 : Int32) ||| (own_c s0 t0))), .val (.int (1 : Int32))] [(.int (own_c s1 t1)), (.int ((0 : Int32) ||| (own_c s0 t0)))])) _
    refine XS.ior X2.here hx rfl (hb hby d1_32) rfl ?_
    show Steps p.tables e below (T2.setTop (mkF m 33 #[.val (.ref a1), .val (.ref a2), .val (.int ((0 : Int32) ||| (own_c s0 t0))), .val (.int (1 : Int32))] [(.int (((0 : Int32) ||| (own_c s0 t0)) ||| (own_c s1 t1)))])) _
    refine XS.istoreN X2.here hx rfl (hb hby d1_33) rfl (l' := #[.val (.ref a1), .val (.ref a2), .val (.int (((0 : Int32) ||| (own_c s0 t0)) ||| (own_c s1 t1))), .val (.int (1 : Int32))]) rfl ?_
    show Steps p.tables e below (T2.setTop (mkF m 34 #[.val (.ref a1), .val (.ref a2), .val (.int (((0 : Int32) ||| (own_c s0 t0)) ||| (own_c s1 t1))), .val (.int (1 : Int32))] [])) _
    refine XS.aloadN X2.here hx rfl (hb hby d1_34) rfl rfl ?_
    show Steps p.tables e below (T2.setTop (mkF m 35 #[.val (.ref a1), .val (.ref a2), .val (.int (((0 : Int32) ||| (own_c s0 t0)) ||| (own_c s1 t1))), .val (.int (1 : Int32))] [(.ref a1)])) _
    refine XS.iloadN X2.here hx rfl (hb hby d1_35) rfl ?_
    show Steps p.tables e below (T2.setTop (mkF m 36 #[.val (.ref a1), .val (.ref a2), .val (.int (((0 : Int32) ||| (own_c s0 t0)) ||| (own_c s1 t1))), .val (.int (1 : Int32))] [(.int (1 : Int32)), (.ref a1)])) _
    refine XT.dup2 X2.here hx rfl (hb hby d1_36) rfl rfl rfl ?_
    show Steps p.tables e below (T2.setTop (mkF m 37 #[.val (.ref a1), .val (.ref a2), .val (.int (((0 : Int32) ||| (own_c s0 t0)) ||| (own_c s1 t1))), .val (.int (1 : Int32))] [(.int (1 : Int32)), (.ref a1), (.int (1 : Int32)), (.ref a1)])) _
    refine X2.laload hx (j := (1 : Int32)) (v := (.long s1)) (by rw [e2]; exact Ar1a.1) (State.isArrayOf_alike hZ.alike Ar1a.2.1) Ar1a.2.2 (inb_of S1a ⟨by decide, by decide⟩) (Has.at H1a (inb_of S1a ⟨by decide, by decide⟩) rfl) (g := (mkF m 37 #[.val (.ref a1), .val (.ref a2), .val (.int (((0 : Int32) ||| (own_c s0 t0)) ||| (own_c s1 t1))), .val (.int (1 : Int32))] [(.int (1 : Int32)), (.ref a1), (.int (1 : Int32)), (.ref a1)])) rfl rfl (hb hby d1_37) _ ?_
    show Steps p.tables e below (T2.setTop (mkF m 38 #[.val (.ref a1), .val (.ref a2), .val (.int (((0 : Int32) ||| (own_c s0 t0)) ||| (own_c s1 t1))), .val (.int (1 : Int32))] [(.long s1), (.int (1 : Int32)), (.ref a1)])) _
    refine XS.aloadN X2.here hx rfl (hb hby d1_38) rfl rfl ?_
    show Steps p.tables e below (T2.setTop (mkF m 39 #[.val (.ref a1), .val (.ref a2), .val (.int (((0 : Int32) ||| (own_c s0 t0)) ||| (own_c s1 t1))), .val (.int (1 : Int32))] [(.ref a2), (.long s1), (.int (1 : Int32)), (.ref a1)])) _
    refine XS.iloadN X2.here hx rfl (hb hby d1_39) rfl ?_
    show Steps p.tables e below (T2.setTop (mkF m 40 #[.val (.ref a1), .val (.ref a2), .val (.int (((0 : Int32) ||| (own_c s0 t0)) ||| (own_c s1 t1))), .val (.int (1 : Int32))] [(.int (1 : Int32)), (.ref a2), (.long s1), (.int (1 : Int32)), (.ref a1)])) _
    refine X2.laload hx (j := (1 : Int32)) (v := (.long t1)) (by rw [e2]; exact Ar1b.1) (State.isArrayOf_alike hZ.alike Ar1b.2.1) Ar1b.2.2 (inb_of S1b ⟨by decide, by decide⟩) (Has.at H1b (inb_of S1b ⟨by decide, by decide⟩) rfl) (g := (mkF m 40 #[.val (.ref a1), .val (.ref a2), .val (.int (((0 : Int32) ||| (own_c s0 t0)) ||| (own_c s1 t1))), .val (.int (1 : Int32))] [(.int (1 : Int32)), (.ref a2), (.long s1), (.int (1 : Int32)), (.ref a1)])) rfl rfl (hb hby d1_40) _ ?_
    show Steps p.tables e below (T2.setTop (mkF m 41 #[.val (.ref a1), .val (.ref a2), .val (.int (((0 : Int32) ||| (own_c s0 t0)) ||| (own_c s1 t1))), .val (.int (1 : Int32))] [(.long t1), (.long s1), (.int (1 : Int32)), (.ref a1)])) _
    refine XS.lor X2.here hx rfl (hb hby d1_41) rfl ?_
    show Steps p.tables e below (T2.setTop (mkF m 42 #[.val (.ref a1), .val (.ref a2), .val (.int (((0 : Int32) ||| (own_c s0 t0)) ||| (own_c s1 t1))), .val (.int (1 : Int32))] [(.long (s1 ||| t1)), (.int (1 : Int32)), (.ref a1)])) _
    refine st3 _ ?_
    show Steps p.tables e below (T3.setTop (mkF m 43 #[.val (.ref a1), .val (.ref a2), .val (.int (((0 : Int32) ||| (own_c s0 t0)) ||| (own_c s1 t1))), .val (.int (1 : Int32))] [])) _
    refine XS.iinc X3.here hx rfl (hb hby d1_43) rfl (l' := #[.val (.ref a1), .val (.ref a2), .val (.int (((0 : Int32) ||| (own_c s0 t0)) ||| (own_c s1 t1))), .val (.int (2 : Int32))]) rfl ?_
    show Steps p.tables e below (T3.setTop (mkF m 46 #[.val (.ref a1), .val (.ref a2), .val (.int (((0 : Int32) ||| (own_c s0 t0)) ||| (own_c s1 t1))), .val (.int (2 : Int32))] [])) _
    refine XS.goto X3.here hx rfl (pc0 := 46) (pc' := 4) rfl (hb hby d1_46) (by decide) (by decide) ?_
    show Steps p.tables e below (T3.setTop (mkF m 4 #[.val (.ref a1), .val (.ref a2), .val (.int (((0 : Int32) ||| (own_c s0 t0)) ||| (own_c s1 t1))), .val (.int (2 : Int32))] [])) _
    refine XS.iloadN X3.here hx rfl (hb hby d1_4) rfl ?_
    show Steps p.tables e below (T3.setTop (mkF m 5 #[.val (.ref a1), .val (.ref a2), .val (.int (((0 : Int32) ||| (own_c s0 t0)) ||| (own_c s1 t1))), .val (.int (2 : Int32))] [(.int (2 : Int32))])) _
    refine XS.aloadN X3.here hx rfl (hb hby d1_5) rfl rfl ?_
    show Steps p.tables e below (T3.setTop (mkF m 6 #[.val (.ref a1), .val (.ref a2), .val (.int (((0 : Int32) ||| (own_c s0 t0)) ||| (own_c s1 t1))), .val (.int (2 : Int32))] [(.ref a1), (.int (2 : Int32))])) _
    refine X3.arraylength hx (by rw [e3]; exact Ar2a.1) (State.isArrayOf_alike hZ.alike Ar2a.2.1) (g := (mkF m 6 #[.val (.ref a1), .val (.ref a2), .val (.int (((0 : Int32) ||| (own_c s0 t0)) ||| (own_c s1 t1))), .val (.int (2 : Int32))] [(.ref a1), (.int (2 : Int32))])) rfl rfl (hb hby d1_6) _ ?_
    rw [len_of S2a M2a]
    show Steps p.tables e below (T3.setTop (mkF m 7 #[.val (.ref a1), .val (.ref a2), .val (.int (((0 : Int32) ||| (own_c s0 t0)) ||| (own_c s1 t1))), .val (.int (2 : Int32))] [(.int (2 : Int32)), (.int (2 : Int32))])) _
    refine XS.icmpYes X3.here hx rfl (pc0 := 7) (pc' := 49) rfl (hb hby d1_7) rfl (flt (by decide : ¬ ((2 : Int32) < (2 : Int32)))).2.1 (by decide) (by decide) ?_
    show Steps p.tables e below (T3.setTop (mkF m 49 #[.val (.ref a1), .val (.ref a2), .val (.int (((0 : Int32) ||| (own_c s0 t0)) ||| (own_c s1 t1))), .val (.int (2 : Int32))] [])) _
    refine XS.iloadN X3.here hx rfl (hb hby d1_49) rfl ?_
    show Steps p.tables e below (T3.setTop (mkF m 50 #[.val (.ref a1), .val (.ref a2), .val (.int (((0 : Int32) ||| (own_c s0 t0)) ||| (own_c s1 t1))), .val (.int (2 : Int32))] [(.int (((0 : Int32) ||| (own_c s0 t0)) ||| (own_c s1 t1)))])) _
    exact retN X3 hx (t := .boolean) Bd.returns (by simp) (hb hby d1_50) (by rw [own_nar2 s0 t0 s1 t1]; exact hr)
  · show Q_1_2 Z a1 a2 ka kb s0 s1 t0 t1 h0 n0 _ T3.heap _
    rw [e3]
    exact ⟨rfl, N3, K_1, ⟨cl2a, Ar2a, q2a, S2a, M2a, H2a, G2a⟩⟩
theorem own_3 (P Q : Prop) : (P ∧ Q) ∨ (P ∧ ¬ Q) ∨ ¬ P := by
  by_cases p : P
  · by_cases q : Q
    · exact Or.inl ⟨p, q⟩
    · exact Or.inr (Or.inl ⟨p, q⟩)
  · exact Or.inr (Or.inr p)
theorem pd_0 : parseMethodDescriptor "([J[J)Z" = some ⟨[(.array .long), (.array .long)], some .boolean⟩ := by decide +kernel
set_option maxRecDepth 65536 in
set_option maxHeartbeats 40000000 in
theorem rd0 {p : Program} {l : Launch} {e : Env} {s : State} {m : MethodId} {args : Array Value} {below : List Frame} {meth : Method} {c : Code} {T0 : State} {locs : List Loc} {Z : State} {a0 : Array Value} {h0 : Heap} {n0 : Nat} (a0' a1' b0' b1' : Int64) (kk : Int32)
    (X0 : Stand p l e room_1 s m args below meth c T0 locs 0 0) (hx : p.tables.exec = Jvm.exec) (hZ : Z.Warmed39 s.vm) (hw : ∀ d ∈ tables_1, d.before a0 Z = true) (hby : c.code = code) (hml : c.maxLocals = 15) (hown : s.vm.findClass "com/example/coterie/coterie/engine/CodeSetsAddAllPinLaw" = some m.cls) (e0 : T0.heap = h0) (N0 : Fr n0 locs) (Z0 : n0 ≤ h0.size)  :
    ∃ (T' : State) (h' : Heap) (locs' : List Loc) (LL : Array Slot), Stand p l e room_1 s m args below meth c T' locs' 2 0 ∧ T'.heap = h' ∧ Fr n0 locs' ∧ n0 ≤ h'.size ∧ (True) ∧
      ∀ target, Steps p.tables e below (T'.setTop (mkF m 227 LL [(.int (1 : Int32))])) target → Steps p.tables e below (T0.setTop (mkF m 9 #[.val (.long a0'), .second, .val (.long a1'), .second, .val (.long b0'), .second, .val (.long b1'), .second, .val (.int kk), .val (.int (0 : Int32)), .unset, .unset, .unset, .unset, .unset] [])) target := by
  obtain ⟨T7, h7, k7, X7, e7, E7, A7, st7⟩ := newP X0 hx hZ (hw _ (List.mem_of_getElem? (i := 1) rfl)) e0 (g := (mkF m 11 #[.val (.long a0'), .second, .val (.long a1'), .second, .val (.long b0'), .second, .val (.long b1'), .second, .val (.int kk), .val (.int (0 : Int32)), .unset, .unset, .unset, .unset, .unset] [(.int (0 : Int32))])) rfl (hb hby at_11) rfl (by decide) (cap := 0) (by decide) (by decide) (by decide) (by decide)
  obtain ⟨st, g7⟩ : ∃ z, z = h0.size := ⟨_, rfl⟩
  rw [← g7] at A7 st7
  have g_st : n0 ≤ st := Nat.le_trans Z0 (Nat.le_of_eq g7.symm)
  have Z7 : n0 ≤ h7.size := Nat.le_trans Z0 E7.1
  have Vs0 : Arv Z h7 st k7 .long (0 : Int32) [] (.long (0 : Int64)) := Arv.new A7 (by decide)
  obtain ⟨T8, h8, k8, X8, e8, E8, A8, st8⟩ := newP X7 hx hZ (hw _ (List.mem_of_getElem? (i := 1) rfl)) e7 (g := (mkF m 17 #[.val (.long a0'), .second, .val (.long a1'), .second, .val (.long b0'), .second, .val (.long b1'), .second, .val (.int kk), .val (.int (0 : Int32)), .val (.ref st), .unset, .unset, .unset, .unset] [(.int (0 : Int32))])) rfl (hb hby at_17) rfl (by decide) (cap := 0) (by decide) (by decide) (by decide) (by decide)
  obtain ⟨mo, g8⟩ : ∃ z, z = h7.size := ⟨_, rfl⟩
  rw [← g8] at A8 st8
  have g_mo : n0 ≤ mo := Nat.le_trans Z7 (Nat.le_of_eq g8.symm)
  have Z8 : n0 ≤ h8.size := Nat.le_trans Z7 E8.1
  have ne : st ≠ mo := Nat.ne_of_lt (Nat.lt_of_lt_of_le Vs0.lt (Nat.le_of_eq g8.symm))
  have Vm0 : Arv Z h8 mo k8 .long (0 : Int32) [] (.long (0 : Int64)) := Arv.new A8 (by decide)
  have Vs1 : Arv Z h8 st k7 .long (0 : Int32) [] (.long (0 : Int64)) := (Vs0.ext E8).pad (pad_rep [] (.long (0 : Int64)) 0)
  have Vm1 : Arv Z h8 mo k8 .long (0 : Int32) [] (.long (0 : Int64)) := Vm0.pad (pad_rep [] (.long (0 : Int64)) 0)
  obtain ⟨_, _, ⟨T9, L9, k9, n9⟩, -, X9, ⟨Lc9, hQ9, l9, y9, z9⟩, st9⟩ := Jvm.LawKit.callS X8 hx (y := (⟨"com/example/coterie/coterie/engine/CodeSets", "addAll", "([J[J)Z"⟩ : MethodName)) hown (mvT hZ (hw _ (List.mem_of_getElem? (i := 2) rfl))) (mvT hZ (hw _ (List.mem_of_getElem? (i := 3) rfl))) (mvT hZ (hw _ (List.mem_of_getElem? (i := 4) rfl))) (mvT hZ (hw _ (List.mem_of_getElem? (i := 5) rfl))) (by decide) (backOf (W := 0) (rm_1_0 l Z a0 hw [] st mo k7 k8  h8 n0 Z8 Vs1 Vm1 ne g_st) hZ (hw _ (List.mem_of_getElem? (i := 5) rfl)) (hw _ (List.mem_of_getElem? (i := 4) rfl)) (by decide) (by decide)) (g := (mkF m 58 #[.val (.long a0'), .second, .val (.long a1'), .second, .val (.long b0'), .second, .val (.long b1'), .second, .val (.int kk), .val (.int (0 : Int32)), .val (.ref st), .val (.ref mo), .unset, .unset, .unset] [(.ref mo), (.ref st)])) rfl (by rw [hml]; rfl) (argsL := [(.ref st), (.ref mo)]) (rest := []) (lenOf pd_0 rfl) rfl (by show 2 * 0 + _ ≤ _; exact Nat.le_of_eq rfl) (hb hby at_58) (fun _ _ => ⟨rfl, e8, (by decide : 2 + 0 ≤ _), (by decide : 0 + 0 ≤ _)⟩)
  dsimp only [Pt.U, Pt.locs, Pt.cells, Pt.slots] at X9 l9 y9 z9 st9 hQ9
  subst l9 y9 z9
  obtain ⟨rfl, N9q, K1, U1⟩ := hQ9
  have N9 := Fr.app N0 N9q
  have Z9 : n0 ≤ T9.heap.size := Nat.le_trans Z8 K1.1
  have U2 := Arv.keep Vm1 K1 (ninS (Ne.symm ne) nin0)
  obtain ⟨clx, Arx, qx, Sx, Mx, Hx, Gx⟩ := U1
  obtain ⟨cly, Ary, qy, Sy, My, Hy, Gy⟩ := U2
  refine ⟨T9, _, _, #[.val (.long a0'), .second, .val (.long a1'), .second, .val (.long b0'), .second, .val (.long b1'), .second, .val (.int kk), .val (.int (0 : Int32)), .val (.ref st), .val (.ref mo), .val (.int (0 : Int32)), .val (.int (1 : Int32)), .val (.int (0 : Int32))], X9, rfl, N9, Z9, trivial, fun target kt => ?_⟩
  show Steps p.tables e below (T0.setTop (mkF m 9 #[.val (.long a0'), .second, .val (.long a1'), .second, .val (.long b0'), .second, .val (.long b1'), .second, .val (.int kk), .val (.int (0 : Int32)), .unset, .unset, .unset, .unset, .unset] [])) _
  refine XS.iload X0.here hx rfl (hb hby at_9) rfl ?_
  show Steps p.tables e below (T0.setTop (mkF m 11 #[.val (.long a0'), .second, .val (.long a1'), .second, .val (.long b0'), .second, .val (.long b1'), .second, .val (.int kk), .val (.int (0 : Int32)), .unset, .unset, .unset, .unset, .unset] [(.int (0 : Int32))])) _
  refine st7 _ ?_
  show Steps p.tables e below (T7.setTop (mkF m 13 #[.val (.long a0'), .second, .val (.long a1'), .second, .val (.long b0'), .second, .val (.long b1'), .second, .val (.int kk), .val (.int (0 : Int32)), .unset, .unset, .unset, .unset, .unset] [(.ref st)])) _
  refine XS.astore X7.here hx rfl (hb hby at_13) rfl rfl (l' := #[.val (.long a0'), .second, .val (.long a1'), .second, .val (.long b0'), .second, .val (.long b1'), .second, .val (.int kk), .val (.int (0 : Int32)), .val (.ref st), .unset, .unset, .unset, .unset]) rfl ?_
  show Steps p.tables e below (T7.setTop (mkF m 15 #[.val (.long a0'), .second, .val (.long a1'), .second, .val (.long b0'), .second, .val (.long b1'), .second, .val (.int kk), .val (.int (0 : Int32)), .val (.ref st), .unset, .unset, .unset, .unset] [])) _
  refine XS.iload X7.here hx rfl (hb hby at_15) rfl ?_
  show Steps p.tables e below (T7.setTop (mkF m 17 #[.val (.long a0'), .second, .val (.long a1'), .second, .val (.long b0'), .second, .val (.long b1'), .second, .val (.int kk), .val (.int (0 : Int32)), .val (.ref st), .unset, .unset, .unset, .unset] [(.int (0 : Int32))])) _
  refine st8 _ ?_
  show Steps p.tables e below (T8.setTop (mkF m 19 #[.val (.long a0'), .second, .val (.long a1'), .second, .val (.long b0'), .second, .val (.long b1'), .second, .val (.int kk), .val (.int (0 : Int32)), .val (.ref st), .unset, .unset, .unset, .unset] [(.ref mo)])) _
  refine XS.astore X8.here hx rfl (hb hby at_19) rfl rfl (l' := #[.val (.long a0'), .second, .val (.long a1'), .second, .val (.long b0'), .second, .val (.long b1'), .second, .val (.int kk), .val (.int (0 : Int32)), .val (.ref st), .val (.ref mo), .unset, .unset, .unset]) rfl ?_
  show Steps p.tables e below (T8.setTop (mkF m 21 #[.val (.long a0'), .second, .val (.long a1'), .second, .val (.long b0'), .second, .val (.long b1'), .second, .val (.int kk), .val (.int (0 : Int32)), .val (.ref st), .val (.ref mo), .unset, .unset, .unset] [])) _
  refine XS.iload X8.here hx rfl (hb hby at_21) rfl ?_
  show Steps p.tables e below (T8.setTop (mkF m 23 #[.val (.long a0'), .second, .val (.long a1'), .second, .val (.long b0'), .second, .val (.long b1'), .second, .val (.int kk), .val (.int (0 : Int32)), .val (.ref st), .val (.ref mo), .unset, .unset, .unset] [(.int (0 : Int32))])) _
  refine XS.ifYes X8.here hx rfl (pc0 := 23) (pc' := 37) rfl (hb hby at_23) rfl ((if0 _ _).trans (flt (by decide : ¬ ((0 : Int32) < (0 : Int32)))).2.2.2) (by decide) (by decide) ?_
  show Steps p.tables e below (T8.setTop (mkF m 37 #[.val (.long a0'), .second, .val (.long a1'), .second, .val (.long b0'), .second, .val (.long b1'), .second, .val (.int kk), .val (.int (0 : Int32)), .val (.ref st), .val (.ref mo), .unset, .unset, .unset] [])) _
  refine XS.iload X8.here hx rfl (hb hby at_37) rfl ?_
  show Steps p.tables e below (T8.setTop (mkF m 39 #[.val (.long a0'), .second, .val (.long a1'), .second, .val (.long b0'), .second, .val (.long b1'), .second, .val (.int kk), .val (.int (0 : Int32)), .val (.ref st), .val (.ref mo), .unset, .unset, .unset] [(.int (0 : Int32))])) _
  refine XS.iconst X8.here hx rfl (hb hby at_39) ?_
  show Steps p.tables e below (T8.setTop (mkF m 40 #[.val (.long a0'), .second, .val (.long a1'), .second, .val (.long b0'), .second, .val (.long b1'), .second, .val (.int kk), .val (.int (0 : Int32)), .val (.ref st), .val (.ref mo), .unset, .unset, .unset] [(.int (1 : Int32)), (.int (0 : Int32))])) _
  refine XS.icmpYes X8.here hx rfl (pc0 := 40) (pc' := 54) rfl (hb hby at_40) rfl (flt (by decide : ¬ ((1 : Int32) < (0 : Int32)))).2.2.2 (by decide) (by decide) ?_
  show Steps p.tables e below (T8.setTop (mkF m 54 #[.val (.long a0'), .second, .val (.long a1'), .second, .val (.long b0'), .second, .val (.long b1'), .second, .val (.int kk), .val (.int (0 : Int32)), .val (.ref st), .val (.ref mo), .unset, .unset, .unset] [])) _
  refine XS.aload X8.here hx rfl (hb hby at_54) rfl rfl ?_
  show Steps p.tables e below (T8.setTop (mkF m 56 #[.val (.long a0'), .second, .val (.long a1'), .second, .val (.long b0'), .second, .val (.long b1'), .second, .val (.int kk), .val (.int (0 : Int32)), .val (.ref st), .val (.ref mo), .unset, .unset, .unset] [(.ref st)])) _
  refine XS.aload X8.here hx rfl (hb hby at_56) rfl rfl ?_
  show Steps p.tables e below (T8.setTop (mkF m 58 #[.val (.long a0'), .second, .val (.long a1'), .second, .val (.long b0'), .second, .val (.long b1'), .second, .val (.int kk), .val (.int (0 : Int32)), .val (.ref st), .val (.ref mo), .unset, .unset, .unset] [(.ref mo), (.ref st)])) _
  refine st9 _ ?_
  show Steps p.tables e below (T9.setTop (mkF m 61 #[.val (.long a0'), .second, .val (.long a1'), .second, .val (.long b0'), .second, .val (.long b1'), .second, .val (.int kk), .val (.int (0 : Int32)), .val (.ref st), .val (.ref mo), .unset, .unset, .unset] [(.int (0 : Int32))])) _
  refine XS.istore X9.here hx rfl (hb hby at_61) rfl (l' := #[.val (.long a0'), .second, .val (.long a1'), .second, .val (.long b0'), .second, .val (.long b1'), .second, .val (.int kk), .val (.int (0 : Int32)), .val (.ref st), .val (.ref mo), .val (.int (0 : Int32)), .unset, .unset]) rfl ?_
  show Steps p.tables e below (T9.setTop (mkF m 63 #[.val (.long a0'), .second, .val (.long a1'), .second, .val (.long b0'), .second, .val (.long b1'), .second, .val (.int kk), .val (.int (0 : Int32)), .val (.ref st), .val (.ref mo), .val (.int (0 : Int32)), .unset, .unset] [])) _
  refine XS.aload X9.here hx rfl (hb hby at_63) rfl rfl ?_
  show Steps p.tables e below (T9.setTop (mkF m 65 #[.val (.long a0'), .second, .val (.long a1'), .second, .val (.long b0'), .second, .val (.long b1'), .second, .val (.int kk), .val (.int (0 : Int32)), .val (.ref st), .val (.ref mo), .val (.int (0 : Int32)), .unset, .unset] [(.ref st)])) _
  refine X9.arraylength hx Arx.1 (State.isArrayOf_alike hZ.alike Arx.2.1) (g := (mkF m 65 #[.val (.long a0'), .second, .val (.long a1'), .second, .val (.long b0'), .second, .val (.long b1'), .second, .val (.int kk), .val (.int (0 : Int32)), .val (.ref st), .val (.ref mo), .val (.int (0 : Int32)), .unset, .unset] [(.ref st)])) rfl rfl (hb hby at_65) _ ?_
  rw [len_of Sx Mx]
  show Steps p.tables e below (T9.setTop (mkF m 66 #[.val (.long a0'), .second, .val (.long a1'), .second, .val (.long b0'), .second, .val (.long b1'), .second, .val (.int kk), .val (.int (0 : Int32)), .val (.ref st), .val (.ref mo), .val (.int (0 : Int32)), .unset, .unset] [(.int (0 : Int32))])) _
  refine XS.iload X9.here hx rfl (hb hby at_66) rfl ?_
  show Steps p.tables e below (T9.setTop (mkF m 68 #[.val (.long a0'), .second, .val (.long a1'), .second, .val (.long b0'), .second, .val (.long b1'), .second, .val (.int kk), .val (.int (0 : Int32)), .val (.ref st), .val (.ref mo), .val (.int (0 : Int32)), .unset, .unset] [(.int (0 : Int32)), (.int (0 : Int32))])) _
  refine XS.icmpNo X9.here hx rfl (hb hby at_68) rfl (teq (rfl : (0 : Int32) = (0 : Int32))).2 ?_
  show Steps p.tables e below (T9.setTop (mkF m 71 #[.val (.long a0'), .second, .val (.long a1'), .second, .val (.long b0'), .second, .val (.long b1'), .second, .val (.int kk), .val (.int (0 : Int32)), .val (.ref st), .val (.ref mo), .val (.int (0 : Int32)), .unset, .unset] [])) _
  refine XS.aload X9.here hx rfl (hb hby at_71) rfl rfl ?_
  show Steps p.tables e below (T9.setTop (mkF m 73 #[.val (.long a0'), .second, .val (.long a1'), .second, .val (.long b0'), .second, .val (.long b1'), .second, .val (.int kk), .val (.int (0 : Int32)), .val (.ref st), .val (.ref mo), .val (.int (0 : Int32)), .unset, .unset] [(.ref mo)])) _
  refine X9.arraylength hx Ary.1 (State.isArrayOf_alike hZ.alike Ary.2.1) (g := (mkF m 73 #[.val (.long a0'), .second, .val (.long a1'), .second, .val (.long b0'), .second, .val (.long b1'), .second, .val (.int kk), .val (.int (0 : Int32)), .val (.ref st), .val (.ref mo), .val (.int (0 : Int32)), .unset, .unset] [(.ref mo)])) rfl rfl (hb hby at_73) _ ?_
  rw [len_of Sy My]
  show Steps p.tables e below (T9.setTop (mkF m 74 #[.val (.long a0'), .second, .val (.long a1'), .second, .val (.long b0'), .second, .val (.long b1'), .second, .val (.int kk), .val (.int (0 : Int32)), .val (.ref st), .val (.ref mo), .val (.int (0 : Int32)), .unset, .unset] [(.int (0 : Int32))])) _
  refine XS.iload X9.here hx rfl (hb hby at_74) rfl ?_
  show Steps p.tables e below (T9.setTop (mkF m 76 #[.val (.long a0'), .second, .val (.long a1'), .second, .val (.long b0'), .second, .val (.long b1'), .second, .val (.int kk), .val (.int (0 : Int32)), .val (.ref st), .val (.ref mo), .val (.int (0 : Int32)), .unset, .unset] [(.int (0 : Int32)), (.int (0 : Int32))])) _
  refine XS.icmpNo X9.here hx rfl (hb hby at_76) rfl (teq (rfl : (0 : Int32) = (0 : Int32))).2 ?_
  show Steps p.tables e below (T9.setTop (mkF m 79 #[.val (.long a0'), .second, .val (.long a1'), .second, .val (.long b0'), .second, .val (.long b1'), .second, .val (.int kk), .val (.int (0 : Int32)), .val (.ref st), .val (.ref mo), .val (.int (0 : Int32)), .unset, .unset] [])) _
  refine XS.iconst X9.here hx rfl (hb hby at_79) ?_
  show Steps p.tables e below (T9.setTop (mkF m 80 #[.val (.long a0'), .second, .val (.long a1'), .second, .val (.long b0'), .second, .val (.long b1'), .second, .val (.int kk), .val (.int (0 : Int32)), .val (.ref st), .val (.ref mo), .val (.int (0 : Int32)), .unset, .unset] [(.int (1 : Int32))])) _
  refine XS.goto X9.here hx rfl (pc0 := 80) (pc' := 84) rfl (hb hby at_80) (by decide) (by decide) ?_
  show Steps p.tables e below (T9.setTop (mkF m 84 #[.val (.long a0'), .second, .val (.long a1'), .second, .val (.long b0'), .second, .val (.long b1'), .second, .val (.int kk), .val (.int (0 : Int32)), .val (.ref st), .val (.ref mo), .val (.int (0 : Int32)), .unset, .unset] [(.int (1 : Int32))])) _
  refine XS.istore X9.here hx rfl (hb hby at_84) rfl (l' := #[.val (.long a0'), .second, .val (.long a1'), .second, .val (.long b0'), .second, .val (.long b1'), .second, .val (.int kk), .val (.int (0 : Int32)), .val (.ref st), .val (.ref mo), .val (.int (0 : Int32)), .val (.int (1 : Int32)), .unset]) rfl ?_
  show Steps p.tables e below (T9.setTop (mkF m 86 #[.val (.long a0'), .second, .val (.long a1'), .second, .val (.long b0'), .second, .val (.long b1'), .second, .val (.int kk), .val (.int (0 : Int32)), .val (.ref st), .val (.ref mo), .val (.int (0 : Int32)), .val (.int (1 : Int32)), .unset] [])) _
  refine XS.iconst X9.here hx rfl (hb hby at_86) ?_
  show Steps p.tables e below (T9.setTop (mkF m 87 #[.val (.long a0'), .second, .val (.long a1'), .second, .val (.long b0'), .second, .val (.long b1'), .second, .val (.int kk), .val (.int (0 : Int32)), .val (.ref st), .val (.ref mo), .val (.int (0 : Int32)), .val (.int (1 : Int32)), .unset] [(.int (0 : Int32))])) _
  refine XS.istore X9.here hx rfl (hb hby at_87) rfl (l' := #[.val (.long a0'), .second, .val (.long a1'), .second, .val (.long b0'), .second, .val (.long b1'), .second, .val (.int kk), .val (.int (0 : Int32)), .val (.ref st), .val (.ref mo), .val (.int (0 : Int32)), .val (.int (1 : Int32)), .val (.int (0 : Int32))]) rfl ?_
  show Steps p.tables e below (T9.setTop (mkF m 89 #[.val (.long a0'), .second, .val (.long a1'), .second, .val (.long b0'), .second, .val (.long b1'), .second, .val (.int kk), .val (.int (0 : Int32)), .val (.ref st), .val (.ref mo), .val (.int (0 : Int32)), .val (.int (1 : Int32)), .val (.int (0 : Int32))] [])) _
  refine XS.iload X9.here hx rfl (hb hby at_89) rfl ?_
  show Steps p.tables e below (T9.setTop (mkF m 91 #[.val (.long a0'), .second, .val (.long a1'), .second, .val (.long b0'), .second, .val (.long b1'), .second, .val (.int kk), .val (.int (0 : Int32)), .val (.ref st), .val (.ref mo), .val (.int (0 : Int32)), .val (.int (1 : Int32)), .val (.int (0 : Int32))] [(.int (0 : Int32))])) _
  refine XS.ifYes X9.here hx rfl (pc0 := 91) (pc' := 149) rfl (hb hby at_91) rfl ((if0 _ _).trans (flt (by decide : ¬ ((0 : Int32) < (0 : Int32)))).2.2.2) (by decide) (by decide) ?_
  show Steps p.tables e below (T9.setTop (mkF m 149 #[.val (.long a0'), .second, .val (.long a1'), .second, .val (.long b0'), .second, .val (.long b1'), .second, .val (.int kk), .val (.int (0 : Int32)), .val (.ref st), .val (.ref mo), .val (.int (0 : Int32)), .val (.int (1 : Int32)), .val (.int (0 : Int32))] [])) _
  refine XS.iload X9.here hx rfl (hb hby at_149) rfl ?_
  show Steps p.tables e below (T9.setTop (mkF m 151 #[.val (.long a0'), .second, .val (.long a1'), .second, .val (.long b0'), .second, .val (.long b1'), .second, .val (.int kk), .val (.int (0 : Int32)), .val (.ref st), .val (.ref mo), .val (.int (0 : Int32)), .val (.int (1 : Int32)), .val (.int (0 : Int32))] [(.int (0 : Int32))])) _
  refine XS.iconst X9.here hx rfl (hb hby at_151) ?_
  show Steps p.tables e below (T9.setTop (mkF m 152 #[.val (.long a0'), .second, .val (.long a1'), .second, .val (.long b0'), .second, .val (.long b1'), .second, .val (.int kk), .val (.int (0 : Int32)), .val (.ref st), .val (.ref mo), .val (.int (0 : Int32)), .val (.int (1 : Int32)), .val (.int (0 : Int32))] [(.int (1 : Int32)), (.int (0 : Int32))])) _
  refine XS.icmpYes X9.here hx rfl (pc0 := 152) (pc' := 210) rfl (hb hby at_152) rfl (flt (by decide : ¬ ((1 : Int32) < (0 : Int32)))).2.2.2 (by decide) (by decide) ?_
  show Steps p.tables e below (T9.setTop (mkF m 210 #[.val (.long a0'), .second, .val (.long a1'), .second, .val (.long b0'), .second, .val (.long b1'), .second, .val (.int kk), .val (.int (0 : Int32)), .val (.ref st), .val (.ref mo), .val (.int (0 : Int32)), .val (.int (1 : Int32)), .val (.int (0 : Int32))] [])) _
  refine XS.iload X9.here hx rfl (hb hby at_210) rfl ?_
  show Steps p.tables e below (T9.setTop (mkF m 212 #[.val (.long a0'), .second, .val (.long a1'), .second, .val (.long b0'), .second, .val (.long b1'), .second, .val (.int kk), .val (.int (0 : Int32)), .val (.ref st), .val (.ref mo), .val (.int (0 : Int32)), .val (.int (1 : Int32)), .val (.int (0 : Int32))] [(.int (1 : Int32))])) _
  refine XS.ifNo X9.here hx rfl (hb hby at_212) rfl ((if0 _ _).trans (feq (by decide : ¬ ((1 : Int32) = (0 : Int32)))).1) ?_
  show Steps p.tables e below (T9.setTop (mkF m 215 #[.val (.long a0'), .second, .val (.long a1'), .second, .val (.long b0'), .second, .val (.long b1'), .second, .val (.int kk), .val (.int (0 : Int32)), .val (.ref st), .val (.ref mo), .val (.int (0 : Int32)), .val (.int (1 : Int32)), .val (.int (0 : Int32))] [])) _
  refine XS.iload X9.here hx rfl (hb hby at_215) rfl ?_
  show Steps p.tables e below (T9.setTop (mkF m 217 #[.val (.long a0'), .second, .val (.long a1'), .second, .val (.long b0'), .second, .val (.long b1'), .second, .val (.int kk), .val (.int (0 : Int32)), .val (.ref st), .val (.ref mo), .val (.int (0 : Int32)), .val (.int (1 : Int32)), .val (.int (0 : Int32))] [(.int (0 : Int32))])) _
  refine XS.iload X9.here hx rfl (hb hby at_217) rfl ?_
  show Steps p.tables e below (T9.setTop (mkF m 219 #[.val (.long a0'), .second, .val (.long a1'), .second, .val (.long b0'), .second, .val (.long b1'), .second, .val (.int kk), .val (.int (0 : Int32)), .val (.ref st), .val (.ref mo), .val (.int (0 : Int32)), .val (.int (1 : Int32)), .val (.int (0 : Int32))] [(.int (0 : Int32)), (.int (0 : Int32))])) _
  refine XS.icmpNo X9.here hx rfl (hb hby at_219) rfl (teq (rfl : (0 : Int32) = (0 : Int32))).2 ?_
  show Steps p.tables e below (T9.setTop (mkF m 222 #[.val (.long a0'), .second, .val (.long a1'), .second, .val (.long b0'), .second, .val (.long b1'), .second, .val (.int kk), .val (.int (0 : Int32)), .val (.ref st), .val (.ref mo), .val (.int (0 : Int32)), .val (.int (1 : Int32)), .val (.int (0 : Int32))] [])) _
  refine XS.iconst X9.here hx rfl (hb hby at_222) ?_
  show Steps p.tables e below (T9.setTop (mkF m 223 #[.val (.long a0'), .second, .val (.long a1'), .second, .val (.long b0'), .second, .val (.long b1'), .second, .val (.int kk), .val (.int (0 : Int32)), .val (.ref st), .val (.ref mo), .val (.int (0 : Int32)), .val (.int (1 : Int32)), .val (.int (0 : Int32))] [(.int (1 : Int32))])) _
  refine XS.goto X9.here hx rfl (pc0 := 223) (pc' := 227) rfl (hb hby at_223) (by decide) (by decide) ?_
  exact kt
set_option maxRecDepth 65536 in
set_option maxHeartbeats 40000000 in
theorem rd1 {p : Program} {l : Launch} {e : Env} {s : State} {m : MethodId} {args : Array Value} {below : List Frame} {meth : Method} {c : Code} {T0 : State} {locs : List Loc} {Z : State} {a0 : Array Value} {h0 : Heap} {n0 : Nat} (a0' a1' b0' b1' : Int64) (kk : Int32)
    (X0 : Stand p l e room_1 s m args below meth c T0 locs 0 0) (hx : p.tables.exec = Jvm.exec) (hZ : Z.Warmed39 s.vm) (hw : ∀ d ∈ tables_1, d.before a0 Z = true) (hby : c.code = code) (hml : c.maxLocals = 15) (hown : s.vm.findClass "com/example/coterie/coterie/engine/CodeSetsAddAllPinLaw" = some m.cls) (e0 : T0.heap = h0) (N0 : Fr n0 locs) (Z0 : n0 ≤ h0.size)  :
    ∃ (T' : State) (h' : Heap) (locs' : List Loc) (LL : Array Slot), Stand p l e room_1 s m args below meth c T' locs' 2 2 ∧ T'.heap = h' ∧ Fr n0 locs' ∧ n0 ≤ h'.size ∧ (True) ∧
      ∀ target, Steps p.tables e below (T'.setTop (mkF m 227 LL [(.int (1 : Int32))])) target → Steps p.tables e below (T0.setTop (mkF m 9 #[.val (.long a0'), .second, .val (.long a1'), .second, .val (.long b0'), .second, .val (.long b1'), .second, .val (.int kk), .val (.int (1 : Int32)), .unset, .unset, .unset, .unset, .unset] [])) target := by
  obtain ⟨T15, h15, k15, X15, e15, E15, A15, st15⟩ := newP X0 hx hZ (hw _ (List.mem_of_getElem? (i := 1) rfl)) e0 (g := (mkF m 11 #[.val (.long a0'), .second, .val (.long a1'), .second, .val (.long b0'), .second, .val (.long b1'), .second, .val (.int kk), .val (.int (1 : Int32)), .unset, .unset, .unset, .unset, .unset] [(.int (1 : Int32))])) rfl (hb hby at_11) rfl (by decide) (cap := 1) (by decide) (by decide) (by decide) (by decide)
  obtain ⟨st, g15⟩ : ∃ z, z = h0.size := ⟨_, rfl⟩
  rw [← g15] at A15 st15
  have g_st : n0 ≤ st := Nat.le_trans Z0 (Nat.le_of_eq g15.symm)
  have Z15 : n0 ≤ h15.size := Nat.le_trans Z0 E15.1
  have Vs0 : Arv Z h15 st k15 .long (1 : Int32) [] (.long (0 : Int64)) := Arv.new A15 (by decide)
  obtain ⟨T16, h16, k16, X16, e16, E16, A16, st16⟩ := newP X15 hx hZ (hw _ (List.mem_of_getElem? (i := 1) rfl)) e15 (g := (mkF m 17 #[.val (.long a0'), .second, .val (.long a1'), .second, .val (.long b0'), .second, .val (.long b1'), .second, .val (.int kk), .val (.int (1 : Int32)), .val (.ref st), .unset, .unset, .unset, .unset] [(.int (1 : Int32))])) rfl (hb hby at_17) rfl (by decide) (cap := 1) (by decide) (by decide) (by decide) (by decide)
  obtain ⟨mo, g16⟩ : ∃ z, z = h15.size := ⟨_, rfl⟩
  rw [← g16] at A16 st16
  have g_mo : n0 ≤ mo := Nat.le_trans Z15 (Nat.le_of_eq g16.symm)
  have Z16 : n0 ≤ h16.size := Nat.le_trans Z15 E16.1
  have ne : st ≠ mo := Nat.ne_of_lt (Nat.lt_of_lt_of_le Vs0.lt (Nat.le_of_eq g16.symm))
  have Vm0 : Arv Z h16 mo k16 .long (1 : Int32) [] (.long (0 : Int64)) := Arv.new A16 (by decide)
  have Vs1 : Arv Z h16 st k15 .long (1 : Int32) [(.long (0 : Int64))] (.long (0 : Int64)) := (Vs0.ext E16).pad (pad_rep [] (.long (0 : Int64)) 1)
  have Vm1 : Arv Z h16 mo k16 .long (1 : Int32) [(.long (0 : Int64))] (.long (0 : Int64)) := Vm0.pad (pad_rep [] (.long (0 : Int64)) 1)
  obtain ⟨cls0, Ars0, qs0, Ss0, Ms0, Hs0, Gs0⟩ := Vs1
  obtain ⟨T17, h17, X17, e17, W17, st17⟩ := stJ X16 hx hZ e16 Ars0 (j := (0 : Int32)) (inb_of Ss0 ⟨by decide, by decide⟩) (g := (mkF m 30 #[.val (.long a0'), .second, .val (.long a1'), .second, .val (.long b0'), .second, .val (.long b1'), .second, .val (.int kk), .val (.int (1 : Int32)), .val (.ref st), .val (.ref mo), .unset, .unset, .unset] [(.long a0'), (.int (0 : Int32)), (.ref st)])) rfl rfl (hb hby at_30)
  have N17 := Fr.snoc X17 N0 g_st
  have Z17 : n0 ≤ h17.size := Nat.le_trans Z16 (Keep.of_wr W17).1
  have W_s0 : Arv Z h17 st k15 .long (1 : Int32) [(.long a0')] (.long (0 : Int64)) := Arv.set Ars0 qs0 Ss0 Ms0 Hs0 Gs0 rfl W17 0 rfl (Nat.le_of_ble_eq_true rfl)
  have O_s0 := Arv.other Vm1 W17 (Ne.symm ne)
  obtain ⟨clm0, Arm0, qm0, Sm0, Mm0, Hm0, Gm0⟩ := O_s0
  obtain ⟨T18, h18, X18, e18, W18, st18⟩ := stJ X17 hx hZ e17 Arm0 (j := (0 : Int32)) (inb_of Sm0 ⟨by decide, by decide⟩) (g := (mkF m 36 #[.val (.long a0'), .second, .val (.long a1'), .second, .val (.long b0'), .second, .val (.long b1'), .second, .val (.int kk), .val (.int (1 : Int32)), .val (.ref st), .val (.ref mo), .unset, .unset, .unset] [(.long b0'), (.int (0 : Int32)), (.ref mo)])) rfl rfl (hb hby at_36)
  have N18 := Fr.snoc X18 N17 g_mo
  have Z18 : n0 ≤ h18.size := Nat.le_trans Z17 (Keep.of_wr W18).1
  have W_m0 : Arv Z h18 mo k16 .long (1 : Int32) [(.long b0')] (.long (0 : Int64)) := Arv.set Arm0 qm0 Sm0 Mm0 Hm0 Gm0 rfl W18 0 rfl (Nat.le_of_ble_eq_true rfl)
  have O_m0 := Arv.other W_s0 W18 ne
  obtain ⟨_, _, ⟨T19, L19, k19, n19⟩, -, X19, ⟨Lc19, hQ19, l19, y19, z19⟩, st19⟩ := Jvm.LawKit.callS X18 hx (y := (⟨"com/example/coterie/coterie/engine/CodeSets", "addAll", "([J[J)Z"⟩ : MethodName)) hown (mvT hZ (hw _ (List.mem_of_getElem? (i := 2) rfl))) (mvT hZ (hw _ (List.mem_of_getElem? (i := 3) rfl))) (mvT hZ (hw _ (List.mem_of_getElem? (i := 4) rfl))) (mvT hZ (hw _ (List.mem_of_getElem? (i := 5) rfl))) (by decide) (backOf (W := 0) (rm_1_1 l Z a0 hw [] st mo k15 k16 a0' b0' h18 n0 Z18 O_m0 W_m0 ne g_st) hZ (hw _ (List.mem_of_getElem? (i := 5) rfl)) (hw _ (List.mem_of_getElem? (i := 4) rfl)) (by decide) (by decide)) (g := (mkF m 58 #[.val (.long a0'), .second, .val (.long a1'), .second, .val (.long b0'), .second, .val (.long b1'), .second, .val (.int kk), .val (.int (1 : Int32)), .val (.ref st), .val (.ref mo), .unset, .unset, .unset] [(.ref mo), (.ref st)])) rfl (by rw [hml]; rfl) (argsL := [(.ref st), (.ref mo)]) (rest := []) (lenOf pd_0 rfl) rfl (by show 2 * 0 + _ ≤ _; exact Nat.le_of_eq rfl) (hb hby at_58) (fun _ _ => ⟨rfl, e18, (by decide : 2 + 0 ≤ _), (by decide : 2 + 0 ≤ _)⟩)
  dsimp only [Pt.U, Pt.locs, Pt.cells, Pt.slots] at X19 l19 y19 z19 st19 hQ19
  subst l19 y19 z19
  obtain ⟨rfl, N19q, K1, U1⟩ := hQ19
  have N19 := Fr.app N18 N19q
  have Z19 : n0 ≤ T19.heap.size := Nat.le_trans Z18 K1.1
  have U2 := Arv.keep W_m0 K1 (ninS (Ne.symm ne) nin0)
  obtain ⟨clx, Arx, qx, Sx, Mx, Hx, Gx⟩ := U1
  obtain ⟨cly, Ary, qy, Sy, My, Hy, Gy⟩ := U2
  have jd : ∀ t, Steps p.tables e below (T19.setTop (mkF m 147 #[.val (.long a0'), .second, .val (.long a1'), .second, .val (.long b0'), .second, .val (.long b1'), .second, .val (.int kk), .val (.int (1 : Int32)), .val (.ref st), .val (.ref mo), .val (.int ((0 : Int32) ||| (own_c a0' b0'))), .val (.int (1 : Int32)), .val (.int (0 : Int32))] [(.int (own_d a0' b0'))])) t → Steps p.tables e below (T19.setTop (mkF m 139 #[.val (.long a0'), .second, .val (.long a1'), .second, .val (.long b0'), .second, .val (.long b1'), .second, .val (.int kk), .val (.int (1 : Int32)), .val (.ref st), .val (.ref mo), .val (.int ((0 : Int32) ||| (own_c a0' b0'))), .val (.int (1 : Int32)), .val (.int (0 : Int32))] [(.int (lcmpW (a0' ||| b0') a0'))])) t := by
    intro t kt
    by_cases hc : (a0' ||| b0') = a0'
    · have hv : own_d a0' b0' = 0 := if_pos hc
      rw [hv] at kt
      show Steps p.tables e below (T19.setTop (mkF m 139 #[.val (.long a0'), .second, .val (.long a1'), .second, .val (.long b0'), .second, .val (.long b1'), .second, .val (.int kk), .val (.int (1 : Int32)), .val (.ref st), .val (.ref mo), .val (.int ((0 : Int32) ||| (own_c a0' b0'))), .val (.int (1 : Int32)), .val (.int (0 : Int32))] [(.int (lcmpW (a0' ||| b0') a0'))])) _
      refine XS.ifYes X19.here hx rfl (pc0 := 139) (pc' := 146) rfl (hb hby at_139) rfl ((if0 _ _).trans (teq ((lw_eq _ _).mpr hc : (lcmpW (a0' ||| b0') a0') = (0 : Int32))).1) (by decide) (by decide) ?_
      show Steps p.tables e below (T19.setTop (mkF m 146 #[.val (.long a0'), .second, .val (.long a1'), .second, .val (.long b0'), .second, .val (.long b1'), .second, .val (.int kk), .val (.int (1 : Int32)), .val (.ref st), .val (.ref mo), .val (.int ((0 : Int32) ||| (own_c a0' b0'))), .val (.int (1 : Int32)), .val (.int (0 : Int32))] [])) _
      refine XS.iconst X19.here hx rfl (hb hby at_146) ?_
      exact kt
    · have hv : own_d a0' b0' = 1 := if_neg hc
      rw [hv] at kt
      show Steps p.tables e below (T19.setTop (mkF m 139 #[.val (.long a0'), .second, .val (.long a1'), .second, .val (.long b0'), .second, .val (.long b1'), .second, .val (.int kk), .val (.int (1 : Int32)), .val (.ref st), .val (.ref mo), .val (.int ((0 : Int32) ||| (own_c a0' b0'))), .val (.int (1 : Int32)), .val (.int (0 : Int32))] [(.int (lcmpW (a0' ||| b0') a0'))])) _
      refine XS.ifNo X19.here hx rfl (hb hby at_139) rfl ((if0 _ _).trans (feq (fun q => hc ((lw_eq _ _).mp q) : ¬ ((lcmpW (a0' ||| b0') a0') = (0 : Int32)))).1) ?_
      show Steps p.tables e below (T19.setTop (mkF m 142 #[.val (.long a0'), .second, .val (.long a1'), .second, .val (.long b0'), .second, .val (.long b1'), .second, .val (.int kk), .val (.int (1 : Int32)), .val (.ref st), .val (.ref mo), .val (.int ((0 : Int32) ||| (own_c a0' b0'))), .val (.int (1 : Int32)), .val (.int (0 : Int32))] [])) _
      refine XS.iconst X19.here hx rfl (hb hby at_142) ?_
      show Steps p.tables e below (T19.setTop (mkF m 143 #[.val (.long a0'), .second, .val (.long a1'), .second, .val (.long b0'), .second, .val (.long b1'), .second, .val (.int kk), .val (.int (1 : Int32)), .val (.ref st), .val (.ref mo), .val (.int ((0 : Int32) ||| (own_c a0' b0'))), .val (.int (1 : Int32)), .val (.int (0 : Int32))] [(.int (1 : Int32))])) _
      refine XS.goto X19.here hx rfl (pc0 := 143) (pc' := 147) rfl (hb hby at_143) (by decide) (by decide) ?_
      exact kt
  refine ⟨T19, _, _, #[.val (.long a0'), .second, .val (.long a1'), .second, .val (.long b0'), .second, .val (.long b1'), .second, .val (.int kk), .val (.int (1 : Int32)), .val (.ref st), .val (.ref mo), .val (.int ((0 : Int32) ||| (own_c a0' b0'))), .val (.int (1 : Int32)), .val (.int (own_d a0' b0'))], X19, rfl, N19, Z19, trivial, fun target kt => ?_⟩
  show Steps p.tables e below (T0.setTop (mkF m 9 #[.val (.long a0'), .second, .val (.long a1'), .second, .val (.long b0'), .second, .val (.long b1'), .second, .val (.int kk), .val (.int (1 : Int32)), .unset, .unset, .unset, .unset, .unset] [])) _
  refine XS.iload X0.here hx rfl (hb hby at_9) rfl ?_
  show Steps p.tables e below (T0.setTop (mkF m 11 #[.val (.long a0'), .second, .val (.long a1'), .second, .val (.long b0'), .second, .val (.long b1'), .second, .val (.int kk), .val (.int (1 : Int32)), .unset, .unset, .unset, .unset, .unset] [(.int (1 : Int32))])) _
  refine st15 _ ?_
  show Steps p.tables e below (T15.setTop (mkF m 13 #[.val (.long a0'), .second, .val (.long a1'), .second, .val (.long b0'), .second, .val (.long b1'), .second, .val (.int kk), .val (.int (1 : Int32)), .unset, .unset, .unset, .unset, .unset] [(.ref st)])) _
  refine XS.astore X15.here hx rfl (hb hby at_13) rfl rfl (l' := #[.val (.long a0'), .second, .val (.long a1'), .second, .val (.long b0'), .second, .val (.long b1'), .second, .val (.int kk), .val (.int (1 : Int32)), .val (.ref st), .unset, .unset, .unset, .unset]) rfl ?_
  show Steps p.tables e below (T15.setTop (mkF m 15 #[.val (.long a0'), .second, .val (.long a1'), .second, .val (.long b0'), .second, .val (.long b1'), .second, .val (.int kk), .val (.int (1 : Int32)), .val (.ref st), .unset, .unset, .unset, .unset] [])) _
  refine XS.iload X15.here hx rfl (hb hby at_15) rfl ?_
  show Steps p.tables e below (T15.setTop (mkF m 17 #[.val (.long a0'), .second, .val (.long a1'), .second, .val (.long b0'), .second, .val (.long b1'), .second, .val (.int kk), .val (.int (1 : Int32)), .val (.ref st), .unset, .unset, .unset, .unset] [(.int (1 : Int32))])) _
  refine st16 _ ?_
  show Steps p.tables e below (T16.setTop (mkF m 19 #[.val (.long a0'), .second, .val (.long a1'), .second, .val (.long b0'), .second, .val (.long b1'), .second, .val (.int kk), .val (.int (1 : Int32)), .val (.ref st), .unset, .unset, .unset, .unset] [(.ref mo)])) _
  refine XS.astore X16.here hx rfl (hb hby at_19) rfl rfl (l' := #[.val (.long a0'), .second, .val (.long a1'), .second, .val (.long b0'), .second, .val (.long b1'), .second, .val (.int kk), .val (.int (1 : Int32)), .val (.ref st), .val (.ref mo), .unset, .unset, .unset]) rfl ?_
  show Steps p.tables e below (T16.setTop (mkF m 21 #[.val (.long a0'), .second, .val (.long a1'), .second, .val (.long b0'), .second, .val (.long b1'), .second, .val (.int kk), .val (.int (1 : Int32)), .val (.ref st), .val (.ref mo), .unset, .unset, .unset] [])) _
  refine XS.iload X16.here hx rfl (hb hby at_21) rfl ?_
  show Steps p.tables e below (T16.setTop (mkF m 23 #[.val (.long a0'), .second, .val (.long a1'), .second, .val (.long b0'), .second, .val (.long b1'), .second, .val (.int kk), .val (.int (1 : Int32)), .val (.ref st), .val (.ref mo), .unset, .unset, .unset] [(.int (1 : Int32))])) _
  refine XS.ifNo X16.here hx rfl (hb hby at_23) rfl ((if0 _ _).trans (tlt (by decide : (0 : Int32) < (1 : Int32))).2.2.2) ?_
  show Steps p.tables e below (T16.setTop (mkF m 26 #[.val (.long a0'), .second, .val (.long a1'), .second, .val (.long b0'), .second, .val (.long b1'), .second, .val (.int kk), .val (.int (1 : Int32)), .val (.ref st), .val (.ref mo), .unset, .unset, .unset] [])) _
  refine XS.aload X16.here hx rfl (hb hby at_26) rfl rfl ?_
  show Steps p.tables e below (T16.setTop (mkF m 28 #[.val (.long a0'), .second, .val (.long a1'), .second, .val (.long b0'), .second, .val (.long b1'), .second, .val (.int kk), .val (.int (1 : Int32)), .val (.ref st), .val (.ref mo), .unset, .unset, .unset] [(.ref st)])) _
  refine XS.iconst X16.here hx rfl (hb hby at_28) ?_
  show Steps p.tables e below (T16.setTop (mkF m 29 #[.val (.long a0'), .second, .val (.long a1'), .second, .val (.long b0'), .second, .val (.long b1'), .second, .val (.int kk), .val (.int (1 : Int32)), .val (.ref st), .val (.ref mo), .unset, .unset, .unset] [(.int (0 : Int32)), (.ref st)])) _
  refine XS.lloadN X16.here hx rfl (hb hby at_29) rfl ?_
  show Steps p.tables e below (T16.setTop (mkF m 30 #[.val (.long a0'), .second, .val (.long a1'), .second, .val (.long b0'), .second, .val (.long b1'), .second, .val (.int kk), .val (.int (1 : Int32)), .val (.ref st), .val (.ref mo), .unset, .unset, .unset] [(.long a0'), (.int (0 : Int32)), (.ref st)])) _
  refine st17 _ ?_
  show Steps p.tables e below (T17.setTop (mkF m 31 #[.val (.long a0'), .second, .val (.long a1'), .second, .val (.long b0'), .second, .val (.long b1'), .second, .val (.int kk), .val (.int (1 : Int32)), .val (.ref st), .val (.ref mo), .unset, .unset, .unset] [])) _
  refine XS.aload X17.here hx rfl (hb hby at_31) rfl rfl ?_
  show Steps p.tables e below (T17.setTop (mkF m 33 #[.val (.long a0'), .second, .val (.long a1'), .second, .val (.long b0'), .second, .val (.long b1'), .second, .val (.int kk), .val (.int (1 : Int32)), .val (.ref st), .val (.ref mo), .unset, .unset, .unset] [(.ref mo)])) _
  refine XS.iconst X17.here hx rfl (hb hby at_33) ?_
  show Steps p.tables e below (T17.setTop (mkF m 34 #[.val (.long a0'), .second, .val (.long a1'), .second, .val (.long b0'), .second, .val (.long b1'), .second, .val (.int kk), .val (.int (1 : Int32)), .val (.ref st), .val (.ref mo), .unset, .unset, .unset] [(.int (0 : Int32)), (.ref mo)])) _
  refine XS.lload X17.here hx rfl (hb hby at_34) rfl ?_
  show Steps p.tables e below (T17.setTop (mkF m 36 #[.val (.long a0'), .second, .val (.long a1'), .second, .val (.long b0'), .second, .val (.long b1'), .second, .val (.int kk), .val (.int (1 : Int32)), .val (.ref st), .val (.ref mo), .unset, .unset, .unset] [(.long b0'), (.int (0 : Int32)), (.ref mo)])) _
  refine st18 _ ?_
  show Steps p.tables e below (T18.setTop (mkF m 37 #[.val (.long a0'), .second, .val (.long a1'), .second, .val (.long b0'), .second, .val (.long b1'), .second, .val (.int kk), .val (.int (1 : Int32)), .val (.ref st), .val (.ref mo), .unset, .unset, .unset] [])) _
  refine XS.iload X18.here hx rfl (hb hby at_37) rfl ?_
  show Steps p.tables e below (T18.setTop (mkF m 39 #[.val (.long a0'), .second, .val (.long a1'), .second, .val (.long b0'), .second, .val (.long b1'), .second, .val (.int kk), .val (.int (1 : Int32)), .val (.ref st), .val (.ref mo), .unset, .unset, .unset] [(.int (1 : Int32))])) _
  refine XS.iconst X18.here hx rfl (hb hby at_39) ?_
  show Steps p.tables e below (T18.setTop (mkF m 40 #[.val (.long a0'), .second, .val (.long a1'), .second, .val (.long b0'), .second, .val (.long b1'), .second, .val (.int kk), .val (.int (1 : Int32)), .val (.ref st), .val (.ref mo), .unset, .unset, .unset] [(.int (1 : Int32)), (.int (1 : Int32))])) _
  refine XS.icmpYes X18.here hx rfl (pc0 := 40) (pc' := 54) rfl (hb hby at_40) rfl (flt (by decide : ¬ ((1 : Int32) < (1 : Int32)))).2.2.2 (by decide) (by decide) ?_
  show Steps p.tables e below (T18.setTop (mkF m 54 #[.val (.long a0'), .second, .val (.long a1'), .second, .val (.long b0'), .second, .val (.long b1'), .second, .val (.int kk), .val (.int (1 : Int32)), .val (.ref st), .val (.ref mo), .unset, .unset, .unset] [])) _
  refine XS.aload X18.here hx rfl (hb hby at_54) rfl rfl ?_
  show Steps p.tables e below (T18.setTop (mkF m 56 #[.val (.long a0'), .second, .val (.long a1'), .second, .val (.long b0'), .second, .val (.long b1'), .second, .val (.int kk), .val (.int (1 : Int32)), .val (.ref st), .val (.ref mo), .unset, .unset, .unset] [(.ref st)])) _
  refine XS.aload X18.here hx rfl (hb hby at_56) rfl rfl ?_
  show Steps p.tables e below (T18.setTop (mkF m 58 #[.val (.long a0'), .second, .val (.long a1'), .second, .val (.long b0'), .second, .val (.long b1'), .second, .val (.int kk), .val (.int (1 : Int32)), .val (.ref st), .val (.ref mo), .unset, .unset, .unset] [(.ref mo), (.ref st)])) _
  refine st19 _ ?_
  show Steps p.tables e below (T19.setTop (mkF m 61 #[.val (.long a0'), .second, .val (.long a1'), .second, .val (.long b0'), .second, .val (.long b1'), .second, .val (.int kk), .val (.int (1 : Int32)), .val (.ref st), .val (.ref mo), .unset, .unset, .unset] [(.int ((0 : Int32) ||| (own_c a0' b0')))])) _
  refine XS.istore X19.here hx rfl (hb hby at_61) rfl (l' := #[.val (.long a0'), .second, .val (.long a1'), .second, .val (.long b0'), .second, .val (.long b1'), .second, .val (.int kk), .val (.int (1 : Int32)), .val (.ref st), .val (.ref mo), .val (.int ((0 : Int32) ||| (own_c a0' b0'))), .unset, .unset]) rfl ?_
  show Steps p.tables e below (T19.setTop (mkF m 63 #[.val (.long a0'), .second, .val (.long a1'), .second, .val (.long b0'), .second, .val (.long b1'), .second, .val (.int kk), .val (.int (1 : Int32)), .val (.ref st), .val (.ref mo), .val (.int ((0 : Int32) ||| (own_c a0' b0'))), .unset, .unset] [])) _
  refine XS.aload X19.here hx rfl (hb hby at_63) rfl rfl ?_
  show Steps p.tables e below (T19.setTop (mkF m 65 #[.val (.long a0'), .second, .val (.long a1'), .second, .val (.long b0'), .second, .val (.long b1'), .second, .val (.int kk), .val (.int (1 : Int32)), .val (.ref st), .val (.ref mo), .val (.int ((0 : Int32) ||| (own_c a0' b0'))), .unset, .unset] [(.ref st)])) _
  refine X19.arraylength hx Arx.1 (State.isArrayOf_alike hZ.alike Arx.2.1) (g := (mkF m 65 #[.val (.long a0'), .second, .val (.long a1'), .second, .val (.long b0'), .second, .val (.long b1'), .second, .val (.int kk), .val (.int (1 : Int32)), .val (.ref st), .val (.ref mo), .val (.int ((0 : Int32) ||| (own_c a0' b0'))), .unset, .unset] [(.ref st)])) rfl rfl (hb hby at_65) _ ?_
  rw [len_of Sx Mx]
  show Steps p.tables e below (T19.setTop (mkF m 66 #[.val (.long a0'), .second, .val (.long a1'), .second, .val (.long b0'), .second, .val (.long b1'), .second, .val (.int kk), .val (.int (1 : Int32)), .val (.ref st), .val (.ref mo), .val (.int ((0 : Int32) ||| (own_c a0' b0'))), .unset, .unset] [(.int (1 : Int32))])) _
  refine XS.iload X19.here hx rfl (hb hby at_66) rfl ?_
  show Steps p.tables e below (T19.setTop (mkF m 68 #[.val (.long a0'), .second, .val (.long a1'), .second, .val (.long b0'), .second, .val (.long b1'), .second, .val (.int kk), .val (.int (1 : Int32)), .val (.ref st), .val (.ref mo), .val (.int ((0 : Int32) ||| (own_c a0' b0'))), .unset, .unset] [(.int (1 : Int32)), (.int (1 : Int32))])) _
  refine XS.icmpNo X19.here hx rfl (hb hby at_68) rfl (teq (rfl : (1 : Int32) = (1 : Int32))).2 ?_
  show Steps p.tables e below (T19.setTop (mkF m 71 #[.val (.long a0'), .second, .val (.long a1'), .second, .val (.long b0'), .second, .val (.long b1'), .second, .val (.int kk), .val (.int (1 : Int32)), .val (.ref st), .val (.ref mo), .val (.int ((0 : Int32) ||| (own_c a0' b0'))), .unset, .unset] [])) _
  refine XS.aload X19.here hx rfl (hb hby at_71) rfl rfl ?_
  show Steps p.tables e below (T19.setTop (mkF m 73 #[.val (.long a0'), .second, .val (.long a1'), .second, .val (.long b0'), .second, .val (.long b1'), .second, .val (.int kk), .val (.int (1 : Int32)), .val (.ref st), .val (.ref mo), .val (.int ((0 : Int32) ||| (own_c a0' b0'))), .unset, .unset] [(.ref mo)])) _
  refine X19.arraylength hx Ary.1 (State.isArrayOf_alike hZ.alike Ary.2.1) (g := (mkF m 73 #[.val (.long a0'), .second, .val (.long a1'), .second, .val (.long b0'), .second, .val (.long b1'), .second, .val (.int kk), .val (.int (1 : Int32)), .val (.ref st), .val (.ref mo), .val (.int ((0 : Int32) ||| (own_c a0' b0'))), .unset, .unset] [(.ref mo)])) rfl rfl (hb hby at_73) _ ?_
  rw [len_of Sy My]
  show Steps p.tables e below (T19.setTop (mkF m 74 #[.val (.long a0'), .second, .val (.long a1'), .second, .val (.long b0'), .second, .val (.long b1'), .second, .val (.int kk), .val (.int (1 : Int32)), .val (.ref st), .val (.ref mo), .val (.int ((0 : Int32) ||| (own_c a0' b0'))), .unset, .unset] [(.int (1 : Int32))])) _
  refine XS.iload X19.here hx rfl (hb hby at_74) rfl ?_
  show Steps p.tables e below (T19.setTop (mkF m 76 #[.val (.long a0'), .second, .val (.long a1'), .second, .val (.long b0'), .second, .val (.long b1'), .second, .val (.int kk), .val (.int (1 : Int32)), .val (.ref st), .val (.ref mo), .val (.int ((0 : Int32) ||| (own_c a0' b0'))), .unset, .unset] [(.int (1 : Int32)), (.int (1 : Int32))])) _
  refine XS.icmpNo X19.here hx rfl (hb hby at_76) rfl (teq (rfl : (1 : Int32) = (1 : Int32))).2 ?_
  show Steps p.tables e below (T19.setTop (mkF m 79 #[.val (.long a0'), .second, .val (.long a1'), .second, .val (.long b0'), .second, .val (.long b1'), .second, .val (.int kk), .val (.int (1 : Int32)), .val (.ref st), .val (.ref mo), .val (.int ((0 : Int32) ||| (own_c a0' b0'))), .unset, .unset] [])) _
  refine XS.iconst X19.here hx rfl (hb hby at_79) ?_
  show Steps p.tables e below (T19.setTop (mkF m 80 #[.val (.long a0'), .second, .val (.long a1'), .second, .val (.long b0'), .second, .val (.long b1'), .second, .val (.int kk), .val (.int (1 : Int32)), .val (.ref st), .val (.ref mo), .val (.int ((0 : Int32) ||| (own_c a0' b0'))), .unset, .unset] [(.int (1 : Int32))])) _
  refine XS.goto X19.here hx rfl (pc0 := 80) (pc' := 84) rfl (hb hby at_80) (by decide) (by decide) ?_
  show Steps p.tables e below (T19.setTop (mkF m 84 #[.val (.long a0'), .second, .val (.long a1'), .second, .val (.long b0'), .second, .val (.long b1'), .second, .val (.int kk), .val (.int (1 : Int32)), .val (.ref st), .val (.ref mo), .val (.int ((0 : Int32) ||| (own_c a0' b0'))), .unset, .unset] [(.int (1 : Int32))])) _
  refine XS.istore X19.here hx rfl (hb hby at_84) rfl (l' := #[.val (.long a0'), .second, .val (.long a1'), .second, .val (.long b0'), .second, .val (.long b1'), .second, .val (.int kk), .val (.int (1 : Int32)), .val (.ref st), .val (.ref mo), .val (.int ((0 : Int32) ||| (own_c a0' b0'))), .val (.int (1 : Int32)), .unset]) rfl ?_
  show Steps p.tables e below (T19.setTop (mkF m 86 #[.val (.long a0'), .second, .val (.long a1'), .second, .val (.long b0'), .second, .val (.long b1'), .second, .val (.int kk), .val (.int (1 : Int32)), .val (.ref st), .val (.ref mo), .val (.int ((0 : Int32) ||| (own_c a0' b0'))), .val (.int (1 : Int32)), .unset] [])) _
  refine XS.iconst X19.here hx rfl (hb hby at_86) ?_
  show Steps p.tables e below (T19.setTop (mkF m 87 #[.val (.long a0'), .second, .val (.long a1'), .second, .val (.long b0'), .second, .val (.long b1'), .second, .val (.int kk), .val (.int (1 : Int32)), .val (.ref st), .val (.ref mo), .val (.int ((0 : Int32) ||| (own_c a0' b0'))), .val (.int (1 : Int32)), .unset] [(.int (0 : Int32))])) _
  refine XS.istore X19.here hx rfl (hb hby at_87) rfl (l' := #[.val (.long a0'), .second, .val (.long a1'), .second, .val (.long b0'), .second, .val (.long b1'), .second, .val (.int kk), .val (.int (1 : Int32)), .val (.ref st), .val (.ref mo), .val (.int ((0 : Int32) ||| (own_c a0' b0'))), .val (.int (1 : Int32)), .val (.int (0 : Int32))]) rfl ?_
  show Steps p.tables e below (T19.setTop (mkF m 89 #[.val (.long a0'), .second, .val (.long a1'), .second, .val (.long b0'), .second, .val (.long b1'), .second, .val (.int kk), .val (.int (1 : Int32)), .val (.ref st), .val (.ref mo), .val (.int ((0 : Int32) ||| (own_c a0' b0'))), .val (.int (1 : Int32)), .val (.int (0 : Int32))] [])) _
  refine XS.iload X19.here hx rfl (hb hby at_89) rfl ?_
  show Steps p.tables e below (T19.setTop (mkF m 91 #[.val (.long a0'), .second, .val (.long a1'), .second, .val (.long b0'), .second, .val (.long b1'), .second, .val (.int kk), .val (.int (1 : Int32)), .val (.ref st), .val (.ref mo), .val (.int ((0 : Int32) ||| (own_c a0' b0'))), .val (.int (1 : Int32)), .val (.int (0 : Int32))] [(.int (1 : Int32))])) _
  refine XS.ifNo X19.here hx rfl (hb hby at_91) rfl ((if0 _ _).trans (tlt (by decide : (0 : Int32) < (1 : Int32))).2.2.2) ?_
  show Steps p.tables e below (T19.setTop (mkF m 94 #[.val (.long a0'), .second, .val (.long a1'), .second, .val (.long b0'), .second, .val (.long b1'), .second, .val (.int kk), .val (.int (1 : Int32)), .val (.ref st), .val (.ref mo), .val (.int ((0 : Int32) ||| (own_c a0' b0'))), .val (.int (1 : Int32)), .val (.int (0 : Int32))] [])) _
  refine XS.iload X19.here hx rfl (hb hby at_94) rfl ?_
  show Steps p.tables e below (T19.setTop (mkF m 96 #[.val (.long a0'), .second, .val (.long a1'), .second, .val (.long b0'), .second, .val (.long b1'), .second, .val (.int kk), .val (.int (1 : Int32)), .val (.ref st), .val (.ref mo), .val (.int ((0 : Int32) ||| (own_c a0' b0'))), .val (.int (1 : Int32)), .val (.int (0 : Int32))] [(.int (1 : Int32))])) _
  refine XS.ifNo X19.here hx rfl (hb hby at_96) rfl ((if0 _ _).trans (feq (by decide : ¬ ((1 : Int32) = (0 : Int32)))).1) ?_
  show Steps p.tables e below (T19.setTop (mkF m 99 #[.val (.long a0'), .second, .val (.long a1'), .second, .val (.long b0'), .second, .val (.long b1'), .second, .val (.int kk), .val (.int (1 : Int32)), .val (.ref st), .val (.ref mo), .val (.int ((0 : Int32) ||| (own_c a0' b0'))), .val (.int (1 : Int32)), .val (.int (0 : Int32))] [])) _
  refine XS.aload X19.here hx rfl (hb hby at_99) rfl rfl ?_
  show Steps p.tables e below (T19.setTop (mkF m 101 #[.val (.long a0'), .second, .val (.long a1'), .second, .val (.long b0'), .second, .val (.long b1'), .second, .val (.int kk), .val (.int (1 : Int32)), .val (.ref st), .val (.ref mo), .val (.int ((0 : Int32) ||| (own_c a0' b0'))), .val (.int (1 : Int32)), .val (.int (0 : Int32))] [(.ref st)])) _
  refine XS.iconst X19.here hx rfl (hb hby at_101) ?_
  show Steps p.tables e below (T19.setTop (mkF m 102 #[.val (.long a0'), .second, .val (.long a1'), .second, .val (.long b0'), .second, .val (.long b1'), .second, .val (.int kk), .val (.int (1 : Int32)), .val (.ref st), .val (.ref mo), .val (.int ((0 : Int32) ||| (own_c a0' b0'))), .val (.int (1 : Int32)), .val (.int (0 : Int32))] [(.int (0 : Int32)), (.ref st)])) _
  refine X19.laload hx (j := (0 : Int32)) (v := (.long (a0' ||| b0'))) Arx.1 (State.isArrayOf_alike hZ.alike Arx.2.1) Arx.2.2 (inb_of Sx ⟨by decide, by decide⟩) (Has.at Hx (inb_of Sx ⟨by decide, by decide⟩) rfl) (g := (mkF m 102 #[.val (.long a0'), .second, .val (.long a1'), .second, .val (.long b0'), .second, .val (.long b1'), .second, .val (.int kk), .val (.int (1 : Int32)), .val (.ref st), .val (.ref mo), .val (.int ((0 : Int32) ||| (own_c a0' b0'))), .val (.int (1 : Int32)), .val (.int (0 : Int32))] [(.int (0 : Int32)), (.ref st)])) rfl rfl (hb hby at_102) _ ?_
  show Steps p.tables e below (T19.setTop (mkF m 103 #[.val (.long a0'), .second, .val (.long a1'), .second, .val (.long b0'), .second, .val (.long b1'), .second, .val (.int kk), .val (.int (1 : Int32)), .val (.ref st), .val (.ref mo), .val (.int ((0 : Int32) ||| (own_c a0' b0'))), .val (.int (1 : Int32)), .val (.int (0 : Int32))] [(.long (a0' ||| b0'))])) _
  refine XS.lloadN X19.here hx rfl (hb hby at_103) rfl ?_
  show Steps p.tables e below (T19.setTop (mkF m 104 #[.val (.long a0'), .second, .val (.long a1'), .second, .val (.long b0'), .second, .val (.long b1'), .second, .val (.int kk), .val (.int (1 : Int32)), .val (.ref st), .val (.ref mo), .val (.int ((0 : Int32) ||| (own_c a0' b0'))), .val (.int (1 : Int32)), .val (.int (0 : Int32))] [(.long a0'), (.long (a0' ||| b0'))])) _
  refine XS.lload X19.here hx rfl (hb hby at_104) rfl ?_
  show Steps p.tables e below (T19.setTop (mkF m 106 #[.val (.long a0'), .second, .val (.long a1'), .second, .val (.long b0'), .second, .val (.long b1'), .second, .val (.int kk), .val (.int (1 : Int32)), .val (.ref st), .val (.ref mo), .val (.int ((0 : Int32) ||| (own_c a0' b0'))), .val (.int (1 : Int32)), .val (.int (0 : Int32))] [(.long b0'), (.long a0'), (.long (a0' ||| b0'))])) _
  refine XS.lor X19.here hx rfl (hb hby at_106) rfl ?_
  show Steps p.tables e below (T19.setTop (mkF m 107 #[.val (.long a0'), .second, .val (.long a1'), .second, .val (.long b0'), .second, .val (.long b1'), .second, .val (.int kk), .val (.int (1 : Int32)), .val (.ref st), .val (.ref mo), .val (.int ((0 : Int32) ||| (own_c a0' b0'))), .val (.int (1 : Int32)), .val (.int (0 : Int32))] [(.long (a0' ||| b0')), (.long (a0' ||| b0'))])) _
  refine XS.lcmp X19.here hx rfl (hb hby at_107) rfl ?_
  show Steps p.tables e below (T19.setTop (mkF m 108 #[.val (.long a0'), .second, .val (.long a1'), .second, .val (.long b0'), .second, .val (.long b1'), .second, .val (.int kk), .val (.int (1 : Int32)), .val (.ref st), .val (.ref mo), .val (.int ((0 : Int32) ||| (own_c a0' b0'))), .val (.int (1 : Int32)), .val (.int (0 : Int32))] [(.int (lcmpW (a0' ||| b0') (a0' ||| b0')))])) _
  refine XS.ifNo X19.here hx rfl (hb hby at_108) rfl ((if0 _ _).trans (teq ((lw_eq _ _).mpr rfl : (lcmpW (a0' ||| b0') (a0' ||| b0')) = (0 : Int32))).2) ?_
  show Steps p.tables e below (T19.setTop (mkF m 111 #[.val (.long a0'), .second, .val (.long a1'), .second, .val (.long b0'), .second, .val (.long b1'), .second, .val (.int kk), .val (.int (1 : Int32)), .val (.ref st), .val (.ref mo), .val (.int ((0 : Int32) ||| (own_c a0' b0'))), .val (.int (1 : Int32)), .val (.int (0 : Int32))] [])) _
  refine XS.aload X19.here hx rfl (hb hby at_111) rfl rfl ?_
  show Steps p.tables e below (T19.setTop (mkF m 113 #[.val (.long a0'), .second, .val (.long a1'), .second, .val (.long b0'), .second, .val (.long b1'), .second, .val (.int kk), .val (.int (1 : Int32)), .val (.ref st), .val (.ref mo), .val (.int ((0 : Int32) ||| (own_c a0' b0'))), .val (.int (1 : Int32)), .val (.int (0 : Int32))] [(.ref mo)])) _
  refine XS.iconst X19.here hx rfl (hb hby at_113) ?_
  show Steps p.tables e below (T19.setTop (mkF m 114 #[.val (.long a0'), .second, .val (.long a1'), .second, .val (.long b0'), .second, .val (.long b1'), .second, .val (.int kk), .val (.int (1 : Int32)), .val (.ref st), .val (.ref mo), .val (.int ((0 : Int32) ||| (own_c a0' b0'))), .val (.int (1 : Int32)), .val (.int (0 : Int32))] [(.int (0 : Int32)), (.ref mo)])) _
  refine X19.laload hx (j := (0 : Int32)) (v := (.long b0')) Ary.1 (State.isArrayOf_alike hZ.alike Ary.2.1) Ary.2.2 (inb_of Sy ⟨by decide, by decide⟩) (Has.at Hy (inb_of Sy ⟨by decide, by decide⟩) rfl) (g := (mkF m 114 #[.val (.long a0'), .second, .val (.long a1'), .second, .val (.long b0'), .second, .val (.long b1'), .second, .val (.int kk), .val (.int (1 : Int32)), .val (.ref st), .val (.ref mo), .val (.int ((0 : Int32) ||| (own_c a0' b0'))), .val (.int (1 : Int32)), .val (.int (0 : Int32))] [(.int (0 : Int32)), (.ref mo)])) rfl rfl (hb hby at_114) _ ?_
  show Steps p.tables e below (T19.setTop (mkF m 115 #[.val (.long a0'), .second, .val (.long a1'), .second, .val (.long b0'), .second, .val (.long b1'), .second, .val (.int kk), .val (.int (1 : Int32)), .val (.ref st), .val (.ref mo), .val (.int ((0 : Int32) ||| (own_c a0' b0'))), .val (.int (1 : Int32)), .val (.int (0 : Int32))] [(.long b0')])) _
  refine XS.lload X19.here hx rfl (hb hby at_115) rfl ?_
  show Steps p.tables e below (T19.setTop (mkF m 117 #[.val (.long a0'), .second, .val (.long a1'), .second, .val (.long b0'), .second, .val (.long b1'), .second, .val (.int kk), .val (.int (1 : Int32)), .val (.ref st), .val (.ref mo), .val (.int ((0 : Int32) ||| (own_c a0' b0'))), .val (.int (1 : Int32)), .val (.int (0 : Int32))] [(.long b0'), (.long b0')])) _
  refine XS.lcmp X19.here hx rfl (hb hby at_117) rfl ?_
  show Steps p.tables e below (T19.setTop (mkF m 118 #[.val (.long a0'), .second, .val (.long a1'), .second, .val (.long b0'), .second, .val (.long b1'), .second, .val (.int kk), .val (.int (1 : Int32)), .val (.ref st), .val (.ref mo), .val (.int ((0 : Int32) ||| (own_c a0' b0'))), .val (.int (1 : Int32)), .val (.int (0 : Int32))] [(.int (lcmpW b0' b0'))])) _
  refine XS.ifNo X19.here hx rfl (hb hby at_118) rfl ((if0 _ _).trans (teq ((lw_eq _ _).mpr rfl : (lcmpW b0' b0') = (0 : Int32))).2) ?_
  show Steps p.tables e below (T19.setTop (mkF m 121 #[.val (.long a0'), .second, .val (.long a1'), .second, .val (.long b0'), .second, .val (.long b1'), .second, .val (.int kk), .val (.int (1 : Int32)), .val (.ref st), .val (.ref mo), .val (.int ((0 : Int32) ||| (own_c a0' b0'))), .val (.int (1 : Int32)), .val (.int (0 : Int32))] [])) _
  refine XS.iconst X19.here hx rfl (hb hby at_121) ?_
  show Steps p.tables e below (T19.setTop (mkF m 122 #[.val (.long a0'), .second, .val (.long a1'), .second, .val (.long b0'), .second, .val (.long b1'), .second, .val (.int kk), .val (.int (1 : Int32)), .val (.ref st), .val (.ref mo), .val (.int ((0 : Int32) ||| (own_c a0' b0'))), .val (.int (1 : Int32)), .val (.int (0 : Int32))] [(.int (1 : Int32))])) _
  refine XS.goto X19.here hx rfl (pc0 := 122) (pc' := 126) rfl (hb hby at_122) (by decide) (by decide) ?_
  show Steps p.tables e below (T19.setTop (mkF m 126 #[.val (.long a0'), .second, .val (.long a1'), .second, .val (.long b0'), .second, .val (.long b1'), .second, .val (.int kk), .val (.int (1 : Int32)), .val (.ref st), .val (.ref mo), .val (.int ((0 : Int32) ||| (own_c a0' b0'))), .val (.int (1 : Int32)), .val (.int (0 : Int32))] [(.int (1 : Int32))])) _
  refine XS.istore X19.here hx rfl (hb hby at_126) rfl (l' := #[.val (.long a0'), .second, .val (.long a1'), .second, .val (.long b0'), .second, .val (.long b1'), .second, .val (.int kk), .val (.int (1 : Int32)), .val (.ref st), .val (.ref mo), .val (.int ((0 : Int32) ||| (own_c a0' b0'))), .val (.int (1 : Int32)), .val (.int (0 : Int32))]) rfl ?_
  show Steps p.tables e below (T19.setTop (mkF m 128 #[.val (.long a0'), .second, .val (.long a1'), .second, .val (.long b0'), .second, .val (.long b1'), .second, .val (.int kk), .val (.int (1 : Int32)), .val (.ref st), .val (.ref mo), .val (.int ((0 : Int32) ||| (own_c a0' b0'))), .val (.int (1 : Int32)), .val (.int (0 : Int32))] [])) _
  refine XS.iload X19.here hx rfl (hb hby at_128) rfl ?_
  show Steps p.tables e below (T19.setTop (mkF m 130 #[.val (.long a0'), .second, .val (.long a1'), .second, .val (.long b0'), .second, .val (.long b1'), .second, .val (.int kk), .val (.int (1 : Int32)), .val (.ref st), .val (.ref mo), .val (.int ((0 : Int32) ||| (own_c a0' b0'))), .val (.int (1 : Int32)), .val (.int (0 : Int32))] [(.int (0 : Int32))])) _
  refine XS.ifNo X19.here hx rfl (hb hby at_130) rfl ((if0 _ _).trans (teq (rfl : (0 : Int32) = (0 : Int32))).2) ?_
  show Steps p.tables e below (T19.setTop (mkF m 133 #[.val (.long a0'), .second, .val (.long a1'), .second, .val (.long b0'), .second, .val (.long b1'), .second, .val (.int kk), .val (.int (1 : Int32)), .val (.ref st), .val (.ref mo), .val (.int ((0 : Int32) ||| (own_c a0' b0'))), .val (.int (1 : Int32)), .val (.int (0 : Int32))] [])) _
  refine XS.aload X19.here hx rfl (hb hby at_133) rfl rfl ?_
  show Steps p.tables e below (T19.setTop (mkF m 135 #[.val (.long a0'), .second, .val (.long a1'), .second, .val (.long b0'), .second, .val (.long b1'), .second, .val (.int kk), .val (.int (1 : Int32)), .val (.ref st), .val (.ref mo), .val (.int ((0 : Int32) ||| (own_c a0' b0'))), .val (.int (1 : Int32)), .val (.int (0 : Int32))] [(.ref st)])) _
  refine XS.iconst X19.here hx rfl (hb hby at_135) ?_
  show Steps p.tables e below (T19.setTop (mkF m 136 #[.val (.long a0'), .second, .val (.long a1'), .second, .val (.long b0'), .second, .val (.long b1'), .second, .val (.int kk), .val (.int (1 : Int32)), .val (.ref st), .val (.ref mo), .val (.int ((0 : Int32) ||| (own_c a0' b0'))), .val (.int (1 : Int32)), .val (.int (0 : Int32))] [(.int (0 : Int32)), (.ref st)])) _
  refine X19.laload hx (j := (0 : Int32)) (v := (.long (a0' ||| b0'))) Arx.1 (State.isArrayOf_alike hZ.alike Arx.2.1) Arx.2.2 (inb_of Sx ⟨by decide, by decide⟩) (Has.at Hx (inb_of Sx ⟨by decide, by decide⟩) rfl) (g := (mkF m 136 #[.val (.long a0'), .second, .val (.long a1'), .second, .val (.long b0'), .second, .val (.long b1'), .second, .val (.int kk), .val (.int (1 : Int32)), .val (.ref st), .val (.ref mo), .val (.int ((0 : Int32) ||| (own_c a0' b0'))), .val (.int (1 : Int32)), .val (.int (0 : Int32))] [(.int (0 : Int32)), (.ref st)])) rfl rfl (hb hby at_136) _ ?_
  show Steps p.tables e below (T19.setTop (mkF m 137 #[.val (.long a0'), .second, .val (.long a1'), .second, .val (.long b0'), .second, .val (.long b1'), .second, .val (.int kk), .val (.int (1 : Int32)), .val (.ref st), .val (.ref mo), .val (.int ((0 : Int32) ||| (own_c a0' b0'))), .val (.int (1 : Int32)), .val (.int (0 : Int32))] [(.long (a0' ||| b0'))])) _
  refine XS.lloadN X19.here hx rfl (hb hby at_137) rfl ?_
  show Steps p.tables e below (T19.setTop (mkF m 138 #[.val (.long a0'), .second, .val (.long a1'), .second, .val (.long b0'), .second, .val (.long b1'), .second, .val (.int kk), .val (.int (1 : Int32)), .val (.ref st), .val (.ref mo), .val (.int ((0 : Int32) ||| (own_c a0' b0'))), .val (.int (1 : Int32)), .val (.int (0 : Int32))] [(.long a0'), (.long (a0' ||| b0'))])) _
  refine XS.lcmp X19.here hx rfl (hb hby at_138) rfl ?_
  show Steps p.tables e below (T19.setTop (mkF m 139 #[.val (.long a0'), .second, .val (.long a1'), .second, .val (.long b0'), .second, .val (.long b1'), .second, .val (.int kk), .val (.int (1 : Int32)), .val (.ref st), .val (.ref mo), .val (.int ((0 : Int32) ||| (own_c a0' b0'))), .val (.int (1 : Int32)), .val (.int (0 : Int32))] [(.int (lcmpW (a0' ||| b0') a0'))])) _
  refine jd _ ?_
  show Steps p.tables e below (T19.setTop (mkF m 147 #[.val (.long a0'), .second, .val (.long a1'), .second, .val (.long b0'), .second, .val (.long b1'), .second, .val (.int kk), .val (.int (1 : Int32)), .val (.ref st), .val (.ref mo), .val (.int ((0 : Int32) ||| (own_c a0' b0'))), .val (.int (1 : Int32)), .val (.int (0 : Int32))] [(.int (own_d a0' b0'))])) _
  refine XS.istore X19.here hx rfl (hb hby at_147) rfl (l' := #[.val (.long a0'), .second, .val (.long a1'), .second, .val (.long b0'), .second, .val (.long b1'), .second, .val (.int kk), .val (.int (1 : Int32)), .val (.ref st), .val (.ref mo), .val (.int ((0 : Int32) ||| (own_c a0' b0'))), .val (.int (1 : Int32)), .val (.int (own_d a0' b0'))]) rfl ?_
  show Steps p.tables e below (T19.setTop (mkF m 149 #[.val (.long a0'), .second, .val (.long a1'), .second, .val (.long b0'), .second, .val (.long b1'), .second, .val (.int kk), .val (.int (1 : Int32)), .val (.ref st), .val (.ref mo), .val (.int ((0 : Int32) ||| (own_c a0' b0'))), .val (.int (1 : Int32)), .val (.int (own_d a0' b0'))] [])) _
  refine XS.iload X19.here hx rfl (hb hby at_149) rfl ?_
  show Steps p.tables e below (T19.setTop (mkF m 151 #[.val (.long a0'), .second, .val (.long a1'), .second, .val (.long b0'), .second, .val (.long b1'), .second, .val (.int kk), .val (.int (1 : Int32)), .val (.ref st), .val (.ref mo), .val (.int ((0 : Int32) ||| (own_c a0' b0'))), .val (.int (1 : Int32)), .val (.int (own_d a0' b0'))] [(.int (1 : Int32))])) _
  refine XS.iconst X19.here hx rfl (hb hby at_151) ?_
  show Steps p.tables e below (T19.setTop (mkF m 152 #[.val (.long a0'), .second, .val (.long a1'), .second, .val (.long b0'), .second, .val (.long b1'), .second, .val (.int kk), .val (.int (1 : Int32)), .val (.ref st), .val (.ref mo), .val (.int ((0 : Int32) ||| (own_c a0' b0'))), .val (.int (1 : Int32)), .val (.int (own_d a0' b0'))] [(.int (1 : Int32)), (.int (1 : Int32))])) _
  refine XS.icmpYes X19.here hx rfl (pc0 := 152) (pc' := 210) rfl (hb hby at_152) rfl (flt (by decide : ¬ ((1 : Int32) < (1 : Int32)))).2.2.2 (by decide) (by decide) ?_
  show Steps p.tables e below (T19.setTop (mkF m 210 #[.val (.long a0'), .second, .val (.long a1'), .second, .val (.long b0'), .second, .val (.long b1'), .second, .val (.int kk), .val (.int (1 : Int32)), .val (.ref st), .val (.ref mo), .val (.int ((0 : Int32) ||| (own_c a0' b0'))), .val (.int (1 : Int32)), .val (.int (own_d a0' b0'))] [])) _
  refine XS.iload X19.here hx rfl (hb hby at_210) rfl ?_
  show Steps p.tables e below (T19.setTop (mkF m 212 #[.val (.long a0'), .second, .val (.long a1'), .second, .val (.long b0'), .second, .val (.long b1'), .second, .val (.int kk), .val (.int (1 : Int32)), .val (.ref st), .val (.ref mo), .val (.int ((0 : Int32) ||| (own_c a0' b0'))), .val (.int (1 : Int32)), .val (.int (own_d a0' b0'))] [(.int (1 : Int32))])) _
  refine XS.ifNo X19.here hx rfl (hb hby at_212) rfl ((if0 _ _).trans (feq (by decide : ¬ ((1 : Int32) = (0 : Int32)))).1) ?_
  show Steps p.tables e below (T19.setTop (mkF m 215 #[.val (.long a0'), .second, .val (.long a1'), .second, .val (.long b0'), .second, .val (.long b1'), .second, .val (.int kk), .val (.int (1 : Int32)), .val (.ref st), .val (.ref mo), .val (.int ((0 : Int32) ||| (own_c a0' b0'))), .val (.int (1 : Int32)), .val (.int (own_d a0' b0'))] [])) _
  refine XS.iload X19.here hx rfl (hb hby at_215) rfl ?_
  show Steps p.tables e below (T19.setTop (mkF m 217 #[.val (.long a0'), .second, .val (.long a1'), .second, .val (.long b0'), .second, .val (.long b1'), .second, .val (.int kk), .val (.int (1 : Int32)), .val (.ref st), .val (.ref mo), .val (.int ((0 : Int32) ||| (own_c a0' b0'))), .val (.int (1 : Int32)), .val (.int (own_d a0' b0'))] [(.int ((0 : Int32) ||| (own_c a0' b0')))])) _
  refine XS.iload X19.here hx rfl (hb hby at_217) rfl ?_
  show Steps p.tables e below (T19.setTop (mkF m 219 #[.val (.long a0'), .second, .val (.long a1'), .second, .val (.long b0'), .second, .val (.long b1'), .second, .val (.int kk), .val (.int (1 : Int32)), .val (.ref st), .val (.ref mo), .val (.int ((0 : Int32) ||| (own_c a0' b0'))), .val (.int (1 : Int32)), .val (.int (own_d a0' b0'))] [(.int (own_d a0' b0')), (.int ((0 : Int32) ||| (own_c a0' b0')))])) _
  refine XS.icmpNo X19.here hx rfl (hb hby at_219) rfl (teq (own_fin1 a0' b0' : ((0 : Int32) ||| (own_c a0' b0')) = (own_d a0' b0'))).2 ?_
  show Steps p.tables e below (T19.setTop (mkF m 222 #[.val (.long a0'), .second, .val (.long a1'), .second, .val (.long b0'), .second, .val (.long b1'), .second, .val (.int kk), .val (.int (1 : Int32)), .val (.ref st), .val (.ref mo), .val (.int ((0 : Int32) ||| (own_c a0' b0'))), .val (.int (1 : Int32)), .val (.int (own_d a0' b0'))] [])) _
  refine XS.iconst X19.here hx rfl (hb hby at_222) ?_
  show Steps p.tables e below (T19.setTop (mkF m 223 #[.val (.long a0'), .second, .val (.long a1'), .second, .val (.long b0'), .second, .val (.long b1'), .second, .val (.int kk), .val (.int (1 : Int32)), .val (.ref st), .val (.ref mo), .val (.int ((0 : Int32) ||| (own_c a0' b0'))), .val (.int (1 : Int32)), .val (.int (own_d a0' b0'))] [(.int (1 : Int32))])) _
  refine XS.goto X19.here hx rfl (pc0 := 223) (pc' := 227) rfl (hb hby at_223) (by decide) (by decide) ?_
  exact kt
set_option maxRecDepth 65536 in
set_option maxHeartbeats 40000000 in
theorem rd2 {p : Program} {l : Launch} {e : Env} {s : State} {m : MethodId} {args : Array Value} {below : List Frame} {meth : Method} {c : Code} {T0 : State} {locs : List Loc} {Z : State} {a0 : Array Value} {h0 : Heap} {n0 : Nat} (a0' a1' b0' b1' : Int64) (kk : Int32)
    (X0 : Stand p l e room_1 s m args below meth c T0 locs 0 0) (hx : p.tables.exec = Jvm.exec) (hZ : Z.Warmed39 s.vm) (hw : ∀ d ∈ tables_1, d.before a0 Z = true) (hby : c.code = code) (hml : c.maxLocals = 15) (hown : s.vm.findClass "com/example/coterie/coterie/engine/CodeSetsAddAllPinLaw" = some m.cls) (e0 : T0.heap = h0) (N0 : Fr n0 locs) (Z0 : n0 ≤ h0.size)  :
    ∃ (T' : State) (h' : Heap) (locs' : List Loc) (LL : Array Slot), Stand p l e room_1 s m args below meth c T' locs' 2 4 ∧ T'.heap = h' ∧ Fr n0 locs' ∧ n0 ≤ h'.size ∧ (True) ∧
      ∀ target, Steps p.tables e below (T'.setTop (mkF m 227 LL [(.int (1 : Int32))])) target → Steps p.tables e below (T0.setTop (mkF m 9 #[.val (.long a0'), .second, .val (.long a1'), .second, .val (.long b0'), .second, .val (.long b1'), .second, .val (.int kk), .val (.int (2 : Int32)), .unset, .unset, .unset, .unset, .unset] [])) target := by
  obtain ⟨T27, h27, k27, X27, e27, E27, A27, st27⟩ := newP X0 hx hZ (hw _ (List.mem_of_getElem? (i := 1) rfl)) e0 (g := (mkF m 11 #[.val (.long a0'), .second, .val (.long a1'), .second, .val (.long b0'), .second, .val (.long b1'), .second, .val (.int kk), .val (.int (2 : Int32)), .unset, .unset, .unset, .unset, .unset] [(.int (2 : Int32))])) rfl (hb hby at_11) rfl (by decide) (cap := 2) (by decide) (by decide) (by decide) (by decide)
  obtain ⟨st, g27⟩ : ∃ z, z = h0.size := ⟨_, rfl⟩
  rw [← g27] at A27 st27
  have g_st : n0 ≤ st := Nat.le_trans Z0 (Nat.le_of_eq g27.symm)
  have Z27 : n0 ≤ h27.size := Nat.le_trans Z0 E27.1
  have Vs0 : Arv Z h27 st k27 .long (2 : Int32) [] (.long (0 : Int64)) := Arv.new A27 (by decide)
  obtain ⟨T28, h28, k28, X28, e28, E28, A28, st28⟩ := newP X27 hx hZ (hw _ (List.mem_of_getElem? (i := 1) rfl)) e27 (g := (mkF m 17 #[.val (.long a0'), .second, .val (.long a1'), .second, .val (.long b0'), .second, .val (.long b1'), .second, .val (.int kk), .val (.int (2 : Int32)), .val (.ref st), .unset, .unset, .unset, .unset] [(.int (2 : Int32))])) rfl (hb hby at_17) rfl (by decide) (cap := 2) (by decide) (by decide) (by decide) (by decide)
  obtain ⟨mo, g28⟩ : ∃ z, z = h27.size := ⟨_, rfl⟩
  rw [← g28] at A28 st28
  have g_mo : n0 ≤ mo := Nat.le_trans Z27 (Nat.le_of_eq g28.symm)
  have Z28 : n0 ≤ h28.size := Nat.le_trans Z27 E28.1
  have ne : st ≠ mo := Nat.ne_of_lt (Nat.lt_of_lt_of_le Vs0.lt (Nat.le_of_eq g28.symm))
  have Vm0 : Arv Z h28 mo k28 .long (2 : Int32) [] (.long (0 : Int64)) := Arv.new A28 (by decide)
  have Vs1 : Arv Z h28 st k27 .long (2 : Int32) [(.long (0 : Int64)), (.long (0 : Int64))] (.long (0 : Int64)) := (Vs0.ext E28).pad (pad_rep [] (.long (0 : Int64)) 2)
  have Vm1 : Arv Z h28 mo k28 .long (2 : Int32) [(.long (0 : Int64)), (.long (0 : Int64))] (.long (0 : Int64)) := Vm0.pad (pad_rep [] (.long (0 : Int64)) 2)
  obtain ⟨cls0, Ars0, qs0, Ss0, Ms0, Hs0, Gs0⟩ := Vs1
  obtain ⟨T29, h29, X29, e29, W29, st29⟩ := stJ X28 hx hZ e28 Ars0 (j := (0 : Int32)) (inb_of Ss0 ⟨by decide, by decide⟩) (g := (mkF m 30 #[.val (.long a0'), .second, .val (.long a1'), .second, .val (.long b0'), .second, .val (.long b1'), .second, .val (.int kk), .val (.int (2 : Int32)), .val (.ref st), .val (.ref mo), .unset, .unset, .unset] [(.long a0'), (.int (0 : Int32)), (.ref st)])) rfl rfl (hb hby at_30)
  have N29 := Fr.snoc X29 N0 g_st
  have Z29 : n0 ≤ h29.size := Nat.le_trans Z28 (Keep.of_wr W29).1
  have W_s0 : Arv Z h29 st k27 .long (2 : Int32) [(.long a0'), (.long (0 : Int64))] (.long (0 : Int64)) := Arv.set Ars0 qs0 Ss0 Ms0 Hs0 Gs0 rfl W29 0 rfl (Nat.le_of_ble_eq_true rfl)
  have O_s0 := Arv.other Vm1 W29 (Ne.symm ne)
  obtain ⟨clm0, Arm0, qm0, Sm0, Mm0, Hm0, Gm0⟩ := O_s0
  obtain ⟨T30, h30, X30, e30, W30, st30⟩ := stJ X29 hx hZ e29 Arm0 (j := (0 : Int32)) (inb_of Sm0 ⟨by decide, by decide⟩) (g := (mkF m 36 #[.val (.long a0'), .second, .val (.long a1'), .second, .val (.long b0'), .second, .val (.long b1'), .second, .val (.int kk), .val (.int (2 : Int32)), .val (.ref st), .val (.ref mo), .unset, .unset, .unset] [(.long b0'), (.int (0 : Int32)), (.ref mo)])) rfl rfl (hb hby at_36)
  have N30 := Fr.snoc X30 N29 g_mo
  have Z30 : n0 ≤ h30.size := Nat.le_trans Z29 (Keep.of_wr W30).1
  have W_m0 : Arv Z h30 mo k28 .long (2 : Int32) [(.long b0'), (.long (0 : Int64))] (.long (0 : Int64)) := Arv.set Arm0 qm0 Sm0 Mm0 Hm0 Gm0 rfl W30 0 rfl (Nat.le_of_ble_eq_true rfl)
  have O_m0 := Arv.other W_s0 W30 ne
  obtain ⟨cls1, Ars1, qs1, Ss1, Ms1, Hs1, Gs1⟩ := O_m0
  obtain ⟨T31, h31, X31, e31, W31, st31⟩ := stJ X30 hx hZ e30 Ars1 (j := (1 : Int32)) (inb_of Ss1 ⟨by decide, by decide⟩) (g := (mkF m 47 #[.val (.long a0'), .second, .val (.long a1'), .second, .val (.long b0'), .second, .val (.long b1'), .second, .val (.int kk), .val (.int (2 : Int32)), .val (.ref st), .val (.ref mo), .unset, .unset, .unset] [(.long a1'), (.int (1 : Int32)), (.ref st)])) rfl rfl (hb hby at_47)
  have N31 := Fr.snoc X31 N30 g_st
  have Z31 : n0 ≤ h31.size := Nat.le_trans Z30 (Keep.of_wr W31).1
  have W_s1 : Arv Z h31 st k27 .long (2 : Int32) [(.long a0'), (.long a1')] (.long (0 : Int64)) := Arv.set Ars1 qs1 Ss1 Ms1 Hs1 Gs1 rfl W31 1 rfl (Nat.le_of_ble_eq_true rfl)
  have O_s1 := Arv.other W_m0 W31 (Ne.symm ne)
  obtain ⟨clm1, Arm1, qm1, Sm1, Mm1, Hm1, Gm1⟩ := O_s1
  obtain ⟨T32, h32, X32, e32, W32, st32⟩ := stJ X31 hx hZ e31 Arm1 (j := (1 : Int32)) (inb_of Sm1 ⟨by decide, by decide⟩) (g := (mkF m 53 #[.val (.long a0'), .second, .val (.long a1'), .second, .val (.long b0'), .second, .val (.long b1'), .second, .val (.int kk), .val (.int (2 : Int32)), .val (.ref st), .val (.ref mo), .unset, .unset, .unset] [(.long b1'), (.int (1 : Int32)), (.ref mo)])) rfl rfl (hb hby at_53)
  have N32 := Fr.snoc X32 N31 g_mo
  have Z32 : n0 ≤ h32.size := Nat.le_trans Z31 (Keep.of_wr W32).1
  have W_m1 : Arv Z h32 mo k28 .long (2 : Int32) [(.long b0'), (.long b1')] (.long (0 : Int64)) := Arv.set Arm1 qm1 Sm1 Mm1 Hm1 Gm1 rfl W32 1 rfl (Nat.le_of_ble_eq_true rfl)
  have O_m1 := Arv.other W_s1 W32 ne
  obtain ⟨_, _, ⟨T33, L33, k33, n33⟩, -, X33, ⟨Lc33, hQ33, l33, y33, z33⟩, st33⟩ := Jvm.LawKit.callS X32 hx (y := (⟨"com/example/coterie/coterie/engine/CodeSets", "addAll", "([J[J)Z"⟩ : MethodName)) hown (mvT hZ (hw _ (List.mem_of_getElem? (i := 2) rfl))) (mvT hZ (hw _ (List.mem_of_getElem? (i := 3) rfl))) (mvT hZ (hw _ (List.mem_of_getElem? (i := 4) rfl))) (mvT hZ (hw _ (List.mem_of_getElem? (i := 5) rfl))) (by decide) (backOf (W := 0) (rm_1_2 l Z a0 hw [] st mo k27 k28 a0' a1' b0' b1' h32 n0 Z32 O_m1 W_m1 ne g_st) hZ (hw _ (List.mem_of_getElem? (i := 5) rfl)) (hw _ (List.mem_of_getElem? (i := 4) rfl)) (by decide) (by decide)) (g := (mkF m 58 #[.val (.long a0'), .second, .val (.long a1'), .second, .val (.long b0'), .second, .val (.long b1'), .second, .val (.int kk), .val (.int (2 : Int32)), .val (.ref st), .val (.ref mo), .unset, .unset, .unset] [(.ref mo), (.ref st)])) rfl (by rw [hml]; rfl) (argsL := [(.ref st), (.ref mo)]) (rest := []) (lenOf pd_0 rfl) rfl (by show 2 * 0 + _ ≤ _; exact Nat.le_of_eq rfl) (hb hby at_58) (fun _ _ => ⟨rfl, e32, (by decide : 2 + 0 ≤ _), (by decide : 4 + 0 ≤ _)⟩)
  dsimp only [Pt.U, Pt.locs, Pt.cells, Pt.slots] at X33 l33 y33 z33 st33 hQ33
  subst l33 y33 z33
  obtain ⟨rfl, N33q, K1, U1⟩ := hQ33
  have N33 := Fr.app N32 N33q
  have Z33 : n0 ≤ T33.heap.size := Nat.le_trans Z32 K1.1
  have U2 := Arv.keep W_m1 K1 (ninS (Ne.symm ne) nin0)
  obtain ⟨clx, Arx, qx, Sx, Mx, Hx, Gx⟩ := U1
  obtain ⟨cly, Ary, qy, Sy, My, Hy, Gy⟩ := U2
  have jd : ∀ t, Steps p.tables e below (T33.setTop (mkF m 147 #[.val (.long a0'), .second, .val (.long a1'), .second, .val (.long b0'), .second, .val (.long b1'), .second, .val (.int kk), .val (.int (2 : Int32)), .val (.ref st), .val (.ref mo), .val (.int (((0 : Int32) ||| (own_c a0' b0')) ||| (own_c a1' b1'))), .val (.int (1 : Int32)), .val (.int (0 : Int32))] [(.int (own_d a0' b0'))])) t → Steps p.tables e below (T33.setTop (mkF m 139 #[.val (.long a0'), .second, .val (.long a1'), .second, .val (.long b0'), .second, .val (.long b1'), .second, .val (.int kk), .val (.int (2 : Int32)), .val (.ref st), .val (.ref mo), .val (.int (((0 : Int32) ||| (own_c a0' b0')) ||| (own_c a1' b1'))), .val (.int (1 : Int32)), .val (.int (0 : Int32))] [(.int (lcmpW (a0' ||| b0') a0'))])) t := by
    intro t kt
    by_cases hc : (a0' ||| b0') = a0'
    · have hv : own_d a0' b0' = 0 := if_pos hc
      rw [hv] at kt
      show Steps p.tables e below (T33.setTop (mkF m 139 #[.val (.long a0'), .second, .val (.long a1'), .second, .val (.long b0'), .second, .val (.long b1'), .second, .val (.int kk), .val (.int (2 : Int32)), .val (.ref st), .val (.ref mo), .val (.int (((0 : Int32) ||| (own_c a0' b0')) ||| (own_c a1' b1'))), .val (.int (1 : Int32)), .val (.int (0 : Int32))] [(.int (lcmpW (a0' ||| b0') a0'))])) _
      refine XS.ifYes X33.here hx rfl (pc0 := 139) (pc' := 146) rfl (hb hby at_139) rfl ((if0 _ _).trans (teq ((lw_eq _ _).mpr hc : (lcmpW (a0' ||| b0') a0') = (0 : Int32))).1) (by decide) (by decide) ?_
      show Steps p.tables e below (T33.setTop (mkF m 146 #[.val (.long a0'), .second, .val (.long a1'), .second, .val (.long b0'), .second, .val (.long b1'), .second, .val (.int kk), .val (.int (2 : Int32)), .val (.ref st), .val (.ref mo), .val (.int (((0 : Int32) ||| (own_c a0' b0')) ||| (own_c a1' b1'))), .val (.int (1 : Int32)), .val (.int (0 : Int32))] [])) _
      refine XS.iconst X33.here hx rfl (hb hby at_146) ?_
      exact kt
    · have hv : own_d a0' b0' = 1 := if_neg hc
      rw [hv] at kt
      show Steps p.tables e below (T33.setTop (mkF m 139 #[.val (.long a0'), .second, .val (.long a1'), .second, .val (.long b0'), .second, .val (.long b1'), .second, .val (.int kk), .val (.int (2 : Int32)), .val (.ref st), .val (.ref mo), .val (.int (((0 : Int32) ||| (own_c a0' b0')) ||| (own_c a1' b1'))), .val (.int (1 : Int32)), .val (.int (0 : Int32))] [(.int (lcmpW (a0' ||| b0') a0'))])) _
      refine XS.ifNo X33.here hx rfl (hb hby at_139) rfl ((if0 _ _).trans (feq (fun q => hc ((lw_eq _ _).mp q) : ¬ ((lcmpW (a0' ||| b0') a0') = (0 : Int32)))).1) ?_
      show Steps p.tables e below (T33.setTop (mkF m 142 #[.val (.long a0'), .second, .val (.long a1'), .second, .val (.long b0'), .second, .val (.long b1'), .second, .val (.int kk), .val (.int (2 : Int32)), .val (.ref st), .val (.ref mo), .val (.int (((0 : Int32) ||| (own_c a0' b0')) ||| (own_c a1' b1'))), .val (.int (1 : Int32)), .val (.int (0 : Int32))] [])) _
      refine XS.iconst X33.here hx rfl (hb hby at_142) ?_
      show Steps p.tables e below (T33.setTop (mkF m 143 #[.val (.long a0'), .second, .val (.long a1'), .second, .val (.long b0'), .second, .val (.long b1'), .second, .val (.int kk), .val (.int (2 : Int32)), .val (.ref st), .val (.ref mo), .val (.int (((0 : Int32) ||| (own_c a0' b0')) ||| (own_c a1' b1'))), .val (.int (1 : Int32)), .val (.int (0 : Int32))] [(.int (1 : Int32))])) _
      refine XS.goto X33.here hx rfl (pc0 := 143) (pc' := 147) rfl (hb hby at_143) (by decide) (by decide) ?_
      exact kt
  have je : ∀ t, Steps p.tables e below (T33.setTop (mkF m 208 #[.val (.long a0'), .second, .val (.long a1'), .second, .val (.long b0'), .second, .val (.long b1'), .second, .val (.int kk), .val (.int (2 : Int32)), .val (.ref st), .val (.ref mo), .val (.int (((0 : Int32) ||| (own_c a0' b0')) ||| (own_c a1' b1'))), .val (.int (1 : Int32)), .val (.int (own_d a0' b0'))] [(.int (own_d2 (own_d a0' b0') (own_d a1' b1')))])) t → Steps p.tables e below (T33.setTop (mkF m 189 #[.val (.long a0'), .second, .val (.long a1'), .second, .val (.long b0'), .second, .val (.long b1'), .second, .val (.int kk), .val (.int (2 : Int32)), .val (.ref st), .val (.ref mo), .val (.int (((0 : Int32) ||| (own_c a0' b0')) ||| (own_c a1' b1'))), .val (.int (1 : Int32)), .val (.int (own_d a0' b0'))] [])) t := by
    intro t kt
    rcases own_3 ((own_d a0' b0') = 0) ((a1' ||| b1') = a1') with ⟨h0, h1⟩ | ⟨h0, h1⟩ | h0
    · have hv : own_d2 (own_d a0' b0') (own_d a1' b1') = 0 := (if_pos h0).trans (if_pos h1)
      rw [hv] at kt
      show Steps p.tables e below (T33.setTop (mkF m 189 #[.val (.long a0'), .second, .val (.long a1'), .second, .val (.long b0'), .second, .val (.long b1'), .second, .val (.int kk), .val (.int (2 : Int32)), .val (.ref st), .val (.ref mo), .val (.int (((0 : Int32) ||| (own_c a0' b0')) ||| (own_c a1' b1'))), .val (.int (1 : Int32)), .val (.int (own_d a0' b0'))] [])) _
      refine XS.iload X33.here hx rfl (hb hby at_189) rfl ?_
      show Steps p.tables e below (T33.setTop (mkF m 191 #[.val (.long a0'), .second, .val (.long a1'), .second, .val (.long b0'), .second, .val (.long b1'), .second, .val (.int kk), .val (.int (2 : Int32)), .val (.ref st), .val (.ref mo), .val (.int (((0 : Int32) ||| (own_c a0' b0')) ||| (own_c a1' b1'))), .val (.int (1 : Int32)), .val (.int (own_d a0' b0'))] [(.int (own_d a0' b0'))])) _
      refine XS.ifNo X33.here hx rfl (hb hby at_191) rfl ((if0 _ _).trans (teq (h0 : (own_d a0' b0') = (0 : Int32))).2) ?_
      show Steps p.tables e below (T33.setTop (mkF m 194 #[.val (.long a0'), .second, .val (.long a1'), .second, .val (.long b0'), .second, .val (.long b1'), .second, .val (.int kk), .val (.int (2 : Int32)), .val (.ref st), .val (.ref mo), .val (.int (((0 : Int32) ||| (own_c a0' b0')) ||| (own_c a1' b1'))), .val (.int (1 : Int32)), .val (.int (own_d a0' b0'))] [])) _
      refine XS.aload X33.here hx rfl (hb hby at_194) rfl rfl ?_
      show Steps p.tables e below (T33.setTop (mkF m 196 #[.val (.long a0'), .second, .val (.long a1'), .second, .val (.long b0'), .second, .val (.long b1'), .second, .val (.int kk), .val (.int (2 : Int32)), .val (.ref st), .val (.ref mo), .val (.int (((0 : Int32) ||| (own_c a0' b0')) ||| (own_c a1' b1'))), .val (.int (1 : Int32)), .val (.int (own_d a0' b0'))] [(.ref st)])) _
      refine XS.iconst X33.here hx rfl (hb hby at_196) ?_
      show Steps p.tables e below (T33.setTop (mkF m 197 #[.val (.long a0'), .second, .val (.long a1'), .second, .val (.long b0'), .second, .val (.long b1'), .second, .val (.int kk), .val (.int (2 : Int32)), .val (.ref st), .val (.ref mo), .val (.int (((0 : Int32) ||| (own_c a0' b0')) ||| (own_c a1' b1'))), .val (.int (1 : Int32)), .val (.int (own_d a0' b0'))] [(.int (1 : Int32)), (.ref st)])) _
      refine X33.laload hx (j := (1 : Int32)) (v := (.long (a1' ||| b1'))) Arx.1 (State.isArrayOf_alike hZ.alike Arx.2.1) Arx.2.2 (inb_of Sx ⟨by decide, by decide⟩) (Has.at Hx (inb_of Sx ⟨by decide, by decide⟩) rfl) (g := (mkF m 197 #[.val (.long a0'), .second, .val (.long a1'), .second, .val (.long b0'), .second, .val (.long b1'), .second, .val (.int kk), .val (.int (2 : Int32)), .val (.ref st), .val (.ref mo), .val (.int (((0 : Int32) ||| (own_c a0' b0')) ||| (own_c a1' b1'))), .val (.int (1 : Int32)), .val (.int (own_d a0' b0'))] [(.int (1 : Int32)), (.ref st)])) rfl rfl (hb hby at_197) _ ?_
      show Steps p.tables e below (T33.setTop (mkF m 198 #[.val (.long a0'), .second, .val (.long a1'), .second, .val (.long b0'), .second, .val (.long b1'), .second, .val (.int kk), .val (.int (2 : Int32)), .val (.ref st), .val (.ref mo), .val (.int (((0 : Int32) ||| (own_c a0' b0')) ||| (own_c a1' b1'))), .val (.int (1 : Int32)), .val (.int (own_d a0' b0'))] [(.long (a1' ||| b1'))])) _
      refine XS.lloadN X33.here hx rfl (hb hby at_198) rfl ?_
      show Steps p.tables e below (T33.setTop (mkF m 199 #[.val (.long a0'), .second, .val (.long a1'), .second, .val (.long b0'), .second, .val (.long b1'), .second, .val (.int kk), .val (.int (2 : Int32)), .val (.ref st), .val (.ref mo), .val (.int (((0 : Int32) ||| (own_c a0' b0')) ||| (own_c a1' b1'))), .val (.int (1 : Int32)), .val (.int (own_d a0' b0'))] [(.long a1'), (.long (a1' ||| b1'))])) _
      refine XS.lcmp X33.here hx rfl (hb hby at_199) rfl ?_
      show Steps p.tables e below (T33.setTop (mkF m 200 #[.val (.long a0'), .second, .val (.long a1'), .second, .val (.long b0'), .second, .val (.long b1'), .second, .val (.int kk), .val (.int (2 : Int32)), .val (.ref st), .val (.ref mo), .val (.int (((0 : Int32) ||| (own_c a0' b0')) ||| (own_c a1' b1'))), .val (.int (1 : Int32)), .val (.int (own_d a0' b0'))] [(.int (lcmpW (a1' ||| b1') a1'))])) _
      refine XS.ifYes X33.here hx rfl (pc0 := 200) (pc' := 207) rfl (hb hby at_200) rfl ((if0 _ _).trans (teq ((lw_eq _ _).mpr h1 : (lcmpW (a1' ||| b1') a1') = (0 : Int32))).1) (by decide) (by decide) ?_
      show Steps p.tables e below (T33.setTop (mkF m 207 #[.val (.long a0'), .second, .val (.long a1'), .second, .val (.long b0'), .second, .val (.long b1'), .second, .val (.int kk), .val (.int (2 : Int32)), .val (.ref st), .val (.ref mo), .val (.int (((0 : Int32) ||| (own_c a0' b0')) ||| (own_c a1' b1'))), .val (.int (1 : Int32)), .val (.int (own_d a0' b0'))] [])) _
      refine XS.iconst X33.here hx rfl (hb hby at_207) ?_
      exact kt
    · have hv : own_d2 (own_d a0' b0') (own_d a1' b1') = 1 := (if_pos h0).trans (if_neg h1)
      rw [hv] at kt
      show Steps p.tables e below (T33.setTop (mkF m 189 #[.val (.long a0'), .second, .val (.long a1'), .second, .val (.long b0'), .second, .val (.long b1'), .second, .val (.int kk), .val (.int (2 : Int32)), .val (.ref st), .val (.ref mo), .val (.int (((0 : Int32) ||| (own_c a0' b0')) ||| (own_c a1' b1'))), .val (.int (1 : Int32)), .val (.int (own_d a0' b0'))] [])) _
      refine XS.iload X33.here hx rfl (hb hby at_189) rfl ?_
      show Steps p.tables e below (T33.setTop (mkF m 191 #[.val (.long a0'), .second, .val (.long a1'), .second, .val (.long b0'), .second, .val (.long b1'), .second, .val (.int kk), .val (.int (2 : Int32)), .val (.ref st), .val (.ref mo), .val (.int (((0 : Int32) ||| (own_c a0' b0')) ||| (own_c a1' b1'))), .val (.int (1 : Int32)), .val (.int (own_d a0' b0'))] [(.int (own_d a0' b0'))])) _
      refine XS.ifNo X33.here hx rfl (hb hby at_191) rfl ((if0 _ _).trans (teq (h0 : (own_d a0' b0') = (0 : Int32))).2) ?_
      show Steps p.tables e below (T33.setTop (mkF m 194 #[.val (.long a0'), .second, .val (.long a1'), .second, .val (.long b0'), .second, .val (.long b1'), .second, .val (.int kk), .val (.int (2 : Int32)), .val (.ref st), .val (.ref mo), .val (.int (((0 : Int32) ||| (own_c a0' b0')) ||| (own_c a1' b1'))), .val (.int (1 : Int32)), .val (.int (own_d a0' b0'))] [])) _
      refine XS.aload X33.here hx rfl (hb hby at_194) rfl rfl ?_
      show Steps p.tables e below (T33.setTop (mkF m 196 #[.val (.long a0'), .second, .val (.long a1'), .second, .val (.long b0'), .second, .val (.long b1'), .second, .val (.int kk), .val (.int (2 : Int32)), .val (.ref st), .val (.ref mo), .val (.int (((0 : Int32) ||| (own_c a0' b0')) ||| (own_c a1' b1'))), .val (.int (1 : Int32)), .val (.int (own_d a0' b0'))] [(.ref st)])) _
      refine XS.iconst X33.here hx rfl (hb hby at_196) ?_
      show Steps p.tables e below (T33.setTop (mkF m 197 #[.val (.long a0'), .second, .val (.long a1'), .second, .val (.long b0'), .second, .val (.long b1'), .second, .val (.int kk), .val (.int (2 : Int32)), .val (.ref st), .val (.ref mo), .val (.int (((0 : Int32) ||| (own_c a0' b0')) ||| (own_c a1' b1'))), .val (.int (1 : Int32)), .val (.int (own_d a0' b0'))] [(.int (1 : Int32)), (.ref st)])) _
      refine X33.laload hx (j := (1 : Int32)) (v := (.long (a1' ||| b1'))) Arx.1 (State.isArrayOf_alike hZ.alike Arx.2.1) Arx.2.2 (inb_of Sx ⟨by decide, by decide⟩) (Has.at Hx (inb_of Sx ⟨by decide, by decide⟩) rfl) (g := (mkF m 197 #[.val (.long a0'), .second, .val (.long a1'), .second, .val (.long b0'), .second, .val (.long b1'), .second, .val (.int kk), .val (.int (2 : Int32)), .val (.ref st), .val (.ref mo), .val (.int (((0 : Int32) ||| (own_c a0' b0')) ||| (own_c a1' b1'))), .val (.int (1 : Int32)), .val (.int (own_d a0' b0'))] [(.int (1 : Int32)), (.ref st)])) rfl rfl (hb hby at_197) _ ?_
      show Steps p.tables e below (T33.setTop (mkF m 198 #[.val (.long a0'), .second, .val (.long a1'), .second, .val (.long b0'), .second, .val (.long b1'), .second, .val (.int kk), .val (.int (2 : Int32)), .val (.ref st), .val (.ref mo), .val (.int (((0 : Int32) ||| (own_c a0' b0')) ||| (own_c a1' b1'))), .val (.int (1 : Int32)), .val (.int (own_d a0' b0'))] [(.long (a1' ||| b1'))])) _
      refine XS.lloadN X33.here hx rfl (hb hby at_198) rfl ?_
      show Steps p.tables e below (T33.setTop (mkF m 199 #[.val (.long a0'), .second, .val (.long a1'), .second, .val (.long b0'), .second, .val (.long b1'), .second, .val (.int kk), .val (.int (2 : Int32)), .val (.ref st), .val (.ref mo), .val (.int (((0 : Int32) ||| (own_c a0' b0')) ||| (own_c a1' b1'))), .val (.int (1 : Int32)), .val (.int (own_d a0' b0'))] [(.long a1'), (.long (a1' ||| b1'))])) _
      refine XS.lcmp X33.here hx rfl (hb hby at_199) rfl ?_
      show Steps p.tables e below (T33.setTop (mkF m 200 #[.val (.long a0'), .second, .val (.long a1'), .second, .val (.long b0'), .second, .val (.long b1'), .second, .val (.int kk), .val (.int (2 : Int32)), .val (.ref st), .val (.ref mo), .val (.int (((0 : Int32) ||| (own_c a0' b0')) ||| (own_c a1' b1'))), .val (.int (1 : Int32)), .val (.int (own_d a0' b0'))] [(.int (lcmpW (a1' ||| b1') a1'))])) _
      refine XS.ifNo X33.here hx rfl (hb hby at_200) rfl ((if0 _ _).trans (feq (fun q => h1 ((lw_eq _ _).mp q) : ¬ ((lcmpW (a1' ||| b1') a1') = (0 : Int32)))).1) ?_
      show Steps p.tables e below (T33.setTop (mkF m 203 #[.val (.long a0'), .second, .val (.long a1'), .second, .val (.long b0'), .second, .val (.long b1'), .second, .val (.int kk), .val (.int (2 : Int32)), .val (.ref st), .val (.ref mo), .val (.int (((0 : Int32) ||| (own_c a0' b0')) ||| (own_c a1' b1'))), .val (.int (1 : Int32)), .val (.int (own_d a0' b0'))] [])) _
      refine XS.iconst X33.here hx rfl (hb hby at_203) ?_
      show Steps p.tables e below (T33.setTop (mkF m 204 #[.val (.long a0'), .second, .val (.long a1'), .second, .val (.long b0'), .second, .val (.long b1'), .second, .val (.int kk), .val (.int (2 : Int32)), .val (.ref st), .val (.ref mo), .val (.int (((0 : Int32) ||| (own_c a0' b0')) ||| (own_c a1' b1'))), .val (.int (1 : Int32)), .val (.int (own_d a0' b0'))] [(.int (1 : Int32))])) _
      refine XS.goto X33.here hx rfl (pc0 := 204) (pc' := 208) rfl (hb hby at_204) (by decide) (by decide) ?_
      exact kt
    · have hv : own_d2 (own_d a0' b0') (own_d a1' b1') = 1 := if_neg h0
      rw [hv] at kt
      show Steps p.tables e below (T33.setTop (mkF m 189 #[.val (.long a0'), .second, .val (.long a1'), .second, .val (.long b0'), .second, .val (.long b1'), .second, .val (.int kk), .val (.int (2 : Int32)), .val (.ref st), .val (.ref mo), .val (.int (((0 : Int32) ||| (own_c a0' b0')) ||| (own_c a1' b1'))), .val (.int (1 : Int32)), .val (.int (own_d a0' b0'))] [])) _
      refine XS.iload X33.here hx rfl (hb hby at_189) rfl ?_
      show Steps p.tables e below (T33.setTop (mkF m 191 #[.val (.long a0'), .second, .val (.long a1'), .second, .val (.long b0'), .second, .val (.long b1'), .second, .val (.int kk), .val (.int (2 : Int32)), .val (.ref st), .val (.ref mo), .val (.int (((0 : Int32) ||| (own_c a0' b0')) ||| (own_c a1' b1'))), .val (.int (1 : Int32)), .val (.int (own_d a0' b0'))] [(.int (own_d a0' b0'))])) _
      refine XS.ifYes X33.here hx rfl (pc0 := 191) (pc' := 203) rfl (hb hby at_191) rfl ((if0 _ _).trans (feq (h0 : ¬ ((own_d a0' b0') = (0 : Int32)))).2) (by decide) (by decide) ?_
      show Steps p.tables e below (T33.setTop (mkF m 203 #[.val (.long a0'), .second, .val (.long a1'), .second, .val (.long b0'), .second, .val (.long b1'), .second, .val (.int kk), .val (.int (2 : Int32)), .val (.ref st), .val (.ref mo), .val (.int (((0 : Int32) ||| (own_c a0' b0')) ||| (own_c a1' b1'))), .val (.int (1 : Int32)), .val (.int (own_d a0' b0'))] [])) _
      refine XS.iconst X33.here hx rfl (hb hby at_203) ?_
      show Steps p.tables e below (T33.setTop (mkF m 204 #[.val (.long a0'), .second, .val (.long a1'), .second, .val (.long b0'), .second, .val (.long b1'), .second, .val (.int kk), .val (.int (2 : Int32)), .val (.ref st), .val (.ref mo), .val (.int (((0 : Int32) ||| (own_c a0' b0')) ||| (own_c a1' b1'))), .val (.int (1 : Int32)), .val (.int (own_d a0' b0'))] [(.int (1 : Int32))])) _
      refine XS.goto X33.here hx rfl (pc0 := 204) (pc' := 208) rfl (hb hby at_204) (by decide) (by decide) ?_
      exact kt
  refine ⟨T33, _, _, #[.val (.long a0'), .second, .val (.long a1'), .second, .val (.long b0'), .second, .val (.long b1'), .second, .val (.int kk), .val (.int (2 : Int32)), .val (.ref st), .val (.ref mo), .val (.int (((0 : Int32) ||| (own_c a0' b0')) ||| (own_c a1' b1'))), .val (.int (1 : Int32)), .val (.int (own_d2 (own_d a0' b0') (own_d a1' b1')))], X33, rfl, N33, Z33, trivial, fun target kt => ?_⟩
  show Steps p.tables e below (T0.setTop (mkF m 9 #[.val (.long a0'), .second, .val (.long a1'), .second, .val (.long b0'), .second, .val (.long b1'), .second, .val (.int kk), .val (.int (2 : Int32)), .unset, .unset, .unset, .unset, .unset] [])) _
  refine XS.iload X0.here hx rfl (hb hby at_9) rfl ?_
  show Steps p.tables e below (T0.setTop (mkF m 11 #[.val (.long a0'), .second, .val (.long a1'), .second, .val (.long b0'), .second, .val (.long b1'), .second, .val (.int kk), .val (.int (2 : Int32)), .unset, .unset, .unset, .unset, .unset] [(.int (2 : Int32))])) _
  refine st27 _ ?_
  show Steps p.tables e below (T27.setTop (mkF m 13 #[.val (.long a0'), .second, .val (.long a1'), .second, .val (.long b0'), .second, .val (.long b1'), .second, .val (.int kk), .val (.int (2 : Int32)), .unset, .unset, .unset, .unset, .unset] [(.ref st)])) _
  refine XS.astore X27.here hx rfl (hb hby at_13) rfl rfl (l' := #[.val (.long a0'), .second, .val (.long a1'), .second, .val (.long b0'), .second, .val (.long b1'), .second, .val (.int kk), .val (.int (2 : Int32)), .val (.ref st), .unset, .unset, .unset, .unset]) rfl ?_
  show Steps p.tables e below (T27.setTop (mkF m 15 #[.val (.long a0'), .second, .val (.long a1'), .second, .val (.long b0'), .second, .val (.long b1'), .second, .val (.int kk), .val (.int (2 : Int32)), .val (.ref st), .unset, .unset, .unset, .unset] [])) _
  refine XS.iload X27.here hx rfl (hb hby at_15) rfl ?_
  show Steps p.tables e below (T27.setTop (mkF m 17 #[.val (.long a0'), .second, .val (.long a1'), .second, .val (.long b0'), .second, .val (.long b1'), .second, .val (.int kk), .val (.int (2 : Int32)), .val (.ref st), .unset, .unset, .unset, .unset] [(.int (2 : Int32))])) _
  refine st28 _ ?_
  show Steps p.tables e below (T28.setTop (mkF m 19 #[.val (.long a0'), .second, .val (.long a1'), .second, .val (.long b0'), .second, .val (.long b1'), .second, .val (.int kk), .val (.int (2 : Int32)), .val (.ref st), .unset, .unset, .unset, .unset] [(.ref mo)])) _
  refine XS.astore X28.here hx rfl (hb hby at_19) rfl rfl (l' := #[.val (.long a0'), .second, .val (.long a1'), .second, .val (.long b0'), .second, .val (.long b1'), .second, .val (.int kk), .val (.int (2 : Int32)), .val (.ref st), .val (.ref mo), .unset, .unset, .unset]) rfl ?_
  show Steps p.tables e below (T28.setTop (mkF m 21 #[.val (.long a0'), .second, .val (.long a1'), .second, .val (.long b0'), .second, .val (.long b1'), .second, .val (.int kk), .val (.int (2 : Int32)), .val (.ref st), .val (.ref mo), .unset, .unset, .unset] [])) _
  refine XS.iload X28.here hx rfl (hb hby at_21) rfl ?_
  show Steps p.tables e below (T28.setTop (mkF m 23 #[.val (.long a0'), .second, .val (.long a1'), .second, .val (.long b0'), .second, .val (.long b1'), .second, .val (.int kk), .val (.int (2 : Int32)), .val (.ref st), .val (.ref mo), .unset, .unset, .unset] [(.int (2 : Int32))])) _
  refine XS.ifNo X28.here hx rfl (hb hby at_23) rfl ((if0 _ _).trans (tlt (by decide : (0 : Int32) < (2 : Int32))).2.2.2) ?_
  show Steps p.tables e below (T28.setTop (mkF m 26 #[.val (.long a0'), .second, .val (.long a1'), .second, .val (.long b0'), .second, .val (.long b1'), .second, .val (.int kk), .val (.int (2 : Int32)), .val (.ref st), .val (.ref mo), .unset, .unset, .unset] [])) _
  refine XS.aload X28.here hx rfl (hb hby at_26) rfl rfl ?_
  show Steps p.tables e below (T28.setTop (mkF m 28 #[.val (.long a0'), .second, .val (.long a1'), .second, .val (.long b0'), .second, .val (.long b1'), .second, .val (.int kk), .val (.int (2 : Int32)), .val (.ref st), .val (.ref mo), .unset, .unset, .unset] [(.ref st)])) _
  refine XS.iconst X28.here hx rfl (hb hby at_28) ?_
  show Steps p.tables e below (T28.setTop (mkF m 29 #[.val (.long a0'), .second, .val (.long a1'), .second, .val (.long b0'), .second, .val (.long b1'), .second, .val (.int kk), .val (.int (2 : Int32)), .val (.ref st), .val (.ref mo), .unset, .unset, .unset] [(.int (0 : Int32)), (.ref st)])) _
  refine XS.lloadN X28.here hx rfl (hb hby at_29) rfl ?_
  show Steps p.tables e below (T28.setTop (mkF m 30 #[.val (.long a0'), .second, .val (.long a1'), .second, .val (.long b0'), .second, .val (.long b1'), .second, .val (.int kk), .val (.int (2 : Int32)), .val (.ref st), .val (.ref mo), .unset, .unset, .unset] [(.long a0'), (.int (0 : Int32)), (.ref st)])) _
  refine st29 _ ?_
  show Steps p.tables e below (T29.setTop (mkF m 31 #[.val (.long a0'), .second, .val (.long a1'), .second, .val (.long b0'), .second, .val (.long b1'), .second, .val (.int kk), .val (.int (2 : Int32)), .val (.ref st), .val (.ref mo), .unset, .unset, .unset] [])) _
  refine XS.aload X29.here hx rfl (hb hby at_31) rfl rfl ?_
  show Steps p.tables e below (T29.setTop (mkF m 33 #[.val (.long a0'), .second, .val (.long a1'), .second, .val (.long b0'), .second, .val (.long b1'), .second, .val (.int kk), .val (.int (2 : Int32)), .val (.ref st), .val (.ref mo), .unset, .unset, .unset] [(.ref mo)])) _
  refine XS.iconst X29.here hx rfl (hb hby at_33) ?_
  show Steps p.tables e below (T29.setTop (mkF m 34 #[.val (.long a0'), .second, .val (.long a1'), .second, .val (.long b0'), .second, .val (.long b1'), .second, .val (.int kk), .val (.int (2 : Int32)), .val (.ref st), .val (.ref mo), .unset, .unset, .unset] [(.int (0 : Int32)), (.ref mo)])) _
  refine XS.lload X29.here hx rfl (hb hby at_34) rfl ?_
  show Steps p.tables e below (T29.setTop (mkF m 36 #[.val (.long a0'), .second, .val (.long a1'), .second, .val (.long b0'), .second, .val (.long b1'), .second, .val (.int kk), .val (.int (2 : Int32)), .val (.ref st), .val (.ref mo), .unset, .unset, .unset] [(.long b0'), (.int (0 : Int32)), (.ref mo)])) _
  refine st30 _ ?_
  show Steps p.tables e below (T30.setTop (mkF m 37 #[.val (.long a0'), .second, .val (.long a1'), .second, .val (.long b0'), .second, .val (.long b1'), .second, .val (.int kk), .val (.int (2 : Int32)), .val (.ref st), .val (.ref mo), .unset, .unset, .unset] [])) _
  refine XS.iload X30.here hx rfl (hb hby at_37) rfl ?_
  show Steps p.tables e below (T30.setTop (mkF m 39 #[.val (.long a0'), .second, .val (.long a1'), .second, .val (.long b0'), .second, .val (.long b1'), .second, .val (.int kk), .val (.int (2 : Int32)), .val (.ref st), .val (.ref mo), .unset, .unset, .unset] [(.int (2 : Int32))])) _
  refine XS.iconst X30.here hx rfl (hb hby at_39) ?_
  show Steps p.tables e below (T30.setTop (mkF m 40 #[.val (.long a0'), .second, .val (.long a1'), .second, .val (.long b0'), .second, .val (.long b1'), .second, .val (.int kk), .val (.int (2 : Int32)), .val (.ref st), .val (.ref mo), .unset, .unset, .unset] [(.int (1 : Int32)), (.int (2 : Int32))])) _
  refine XS.icmpNo X30.here hx rfl (hb hby at_40) rfl (tlt (by decide : (1 : Int32) < (2 : Int32))).2.2.2 ?_
  show Steps p.tables e below (T30.setTop (mkF m 43 #[.val (.long a0'), .second, .val (.long a1'), .second, .val (.long b0'), .second, .val (.long b1'), .second, .val (.int kk), .val (.int (2 : Int32)), .val (.ref st), .val (.ref mo), .unset, .unset, .unset] [])) _
  refine XS.aload X30.here hx rfl (hb hby at_43) rfl rfl ?_
  show Steps p.tables e below (T30.setTop (mkF m 45 #[.val (.long a0'), .second, .val (.long a1'), .second, .val (.long b0'), .second, .val (.long b1'), .second, .val (.int kk), .val (.int (2 : Int32)), .val (.ref st), .val (.ref mo), .unset, .unset, .unset] [(.ref st)])) _
  refine XS.iconst X30.here hx rfl (hb hby at_45) ?_
  show Steps p.tables e below (T30.setTop (mkF m 46 #[.val (.long a0'), .second, .val (.long a1'), .second, .val (.long b0'), .second, .val (.long b1'), .second, .val (.int kk), .val (.int (2 : Int32)), .val (.ref st), .val (.ref mo), .unset, .unset, .unset] [(.int (1 : Int32)), (.ref st)])) _
  refine XS.lloadN X30.here hx rfl (hb hby at_46) rfl ?_
  show Steps p.tables e below (T30.setTop (mkF m 47 #[.val (.long a0'), .second, .val (.long a1'), .second, .val (.long b0'), .second, .val (.long b1'), .second, .val (.int kk), .val (.int (2 : Int32)), .val (.ref st), .val (.ref mo), .unset, .unset, .unset] [(.long a1'), (.int (1 : Int32)), (.ref st)])) _
  refine st31 _ ?_
  show Steps p.tables e below (T31.setTop (mkF m 48 #[.val (.long a0'), .second, .val (.long a1'), .second, .val (.long b0'), .second, .val (.long b1'), .second, .val (.int kk), .val (.int (2 : Int32)), .val (.ref st), .val (.ref mo), .unset, .unset, .unset] [])) _
  refine XS.aload X31.here hx rfl (hb hby at_48) rfl rfl ?_
  show Steps p.tables e below (T31.setTop (mkF m 50 #[.val (.long a0'), .second, .val (.long a1'), .second, .val (.long b0'), .second, .val (.long b1'), .second, .val (.int kk), .val (.int (2 : Int32)), .val (.ref st), .val (.ref mo), .unset, .unset, .unset] [(.ref mo)])) _
  refine XS.iconst X31.here hx rfl (hb hby at_50) ?_
  show Steps p.tables e below (T31.setTop (mkF m 51 #[.val (.long a0'), .second, .val (.long a1'), .second, .val (.long b0'), .second, .val (.long b1'), .second, .val (.int kk), .val (.int (2 : Int32)), .val (.ref st), .val (.ref mo), .unset, .unset, .unset] [(.int (1 : Int32)), (.ref mo)])) _
  refine XS.lload X31.here hx rfl (hb hby at_51) rfl ?_
  show Steps p.tables e below (T31.setTop (mkF m 53 #[.val (.long a0'), .second, .val (.long a1'), .second, .val (.long b0'), .second, .val (.long b1'), .second, .val (.int kk), .val (.int (2 : Int32)), .val (.ref st), .val (.ref mo), .unset, .unset, .unset] [(.long b1'), (.int (1 : Int32)), (.ref mo)])) _
  refine st32 _ ?_
  show Steps p.tables e below (T32.setTop (mkF m 54 #[.val (.long a0'), .second, .val (.long a1'), .second, .val (.long b0'), .second, .val (.long b1'), .second, .val (.int kk), .val (.int (2 : Int32)), .val (.ref st), .val (.ref mo), .unset, .unset, .unset] [])) _
  refine XS.aload X32.here hx rfl (hb hby at_54) rfl rfl ?_
  show Steps p.tables e below (T32.setTop (mkF m 56 #[.val (.long a0'), .second, .val (.long a1'), .second, .val (.long b0'), .second, .val (.long b1'), .second, .val (.int kk), .val (.int (2 : Int32)), .val (.ref st), .val (.ref mo), .unset, .unset, .unset] [(.ref st)])) _
  refine XS.aload X32.here hx rfl (hb hby at_56) rfl rfl ?_
  show Steps p.tables e below (T32.setTop (mkF m 58 #[.val (.long a0'), .second, .val (.long a1'), .second, .val (.long b0'), .second, .val (.long b1'), .second, .val (.int kk), .val (.int (2 : Int32)), .val (.ref st), .val (.ref mo), .unset, .unset, .unset] [(.ref mo), (.ref st)])) _
  refine st33 _ ?_
  show Steps p.tables e below (T33.setTop (mkF m 61 #[.val (.long a0'), .second, .val (.long a1'), .second, .val (.long b0'), .second, .val (.long b1'), .second, .val (.int kk), .val (.int (2 : Int32)), .val (.ref st), .val (.ref mo), .unset, .unset, .unset] [(.int (((0 : Int32) ||| (own_c a0' b0')) ||| (own_c a1' b1')))])) _
  refine XS.istore X33.here hx rfl (hb hby at_61) rfl (l' := #[.val (.long a0'), .second, .val (.long a1'), .second, .val (.long b0'), .second, .val (.long b1'), .second, .val (.int kk), .val (.int (2 : Int32)), .val (.ref st), .val (.ref mo), .val (.int (((0 : Int32) ||| (own_c a0' b0')) ||| (own_c a1' b1'))), .unset, .unset]) rfl ?_
  show Steps p.tables e below (T33.setTop (mkF m 63 #[.val (.long a0'), .second, .val (.long a1'), .second, .val (.long b0'), .second, .val (.long b1'), .second, .val (.int kk), .val (.int (2 : Int32)), .val (.ref st), .val (.ref mo), .val (.int (((0 : Int32) ||| (own_c a0' b0')) ||| (own_c a1' b1'))), .unset, .unset] [])) _
  refine XS.aload X33.here hx rfl (hb hby at_63) rfl rfl ?_
  show Steps p.tables e below (T33.setTop (mkF m 65 #[.val (.long a0'), .second, .val (.long a1'), .second, .val (.long b0'), .second, .val (.long b1'), .second, .val (.int kk), .val (.int (2 : Int32)), .val (.ref st), .val (.ref mo), .val (.int (((0 : Int32) ||| (own_c a0' b0')) ||| (own_c a1' b1'))), .unset, .unset] [(.ref st)])) _
  refine X33.arraylength hx Arx.1 (State.isArrayOf_alike hZ.alike Arx.2.1) (g := (mkF m 65 #[.val (.long a0'), .second, .val (.long a1'), .second, .val (.long b0'), .second, .val (.long b1'), .second, .val (.int kk), .val (.int (2 : Int32)), .val (.ref st), .val (.ref mo), .val (.int (((0 : Int32) ||| (own_c a0' b0')) ||| (own_c a1' b1'))), .unset, .unset] [(.ref st)])) rfl rfl (hb hby at_65) _ ?_
  rw [len_of Sx Mx]
  show Steps p.tables e below (T33.setTop (mkF m 66 #[.val (.long a0'), .second, .val (.long a1'), .second, .val (.long b0'), .second, .val (.long b1'), .second, .val (.int kk), .val (.int (2 : Int32)), .val (.ref st), .val (.ref mo), .val (.int (((0 : Int32) ||| (own_c a0' b0')) ||| (own_c a1' b1'))), .unset, .unset] [(.int (2 : Int32))])) _
  refine XS.iload X33.here hx rfl (hb hby at_66) rfl ?_
  show Steps p.tables e below (T33.setTop (mkF m 68 #[.val (.long a0'), .second, .val (.long a1'), .second, .val (.long b0'), .second, .val (.long b1'), .second, .val (.int kk), .val (.int (2 : Int32)), .val (.ref st), .val (.ref mo), .val (.int (((0 : Int32) ||| (own_c a0' b0')) ||| (own_c a1' b1'))), .unset, .unset] [(.int (2 : Int32)), (.int (2 : Int32))])) _
  refine XS.icmpNo X33.here hx rfl (hb hby at_68) rfl (teq (rfl : (2 : Int32) = (2 : Int32))).2 ?_
  show Steps p.tables e below (T33.setTop (mkF m 71 #[.val (.long a0'), .second, .val (.long a1'), .second, .val (.long b0'), .second, .val (.long b1'), .second, .val (.int kk), .val (.int (2 : Int32)), .val (.ref st), .val (.ref mo), .val (.int (((0 : Int32) ||| (own_c a0' b0')) ||| (own_c a1' b1'))), .unset, .unset] [])) _
  refine XS.aload X33.here hx rfl (hb hby at_71) rfl rfl ?_
  show Steps p.tables e below (T33.setTop (mkF m 73 #[.val (.long a0'), .second, .val (.long a1'), .second, .val (.long b0'), .second, .val (.long b1'), .second, .val (.int kk), .val (.int (2 : Int32)), .val (.ref st), .val (.ref mo), .val (.int (((0 : Int32) ||| (own_c a0' b0')) ||| (own_c a1' b1'))), .unset, .unset] [(.ref mo)])) _
  refine X33.arraylength hx Ary.1 (State.isArrayOf_alike hZ.alike Ary.2.1) (g := (mkF m 73 #[.val (.long a0'), .second, .val (.long a1'), .second, .val (.long b0'), .second, .val (.long b1'), .second, .val (.int kk), .val (.int (2 : Int32)), .val (.ref st), .val (.ref mo), .val (.int (((0 : Int32) ||| (own_c a0' b0')) ||| (own_c a1' b1'))), .unset, .unset] [(.ref mo)])) rfl rfl (hb hby at_73) _ ?_
  rw [len_of Sy My]
  show Steps p.tables e below (T33.setTop (mkF m 74 #[.val (.long a0'), .second, .val (.long a1'), .second, .val (.long b0'), .second, .val (.long b1'), .second, .val (.int kk), .val (.int (2 : Int32)), .val (.ref st), .val (.ref mo), .val (.int (((0 : Int32) ||| (own_c a0' b0')) ||| (own_c a1' b1'))), .unset, .unset] [(.int (2 : Int32))])) _
  refine XS.iload X33.here hx rfl (hb hby at_74) rfl ?_
  show Steps p.tables e below (T33.setTop (mkF m 76 #[.val (.long a0'), .second, .val (.long a1'), .second, .val (.long b0'), .second, .val (.long b1'), .second, .val (.int kk), .val (.int (2 : Int32)), .val (.ref st), .val (.ref mo), .val (.int (((0 : Int32) ||| (own_c a0' b0')) ||| (own_c a1' b1'))), .unset, .unset] [(.int (2 : Int32)), (.int (2 : Int32))])) _
  refine XS.icmpNo X33.here hx rfl (hb hby at_76) rfl (teq (rfl : (2 : Int32) = (2 : Int32))).2 ?_
  show Steps p.tables e below (T33.setTop (mkF m 79 #[.val (.long a0'), .second, .val (.long a1'), .second, .val (.long b0'), .second, .val (.long b1'), .second, .val (.int kk), .val (.int (2 : Int32)), .val (.ref st), .val (.ref mo), .val (.int (((0 : Int32) ||| (own_c a0' b0')) ||| (own_c a1' b1'))), .unset, .unset] [])) _
  refine XS.iconst X33.here hx rfl (hb hby at_79) ?_
  show Steps p.tables e below (T33.setTop (mkF m 80 #[.val (.long a0'), .second, .val (.long a1'), .second, .val (.long b0'), .second, .val (.long b1'), .second, .val (.int kk), .val (.int (2 : Int32)), .val (.ref st), .val (.ref mo), .val (.int (((0 : Int32) ||| (own_c a0' b0')) ||| (own_c a1' b1'))), .unset, .unset] [(.int (1 : Int32))])) _
  refine XS.goto X33.here hx rfl (pc0 := 80) (pc' := 84) rfl (hb hby at_80) (by decide) (by decide) ?_
  show Steps p.tables e below (T33.setTop (mkF m 84 #[.val (.long a0'), .second, .val (.long a1'), .second, .val (.long b0'), .second, .val (.long b1'), .second, .val (.int kk), .val (.int (2 : Int32)), .val (.ref st), .val (.ref mo), .val (.int (((0 : Int32) ||| (own_c a0' b0')) ||| (own_c a1' b1'))), .unset, .unset] [(.int (1 : Int32))])) _
  refine XS.istore X33.here hx rfl (hb hby at_84) rfl (l' := #[.val (.long a0'), .second, .val (.long a1'), .second, .val (.long b0'), .second, .val (.long b1'), .second, .val (.int kk), .val (.int (2 : Int32)), .val (.ref st), .val (.ref mo), .val (.int (((0 : Int32) ||| (own_c a0' b0')) ||| (own_c a1' b1'))), .val (.int (1 : Int32)), .unset]) rfl ?_
  show Steps p.tables e below (T33.setTop (mkF m 86 #[.val (.long a0'), .second, .val (.long a1'), .second, .val (.long b0'), .second, .val (.long b1'), .second, .val (.int kk), .val (.int (2 : Int32)), .val (.ref st), .val (.ref mo), .val (.int (((0 : Int32) ||| (own_c a0' b0')) ||| (own_c a1' b1'))), .val (.int (1 : Int32)), .unset] [])) _
  refine XS.iconst X33.here hx rfl (hb hby at_86) ?_
  show Steps p.tables e below (T33.setTop (mkF m 87 #[.val (.long a0'), .second, .val (.long a1'), .second, .val (.long b0'), .second, .val (.long b1'), .second, .val (.int kk), .val (.int (2 : Int32)), .val (.ref st), .val (.ref mo), .val (.int (((0 : Int32) ||| (own_c a0' b0')) ||| (own_c a1' b1'))), .val (.int (1 : Int32)), .unset] [(.int (0 : Int32))])) _
  refine XS.istore X33.here hx rfl (hb hby at_87) rfl (l' := #[.val (.long a0'), .second, .val (.long a1'), .second, .val (.long b0'), .second, .val (.long b1'), .second, .val (.int kk), .val (.int (2 : Int32)), .val (.ref st), .val (.ref mo), .val (.int (((0 : Int32) ||| (own_c a0' b0')) ||| (own_c a1' b1'))), .val (.int (1 : Int32)), .val (.int (0 : Int32))]) rfl ?_
  show Steps p.tables e below (T33.setTop (mkF m 89 #[.val (.long a0'), .second, .val (.long a1'), .second, .val (.long b0'), .second, .val (.long b1'), .second, .val (.int kk), .val (.int (2 : Int32)), .val (.ref st), .val (.ref mo), .val (.int (((0 : Int32) ||| (own_c a0' b0')) ||| (own_c a1' b1'))), .val (.int (1 : Int32)), .val (.int (0 : Int32))] [])) _
  refine XS.iload X33.here hx rfl (hb hby at_89) rfl ?_
  show Steps p.tables e below (T33.setTop (mkF m 91 #[.val (.long a0'), .second, .val (.long a1'), .second, .val (.long b0'), .second, .val (.long b1'), .second, .val (.int kk), .val (.int (2 : Int32)), .val (.ref st), .val (.ref mo), .val (.int (((0 : Int32) ||| (own_c a0' b0')) ||| (own_c a1' b1'))), .val (.int (1 : Int32)), .val (.int (0 : Int32))] [(.int (2 : Int32))])) _
  refine XS.ifNo X33.here hx rfl (hb hby at_91) rfl ((if0 _ _).trans (tlt (by decide : (0 : Int32) < (2 : Int32))).2.2.2) ?_
  show Steps p.tables e below (T33.setTop (mkF m 94 #[.val (.long a0'), .second, .val (.long a1'), .second, .val (.long b0'), .second, .val (.long b1'), .second, .val (.int kk), .val (.int (2 : Int32)), .val (.ref st), .val (.ref mo), .val (.int (((0 : Int32) ||| (own_c a0' b0')) ||| (own_c a1' b1'))), .val (.int (1 : Int32)), .val (.int (0 : Int32))] [])) _
  refine XS.iload X33.here hx rfl (hb hby at_94) rfl ?_
  show Steps p.tables e below (T33.setTop (mkF m 96 #[.val (.long a0'), .second, .val (.long a1'), .second, .val (.long b0'), .second, .val (.long b1'), .second, .val (.int kk), .val (.int (2 : Int32)), .val (.ref st), .val (.ref mo), .val (.int (((0 : Int32) ||| (own_c a0' b0')) ||| (own_c a1' b1'))), .val (.int (1 : Int32)), .val (.int (0 : Int32))] [(.int (1 : Int32))])) _
  refine XS.ifNo X33.here hx rfl (hb hby at_96) rfl ((if0 _ _).trans (feq (by decide : ¬ ((1 : Int32) = (0 : Int32)))).1) ?_
  show Steps p.tables e below (T33.setTop (mkF m 99 #[.val (.long a0'), .second, .val (.long a1'), .second, .val (.long b0'), .second, .val (.long b1'), .second, .val (.int kk), .val (.int (2 : Int32)), .val (.ref st), .val (.ref mo), .val (.int (((0 : Int32) ||| (own_c a0' b0')) ||| (own_c a1' b1'))), .val (.int (1 : Int32)), .val (.int (0 : Int32))] [])) _
  refine XS.aload X33.here hx rfl (hb hby at_99) rfl rfl ?_
  show Steps p.tables e below (T33.setTop (mkF m 101 #[.val (.long a0'), .second, .val (.long a1'), .second, .val (.long b0'), .second, .val (.long b1'), .second, .val (.int kk), .val (.int (2 : Int32)), .val (.ref st), .val (.ref mo), .val (.int (((0 : Int32) ||| (own_c a0' b0')) ||| (own_c a1' b1'))), .val (.int (1 : Int32)), .val (.int (0 : Int32))] [(.ref st)])) _
  refine XS.iconst X33.here hx rfl (hb hby at_101) ?_
  show Steps p.tables e below (T33.setTop (mkF m 102 #[.val (.long a0'), .second, .val (.long a1'), .second, .val (.long b0'), .second, .val (.long b1'), .second, .val (.int kk), .val (.int (2 : Int32)), .val (.ref st), .val (.ref mo), .val (.int (((0 : Int32) ||| (own_c a0' b0')) ||| (own_c a1' b1'))), .val (.int (1 : Int32)), .val (.int (0 : Int32))] [(.int (0 : Int32)), (.ref st)])) _
  refine X33.laload hx (j := (0 : Int32)) (v := (.long (a0' ||| b0'))) Arx.1 (State.isArrayOf_alike hZ.alike Arx.2.1) Arx.2.2 (inb_of Sx ⟨by decide, by decide⟩) (Has.at Hx (inb_of Sx ⟨by decide, by decide⟩) rfl) (g := (mkF m 102 #[.val (.long a0'), .second, .val (.long a1'), .second, .val (.long b0'), .second, .val (.long b1'), .second, .val (.int kk), .val (.int (2 : Int32)), .val (.ref st), .val (.ref mo), .val (.int (((0 : Int32) ||| (own_c a0' b0')) ||| (own_c a1' b1'))), .val (.int (1 : Int32)), .val (.int (0 : Int32))] [(.int (0 : Int32)), (.ref st)])) rfl rfl (hb hby at_102) _ ?_
  show Steps p.tables e below (T33.setTop (mkF m 103 #[.val (.long a0'), .second, .val (.long a1'), .second, .val (.long b0'), .second, .val (.long b1'), .second, .val (.int kk), .val (.int (2 : Int32)), .val (.ref st), .val (.ref mo), .val (.int (((0 : Int32) ||| (own_c a0' b0')) ||| (own_c a1' b1'))), .val (.int (1 : Int32)), .val (.int (0 : Int32))] [(.long (a0' ||| b0'))])) _
  refine XS.lloadN X33.here hx rfl (hb hby at_103) rfl ?_
  show Steps p.tables e below (T33.setTop (mkF m 104 #[.val (.long a0'), .second, .val (.long a1'), .second, .val (.long b0'), .second, .val (.long b1'), .second, .val (.int kk), .val (.int (2 : Int32)), .val (.ref st), .val (.ref mo), .val (.int (((0 : Int32) ||| (own_c a0' b0')) ||| (own_c a1' b1'))), .val (.int (1 : Int32)), .val (.int (0 : Int32))] [(.long a0'), (.long (a0' ||| b0'))])) _
  refine XS.lload X33.here hx rfl (hb hby at_104) rfl ?_
  show Steps p.tables e below (T33.setTop (mkF m 106 #[.val (.long a0'), .second, .val (.long a1'), .second, .val (.long b0'), .second, .val (.long b1'), .second, .val (.int kk), .val (.int (2 : Int32)), .val (.ref st), .val (.ref mo), .val (.int (((0 : Int32) ||| (own_c a0' b0')) ||| (own_c a1' b1'))), .val (.int (1 : Int32)), .val (.int (0 : Int32))] [(.long b0'), (.long a0'), (.long (a0' ||| b0'))])) _
  refine XS.lor X33.here hx rfl (hb hby at_106) rfl ?_
  show Steps p.tables e below (T33.setTop (mkF m 107 #[.val (.long a0'), .second, .val (.long a1'), .second, .val (.long b0'), .second, .val (.long b1'), .second, .val (.int kk), .val (.int (2 : Int32)), .val (.ref st), .val (.ref mo), .val (.int (((0 : Int32) ||| (own_c a0' b0')) ||| (own_c a1' b1'))), .val (.int (1 : Int32)), .val (.int (0 : Int32))] [(.long (a0' ||| b0')), (.long (a0' ||| b0'))])) _
  refine XS.lcmp X33.here hx rfl (hb hby at_107) rfl ?_
  show Steps p.tables e below (T33.setTop (mkF m 108 #[.val (.long a0'), .second, .val (.long a1'), .second, .val (.long b0'), .second, .val (.long b1'), .second, .val (.int kk), .val (.int (2 : Int32)), .val (.ref st), .val (.ref mo), .val (.int (((0 : Int32) ||| (own_c a0' b0')) ||| (own_c a1' b1'))), .val (.int (1 : Int32)), .val (.int (0 : Int32))] [(.int (lcmpW (a0' ||| b0') (a0' ||| b0')))])) _
  refine XS.ifNo X33.here hx rfl (hb hby at_108) rfl ((if0 _ _).trans (teq ((lw_eq _ _).mpr rfl : (lcmpW (a0' ||| b0') (a0' ||| b0')) = (0 : Int32))).2) ?_
  show Steps p.tables e below (T33.setTop (mkF m 111 #[.val (.long a0'), .second, .val (.long a1'), .second, .val (.long b0'), .second, .val (.long b1'), .second, .val (.int kk), .val (.int (2 : Int32)), .val (.ref st), .val (.ref mo), .val (.int (((0 : Int32) ||| (own_c a0' b0')) ||| (own_c a1' b1'))), .val (.int (1 : Int32)), .val (.int (0 : Int32))] [])) _
  refine XS.aload X33.here hx rfl (hb hby at_111) rfl rfl ?_
  show Steps p.tables e below (T33.setTop (mkF m 113 #[.val (.long a0'), .second, .val (.long a1'), .second, .val (.long b0'), .second, .val (.long b1'), .second, .val (.int kk), .val (.int (2 : Int32)), .val (.ref st), .val (.ref mo), .val (.int (((0 : Int32) ||| (own_c a0' b0')) ||| (own_c a1' b1'))), .val (.int (1 : Int32)), .val (.int (0 : Int32))] [(.ref mo)])) _
  refine XS.iconst X33.here hx rfl (hb hby at_113) ?_
  show Steps p.tables e below (T33.setTop (mkF m 114 #[.val (.long a0'), .second, .val (.long a1'), .second, .val (.long b0'), .second, .val (.long b1'), .second, .val (.int kk), .val (.int (2 : Int32)), .val (.ref st), .val (.ref mo), .val (.int (((0 : Int32) ||| (own_c a0' b0')) ||| (own_c a1' b1'))), .val (.int (1 : Int32)), .val (.int (0 : Int32))] [(.int (0 : Int32)), (.ref mo)])) _
  refine X33.laload hx (j := (0 : Int32)) (v := (.long b0')) Ary.1 (State.isArrayOf_alike hZ.alike Ary.2.1) Ary.2.2 (inb_of Sy ⟨by decide, by decide⟩) (Has.at Hy (inb_of Sy ⟨by decide, by decide⟩) rfl) (g := (mkF m 114 #[.val (.long a0'), .second, .val (.long a1'), .second, .val (.long b0'), .second, .val (.long b1'), .second, .val (.int kk), .val (.int (2 : Int32)), .val (.ref st), .val (.ref mo), .val (.int (((0 : Int32) ||| (own_c a0' b0')) ||| (own_c a1' b1'))), .val (.int (1 : Int32)), .val (.int (0 : Int32))] [(.int (0 : Int32)), (.ref mo)])) rfl rfl (hb hby at_114) _ ?_
  show Steps p.tables e below (T33.setTop (mkF m 115 #[.val (.long a0'), .second, .val (.long a1'), .second, .val (.long b0'), .second, .val (.long b1'), .second, .val (.int kk), .val (.int (2 : Int32)), .val (.ref st), .val (.ref mo), .val (.int (((0 : Int32) ||| (own_c a0' b0')) ||| (own_c a1' b1'))), .val (.int (1 : Int32)), .val (.int (0 : Int32))] [(.long b0')])) _
  refine XS.lload X33.here hx rfl (hb hby at_115) rfl ?_
  show Steps p.tables e below (T33.setTop (mkF m 117 #[.val (.long a0'), .second, .val (.long a1'), .second, .val (.long b0'), .second, .val (.long b1'), .second, .val (.int kk), .val (.int (2 : Int32)), .val (.ref st), .val (.ref mo), .val (.int (((0 : Int32) ||| (own_c a0' b0')) ||| (own_c a1' b1'))), .val (.int (1 : Int32)), .val (.int (0 : Int32))] [(.long b0'), (.long b0')])) _
  refine XS.lcmp X33.here hx rfl (hb hby at_117) rfl ?_
  show Steps p.tables e below (T33.setTop (mkF m 118 #[.val (.long a0'), .second, .val (.long a1'), .second, .val (.long b0'), .second, .val (.long b1'), .second, .val (.int kk), .val (.int (2 : Int32)), .val (.ref st), .val (.ref mo), .val (.int (((0 : Int32) ||| (own_c a0' b0')) ||| (own_c a1' b1'))), .val (.int (1 : Int32)), .val (.int (0 : Int32))] [(.int (lcmpW b0' b0'))])) _
  refine XS.ifNo X33.here hx rfl (hb hby at_118) rfl ((if0 _ _).trans (teq ((lw_eq _ _).mpr rfl : (lcmpW b0' b0') = (0 : Int32))).2) ?_
  show Steps p.tables e below (T33.setTop (mkF m 121 #[.val (.long a0'), .second, .val (.long a1'), .second, .val (.long b0'), .second, .val (.long b1'), .second, .val (.int kk), .val (.int (2 : Int32)), .val (.ref st), .val (.ref mo), .val (.int (((0 : Int32) ||| (own_c a0' b0')) ||| (own_c a1' b1'))), .val (.int (1 : Int32)), .val (.int (0 : Int32))] [])) _
  refine XS.iconst X33.here hx rfl (hb hby at_121) ?_
  show Steps p.tables e below (T33.setTop (mkF m 122 #[.val (.long a0'), .second, .val (.long a1'), .second, .val (.long b0'), .second, .val (.long b1'), .second, .val (.int kk), .val (.int (2 : Int32)), .val (.ref st), .val (.ref mo), .val (.int (((0 : Int32) ||| (own_c a0' b0')) ||| (own_c a1' b1'))), .val (.int (1 : Int32)), .val (.int (0 : Int32))] [(.int (1 : Int32))])) _
  refine XS.goto X33.here hx rfl (pc0 := 122) (pc' := 126) rfl (hb hby at_122) (by decide) (by decide) ?_
  show Steps p.tables e below (T33.setTop (mkF m 126 #[.val (.long a0'), .second, .val (.long a1'), .second, .val (.long b0'), .second, .val (.long b1'), .second, .val (.int kk), .val (.int (2 : Int32)), .val (.ref st), .val (.ref mo), .val (.int (((0 : Int32) ||| (own_c a0' b0')) ||| (own_c a1' b1'))), .val (.int (1 : Int32)), .val (.int (0 : Int32))] [(.int (1 : Int32))])) _
  refine XS.istore X33.here hx rfl (hb hby at_126) rfl (l' := #[.val (.long a0'), .second, .val (.long a1'), .second, .val (.long b0'), .second, .val (.long b1'), .second, .val (.int kk), .val (.int (2 : Int32)), .val (.ref st), .val (.ref mo), .val (.int (((0 : Int32) ||| (own_c a0' b0')) ||| (own_c a1' b1'))), .val (.int (1 : Int32)), .val (.int (0 : Int32))]) rfl ?_
  show Steps p.tables e below (T33.setTop (mkF m 128 #[.val (.long a0'), .second, .val (.long a1'), .second, .val (.long b0'), .second, .val (.long b1'), .second, .val (.int kk), .val (.int (2 : Int32)), .val (.ref st), .val (.ref mo), .val (.int (((0 : Int32) ||| (own_c a0' b0')) ||| (own_c a1' b1'))), .val (.int (1 : Int32)), .val (.int (0 : Int32))] [])) _
  refine XS.iload X33.here hx rfl (hb hby at_128) rfl ?_
  show Steps p.tables e below (T33.setTop (mkF m 130 #[.val (.long a0'), .second, .val (.long a1'), .second, .val (.long b0'), .second, .val (.long b1'), .second, .val (.int kk), .val (.int (2 : Int32)), .val (.ref st), .val (.ref mo), .val (.int (((0 : Int32) ||| (own_c a0' b0')) ||| (own_c a1' b1'))), .val (.int (1 : Int32)), .val (.int (0 : Int32))] [(.int (0 : Int32))])) _
  refine XS.ifNo X33.here hx rfl (hb hby at_130) rfl ((if0 _ _).trans (teq (rfl : (0 : Int32) = (0 : Int32))).2) ?_
  show Steps p.tables e below (T33.setTop (mkF m 133 #[.val (.long a0'), .second, .val (.long a1'), .second, .val (.long b0'), .second, .val (.long b1'), .second, .val (.int kk), .val (.int (2 : Int32)), .val (.ref st), .val (.ref mo), .val (.int (((0 : Int32) ||| (own_c a0' b0')) ||| (own_c a1' b1'))), .val (.int (1 : Int32)), .val (.int (0 : Int32))] [])) _
  refine XS.aload X33.here hx rfl (hb hby at_133) rfl rfl ?_
  show Steps p.tables e below (T33.setTop (mkF m 135 #[.val (.long a0'), .second, .val (.long a1'), .second, .val (.long b0'), .second, .val (.long b1'), .second, .val (.int kk), .val (.int (2 : Int32)), .val (.ref st), .val (.ref mo), .val (.int (((0 : Int32) ||| (own_c a0' b0')) ||| (own_c a1' b1'))), .val (.int (1 : Int32)), .val (.int (0 : Int32))] [(.ref st)])) _
  refine XS.iconst X33.here hx rfl (hb hby at_135) ?_
  show Steps p.tables e below (T33.setTop (mkF m 136 #[.val (.long a0'), .second, .val (.long a1'), .second, .val (.long b0'), .second, .val (.long b1'), .second, .val (.int kk), .val (.int (2 : Int32)), .val (.ref st), .val (.ref mo), .val (.int (((0 : Int32) ||| (own_c a0' b0')) ||| (own_c a1' b1'))), .val (.int (1 : Int32)), .val (.int (0 : Int32))] [(.int (0 : Int32)), (.ref st)])) _
  refine X33.laload hx (j := (0 : Int32)) (v := (.long (a0' ||| b0'))) Arx.1 (State.isArrayOf_alike hZ.alike Arx.2.1) Arx.2.2 (inb_of Sx ⟨by decide, by decide⟩) (Has.at Hx (inb_of Sx ⟨by decide, by decide⟩) rfl) (g := (mkF m 136 #[.val (.long a0'), .second, .val (.long a1'), .second, .val (.long b0'), .second, .val (.long b1'), .second, .val (.int kk), .val (.int (2 : Int32)), .val (.ref st), .val (.ref mo), .val (.int (((0 : Int32) ||| (own_c a0' b0')) ||| (own_c a1' b1'))), .val (.int (1 : Int32)), .val (.int (0 : Int32))] [(.int (0 : Int32)), (.ref st)])) rfl rfl (hb hby at_136) _ ?_
  show Steps p.tables e below (T33.setTop (mkF m 137 #[.val (.long a0'), .second, .val (.long a1'), .second, .val (.long b0'), .second, .val (.long b1'), .second, .val (.int kk), .val (.int (2 : Int32)), .val (.ref st), .val (.ref mo), .val (.int (((0 : Int32) ||| (own_c a0' b0')) ||| (own_c a1' b1'))), .val (.int (1 : Int32)), .val (.int (0 : Int32))] [(.long (a0' ||| b0'))])) _
  refine XS.lloadN X33.here hx rfl (hb hby at_137) rfl ?_
  show Steps p.tables e below (T33.setTop (mkF m 138 #[.val (.long a0'), .second, .val (.long a1'), .second, .val (.long b0'), .second, .val (.long b1'), .second, .val (.int kk), .val (.int (2 : Int32)), .val (.ref st), .val (.ref mo), .val (.int (((0 : Int32) ||| (own_c a0' b0')) ||| (own_c a1' b1'))), .val (.int (1 : Int32)), .val (.int (0 : Int32))] [(.long a0'), (.long (a0' ||| b0'))])) _
  refine XS.lcmp X33.here hx rfl (hb hby at_138) rfl ?_
  show Steps p.tables e below (T33.setTop (mkF m 139 #[.val (.long a0'), .second, .val (.long a1'), .second, .val (.long b0'), .second, .val (.long b1'), .second, .val (.int kk), .val (.int (2 : Int32)), .val (.ref st), .val (.ref mo), .val (.int (((0 : Int32) ||| (own_c a0' b0')) ||| (own_c a1' b1'))), .val (.int (1 : Int32)), .val (.int (0 : Int32))] [(.int (lcmpW (a0' ||| b0') a0'))])) _
  refine jd _ ?_
  show Steps p.tables e below (T33.setTop (mkF m 147 #[.val (.long a0'), .second, .val (.long a1'), .second, .val (.long b0'), .second, .val (.long b1'), .second, .val (.int kk), .val (.int (2 : Int32)), .val (.ref st), .val (.ref mo), .val (.int (((0 : Int32) ||| (own_c a0' b0')) ||| (own_c a1' b1'))), .val (.int (1 : Int32)), .val (.int (0 : Int32))] [(.int (own_d a0' b0'))])) _
  refine XS.istore X33.here hx rfl (hb hby at_147) rfl (l' := #[.val (.long a0'), .second, .val (.long a1'), .second, .val (.long b0'), .second, .val (.long b1'), .second, .val (.int kk), .val (.int (2 : Int32)), .val (.ref st), .val (.ref mo), .val (.int (((0 : Int32) ||| (own_c a0' b0')) ||| (own_c a1' b1'))), .val (.int (1 : Int32)), .val (.int (own_d a0' b0'))]) rfl ?_
  show Steps p.tables e below (T33.setTop (mkF m 149 #[.val (.long a0'), .second, .val (.long a1'), .second, .val (.long b0'), .second, .val (.long b1'), .second, .val (.int kk), .val (.int (2 : Int32)), .val (.ref st), .val (.ref mo), .val (.int (((0 : Int32) ||| (own_c a0' b0')) ||| (own_c a1' b1'))), .val (.int (1 : Int32)), .val (.int (own_d a0' b0'))] [])) _
  refine XS.iload X33.here hx rfl (hb hby at_149) rfl ?_
  show Steps p.tables e below (T33.setTop (mkF m 151 #[.val (.long a0'), .second, .val (.long a1'), .second, .val (.long b0'), .second, .val (.long b1'), .second, .val (.int kk), .val (.int (2 : Int32)), .val (.ref st), .val (.ref mo), .val (.int (((0 : Int32) ||| (own_c a0' b0')) ||| (own_c a1' b1'))), .val (.int (1 : Int32)), .val (.int (own_d a0' b0'))] [(.int (2 : Int32))])) _
  refine XS.iconst X33.here hx rfl (hb hby at_151) ?_
  show Steps p.tables e below (T33.setTop (mkF m 152 #[.val (.long a0'), .second, .val (.long a1'), .second, .val (.long b0'), .second, .val (.long b1'), .second, .val (.int kk), .val (.int (2 : Int32)), .val (.ref st), .val (.ref mo), .val (.int (((0 : Int32) ||| (own_c a0' b0')) ||| (own_c a1' b1'))), .val (.int (1 : Int32)), .val (.int (own_d a0' b0'))] [(.int (1 : Int32)), (.int (2 : Int32))])) _
  refine XS.icmpNo X33.here hx rfl (hb hby at_152) rfl (tlt (by decide : (1 : Int32) < (2 : Int32))).2.2.2 ?_
  show Steps p.tables e below (T33.setTop (mkF m 155 #[.val (.long a0'), .second, .val (.long a1'), .second, .val (.long b0'), .second, .val (.long b1'), .second, .val (.int kk), .val (.int (2 : Int32)), .val (.ref st), .val (.ref mo), .val (.int (((0 : Int32) ||| (own_c a0' b0')) ||| (own_c a1' b1'))), .val (.int (1 : Int32)), .val (.int (own_d a0' b0'))] [])) _
  refine XS.iload X33.here hx rfl (hb hby at_155) rfl ?_
  show Steps p.tables e below (T33.setTop (mkF m 157 #[.val (.long a0'), .second, .val (.long a1'), .second, .val (.long b0'), .second, .val (.long b1'), .second, .val (.int kk), .val (.int (2 : Int32)), .val (.ref st), .val (.ref mo), .val (.int (((0 : Int32) ||| (own_c a0' b0')) ||| (own_c a1' b1'))), .val (.int (1 : Int32)), .val (.int (own_d a0' b0'))] [(.int (1 : Int32))])) _
  refine XS.ifNo X33.here hx rfl (hb hby at_157) rfl ((if0 _ _).trans (feq (by decide : ¬ ((1 : Int32) = (0 : Int32)))).1) ?_
  show Steps p.tables e below (T33.setTop (mkF m 160 #[.val (.long a0'), .second, .val (.long a1'), .second, .val (.long b0'), .second, .val (.long b1'), .second, .val (.int kk), .val (.int (2 : Int32)), .val (.ref st), .val (.ref mo), .val (.int (((0 : Int32) ||| (own_c a0' b0')) ||| (own_c a1' b1'))), .val (.int (1 : Int32)), .val (.int (own_d a0' b0'))] [])) _
  refine XS.aload X33.here hx rfl (hb hby at_160) rfl rfl ?_
  show Steps p.tables e below (T33.setTop (mkF m 162 #[.val (.long a0'), .second, .val (.long a1'), .second, .val (.long b0'), .second, .val (.long b1'), .second, .val (.int kk), .val (.int (2 : Int32)), .val (.ref st), .val (.ref mo), .val (.int (((0 : Int32) ||| (own_c a0' b0')) ||| (own_c a1' b1'))), .val (.int (1 : Int32)), .val (.int (own_d a0' b0'))] [(.ref st)])) _
  refine XS.iconst X33.here hx rfl (hb hby at_162) ?_
  show Steps p.tables e below (T33.setTop (mkF m 163 #[.val (.long a0'), .second, .val (.long a1'), .second, .val (.long b0'), .second, .val (.long b1'), .second, .val (.int kk), .val (.int (2 : Int32)), .val (.ref st), .val (.ref mo), .val (.int (((0 : Int32) ||| (own_c a0' b0')) ||| (own_c a1' b1'))), .val (.int (1 : Int32)), .val (.int (own_d a0' b0'))] [(.int (1 : Int32)), (.ref st)])) _
  refine X33.laload hx (j := (1 : Int32)) (v := (.long (a1' ||| b1'))) Arx.1 (State.isArrayOf_alike hZ.alike Arx.2.1) Arx.2.2 (inb_of Sx ⟨by decide, by decide⟩) (Has.at Hx (inb_of Sx ⟨by decide, by decide⟩) rfl) (g := (mkF m 163 #[.val (.long a0'), .second, .val (.long a1'), .second, .val (.long b0'), .second, .val (.long b1'), .second, .val (.int kk), .val (.int (2 : Int32)), .val (.ref st), .val (.ref mo), .val (.int (((0 : Int32) ||| (own_c a0' b0')) ||| (own_c a1' b1'))), .val (.int (1 : Int32)), .val (.int (own_d a0' b0'))] [(.int (1 : Int32)), (.ref st)])) rfl rfl (hb hby at_163) _ ?_
  show Steps p.tables e below (T33.setTop (mkF m 164 #[.val (.long a0'), .second, .val (.long a1'), .second, .val (.long b0'), .second, .val (.long b1'), .second, .val (.int kk), .val (.int (2 : Int32)), .val (.ref st), .val (.ref mo), .val (.int (((0 : Int32) ||| (own_c a0' b0')) ||| (own_c a1' b1'))), .val (.int (1 : Int32)), .val (.int (own_d a0' b0'))] [(.long (a1' ||| b1'))])) _
  refine XS.lloadN X33.here hx rfl (hb hby at_164) rfl ?_
  show Steps p.tables e below (T33.setTop (mkF m 165 #[.val (.long a0'), .second, .val (.long a1'), .second, .val (.long b0'), .second, .val (.long b1'), .second, .val (.int kk), .val (.int (2 : Int32)), .val (.ref st), .val (.ref mo), .val (.int (((0 : Int32) ||| (own_c a0' b0')) ||| (own_c a1' b1'))), .val (.int (1 : Int32)), .val (.int (own_d a0' b0'))] [(.long a1'), (.long (a1' ||| b1'))])) _
  refine XS.lload X33.here hx rfl (hb hby at_165) rfl ?_
  show Steps p.tables e below (T33.setTop (mkF m 167 #[.val (.long a0'), .second, .val (.long a1'), .second, .val (.long b0'), .second, .val (.long b1'), .second, .val (.int kk), .val (.int (2 : Int32)), .val (.ref st), .val (.ref mo), .val (.int (((0 : Int32) ||| (own_c a0' b0')) ||| (own_c a1' b1'))), .val (.int (1 : Int32)), .val (.int (own_d a0' b0'))] [(.long b1'), (.long a1'), (.long (a1' ||| b1'))])) _
  refine XS.lor X33.here hx rfl (hb hby at_167) rfl ?_
  show Steps p.tables e below (T33.setTop (mkF m 168 #[.val (.long a0'), .second, .val (.long a1'), .second, .val (.long b0'), .second, .val (.long b1'), .second, .val (.int kk), .val (.int (2 : Int32)), .val (.ref st), .val (.ref mo), .val (.int (((0 : Int32) ||| (own_c a0' b0')) ||| (own_c a1' b1'))), .val (.int (1 : Int32)), .val (.int (own_d a0' b0'))] [(.long (a1' ||| b1')), (.long (a1' ||| b1'))])) _
  refine XS.lcmp X33.here hx rfl (hb hby at_168) rfl ?_
  show Steps p.tables e below (T33.setTop (mkF m 169 #[.val (.long a0'), .second, .val (.long a1'), .second, .val (.long b0'), .second, .val (.long b1'), .second, .val (.int kk), .val (.int (2 : Int32)), .val (.ref st), .val (.ref mo), .val (.int (((0 : Int32) ||| (own_c a0' b0')) ||| (own_c a1' b1'))), .val (.int (1 : Int32)), .val (.int (own_d a0' b0'))] [(.int (lcmpW (a1' ||| b1') (a1' ||| b1')))])) _
  refine XS.ifNo X33.here hx rfl (hb hby at_169) rfl ((if0 _ _).trans (teq ((lw_eq _ _).mpr rfl : (lcmpW (a1' ||| b1') (a1' ||| b1')) = (0 : Int32))).2) ?_
  show Steps p.tables e below (T33.setTop (mkF m 172 #[.val (.long a0'), .second, .val (.long a1'), .second, .val (.long b0'), .second, .val (.long b1'), .second, .val (.int kk), .val (.int (2 : Int32)), .val (.ref st), .val (.ref mo), .val (.int (((0 : Int32) ||| (own_c a0' b0')) ||| (own_c a1' b1'))), .val (.int (1 : Int32)), .val (.int (own_d a0' b0'))] [])) _
  refine XS.aload X33.here hx rfl (hb hby at_172) rfl rfl ?_
  show Steps p.tables e below (T33.setTop (mkF m 174 #[.val (.long a0'), .second, .val (.long a1'), .second, .val (.long b0'), .second, .val (.long b1'), .second, .val (.int kk), .val (.int (2 : Int32)), .val (.ref st), .val (.ref mo), .val (.int (((0 : Int32) ||| (own_c a0' b0')) ||| (own_c a1' b1'))), .val (.int (1 : Int32)), .val (.int (own_d a0' b0'))] [(.ref mo)])) _
  refine XS.iconst X33.here hx rfl (hb hby at_174) ?_
  show Steps p.tables e below (T33.setTop (mkF m 175 #[.val (.long a0'), .second, .val (.long a1'), .second, .val (.long b0'), .second, .val (.long b1'), .second, .val (.int kk), .val (.int (2 : Int32)), .val (.ref st), .val (.ref mo), .val (.int (((0 : Int32) ||| (own_c a0' b0')) ||| (own_c a1' b1'))), .val (.int (1 : Int32)), .val (.int (own_d a0' b0'))] [(.int (1 : Int32)), (.ref mo)])) _
  refine X33.laload hx (j := (1 : Int32)) (v := (.long b1')) Ary.1 (State.isArrayOf_alike hZ.alike Ary.2.1) Ary.2.2 (inb_of Sy ⟨by decide, by decide⟩) (Has.at Hy (inb_of Sy ⟨by decide, by decide⟩) rfl) (g := (mkF m 175 #[.val (.long a0'), .second, .val (.long a1'), .second, .val (.long b0'), .second, .val (.long b1'), .second, .val (.int kk), .val (.int (2 : Int32)), .val (.ref st), .val (.ref mo), .val (.int (((0 : Int32) ||| (own_c a0' b0')) ||| (own_c a1' b1'))), .val (.int (1 : Int32)), .val (.int (own_d a0' b0'))] [(.int (1 : Int32)), (.ref mo)])) rfl rfl (hb hby at_175) _ ?_
  show Steps p.tables e below (T33.setTop (mkF m 176 #[.val (.long a0'), .second, .val (.long a1'), .second, .val (.long b0'), .second, .val (.long b1'), .second, .val (.int kk), .val (.int (2 : Int32)), .val (.ref st), .val (.ref mo), .val (.int (((0 : Int32) ||| (own_c a0' b0')) ||| (own_c a1' b1'))), .val (.int (1 : Int32)), .val (.int (own_d a0' b0'))] [(.long b1')])) _
  refine XS.lload X33.here hx rfl (hb hby at_176) rfl ?_
  show Steps p.tables e below (T33.setTop (mkF m 178 #[.val (.long a0'), .second, .val (.long a1'), .second, .val (.long b0'), .second, .val (.long b1'), .second, .val (.int kk), .val (.int (2 : Int32)), .val (.ref st), .val (.ref mo), .val (.int (((0 : Int32) ||| (own_c a0' b0')) ||| (own_c a1' b1'))), .val (.int (1 : Int32)), .val (.int (own_d a0' b0'))] [(.long b1'), (.long b1')])) _
  refine XS.lcmp X33.here hx rfl (hb hby at_178) rfl ?_
  show Steps p.tables e below (T33.setTop (mkF m 179 #[.val (.long a0'), .second, .val (.long a1'), .second, .val (.long b0'), .second, .val (.long b1'), .second, .val (.int kk), .val (.int (2 : Int32)), .val (.ref st), .val (.ref mo), .val (.int (((0 : Int32) ||| (own_c a0' b0')) ||| (own_c a1' b1'))), .val (.int (1 : Int32)), .val (.int (own_d a0' b0'))] [(.int (lcmpW b1' b1'))])) _
  refine XS.ifNo X33.here hx rfl (hb hby at_179) rfl ((if0 _ _).trans (teq ((lw_eq _ _).mpr rfl : (lcmpW b1' b1') = (0 : Int32))).2) ?_
  show Steps p.tables e below (T33.setTop (mkF m 182 #[.val (.long a0'), .second, .val (.long a1'), .second, .val (.long b0'), .second, .val (.long b1'), .second, .val (.int kk), .val (.int (2 : Int32)), .val (.ref st), .val (.ref mo), .val (.int (((0 : Int32) ||| (own_c a0' b0')) ||| (own_c a1' b1'))), .val (.int (1 : Int32)), .val (.int (own_d a0' b0'))] [])) _
  refine XS.iconst X33.here hx rfl (hb hby at_182) ?_
  show Steps p.tables e below (T33.setTop (mkF m 183 #[.val (.long a0'), .second, .val (.long a1'), .second, .val (.long b0'), .second, .val (.long b1'), .second, .val (.int kk), .val (.int (2 : Int32)), .val (.ref st), .val (.ref mo), .val (.int (((0 : Int32) ||| (own_c a0' b0')) ||| (own_c a1' b1'))), .val (.int (1 : Int32)), .val (.int (own_d a0' b0'))] [(.int (1 : Int32))])) _
  refine XS.goto X33.here hx rfl (pc0 := 183) (pc' := 187) rfl (hb hby at_183) (by decide) (by decide) ?_
  show Steps p.tables e below (T33.setTop (mkF m 187 #[.val (.long a0'), .second, .val (.long a1'), .second, .val (.long b0'), .second, .val (.long b1'), .second, .val (.int kk), .val (.int (2 : Int32)), .val (.ref st), .val (.ref mo), .val (.int (((0 : Int32) ||| (own_c a0' b0')) ||| (own_c a1' b1'))), .val (.int (1 : Int32)), .val (.int (own_d a0' b0'))] [(.int (1 : Int32))])) _
  refine XS.istore X33.here hx rfl (hb hby at_187) rfl (l' := #[.val (.long a0'), .second, .val (.long a1'), .second, .val (.long b0'), .second, .val (.long b1'), .second, .val (.int kk), .val (.int (2 : Int32)), .val (.ref st), .val (.ref mo), .val (.int (((0 : Int32) ||| (own_c a0' b0')) ||| (own_c a1' b1'))), .val (.int (1 : Int32)), .val (.int (own_d a0' b0'))]) rfl ?_
  show Steps p.tables e below (T33.setTop (mkF m 189 #[.val (.long a0'), .second, .val (.long a1'), .second, .val (.long b0'), .second, .val (.long b1'), .second, .val (.int kk), .val (.int (2 : Int32)), .val (.ref st), .val (.ref mo), .val (.int (((0 : Int32) ||| (own_c a0' b0')) ||| (own_c a1' b1'))), .val (.int (1 : Int32)), .val (.int (own_d a0' b0'))] [])) _
  refine je _ ?_
  show Steps p.tables e below (T33.setTop (mkF m 208 #[.val (.long a0'), .second, .val (.long a1'), .second, .val (.long b0'), .second, .val (.long b1'), .second, .val (.int kk), .val (.int (2 : Int32)), .val (.ref st), .val (.ref mo), .val (.int (((0 : Int32) ||| (own_c a0' b0')) ||| (own_c a1' b1'))), .val (.int (1 : Int32)), .val (.int (own_d a0' b0'))] [(.int (own_d2 (own_d a0' b0') (own_d a1' b1')))])) _
  refine XS.istore X33.here hx rfl (hb hby at_208) rfl (l' := #[.val (.long a0'), .second, .val (.long a1'), .second, .val (.long b0'), .second, .val (.long b1'), .second, .val (.int kk), .val (.int (2 : Int32)), .val (.ref st), .val (.ref mo), .val (.int (((0 : Int32) ||| (own_c a0' b0')) ||| (own_c a1' b1'))), .val (.int (1 : Int32)), .val (.int (own_d2 (own_d a0' b0') (own_d a1' b1')))]) rfl ?_
  show Steps p.tables e below (T33.setTop (mkF m 210 #[.val (.long a0'), .second, .val (.long a1'), .second, .val (.long b0'), .second, .val (.long b1'), .second, .val (.int kk), .val (.int (2 : Int32)), .val (.ref st), .val (.ref mo), .val (.int (((0 : Int32) ||| (own_c a0' b0')) ||| (own_c a1' b1'))), .val (.int (1 : Int32)), .val (.int (own_d2 (own_d a0' b0') (own_d a1' b1')))] [])) _
  refine XS.iload X33.here hx rfl (hb hby at_210) rfl ?_
  show Steps p.tables e below (T33.setTop (mkF m 212 #[.val (.long a0'), .second, .val (.long a1'), .second, .val (.long b0'), .second, .val (.long b1'), .second, .val (.int kk), .val (.int (2 : Int32)), .val (.ref st), .val (.ref mo), .val (.int (((0 : Int32) ||| (own_c a0' b0')) ||| (own_c a1' b1'))), .val (.int (1 : Int32)), .val (.int (own_d2 (own_d a0' b0') (own_d a1' b1')))] [(.int (1 : Int32))])) _
  refine XS.ifNo X33.here hx rfl (hb hby at_212) rfl ((if0 _ _).trans (feq (by decide : ¬ ((1 : Int32) = (0 : Int32)))).1) ?_
  show Steps p.tables e below (T33.setTop (mkF m 215 #[.val (.long a0'), .second, .val (.long a1'), .second, .val (.long b0'), .second, .val (.long b1'), .second, .val (.int kk), .val (.int (2 : Int32)), .val (.ref st), .val (.ref mo), .val (.int (((0 : Int32) ||| (own_c a0' b0')) ||| (own_c a1' b1'))), .val (.int (1 : Int32)), .val (.int (own_d2 (own_d a0' b0') (own_d a1' b1')))] [])) _
  refine XS.iload X33.here hx rfl (hb hby at_215) rfl ?_
  show Steps p.tables e below (T33.setTop (mkF m 217 #[.val (.long a0'), .second, .val (.long a1'), .second, .val (.long b0'), .second, .val (.long b1'), .second, .val (.int kk), .val (.int (2 : Int32)), .val (.ref st), .val (.ref mo), .val (.int (((0 : Int32) ||| (own_c a0' b0')) ||| (own_c a1' b1'))), .val (.int (1 : Int32)), .val (.int (own_d2 (own_d a0' b0') (own_d a1' b1')))] [(.int (((0 : Int32) ||| (own_c a0' b0')) ||| (own_c a1' b1')))])) _
  refine XS.iload X33.here hx rfl (hb hby at_217) rfl ?_
  show Steps p.tables e below (T33.setTop (mkF m 219 #[.val (.long a0'), .second, .val (.long a1'), .second, .val (.long b0'), .second, .val (.long b1'), .second, .val (.int kk), .val (.int (2 : Int32)), .val (.ref st), .val (.ref mo), .val (.int (((0 : Int32) ||| (own_c a0' b0')) ||| (own_c a1' b1'))), .val (.int (1 : Int32)), .val (.int (own_d2 (own_d a0' b0') (own_d a1' b1')))] [(.int (own_d2 (own_d a0' b0') (own_d a1' b1'))), (.int (((0 : Int32) ||| (own_c a0' b0')) ||| (own_c a1' b1')))])) _
  refine XS.icmpNo X33.here hx rfl (hb hby at_219) rfl (teq (own_fin2 a0' b0' a1' b1' : (((0 : Int32) ||| (own_c a0' b0')) ||| (own_c a1' b1')) = (own_d2 (own_d a0' b0') (own_d a1' b1')))).2 ?_
  show Steps p.tables e below (T33.setTop (mkF m 222 #[.val (.long a0'), .second, .val (.long a1'), .second, .val (.long b0'), .second, .val (.long b1'), .second, .val (.int kk), .val (.int (2 : Int32)), .val (.ref st), .val (.ref mo), .val (.int (((0 : Int32) ||| (own_c a0' b0')) ||| (own_c a1' b1'))), .val (.int (1 : Int32)), .val (.int (own_d2 (own_d a0' b0') (own_d a1' b1')))] [])) _
  refine XS.iconst X33.here hx rfl (hb hby at_222) ?_
  show Steps p.tables e below (T33.setTop (mkF m 223 #[.val (.long a0'), .second, .val (.long a1'), .second, .val (.long b0'), .second, .val (.long b1'), .second, .val (.int kk), .val (.int (2 : Int32)), .val (.ref st), .val (.ref mo), .val (.int (((0 : Int32) ||| (own_c a0' b0')) ||| (own_c a1' b1'))), .val (.int (1 : Int32)), .val (.int (own_d2 (own_d a0' b0') (own_d a1' b1')))] [(.int (1 : Int32))])) _
  refine XS.goto X33.here hx rfl (pc0 := 223) (pc' := 227) rfl (hb hby at_223) (by decide) (by decide) ?_
  exact kt
theorem pn_1 : plainName "com/example/coterie/coterie/engine/CodeSetsAddAllPinLaw" = true := by first | (simp [plainName, overriddenIn]; done) | decide +kernel
theorem ef_0 (m : MethodId) (a0' : Int64) (a1' : Int64) (b0' : Int64) (b1' : Int64) (kk : Int32) : entryFrame m #[(.long a0'), (.long a1'), (.long b0'), (.long b1'), (.int kk)] maxLocals = mkF m 0 #[.val (.long a0'), .second, .val (.long a1'), .second, .val (.long b0'), .second, .val (.long b1'), .second, .val (.int kk), .unset, .unset, .unset, .unset, .unset, .unset] [] := by first | (simp [entryFrame, mkF, argsToLocals, Value.category, maxLocals]; done) | rfl
def Q_0 (Z : State) (a0' : Int64) (a1' : Int64) (b0' : Int64) (b1' : Int64) (kk : Int32)  (h0 : Heap) (n0 : Nat) (v : Option Value) (h : Heap) (L : List Loc) : Prop := v = some (.int (1 : Int32)) ∧ Fr n0 L
set_option maxRecDepth 65536 in
set_option maxHeartbeats 40000000 in
theorem rm_0 (l : Launch) (Z : State) (a0 : Array Value) (hw : ∀ d ∈ tables_1, d.before a0 Z = true) (ws : List Jvm.Cond) (a0' : Int64) (a1' : Int64) (b0' : Int64) (b1' : Int64) (kk : Int32)  (h0 : Heap) (n0 : Nat) (Z0 : n0 ≤ h0.size)  :
    MetFree l x (head1 (Jvm.Cond.code x code maxLocals ret :: ws) room_1) (fun a U => a = #[(.long a0'), (.long a1'), (.long b0'), (.long b1'), (.int kk)] ∧ Z.Warmed39 U.vm ∧ U.heap = h0) (fun _ _ _ _ _ => True) (fun _ U o U' => ∃ v L, o = .returned v ∧ Q_0 Z a0' a1' b0' b1' kk  h0 n0 v U'.heap L ∧ FrameEnd U o U' L room_1.cells room_1.slots) := by
  refine MetFree.of_bodySF (plainFor_of_name pn_1) hisR ?_
  intro p e s m args below meth c s₁ Bd hml0 hP hK
  obtain ⟨rfl, hZ, hh⟩ := hP
  have hx := Bd.exec
  have hby := Bd.bytes
  have hml : c.maxLocals = 15 := hml0
  have hown : s.vm.findClass "com/example/coterie/coterie/engine/CodeSetsAddAllPinLaw" = some m.cls := findClass_of_methodNamed Bd.named
  have hnm := (name_of_methodNamed Bd.named Bd.method).1
  have X0 : Stand p l e room_1 s m #[(.long a0'), (.long a1'), (.long b0'), (.long b1'), (.int kk)] below meth c s₁ [] 0 0 := Stand.of_body Bd
  have e0 : s₁.heap = h0 := by rw [← hh, Bd.state]; rfl
  have N0 := Fr.nil n0
  have pre0 : ∀ t, Steps p.tables e below (s₁.setTop (mkF m 0 #[.val (.long a0'), .second, .val (.long a1'), .second, .val (.long b0'), .second, .val (.long b1'), .second, .val (.int kk), .unset, .unset, .unset, .unset, .unset, .unset] [])) t → Steps p.tables e below (s₁.setTop (entryFrame m #[(.long a0'), (.long a1'), (.long b0'), (.long b1'), (.int kk)] maxLocals)) t := fun t k => castTop (ef_0 m a0' a1' b0' b1' kk) k
  obtain ⟨nn, hnn⟩ : ∃ z : Int32, z = ((kk &&& (2147483647 : Int32)) - ((kk &&& (2147483647 : Int32)) / (3 : Int32)) * (3 : Int32)) := ⟨_, rfl⟩
  have h3 := own_rem kk
  rw [← hnn] at h3
  obtain ⟨T9, h9, L9, LL, X9, e9, N9, Z9, -, st9⟩ : ∃ (T' : State) (h' : Heap) (locs' : List Loc) (LL : Array Slot), Stand p l e room_1 s m _ below meth c T' locs' 2 4 ∧ T'.heap = h' ∧ Fr n0 locs' ∧ n0 ≤ h'.size ∧ True ∧ ∀ target, Steps p.tables e below (T'.setTop (mkF m 227 LL [(.int (1 : Int32))])) target → Steps p.tables e below (s₁.setTop (mkF m 9 #[.val (.long a0'), .second, .val (.long a1'), .second, .val (.long b0'), .second, .val (.long b1'), .second, .val (.int kk), .val (.int nn), .unset, .unset, .unset, .unset, .unset] [])) target := by
    rcases h3 with rfl | rfl | rfl
    · obtain ⟨T', h', L', LL, X', r⟩ := rd0 a0' a1' b0' b1' kk X0 hx hZ hw hby hml hown e0 N0 Z0
      exact ⟨T', h', L', LL, own_grow X' (by decide) (by decide), r⟩
    · obtain ⟨T', h', L', LL, X', r⟩ := rd1 a0' a1' b0' b1' kk X0 hx hZ hw hby hml hown e0 N0 Z0
      exact ⟨T', h', L', LL, own_grow X' (by decide) (by decide), r⟩
    · obtain ⟨T', h', L', LL, X', r⟩ := rd2 a0' a1' b0' b1' kk X0 hx hZ hw hby hml hown e0 N0 Z0
      exact ⟨T', h', L', LL, own_grow X' (by decide) (by decide), r⟩
  obtain ⟨fs, hr, hrun, hended, hW, hsame⟩ := X9.leave (v := some (.int (1 : Int32))) (fun h => by rw [Bd.returns] at h; cases h)
  refine ⟨_, _, pre0 _ ?_, hrun, hended, _, _, rfl, ?_, ⟨_, rfl⟩, hW, hsame.mono (by decide) (by decide)⟩
  · show Steps p.tables e below (s₁.setTop (mkF m 0 #[.val (.long a0'), .second, .val (.long a1'), .second, .val (.long b0'), .second, .val (.long b1'), .second, .val (.int kk), .unset, .unset, .unset, .unset, .unset, .unset] [])) _
    refine XS.iload X0.here hx rfl (hb hby at_0) rfl ?_
    show Steps p.tables e below (s₁.setTop (mkF m 2 #[.val (.long a0'), .second, .val (.long a1'), .second, .val (.long b0'), .second, .val (.long b1'), .second, .val (.int kk), .unset, .unset, .unset, .unset, .unset, .unset] [(.int kk)])) _
    refine X0.ldcInt hx hown (mvT hZ (hw _ (List.mem_of_getElem? (i := 0) rfl))) (g := (mkF m 2 #[.val (.long a0'), .second, .val (.long a1'), .second, .val (.long b0'), .second, .val (.long b1'), .second, .val (.int kk), .unset, .unset, .unset, .unset, .unset, .unset] [(.int kk)])) rfl (hb hby at_2) _ ?_
    show Steps p.tables e below (s₁.setTop (mkF m 4 #[.val (.long a0'), .second, .val (.long a1'), .second, .val (.long b0'), .second, .val (.long b1'), .second, .val (.int kk), .unset, .unset, .unset, .unset, .unset, .unset] [(.int (2147483647 : Int32)), (.int kk)])) _
    refine XS.iand X0.here hx rfl (hb hby at_4) rfl ?_
    show Steps p.tables e below (s₁.setTop (mkF m 5 #[.val (.long a0'), .second, .val (.long a1'), .second, .val (.long b0'), .second, .val (.long b1'), .second, .val (.int kk), .unset, .unset, .unset, .unset, .unset, .unset] [(.int (kk &&& (2147483647 : Int32)))])) _
    refine XS.iconst X0.here hx rfl (hb hby at_5) ?_
    show Steps p.tables e below (s₁.setTop (mkF m 6 #[.val (.long a0'), .second, .val (.long a1'), .second, .val (.long b0'), .second, .val (.long b1'), .second, .val (.int kk), .unset, .unset, .unset, .unset, .unset, .unset] [(.int (3 : Int32)), (.int (kk &&& (2147483647 : Int32)))])) _
    refine XS.irem X0.here hx rfl (hb hby at_6) rfl (by decide) ?_
    show Steps p.tables e below (s₁.setTop (mkF m 7 #[.val (.long a0'), .second, .val (.long a1'), .second, .val (.long b0'), .second, .val (.long b1'), .second, .val (.int kk), .unset, .unset, .unset, .unset, .unset, .unset] [(.int ((kk &&& (2147483647 : Int32)) - ((kk &&& (2147483647 : Int32)) / (3 : Int32)) * (3 : Int32)))])) _
    rw [← hnn]
    show Steps p.tables e below (s₁.setTop (mkF m 7 #[.val (.long a0'), .second, .val (.long a1'), .second, .val (.long b0'), .second, .val (.long b1'), .second, .val (.int kk), .unset, .unset, .unset, .unset, .unset, .unset] [(.int nn)])) _
    refine XS.istore X0.here hx rfl (hb hby at_7) rfl (l' := #[.val (.long a0'), .second, .val (.long a1'), .second, .val (.long b0'), .second, .val (.long b1'), .second, .val (.int kk), .val (.int nn), .unset, .unset, .unset, .unset, .unset]) rfl ?_
    show Steps p.tables e below (s₁.setTop (mkF m 9 #[.val (.long a0'), .second, .val (.long a1'), .second, .val (.long b0'), .second, .val (.long b1'), .second, .val (.int kk), .val (.int nn), .unset, .unset, .unset, .unset, .unset] [])) _
    refine st9 _ ?_
    show Steps p.tables e below (T9.setTop (mkF m 227 LL [(.int (1 : Int32))])) _
    exact retN X9 hx (t := .boolean) Bd.returns (by simp) (hb hby at_227) hr
  · show Q_0 Z a0' a1' b0' b1' kk  h0 n0 _ T9.heap _
    rw [e9]
    exact ⟨rfl, N9⟩
set_option maxRecDepth 65536 in
set_option maxHeartbeats 40000000 in
theorem comes_1 {Post : Tables → Env → Array Value → State → Outcome → State → Prop} (hpost : ∀ tb e args s v u, (limb_1_1.after args s (.returned v) u = true ∧ limb_1_2.after args s (.returned v) u = true ∧ True) → FrameEnd s (.returned v) u (Jvm.fieldLocs frame_1_writes args s ++ Jvm.arrayLocs frame_1_arrays args s ++ Jvm.staticLocs frame_1_statics s) 16 128 → Post tb e args s (.returned v) u) :
    ArmFor flags0 classFile x code maxLocals ret World_1 tables_1 room_1 Calls_1 rest_1 Pre_1 Post := by
  intro l hfl _ _ p e ha hc hk s m args below hf hA hF happ hP
  obtain ⟨hcalls, hrest, hpre⟩ := hP
  obtain ⟨-, -, -, hnamed, -, -, -, hat⟩ := (Spec.applies_iff hf).mp happ
  obtain ⟨hg, hn⟩ := and_e (Cond.before_iff.mp (show (Jvm.Cond.and given_1 narrow_1).before args s = true from hpre))
  obtain ⟨gc, gr0⟩ := and_e hg
  obtain ⟨ga0, gr1⟩ := and_e gr0
  obtain ⟨ga1, gr2⟩ := and_e gr1
  obtain ⟨ga2, gr3⟩ := and_e gr2
  obtain ⟨ga3, gr4⟩ := and_e gr3
  obtain ⟨w0, w1, w2, w3, w4, rfl⟩ : ∃ w0 w1 w2 w3 w4 : Value, args = #[w0, w1, w2, w3, w4] := by
    have hs : args.size = 5 := by simpa [Cond.value, given_1] using gc
    obtain ⟨L⟩ := args
    match L, hs with
    | [w0, w1, w2, w3, w4], _ => exact ⟨w0, w1, w2, w3, w4, rfl⟩
  have hw := fun d (hd : d ∈ tables_1) => atoms_spec (ws := Jvm.Cond.code x code maxLocals ret :: tables_1) hat d (List.mem_cons_of_mem _ hd)
  obtain ⟨i0, ei0⟩ := isL_v ga0
  obtain rfl : w0 = (.long i0) := Option.some.inj ei0
  obtain ⟨i1, ei1⟩ := isL_v ga1
  obtain rfl : w1 = (.long i1) := Option.some.inj ei1
  obtain ⟨i2, ei2⟩ := isL_v ga2
  obtain rfl : w2 = (.long i2) := Option.some.inj ei2
  obtain ⟨i3, ei3⟩ := isL_v ga3
  obtain rfl : w3 = (.long i3) := Option.some.inj ei3
  obtain ⟨i4, ei4⟩ := is_v gr4
  obtain rfl : w4 = (.int i4) := Option.some.inj ei4
  obtain ⟨n, o, h1, h2, h3, _, L, rfl, ⟨rfl, N⟩, hq⟩ := rm_0 l s _ hw tables_1 i0 i1 i2 i3 i4 s.heap s.heap.size (Nat.le_refl _) p e ha hc hk s m _ below hf ((Spec.applies_iff_loose hf).mp happ).1 ⟨rfl, State.Warmed39.refl s, rfl⟩ trivial
  refine ⟨n, _, h1, h2, h3, hpost _ _ _ _ _ _ ⟨Cond.after_iff.mpr rfl, Cond.after_iff.mpr (eq_i res_at (Term.int_eval (1)) rfl), trivial⟩ ⟨hq.1, hq.2.1, (hq.2.2.sift fun y hy => Or.inr (N y hy)).mono (by decide) (by decide)⟩⟩
theorem main_1_1 : Claimed_1_1 := comes_1 fun _ _ _ _ _ _ h hF => ⟨h.1, hF⟩
theorem main_1_2 : Claimed_1_2 := comes_1 fun _ _ _ _ _ _ h hF => ⟨h.2.1, hF⟩
end Jvm.Pilot.@@N@@
namespace Jvm.Pilot.@@N@@
open Jvm Jvm.ClassFile Sem Op Lib Jvm.Free Jvm.Stand Jvm.Pilot.@@N@@.Jvm.D
/-! MADE BY PROGRAM (witnessworld.py) out of the Statement's table words and the real class files: 11 classes; the members and pool entries that the words name. The judged class is class 1, her method 1. -/
namespace start1
open Jvm.ClassFile
def u (s : String) : CpInfo := .utf8 (stringToUtf16 s)
/-- a pool by its gaps: so many unusable entries, then the entry; so many at the end -/
def gap : Nat → List CpInfo → List CpInfo
  | 0, r => r
  | n + 1, r => .unusable :: gap n r
def poolList (es : List (Nat × CpInfo)) (last : Nat) : List CpInfo := es.foldr (fun e r => gap e.1 (e.2 :: r)) (gap last [])
def pool (es : List (Nat × CpInfo)) (last : Nat) : Array CpInfo := ⟨poolList es last⟩
def fileOf (pool : Array CpInfo) (this : Nat) (attrs : Array Attribute := #[]) (ms : Array MethodInfo := #[]) (fl : Nat := 33) (sup : Nat := 0) (ifs : Array Nat := #[]) (fds : Array FieldInfo := #[]) : ClassFile where
  minorVersion := 0
  majorVersion := 65
  constantPool := pool
  accessFlags := fl
  thisClass := this
  superClass := sup
  interfaces := ifs
  fields := fds
  methods := ms
  attributes := attrs
def plain (name : String) (sup : Option ClassId) : Class where
  name := name
  kind := .ordinary
  loader := none
  accessFlags := 33
  super := sup
  interfaces := #[]
  cf := none
  fields := #[]
  methods := #[]
  instanceTypes := #[]
  staticTypes := #[]
  resolved := #[]
  callSites := []
  init := .initialized
  statics := none
  mirror := none

def pool0 : Array CpInfo := pool [(5, u "<init>"), (0, u "()V"), (1, .class_ 10), (1, u "java/lang/Object")] 113

def k0m0 : Method := { name := "<init>", desc := "()V", sig := { parameters := [], returnType := none }, accessFlags := 1, code := none }
/-- java/lang/Object -/
def k0 : Class := { plain "java/lang/Object" none with
  accessFlags := 33
  interfaces := #[]
  cf := some (fileOf pool0 8 #[] #[{ accessFlags := 1, nameIndex := 5, descriptorIndex := 6, attributes := #[] }] 33 0 #[] #[])
  fields := #[]
  methods := #[k0m0]
  instanceTypes := #[]
  staticTypes := #[]
  resolved := Array.replicate 124 none
  statics := none }

def pool1 : Array CpInfo := pool [(2, .class_ 4), (1, u "java/lang/Object"), (0, u "<init>"), (0, u "()V"), (0, .integer 2147483647), (0, .methodref 9 10), (0, .class_ 11), (0, .nameAndType 12 13), (0, u "com/example/coterie/coterie/engine/CodeSets"), (0, u "addAll"), (0, u "([J[J)Z"), (0, .class_ 15), (0, u "com/example/coterie/coterie/engine/CodeSetsAddAllPinLaw"), (2, u "law"), (0, u "(JJJJI)Z")] 5

def k1m0 : Method := { name := "<init>", desc := "()V", sig := { parameters := [], returnType := none }, accessFlags := 2, code := none }
def k1c1 : Code := { maxStack := 6, maxLocals := 15, code := code, exceptionTable := #[], attributes := #[] }
def k1m1 : Method := { name := "law", desc := "(JJJJI)Z", sig := { parameters := [.long, .long, .long, .long, .int], returnType := some .boolean }, accessFlags := 9, code := some k1c1 }
/-- com/example/coterie/coterie/engine/CodeSetsAddAllPinLaw -/
def k1 : Class := { plain "com/example/coterie/coterie/engine/CodeSetsAddAllPinLaw" (some 0) with
  accessFlags := 49
  interfaces := #[]
  cf := some (fileOf pool1 14 #[] #[{ accessFlags := 2, nameIndex := 5, descriptorIndex := 6, attributes := #[] }, { accessFlags := 9, nameIndex := 18, descriptorIndex := 19, attributes := #[] }] 49 2 #[] #[])
  fields := #[]
  methods := #[k1m0, k1m1]
  instanceTypes := #[]
  staticTypes := #[]
  resolved := Array.replicate 25 none
  statics := none }

def pool2 : Array CpInfo := pool [(2, .class_ 4), (1, u "java/lang/Object"), (0, u "<init>"), (0, u "()V"), (2, .long 18446744073709551615), (9, .class_ 21), (1, u "com/example/coterie/coterie/engine/CodeSets"), (19, u "addAll"), (0, u "([J[J)Z")] 10

def k2m0 : Method := { name := "<init>", desc := "()V", sig := { parameters := [], returnType := none }, accessFlags := 2, code := none }
def k2c1 : Code := { maxStack := 7, maxLocals := 4, code := prog_49_method_5_code, exceptionTable := #[], attributes := #[] }
def k2m1 : Method := { name := "addAll", desc := "([J[J)Z", sig := { parameters := [(.array .long), (.array .long)], returnType := some .boolean }, accessFlags := 8, code := some k2c1 }
/-- com/example/coterie/coterie/engine/CodeSets -/
def k2 : Class := { plain "com/example/coterie/coterie/engine/CodeSets" (some 0) with
  accessFlags := 48
  interfaces := #[]
  cf := some (fileOf pool2 19 #[] #[{ accessFlags := 2, nameIndex := 5, descriptorIndex := 6, attributes := #[] }, { accessFlags := 8, nameIndex := 41, descriptorIndex := 42, attributes := #[] }] 48 2 #[] #[])
  fields := #[]
  methods := #[k2m0, k2m1]
  instanceTypes := #[]
  staticTypes := #[]
  resolved := Array.replicate 53 none
  statics := none }

def pool3 : Array CpInfo := pool [(1, u "java/lang/Cloneable"), (0, .class_ 1), (0, u "java/lang/Object"), (0, .class_ 3)] 3

/-- java/lang/Cloneable -/
def k3 : Class := { plain "java/lang/Cloneable" (some 0) with
  accessFlags := 1537
  interfaces := #[]
  cf := some (fileOf pool3 2 #[] #[] 1537 4 #[] #[])
  fields := #[]
  methods := #[]
  instanceTypes := #[]
  staticTypes := #[]
  resolved := Array.replicate 8 none
  statics := none }

def pool4 : Array CpInfo := pool [(1, u "java/io/Serializable"), (0, .class_ 1), (0, u "java/lang/Object"), (0, .class_ 3)] 3

/-- java/io/Serializable -/
def k4 : Class := { plain "java/io/Serializable" (some 0) with
  accessFlags := 1537
  interfaces := #[]
  cf := some (fileOf pool4 2 #[] #[] 1537 4 #[] #[])
  fields := #[]
  methods := #[]
  instanceTypes := #[]
  staticTypes := #[]
  resolved := Array.replicate 8 none
  statics := none }

/-- the primitive byte -/
def k5 : Class := { plain "byte" none with kind := .primitive 'B', accessFlags := 0x411 }
/-- [B -/
def k6 : Class := { plain "[B" (some 0) with kind := .array 5 .byte, interfaces := #[3, 4], accessFlags := 1041 }

/-- the primitive int -/
def k7 : Class := { plain "int" none with kind := .primitive 'I', accessFlags := 0x411 }
/-- [I -/
def k8 : Class := { plain "[I" (some 0) with kind := .array 7 .int, interfaces := #[3, 4], accessFlags := 1041 }

/-- the primitive long -/
def k9 : Class := { plain "long" none with kind := .primitive 'J', accessFlags := 0x411 }
/-- [J -/
def k10 : Class := { plain "[J" (some 0) with kind := .array 9 .long, interfaces := #[3, 4], accessFlags := 1041 }

def heap : Heap := #[]
def classes : Array Class := #[k0, k1, k2, k3, k4, k5, k6, k7, k8, k9, k10]
def interned : List (Array UInt16 × Addr) := []
def slotsUsed : Nat := 0
def theMethod : MethodId := ⟨1, 1⟩
def args0 : Array Value := #[.long 5, .long 7, .long 9, .long 11, .int 13]
def aboutOver (below : List Frame) : State where
  vm := { classes := classes, interned := interned.toArray }
  heap := heap
  slotsUsed := slotsUsed
  threads := #[{ frames := .invoking theMethod args0 :: below }]
def below0 : List Frame := [.native { method := ⟨0, 0⟩, args := #[] }]
def about1 : State := aboutOver below0
def p0 : Program := .bare "" "" ""
def e0 : Env := launch0.env 0 0 0
theorem w_frames : about1.frames = Frame.invoking theMethod args0 :: below0 := rfl
set_option maxRecDepth 65536 in
theorem w_args : argsFit about1.vm theMethod args0 = true := by decide +kernel
set_option maxRecDepth 65536 in
theorem w_heap : heapFits about1 = true := by decide +kernel
set_option maxRecDepth 65536 in
theorem w_runnable : about1.curStatus? = some .runnable := by decide +kernel
set_option maxRecDepth 65536 in
theorem w_alone : about1.alone = true := by decide +kernel
set_option maxRecDepth 65536 in
theorem w_named : about1.methodNamed? x = some theMethod := by decide +kernel
set_option maxRecDepth 65536 in
theorem w_hears : about1.hears theMethod below0 = true := by decide +kernel
set_option maxRecDepth 65536 in
theorem w_ripe : about1.ripe theMethod args0 below0 = true := by decide +kernel
theorem w_running : about1.status = .running := rfl
set_option maxRecDepth 65536 in
theorem w_room : about1.hasRoom e0.platform room_1 = true :=
  launch0.hasRoom_least _ room_1 (by decide +kernel) (by decide +kernel) (by decide +kernel) (by decide +kernel) (by decide +kernel) (by decide +kernel)
theorem allAtoms_all (ts : List Jvm.Cond) (a : Array Jvm.Value) (st : Jvm.State) : (allAtoms ts).before a st = ts.all (fun c => c.before a st) := by
  induction ts with
  | nil => rfl
  | cons c t ih =>
    show (Jvm.Cond.and c (allAtoms t)).before a st = _
    rw [Jvm.Cond.before_and, ih, List.all_cons]
def words1 : List Jvm.Cond := Jvm.Cond.code x code maxLocals ret :: tables_1
/-- a 'code' word, met by the world's own term for the bytes: nothing is compared byte by byte -/
theorem code_word {y : MethodName} {bytes : ByteArray} {mx : Nat} {rt : Option FieldType} {a : Array Value} {s : State} {m : MethodId} {meth : Method} {c : Code} (h1 : s.methodNamed? y = some m) (h2 : s.vm.method? m = some meth) (h3 : meth.code = some c) (h4 : c.code = bytes)
    (h5 : (c.maxLocals == mx && c.exceptionTable.isEmpty && decide (c.maxStack ≤ mostOperands) && decide (meth.sig.returnType = rt) && !meth.locks && decide (parseMethodDescriptor y.desc = some meth.sig)) = true) : (Jvm.Cond.code y bytes mx rt).before a s = true := by
  simp only [Bool.and_eq_true, beq_iff_eq, Bool.not_eq_true', decide_eq_true_eq] at h5
  obtain ⟨⟨⟨⟨⟨g1, g2⟩, g3⟩, g4⟩, g5⟩, g6⟩ := h5
  simp [Cond.before, Cond.holds, Cond.value, h1, h2, h3, h4, g1, g2, g3, g4, g5, g6]
def isCode : Jvm.Cond → Bool
  | .code _ _ _ _ => true
  | _ => false
theorem all_split {L : List Jvm.Cond} {P : Jvm.Cond → Bool} (h1 : L.all (fun c => isCode c || P c) = true) (h2 : ∀ c ∈ L.filter isCode, P c = true) : L.all P = true := by
  refine List.all_eq_true.mpr fun c hc => ?_
  have h := List.all_eq_true.mp h1 c hc
  rcases Bool.eq_false_or_eq_true (isCode c) with hi | hi
  · exact h2 c (List.mem_filter.mpr ⟨hc, hi⟩)
  · simpa [hi] using h
set_option maxRecDepth 65536 in
theorem w_c0 : (Jvm.Cond.code x code maxLocals ret).before args0 about1 = true := code_word (m := ⟨1, 1⟩) (meth := k1m1) (c := k1c1) (by decide +kernel) rfl rfl rfl (by decide +kernel)
set_option maxRecDepth 65536 in
theorem w_c1 : (Jvm.Cond.code ({ cls := "com/example/coterie/coterie/engine/CodeSets", name := "addAll", desc := "([J[J)Z" } : Jvm.MethodName) prog_49_method_5_code (4 : Nat) (Option.some Jvm.ClassFile.FieldType.boolean)).before args0 about1 = true := code_word (m := ⟨2, 1⟩) (meth := k2m1) (c := k2c1) (by decide +kernel) rfl rfl rfl (by decide +kernel)
def codes1 : List Jvm.Cond := [Jvm.Cond.code x code maxLocals ret, Jvm.Cond.code ({ cls := "com/example/coterie/coterie/engine/CodeSets", name := "addAll", desc := "([J[J)Z" } : Jvm.MethodName) prog_49_method_5_code (4 : Nat) (Option.some Jvm.ClassFile.FieldType.boolean)]
set_option maxRecDepth 65536 in
theorem codes_eq : words1.filter isCode = codes1 := rfl
theorem w_codes : ∀ c ∈ words1.filter isCode, c.before args0 about1 = true := by
  rw [codes_eq]
  intro c hc
  simp only [codes1, List.mem_cons, List.not_mem_nil, or_false] at hc
  rcases hc with rfl | rfl
  · exact w_c0
  · exact w_c1
set_option maxRecDepth 65536 in
theorem w_t1 : words1.all (fun c => isCode c || c.before args0 about1) = true := by decide +kernel
theorem w_tables : (allAtoms (Jvm.Cond.code x code maxLocals ret :: tables_1)).before args0 about1 = true := by
  rw [allAtoms_all]
  show words1.all (fun c => c.before args0 about1) = true
  refine all_split ?_ w_codes
  rw [w_t1]
set_option maxRecDepth 65536 in
theorem w_case : (Jvm.Cond.and given_1 narrow_1).before args0 about1 = true := by decide +kernel
theorem w_applies : (headSpec (Jvm.Cond.code x code maxLocals ret :: tables_1) room_1).applies x e0.platform about1 = true :=
  (Spec.applies_iff w_frames).mpr ⟨w_running, w_runnable, w_alone, w_named, w_hears, w_ripe, w_room, w_tables⟩
theorem atStart : AtStart classFile x code maxLocals ret World_1 tables_1 room_1 Calls_1 rest_1 Pre_1 launch0 p0 e0 about1 theMethod args0 below0 :=
  ⟨lists_1, trivial, launch0.admits_env _ _ _, launch0.least_env, fairChoices_fair.cas, fairChoices_fair.clock, w_frames, w_args, w_heap, w_applies, trivial, trivial, w_case⟩
end start1
theorem witness_1 : WitnessClaimed_1 := ⟨start1.p0, start1.e0, start1.about1, start1.theMethod, start1.args0, start1.below0, start1.atStart⟩
end Jvm.Pilot.@@N@@
