import JvmDerived
import JvmDerived.Pilot.@@N@@Statement
import JvmDerived.Pilot.@@N@@Code
set_option linter.unusedVariables false
set_option linter.unusedSimpArgs false
namespace Jvm.RoadKit
open Sem ClassFile Op Lib Jvm.Stand Jvm.Free Jvm.LawKit
section New
variable {p : Program} {l : Launch} {e : Env} {R : Room} {s : State} {m : MethodId} {args : Array Value} {below : List Frame} {meth : Method} {c : Code} {T : State} {locs : List Loc} {cells slots : Nat}
theorem retI (X : Stand p l e R s m args below meth c T locs cells slots) (hx : p.tables.exec = Jvm.exec) {pc : Nat} {Ls : Array Slot} {z : Int32} {rest : List Value} (hret : meth.sig.returnType = some .int) (hd : decode c.code pc = .ok (.ireturn, 1)) {fs : List Frame}
    (hl : ∀ (f : JFrame) (acts : List Action), f.method = m → f.locked = none → f.entered = [] → (doReturn e (T.setTop f) acts (some (.int z))).1 = T.setFrames fs) : Steps p.tables e below (T.setTop (mkF m pc Ls (.int z :: rest))) (T.setFrames fs) := by
  have hm' : T.vm.method? m = some meth := X.method'
  have hn : narrow .int (.int z) = .int z := rfl
  show Steps p.tables e below (T.setTop { method := m, pc := pc, locals := Ls, stack := _ :: rest, locked := none }) _
  jvm_step X.here [X.here.top, hx, hd, hm', hret, hn]
  first | (intro acts; rw [hl _ acts rfl rfl rfl]) | rw [hl _ _ rfl rfl rfl]
  exact Steps.refl _
end New
end Jvm.RoadKit
namespace Jvm.Pilot.@@N@@
open Jvm Jvm.ClassFile Sem Op Lib Jvm.Free Jvm.Stand Jvm.LawKit Jvm.RoadKit Bundle Jvm.Pilot.@@N@@.Jvm.D
def own_l (n : Nat) (f : Nat → Int32) : List Value := (List.range n).map fun j => .int (f j)
theorem own_len (n : Nat) (f : Nat → Int32) : (own_l n f).length = n := by simp [own_l]
theorem own_at (n : Nat) (f : Nat → Int32) (i : Nat) (d : Value) : (own_l n f).getD i d = if i < n then .int (f i) else d := by
  by_cases h : i < n
  · simp [own_l, List.getD_eq_getElem?_getD, h]
  · simp [own_l, List.getD_eq_getElem?_getD, h]
def own_B (Z : State) (h : Heap) (b : Addr) (z : Int32) (f : Nat → Int32) : Prop := ∃ k : ClassId, Arv Z h b k .byte z (own_l z.toNatClampNeg f) (.int (0 : Int32))
section OwnB
variable {Z : State} {h h' : Heap} {a b : Addr} {z z' : Int32} {f f' : Nat → Int32} {k : ClassId}
theorem own_open (B : own_B Z h b z f) : ∃ cl : Cell, Arr Z h b cl .byte ∧ cl.slots.size = z.toNatClampNeg ∧ ¬ z < 0 ∧ ∀ j, j < z.toNatClampNeg → cl.slots[j]? = some (.int (f j)) := by
  obtain ⟨k, cl, A, q, S, M, H, G⟩ := B
  refine ⟨cl, A, S, M, fun j hj => ?_⟩
  have q := H j (by rw [S]; exact hj)
  rw [own_at, if_pos hj] at q
  exact q
theorem own_new (A : Arr Z h b (newA k .byte z) .byte) (q : ¬ z < 0) : own_B Z h b z (fun _ => 0) := by
  refine ⟨k, Arv.pad (vs := []) (Arv.new A q) (fun i => ?_)⟩
  rw [own_at]
  by_cases hi : i < z.toNatClampNeg
  · rw [if_pos hi]; rfl
  · rw [if_neg hi]; rfl
theorem own_ext (B : own_B Z h b z f) (E : Ext h h') : own_B Z h' b z f := by obtain ⟨k, V⟩ := B; exact ⟨k, V.ext E⟩
theorem own_other {sl : Nat} {v : Value} (B : own_B Z h b z f) (W : Wr h h' a sl v) (q : b ≠ a) : own_B Z h' b z f := by obtain ⟨k, V⟩ := B; exact ⟨k, V.other W q⟩
theorem own_keep {ws : List Addr} (B : own_B Z h b z f) (K : Keep h h' ws) (q : b ∉ ws) : own_B Z h' b z f := by obtain ⟨k, V⟩ := B; exact ⟨k, V.keep K q⟩
theorem own_ltB (B : own_B Z h b z f) : b < h.size := by obtain ⟨k, V⟩ := B; exact V.lt
theorem own_lt (C : ∃ f, own_B Z h b z f) : b < h.size := by obtain ⟨f, B⟩ := C; exact own_ltB B
theorem own_extE (C : ∃ f, own_B Z h b z f) (E : Ext h h') : ∃ f, own_B Z h' b z f := by obtain ⟨f, B⟩ := C; exact ⟨f, own_ext B E⟩
theorem own_otherE {sl : Nat} {v : Value} (C : ∃ f, own_B Z h b z f) (W : Wr h h' a sl v) (q : b ≠ a) : ∃ f, own_B Z h' b z f := by obtain ⟨f, B⟩ := C; exact ⟨f, own_other B W q⟩
theorem own_openE (C : ∃ f, own_B Z h b z f) : ∃ cl : Cell, Arr Z h b cl .byte ∧ cl.slots.size = z.toNatClampNeg ∧ ¬ z < 0 := by
  obtain ⟨f, B⟩ := C; obtain ⟨cl, A, S, M, -⟩ := own_open B; exact ⟨cl, A, S, M⟩
theorem own_store {j v : Int32} (C : ∃ f, own_B Z h b z f) (W : Wr h h' b j.toNatClampNeg (.int v)) (hf : fits .byte (.int v) = true) (hj : j.toNatClampNeg < z.toNatClampNeg) : ∃ f, own_B Z h' b z f := by
  obtain ⟨f, k, cl, A, q, S, M, H, G⟩ := C
  refine ⟨fun i => if i = j.toNatClampNeg then v else f i, k, Arv.pad (Arv.set A q S M H G hf W _ rfl (by rw [own_len]; exact hj)) (fun i => ?_)⟩
  rw [own_at, List.getD_eq_getElem?_getD, List.getElem?_set, own_len]
  by_cases c : i = j.toNatClampNeg
  · subst c; simp [hj]
  · have c' : ¬ j.toNatClampNeg = i := fun y => c y.symm
    have r := own_at z.toNatClampNeg f i (.int 0)
    rw [List.getD_eq_getElem?_getD] at r
    simp only [c, c', if_false] at r ⊢
    rw [r]
end OwnB
def own_R (Z : State) (h : Heap) (a b : Addr) (z sz : Int32) (f : Nat → Int32) : Prop := a ≠ b ∧ Exa Z h a "com/example/tympan/tympan/BodyLimit$Received" ∧ Fld Z h a "com/example/tympan/tympan/BodyLimit$Received" "bytes" "[B" (.ref b) ∧ Fld Z h a "com/example/tympan/tympan/BodyLimit$Received" "size" "I" (.int sz) ∧ own_B Z h b z f
set_option maxRecDepth 65536 in
set_option maxHeartbeats 40000000 in
theorem own_cp {p : Program} {l : Launch} {e : Env} {R : Room} {s : State} {m : MethodId} {args : Array Value} {below : List Frame} {meth : Method} {c : Code} {T : State} {locs : List Loc} {cells slots : Nat} {Z : State} {h : Heap} {a b : Addr}
    (X : Stand p l e R s m args below meth c T locs cells slots) (hx : p.tables.exec = Jvm.exec) (hZ : Z.Warmed39 s.vm) {a0 : Array Value} {own : String} {index : Nat} (hown : s.vm.findClass own = some m.cls)
    (w1 : (Cond.methodLink own index Jvm.Stand.acN).before a0 Z = true) (w2 : (Cond.native Jvm.Stand.acN).before a0 Z = true) (w3 : (Cond.static Jvm.Stand.acN).before a0 Z = true) (w4 : (Cond.initialized "java/lang/System").before a0 Z = true) (eT : T.heap = h)
    {z z' sp dp nn : Int32} {f f' : Nat → Int32} (A : own_B Z h a z f) (B : own_B Z h b z' f')
    (h1 : ¬ sp < 0) (h2 : ¬ dp < 0) (h3 : ¬ nn < 0) (h4 : sp.toNatClampNeg + nn.toNatClampNeg ≤ z.toNatClampNeg) (h5 : dp.toNatClampNeg + nn.toNatClampNeg ≤ z'.toNatClampNeg) {n0 : Nat} (N : Fr n0 locs) (ge : n0 ≤ b)
    {g : JFrame} (hg : g.method = m) (hsize : g.locals.size = c.maxLocals) {rest : List Value} (hs : g.stack = .int nn :: .int dp :: .ref b :: .int sp :: .ref a :: rest) (hd : decode c.code g.pc = .ok (.invokestatic index, 3))
    (hf : 1 ≤ R.frames) {W : Nat} (hW : 2 * g.monitorRoom + (rest.map fun v => v.category).sum ≤ W) (hlo : W + (nativeFrameWords "java/lang/System" "arraycopy" 5 + 11) ≤ R.locals) :
    ∃ T' h' L, Stand p l e R s m args below meth c T' L cells slots ∧ T'.heap = h' ∧ Fr n0 L ∧ Keep h h' [b] ∧ own_B Z h' b z' (fun j => if dp.toNatClampNeg ≤ j ∧ j < dp.toNatClampNeg + nn.toNatClampNeg then f (sp.toNatClampNeg + (j - dp.toNatClampNeg)) else f' j) ∧
      ∀ target, Steps p.tables e below (T'.setTop { g with pc := g.pc + 3, stack := rest }) target → Steps p.tables e below (T.setTop g) target := by
  obtain ⟨ka, VA⟩ := A
  obtain ⟨kb, VB⟩ := B
  obtain ⟨T', h', L, X', e', N', K', V', st⟩ := cpA X hx hZ hown w1 w2 w3 w4 eT VA VB (Or.inl ⟨rfl, rfl⟩) h1 h2 h3 h4 h5 rfl (by rw [own_len]; exact h5) N ge hg hsize hs hd hf hW hlo
  refine ⟨T', h', L, X', e', N', K', ⟨kb, V'.pad (fun i => ?_)⟩, st⟩
  rw [own_at]
  have la := own_at z.toNatClampNeg f
  have lb := own_at z'.toNatClampNeg f' i (.int 0)
  have ll := own_len z'.toNatClampNeg f'
  generalize hA : own_l z.toNatClampNeg f = QA at *
  generalize hB : own_l z'.toNatClampNeg f' = QB at *
  generalize sp.toNatClampNeg = SP at *
  generalize dp.toNatClampNeg = DP at *
  generalize nn.toNatClampNeg = NN at *
  generalize z.toNatClampNeg = ZA at *
  generalize z'.toNatClampNeg = ZB at *
  have lt : (QB.take DP).length = DP := by rw [List.length_take]; omega
  rw [List.getD_eq_getElem?_getD] at lb
  rw [List.getD_eq_getElem?_getD]
  by_cases c1 : i < DP
  · rw [List.append_assoc, List.getElem?_append_left (by omega), List.getElem?_take_of_lt c1, lb, if_neg (show ¬ (DP ≤ i ∧ i < DP + NN) from fun q => absurd q.1 (by omega))]
  · by_cases c2 : i < DP + NN
    · rw [List.getElem?_append_left (by rw [List.length_append, lt]; simp; omega), List.getElem?_append_right (by omega), lt, if_pos (show i < ZB by omega), if_pos (show DP ≤ i ∧ i < DP + NN from ⟨by omega, c2⟩)]
      have q := la (SP + (i - DP)) (.int 0)
      rw [if_pos (show SP + (i - DP) < ZA by omega)] at q
      simp only [List.getElem?_map, List.getElem?_range (show i - DP < NN by omega), Option.map_some, Option.getD_some]
      exact q.symm
    · rw [List.getElem?_append_right (by rw [List.length_append, lt]; simp; omega), List.length_append, lt, List.length_map, List.length_range, List.getElem?_drop, show DP + NN + (i - (DP + NN)) = i by omega, lb, if_neg (show ¬ (DP ≤ i ∧ i < DP + NN) from fun q => absurd q.2 (by omega))]
def own_q (v : Int32) : Int32 := if v = 0 then 0 else 1
def own_dec (b : Int32) (x : Int64) : Int64 := if b = 0 then x else -1
def own_min (a b : Int32) : Int32 := if b < a then b else a
def own_maxL (a b : Int64) : Int64 := if a < b then b else a
def own_minL (a b : Int64) : Int64 := if b < a then b else a
def own_len0 (q : Int64) : Int32 := if q < 0 then 8192 else q.toInt32
theorem own_z0 : (0 : Int32).toInt = 0 := by decide
theorem own_cl (x : Int32) : x.toNatClampNeg = x.toInt.toNat := rfl
theorem own_nn {x : Int32} (h : 0 ≤ x.toInt) : ¬ x < 0 := by rw [Int32.lt_iff_toInt_lt, own_z0]; omega
theorem own_tn {x : Int32} (h : ¬ x < 0) : 0 ≤ x.toInt := by rw [Int32.lt_iff_toInt_lt, own_z0] at h; omega
theorem own_cap16 {x : Int32} (h : 0 ≤ x.toInt) (h2 : x.toInt ≤ 16) : x.toNatClampNeg ≤ 16 := by rw [own_cl]; omega
theorem own_cap8192 {x : Int32} (h : 0 ≤ x.toInt) (h2 : x.toInt ≤ 8192) : x.toNatClampNeg ≤ 8192 := by rw [own_cl]; omega
theorem own_minT (a b : Int32) : (own_min a b).toInt = min a.toInt b.toInt := by
  unfold own_min
  by_cases h : b < a
  · rw [if_pos h]; rw [Int32.lt_iff_toInt_lt] at h; omega
  · rw [if_neg h]; rw [Int32.lt_iff_toInt_lt] at h; omega
theorem own_maxT (a b : Int64) : (own_maxL a b).toInt = max a.toInt b.toInt := by
  unfold own_maxL
  by_cases h : a < b
  · rw [if_pos h]; rw [Int64.lt_iff_toInt_lt] at h; omega
  · rw [if_neg h]; rw [Int64.lt_iff_toInt_lt] at h; omega
theorem own_minLT (a b : Int64) : (own_minL a b).toInt = min a.toInt b.toInt := by
  unfold own_minL
  by_cases h : b < a
  · rw [if_pos h]; rw [Int64.lt_iff_toInt_lt] at h; omega
  · rw [if_neg h]; rw [Int64.lt_iff_toInt_lt] at h; omega
theorem own_minN {z p2 : Int32} (h0 : 0 ≤ z.toInt) (h1 : 0 ≤ p2.toInt) : ¬ own_min z p2 < 0 := own_nn (by rw [own_minT]; omega)
theorem own_minA {z p2 : Int32} (h0 : 0 ≤ z.toInt) (h1 : 0 ≤ p2.toInt) : (0 : Int32).toNatClampNeg + (own_min z p2).toNatClampNeg ≤ z.toNatClampNeg := by
  rw [own_cl, own_cl, own_cl, own_minT, own_z0]; omega
theorem own_minB {z p2 : Int32} (h0 : 0 ≤ z.toInt) (h1 : 0 ≤ p2.toInt) : (0 : Int32).toNatClampNeg + (own_min z p2).toNatClampNeg ≤ p2.toNatClampNeg := by
  rw [own_cl, own_cl, own_cl, own_minT, own_z0]; omega
theorem own_cpin {z p2 : Int32} {f f0 : Nat → Int32} {j : Nat} (h0 : 0 ≤ z.toInt) (h1 : 0 ≤ p2.toInt) (q1 : j < z.toNatClampNeg) (q2 : j < p2.toNatClampNeg) :
    (if (0 : Int32).toNatClampNeg ≤ j ∧ j < (0 : Int32).toNatClampNeg + (own_min z p2).toNatClampNeg then f ((0 : Int32).toNatClampNeg + (j - (0 : Int32).toNatClampNeg)) else f0 j) = f j := by
  have e : (0 : Int32).toNatClampNeg = 0 := by decide
  have e2 : (own_min z p2).toNatClampNeg = min z.toNatClampNeg p2.toNatClampNeg := by rw [own_cl, own_cl, own_cl, own_minT]; omega
  rw [e, e2, if_pos (by omega)]
  congr 1
  omega
theorem own_q8 {q : Int64} (h : q.toInt ≤ 8) : ¬ (16777216 : Int64) < q := by
  have l : (16777216 : Int64).toInt = 16777216 := by decide
  rw [Int64.lt_iff_toInt_lt, l]; omega
theorem own_len0B {q : Int64} (h1 : -1 ≤ q.toInt) (h2 : q.toInt ≤ 8) : 0 ≤ (own_len0 q).toInt ∧ (own_len0 q).toInt ≤ 8192 := by
  unfold own_len0
  have l0 : (0 : Int64).toInt = 0 := by decide
  by_cases h : q < 0
  · rw [if_pos h]; decide
  · rw [if_neg h]; rw [Int64.lt_iff_toInt_lt, l0] at h
    have c := c_l2i q
    have r := rng32 q.toInt32
    omega
theorem own_add4 {sz p3 : Int32} (hs1 : 0 ≤ sz.toInt) (hs2 : sz.toInt ≤ 4) (hl1 : 0 ≤ p3.toInt) (hl2 : p3.toInt ≤ 4) : (sz + p3).toInt = sz.toInt + p3.toInt := by
  have c := c_iadd sz p3
  have r := rng32 (sz + p3)
  omega
theorem own_max {sz p3 : Int32} (hs2 : sz.toInt ≤ 4) (hl2 : p3.toInt ≤ 4) (hs1 : 0 ≤ sz.toInt) (hl1 : 0 ≤ p3.toInt) : ¬ (16777216 : Int64) < sz.toInt64 + p3.toInt64 := by
  have l : (16777216 : Int64).toInt = 16777216 := by decide
  have c := c_ladd sz.toInt64 p3.toInt64
  rw [c_i2l, c_i2l] at c
  have r := rng64 (sz.toInt64 + p3.toInt64)
  rw [Int64.lt_iff_toInt_lt, l]; omega
theorem own_le {z y : Int32} (h : ¬ z < y) : y.toInt ≤ z.toInt := by rw [Int32.lt_iff_toInt_lt] at h; omega
theorem own_grown {z sz p3 gg : Int32} (hz1 : 0 ≤ z.toInt) (hc : z < (sz + p3)) (ha : (sz + p3).toInt = sz.toInt + p3.toInt) (hgg : gg = ((own_minL (own_maxL ((2 : Int64) * (z.toInt64)) ((sz + p3).toInt64)) (16777216 : Int64)).toInt32)) (hs1 : 0 ≤ sz.toInt) (hs2 : sz.toInt ≤ 4) (hl1 : 0 ≤ p3.toInt) (hl2 : p3.toInt ≤ 4) :
    z.toInt < gg.toInt ∧ ¬ gg < (sz + p3) ∧ gg.toInt ≤ 16 := by
  rw [Int32.lt_iff_toInt_lt] at hc ⊢
  have l2 : (2 : Int64).toInt = 2 := by decide
  have l : (16777216 : Int64).toInt = 16777216 := by decide
  have cm := c_lmul 2 z.toInt64
  rw [c_i2l, l2] at cm
  have rm := rng64 ((2 : Int64) * z.toInt64)
  have m1 := own_maxT ((2 : Int64) * (z.toInt64)) ((sz + p3).toInt64)
  rw [c_i2l] at m1
  have m2 := own_minLT (own_maxL ((2 : Int64) * (z.toInt64)) ((sz + p3).toInt64)) (16777216 : Int64)
  rw [l] at m2
  have c := c_l2i (own_minL (own_maxL ((2 : Int64) * (z.toInt64)) ((sz + p3).toInt64)) (16777216 : Int64))
  rw [← hgg] at c
  have r := rng32 gg
  omega
theorem own_gne {z gg : Int32} (h : z.toInt < gg.toInt) : ¬ gg = z := fun q => by rw [q] at h; omega
theorem own_g0 {z gg : Int32} (h : z.toInt < gg.toInt) (h1 : 0 ≤ z.toInt) : 0 ≤ gg.toInt := by omega
theorem own_dst {sz p3 z : Int32} (hs1 : 0 ≤ sz.toInt) (hs2 : sz.toInt ≤ 4) (hl1 : 0 ≤ p3.toInt) (hl2 : p3.toInt ≤ 4) (h : (sz + p3).toInt ≤ z.toInt) : sz.toNatClampNeg + p3.toNatClampNeg ≤ z.toNatClampNeg := by
  rw [own_add4 hs1 hs2 hl1 hl2] at h
  rw [own_cl, own_cl, own_cl]; omega
theorem own_src {p3 : Int32} (hl1 : 0 ≤ p3.toInt) (hl2 : p3.toInt ≤ 4) : (0 : Int32).toNatClampNeg + p3.toNatClampNeg ≤ (4 : Int32).toNatClampNeg := by
  have e : (0 : Int32).toNatClampNeg = 0 := by decide
  have e4 : (4 : Int32).toNatClampNeg = 4 := by decide
  rw [e, e4, own_cl]; omega
theorem own_cplo {D N S j : Nat} {g f : Nat → Int32} (q : j < D) : (if D ≤ j ∧ j < D + N then g (S + (j - D)) else f j) = f j := if_neg fun r => absurd r.1 (by omega)
theorem own_cphi {D N j : Nat} {g f : Nat → Int32} (q : j < N) : (if D ≤ D + j ∧ D + j < D + N then g ((0 : Int32).toNatClampNeg + (D + j - D)) else f (D + j)) = g j := by
  have e : (0 : Int32).toNatClampNeg = 0 := by decide
  rw [if_pos (by omega), e]
  congr 1
  omega
theorem own_gj {sz z gg : Int32} {j : Nat} (q : j < sz.toNatClampNeg) (h : sz.toInt ≤ z.toInt) (hg : z.toInt < gg.toInt) : j < z.toNatClampNeg ∧ j < gg.toNatClampNeg := by
  rw [own_cl] at q ⊢; rw [own_cl]; omega
theorem own_in1 {p2 p4 : Int32} (hk : 0 ≤ p2.toInt) (hd : p2 < p4) (hl : p4.toInt ≤ 4) : ¬ p2 < 0 ∧ p2 < (4 : Int32) := by
  refine ⟨own_nn hk, ?_⟩
  have l : (4 : Int32).toInt = 4 := by decide
  rw [Int32.lt_iff_toInt_lt] at hd ⊢; omega
theorem own_i4 {p2 p4 : Int32} (hk : 0 ≤ p2.toInt) (hd : p2 < p4) (hl : p4.toInt ≤ 4) : p2.toNatClampNeg < (4 : Int32).toNatClampNeg := by
  have e4 : (4 : Int32).toNatClampNeg = 4 := by decide
  rw [Int32.lt_iff_toInt_lt] at hd; rw [e4, own_cl]; omega
theorem own_it {p2 tot : Int32} (hk : 0 ≤ p2.toInt) (hc : p2 < tot) : p2.toNatClampNeg < tot.toNatClampNeg := by
  rw [Int32.lt_iff_toInt_lt] at hc; rw [own_cl, own_cl]; omega
theorem own_il {p2 p4 : Int32} (hk : 0 ≤ p2.toInt) (hd : p2 < p4) : p2.toNatClampNeg < p4.toNatClampNeg := own_it hk hd
theorem own_im {p2 p4 : Int32} (hk : 0 ≤ p2.toInt) (hl0 : 0 ≤ p4.toInt) (hd : ¬ p2 < p4) : ¬ p2.toNatClampNeg < p4.toNatClampNeg := by
  rw [Int32.lt_iff_toInt_lt] at hd; rw [own_cl, own_cl]; omega
theorem own_subT {p2 p4 : Int32} (hk : 0 ≤ p2.toInt) (hl0 : 0 ≤ p4.toInt) (hd : ¬ p2 < p4) : (p2 - p4).toInt = p2.toInt - p4.toInt := by
  rw [Int32.lt_iff_toInt_lt] at hd
  have c := c_isub p2 p4
  have r := rng32 (p2 - p4)
  have r2 := rng32 p2
  omega
theorem own_isb {p2 p4 : Int32} (hk : 0 ≤ p2.toInt) (hl0 : 0 ≤ p4.toInt) (hl4 : p4.toInt ≤ 4) (hd : ¬ p2 < p4) : (p2 - p4).toNatClampNeg = p2.toNatClampNeg - p4.toNatClampNeg := by
  have s := own_subT hk hl0 hd
  rw [Int32.lt_iff_toInt_lt] at hd
  rw [own_cl, own_cl, own_cl, s]; omega
theorem own_in2 {p2 p4 tot : Int32} (hk : 0 ≤ p2.toInt) (hc : p2 < tot) (hd : ¬ p2 < p4) (hl0 : 0 ≤ p4.toInt) (hl4 : p4.toInt ≤ 4) (ht : tot.toInt ≤ p4.toInt + 4) : ¬ (p2 - p4) < 0 ∧ (p2 - p4) < (4 : Int32) := by
  have s := own_subT hk hl0 hd
  have l : (4 : Int32).toInt = 4 := by decide
  rw [Int32.lt_iff_toInt_lt] at hc hd
  refine ⟨own_nn (by omega), ?_⟩
  rw [Int32.lt_iff_toInt_lt]; omega
theorem own_i5 {p2 p4 tot : Int32} (hk : 0 ≤ p2.toInt) (hc : p2 < tot) (hd : ¬ p2 < p4) (hl0 : 0 ≤ p4.toInt) (hl4 : p4.toInt ≤ 4) (ht : tot.toInt ≤ p4.toInt + 4) : (p2 - p4).toNatClampNeg < (4 : Int32).toNatClampNeg := by
  have s := own_subT hk hl0 hd
  have e4 : (4 : Int32).toNatClampNeg = 4 := by decide
  rw [Int32.lt_iff_toInt_lt] at hc hd
  rw [e4, own_cl]; omega
theorem own_rem5 (x : Int32) : 0 ≤ ((x &&& (7 : Int32)) - ((x &&& (7 : Int32)) / (5 : Int32)) * (5 : Int32)).toInt ∧ ((x &&& (7 : Int32)) - ((x &&& (7 : Int32)) / (5 : Int32)) * (5 : Int32)).toInt ≤ 4 := by
  have m := c_mask x 7 3 (by decide) (by decide)
  generalize (x &&& (7 : Int32)) = y at *
  have d := (c_idiv y 5 5 (by decide) (by decide)).1 (by omega)
  have u := c_imul (y / 5) 5
  have l : (5 : Int32).toInt = 5 := by decide
  rw [l] at u
  have v := c_isub y (y / 5 * 5)
  have r2 := rng32 (y / 5 * 5)
  have r3 := rng32 (y - y / 5 * 5)
  omega
theorem own_rem9 (x : Int32) : 0 ≤ ((x &&& (15 : Int32)) - ((x &&& (15 : Int32)) / (9 : Int32)) * (9 : Int32)).toInt ∧ ((x &&& (15 : Int32)) - ((x &&& (15 : Int32)) / (9 : Int32)) * (9 : Int32)).toInt ≤ 8 := by
  have m := c_mask x 15 4 (by decide) (by decide)
  generalize (x &&& (15 : Int32)) = y at *
  have d := (c_idiv y 9 9 (by decide) (by decide)).1 (by omega)
  have u := c_imul (y / 9) 9
  have l : (9 : Int32).toInt = 9 := by decide
  rw [l] at u
  have v := c_isub y (y / 9 * 9)
  have r2 := rng32 (y / 9 * 9)
  have r3 := rng32 (y - y / 9 * 9)
  omega
theorem own_decB (b x : Int32) : -1 ≤ (own_dec b (((x &&& (15 : Int32)) - ((x &&& (15 : Int32)) / (9 : Int32)) * (9 : Int32)).toInt64)).toInt ∧ (own_dec b (((x &&& (15 : Int32)) - ((x &&& (15 : Int32)) / (9 : Int32)) * (9 : Int32)).toInt64)).toInt ≤ 8 := by
  have r := own_rem9 x
  unfold own_dec
  by_cases h : b = 0
  · rw [if_pos h, c_i2l]; omega
  · rw [if_neg h]; decide
theorem own_neb {n b b' : Addr} {k : Nat} (h : n ≠ b) (hl : n < k) (o : b' = b ∨ k ≤ b') : n ≠ b' := by
  rcases o with rfl | o
  · exact h
  · exact Nat.ne_of_lt (Nat.lt_of_lt_of_le hl o)
theorem own_sum {l1 l2 : Int32} (la : 0 ≤ l1.toInt) (lb : l1.toInt ≤ 4) (lc : 0 ≤ l2.toInt) (ld : l2.toInt ≤ 4) : (l1 + l2).toInt = l1.toInt + l2.toInt := own_add4 la lb lc ld
theorem own_con {l1 l2 z : Int32} {f f2 fr g1 g2 : Nat → Int32} (la : 0 ≤ l1.toInt) (lb : l1.toInt ≤ 4) (lc : 0 ≤ l2.toInt) (ld : l2.toInt ≤ 4) (zz : (((0 : Int32) + l1) + l2).toInt ≤ z.toInt)
    (hi : ∀ j, j < l1.toNatClampNeg → f ((0 : Int32).toNatClampNeg + j) = g1 j) (lo2 : ∀ j, j < ((0 : Int32) + l1).toNatClampNeg → f2 j = f j) (hi2 : ∀ j, j < l2.toNatClampNeg → f2 (((0 : Int32) + l1).toNatClampNeg + j) = g2 j)
    (hfr : ∀ j, j < (((0 : Int32) + l1) + l2).toNatClampNeg → j < z.toNatClampNeg → fr j = f2 j) : ∀ j, j < (((0 : Int32) + l1) + l2).toNatClampNeg → fr j = if j < l1.toNatClampNeg then g1 j else g2 (j - l1.toNatClampNeg) := by
  intro j hj
  have e : (0 : Int32).toNatClampNeg = 0 := by decide
  rw [hfr j hj (by rw [own_cl] at hj ⊢; omega)]
  rw [Int32.zero_add] at hj lo2 hi2
  rw [e] at hi
  have hj2 := hj
  rw [own_cl, own_sum la lb lc ld] at hj2
  have c1 := own_cl l1
  have c2 := own_cl l2
  by_cases c : j < l1.toNatClampNeg
  · rw [if_pos c, lo2 j c]
    have q := hi j c
    rw [Nat.zero_add] at q
    exact q
  · rw [if_neg c]
    have q := hi2 (j - l1.toNatClampNeg) (by omega)
    rw [show l1.toNatClampNeg + (j - l1.toNatClampNeg) = j by omega] at q
    exact q
theorem d8_0 : decode jdk_29_method_69_code 0 = .ok (.iload_n 0, 1) := by decide +kernel
theorem d8_1 : decode jdk_29_method_69_code 1 = .ok (.iload_n 1, 1) := by decide +kernel
theorem d8_2 : decode jdk_29_method_69_code 2 = .ok (.if_icmp .gt 7, 3) := by decide +kernel
theorem d8_9 : decode jdk_29_method_69_code 9 = .ok (.iload_n 1, 1) := by decide +kernel
theorem d8_5 : decode jdk_29_method_69_code 5 = .ok (.iload_n 0, 1) := by decide +kernel
theorem d8_6 : decode jdk_29_method_69_code 6 = .ok (.goto 4, 3) := by decide +kernel
theorem d8_10 : decode jdk_29_method_69_code 10 = .ok (.ireturn, 1) := by decide +kernel
theorem ef_8 (m : MethodId) (p1 : Int32) (p2 : Int32) : entryFrame m #[(.int p1), (.int p2)] 2 = mkF m 0 #[.val (.int p1), .val (.int p2)] [] := by first | (simp [entryFrame, mkF, argsToLocals, Value.category]; done) | rfl
def Q_8 (Z : State) (p1 : Int32) (p2 : Int32)  (h0 : Heap) (n0 : Nat) (v : Option Value) (h : Heap) (L : List Loc) : Prop := v = some (.int (own_min p1 p2)) ∧ Fr n0 L ∧ h = h0
set_option maxRecDepth 65536 in
set_option maxHeartbeats 40000000 in
theorem rm_8 (l : Launch) (Z : State) (a0 : Array Value) (hw : ∀ d ∈ tables_1, d.before a0 Z = true) (ws : List Jvm.Cond) (p1 : Int32) (p2 : Int32)  (h0 : Heap) (n0 : Nat) (Z0 : n0 ≤ h0.size)  :
    MetFree l (⟨"java/lang/Math", "min", "(II)I"⟩ : MethodName) (head1 (Jvm.Cond.code (⟨"java/lang/Math", "min", "(II)I"⟩ : MethodName) jdk_29_method_69_code 2 (some .int) :: ws) ({ frames := 0, cells := 0, slots := 0, locals := 0 } : Room)) (fun a U => a = #[(.int p1), (.int p2)] ∧ Z.Warmed39 U.vm ∧ U.heap = h0) (fun _ _ _ _ _ => True) (fun _ U o U' => ∃ v L, o = .returned v ∧ Q_8 Z p1 p2  h0 n0 v U'.heap L ∧ FrameEnd U o U' L ({ frames := 0, cells := 0, slots := 0, locals := 0 } : Room).cells ({ frames := 0, cells := 0, slots := 0, locals := 0 } : Room).slots) := by
  refine MetFree.of_bodySF (Jvm.Free.JP.mathPlain rfl (by decide +kernel)) hisR ?_
  intro p e s m args below meth c s₁ Bd hml0 hP hK
  obtain ⟨rfl, hZ, hh⟩ := hP
  have hx := Bd.exec
  have hby := Bd.bytes
  have hml : c.maxLocals = 2 := hml0
  have hown : s.vm.findClass "java/lang/Math" = some m.cls := findClass_of_methodNamed Bd.named
  have hnm := (name_of_methodNamed Bd.named Bd.method).1
  have X0 : Stand p l e ({ frames := 0, cells := 0, slots := 0, locals := 0 } : Room) s m #[(.int p1), (.int p2)] below meth c s₁ [] 0 0 := Stand.of_body Bd
  have e0 : s₁.heap = h0 := by rw [← hh, Bd.state]; rfl
  have N0 := Fr.nil n0
  have pre0 : ∀ t, Steps p.tables e below (s₁.setTop (mkF m 0 #[.val (.int p1), .val (.int p2)] [])) t → Steps p.tables e below (s₁.setTop (entryFrame m #[(.int p1), (.int p2)] 2)) t := fun t k => castTop (ef_8 m p1 p2) k
  have j : ∀ t, Steps p.tables e below (s₁.setTop (mkF m 10 #[.val (.int p1), .val (.int p2)] [(.int (own_min p1 p2))])) t → Steps p.tables e below (s₁.setTop (mkF m 0 #[.val (.int p1), .val (.int p2)] [])) t := by
    intro t kt
    by_cases hc : p2 < p1
    · have hv : own_min p1 p2 = p2 := if_pos hc
      rw [hv] at kt
      show Steps p.tables e below (s₁.setTop (mkF m 0 #[.val (.int p1), .val (.int p2)] [])) _
      refine XS.iloadN X0.here hx rfl (hb hby d8_0) rfl ?_
      show Steps p.tables e below (s₁.setTop (mkF m 1 #[.val (.int p1), .val (.int p2)] [(.int p1)])) _
      refine XS.iloadN X0.here hx rfl (hb hby d8_1) rfl ?_
      show Steps p.tables e below (s₁.setTop (mkF m 2 #[.val (.int p1), .val (.int p2)] [(.int p2), (.int p1)])) _
      refine XS.icmpYes X0.here hx rfl (pc0 := 2) (pc' := 9) rfl (hb hby d8_2) rfl (tlt (hc : p2 < p1)).2.2.1 (by decide) (by decide) ?_
      show Steps p.tables e below (s₁.setTop (mkF m 9 #[.val (.int p1), .val (.int p2)] [])) _
      refine XS.iloadN X0.here hx rfl (hb hby d8_9) rfl ?_
      exact kt
    · have hv : own_min p1 p2 = p1 := if_neg hc
      rw [hv] at kt
      show Steps p.tables e below (s₁.setTop (mkF m 0 #[.val (.int p1), .val (.int p2)] [])) _
      refine XS.iloadN X0.here hx rfl (hb hby d8_0) rfl ?_
      show Steps p.tables e below (s₁.setTop (mkF m 1 #[.val (.int p1), .val (.int p2)] [(.int p1)])) _
      refine XS.iloadN X0.here hx rfl (hb hby d8_1) rfl ?_
      show Steps p.tables e below (s₁.setTop (mkF m 2 #[.val (.int p1), .val (.int p2)] [(.int p2), (.int p1)])) _
      refine XS.icmpNo X0.here hx rfl (hb hby d8_2) rfl (flt (hc : ¬ (p2 < p1))).2.2.1 ?_
      show Steps p.tables e below (s₁.setTop (mkF m 5 #[.val (.int p1), .val (.int p2)] [])) _
      refine XS.iloadN X0.here hx rfl (hb hby d8_5) rfl ?_
      show Steps p.tables e below (s₁.setTop (mkF m 6 #[.val (.int p1), .val (.int p2)] [(.int p1)])) _
      refine XS.goto X0.here hx rfl (pc0 := 6) (pc' := 10) rfl (hb hby d8_6) (by decide) (by decide) ?_
      exact kt
  obtain ⟨fs, hr, hrun, hended, hW, hsame⟩ := X0.leave (v := some (.int (own_min p1 p2))) (fun h => by rw [Bd.returns] at h; cases h)
  refine ⟨_, _, pre0 _ ?_, hrun, hended, _, _, rfl, ?_, ⟨_, rfl⟩, hW, hsame.mono (by decide) (by decide)⟩
  · show Steps p.tables e below (s₁.setTop (mkF m 0 #[.val (.int p1), .val (.int p2)] [])) _
    refine j _ ?_
    show Steps p.tables e below (s₁.setTop (mkF m 10 #[.val (.int p1), .val (.int p2)] [(.int (own_min p1 p2))])) _
    exact retI X0 hx Bd.returns (hb hby d8_10) hr
  · show Q_8 Z p1 p2  h0 n0 _ s₁.heap _
    rw [e0]
    exact ⟨rfl, N0, rfl⟩
theorem d9_0 : decode jdk_29_method_66_code 0 = .ok (.lload_n 0, 1) := by decide +kernel
theorem d9_1 : decode jdk_29_method_66_code 1 = .ok (.lload_n 2, 1) := by decide +kernel
theorem d9_2 : decode jdk_29_method_66_code 2 = .ok (.lcmp, 1) := by decide +kernel
theorem d9_3 : decode jdk_29_method_66_code 3 = .ok (.ifCond .lt 7, 3) := by decide +kernel
theorem d9_10 : decode jdk_29_method_66_code 10 = .ok (.lload_n 2, 1) := by decide +kernel
theorem d9_6 : decode jdk_29_method_66_code 6 = .ok (.lload_n 0, 1) := by decide +kernel
theorem d9_7 : decode jdk_29_method_66_code 7 = .ok (.goto 4, 3) := by decide +kernel
theorem d9_11 : decode jdk_29_method_66_code 11 = .ok (.lreturn, 1) := by decide +kernel
theorem ef_9 (m : MethodId) (q1 : Int64) (q2 : Int64) : entryFrame m #[(.long q1), (.long q2)] 4 = mkF m 0 #[.val (.long q1), .second, .val (.long q2), .second] [] := by first | (simp [entryFrame, mkF, argsToLocals, Value.category]; done) | rfl
def Q_9 (Z : State) (q1 : Int64) (q2 : Int64)  (h0 : Heap) (n0 : Nat) (v : Option Value) (h : Heap) (L : List Loc) : Prop := v = some (.long (own_maxL q1 q2)) ∧ Fr n0 L ∧ h = h0
set_option maxRecDepth 65536 in
set_option maxHeartbeats 40000000 in
theorem rm_9 (l : Launch) (Z : State) (a0 : Array Value) (hw : ∀ d ∈ tables_1, d.before a0 Z = true) (ws : List Jvm.Cond) (q1 : Int64) (q2 : Int64)  (h0 : Heap) (n0 : Nat) (Z0 : n0 ≤ h0.size)  :
    MetFree l (⟨"java/lang/Math", "max", "(JJ)J"⟩ : MethodName) (head1 (Jvm.Cond.code (⟨"java/lang/Math", "max", "(JJ)J"⟩ : MethodName) jdk_29_method_66_code 4 (some .long) :: ws) ({ frames := 0, cells := 0, slots := 0, locals := 0 } : Room)) (fun a U => a = #[(.long q1), (.long q2)] ∧ Z.Warmed39 U.vm ∧ U.heap = h0) (fun _ _ _ _ _ => True) (fun _ U o U' => ∃ v L, o = .returned v ∧ Q_9 Z q1 q2  h0 n0 v U'.heap L ∧ FrameEnd U o U' L ({ frames := 0, cells := 0, slots := 0, locals := 0 } : Room).cells ({ frames := 0, cells := 0, slots := 0, locals := 0 } : Room).slots) := by
  refine MetFree.of_bodySF (Jvm.Free.JP.mathPlain rfl (by decide +kernel)) hisR ?_
  intro p e s m args below meth c s₁ Bd hml0 hP hK
  obtain ⟨rfl, hZ, hh⟩ := hP
  have hx := Bd.exec
  have hby := Bd.bytes
  have hml : c.maxLocals = 4 := hml0
  have hown : s.vm.findClass "java/lang/Math" = some m.cls := findClass_of_methodNamed Bd.named
  have hnm := (name_of_methodNamed Bd.named Bd.method).1
  have X0 : Stand p l e ({ frames := 0, cells := 0, slots := 0, locals := 0 } : Room) s m #[(.long q1), (.long q2)] below meth c s₁ [] 0 0 := Stand.of_body Bd
  have e0 : s₁.heap = h0 := by rw [← hh, Bd.state]; rfl
  have N0 := Fr.nil n0
  have pre0 : ∀ t, Steps p.tables e below (s₁.setTop (mkF m 0 #[.val (.long q1), .second, .val (.long q2), .second] [])) t → Steps p.tables e below (s₁.setTop (entryFrame m #[(.long q1), (.long q2)] 4)) t := fun t k => castTop (ef_9 m q1 q2) k
  have j : ∀ t, Steps p.tables e below (s₁.setTop (mkF m 11 #[.val (.long q1), .second, .val (.long q2), .second] [(.long (own_maxL q1 q2))])) t → Steps p.tables e below (s₁.setTop (mkF m 0 #[.val (.long q1), .second, .val (.long q2), .second] [])) t := by
    intro t kt
    by_cases hc : q1 < q2
    · have hv : own_maxL q1 q2 = q2 := if_pos hc
      rw [hv] at kt
      show Steps p.tables e below (s₁.setTop (mkF m 0 #[.val (.long q1), .second, .val (.long q2), .second] [])) _
      refine XS.lloadN X0.here hx rfl (hb hby d9_0) rfl ?_
      show Steps p.tables e below (s₁.setTop (mkF m 1 #[.val (.long q1), .second, .val (.long q2), .second] [(.long q1)])) _
      refine XS.lloadN X0.here hx rfl (hb hby d9_1) rfl ?_
      show Steps p.tables e below (s₁.setTop (mkF m 2 #[.val (.long q1), .second, .val (.long q2), .second] [(.long q2), (.long q1)])) _
      refine XS.lcmp X0.here hx rfl (hb hby d9_2) rfl ?_
      show Steps p.tables e below (s₁.setTop (mkF m 3 #[.val (.long q1), .second, .val (.long q2), .second] [(.int (lcmpW q1 q2))])) _
      refine XS.ifYes X0.here hx rfl (pc0 := 3) (pc' := 10) rfl (hb hby d9_3) rfl ((if0 _ _).trans (tlt ((lw_lt _ _).mpr hc : (lcmpW q1 q2) < (0 : Int32))).1) (by decide) (by decide) ?_
      show Steps p.tables e below (s₁.setTop (mkF m 10 #[.val (.long q1), .second, .val (.long q2), .second] [])) _
      refine XS.lloadN X0.here hx rfl (hb hby d9_10) rfl ?_
      exact kt
    · have hv : own_maxL q1 q2 = q1 := if_neg hc
      rw [hv] at kt
      show Steps p.tables e below (s₁.setTop (mkF m 0 #[.val (.long q1), .second, .val (.long q2), .second] [])) _
      refine XS.lloadN X0.here hx rfl (hb hby d9_0) rfl ?_
      show Steps p.tables e below (s₁.setTop (mkF m 1 #[.val (.long q1), .second, .val (.long q2), .second] [(.long q1)])) _
      refine XS.lloadN X0.here hx rfl (hb hby d9_1) rfl ?_
      show Steps p.tables e below (s₁.setTop (mkF m 2 #[.val (.long q1), .second, .val (.long q2), .second] [(.long q2), (.long q1)])) _
      refine XS.lcmp X0.here hx rfl (hb hby d9_2) rfl ?_
      show Steps p.tables e below (s₁.setTop (mkF m 3 #[.val (.long q1), .second, .val (.long q2), .second] [(.int (lcmpW q1 q2))])) _
      refine XS.ifNo X0.here hx rfl (hb hby d9_3) rfl ((if0 _ _).trans (flt (fun q => hc ((lw_lt _ _).mp q) : ¬ ((lcmpW q1 q2) < (0 : Int32)))).1) ?_
      show Steps p.tables e below (s₁.setTop (mkF m 6 #[.val (.long q1), .second, .val (.long q2), .second] [])) _
      refine XS.lloadN X0.here hx rfl (hb hby d9_6) rfl ?_
      show Steps p.tables e below (s₁.setTop (mkF m 7 #[.val (.long q1), .second, .val (.long q2), .second] [(.long q1)])) _
      refine XS.goto X0.here hx rfl (pc0 := 7) (pc' := 11) rfl (hb hby d9_7) (by decide) (by decide) ?_
      exact kt
  obtain ⟨fs, hr, hrun, hended, hW, hsame⟩ := X0.leave (v := some (.long (own_maxL q1 q2))) (fun h => by rw [Bd.returns] at h; cases h)
  refine ⟨_, _, pre0 _ ?_, hrun, hended, _, _, rfl, ?_, ⟨_, rfl⟩, hW, hsame.mono (by decide) (by decide)⟩
  · show Steps p.tables e below (s₁.setTop (mkF m 0 #[.val (.long q1), .second, .val (.long q2), .second] [])) _
    refine j _ ?_
    show Steps p.tables e below (s₁.setTop (mkF m 11 #[.val (.long q1), .second, .val (.long q2), .second] [(.long (own_maxL q1 q2))])) _
    jvm_step X0.here [X0.here.top, hx, (hb hby d9_11), X0.method', Bd.returns, narrow]
    first | (intro acts; rw [hr _ acts rfl rfl rfl]) | rw [hr _ _ rfl rfl rfl]
    exact Steps.refl _
  · show Q_9 Z q1 q2  h0 n0 _ s₁.heap _
    rw [e0]
    exact ⟨rfl, N0, rfl⟩
theorem d10_0 : decode jdk_29_method_70_code 0 = .ok (.lload_n 0, 1) := by decide +kernel
theorem d10_1 : decode jdk_29_method_70_code 1 = .ok (.lload_n 2, 1) := by decide +kernel
theorem d10_2 : decode jdk_29_method_70_code 2 = .ok (.lcmp, 1) := by decide +kernel
theorem d10_3 : decode jdk_29_method_70_code 3 = .ok (.ifCond .gt 7, 3) := by decide +kernel
theorem d10_10 : decode jdk_29_method_70_code 10 = .ok (.lload_n 2, 1) := by decide +kernel
theorem d10_6 : decode jdk_29_method_70_code 6 = .ok (.lload_n 0, 1) := by decide +kernel
theorem d10_7 : decode jdk_29_method_70_code 7 = .ok (.goto 4, 3) := by decide +kernel
theorem d10_11 : decode jdk_29_method_70_code 11 = .ok (.lreturn, 1) := by decide +kernel
theorem ef_10 (m : MethodId) (q1 : Int64) (q2 : Int64) : entryFrame m #[(.long q1), (.long q2)] 4 = mkF m 0 #[.val (.long q1), .second, .val (.long q2), .second] [] := by first | (simp [entryFrame, mkF, argsToLocals, Value.category]; done) | rfl
def Q_10 (Z : State) (q1 : Int64) (q2 : Int64)  (h0 : Heap) (n0 : Nat) (v : Option Value) (h : Heap) (L : List Loc) : Prop := v = some (.long (own_minL q1 q2)) ∧ Fr n0 L ∧ h = h0
set_option maxRecDepth 65536 in
set_option maxHeartbeats 40000000 in
theorem rm_10 (l : Launch) (Z : State) (a0 : Array Value) (hw : ∀ d ∈ tables_1, d.before a0 Z = true) (ws : List Jvm.Cond) (q1 : Int64) (q2 : Int64)  (h0 : Heap) (n0 : Nat) (Z0 : n0 ≤ h0.size)  :
    MetFree l (⟨"java/lang/Math", "min", "(JJ)J"⟩ : MethodName) (head1 (Jvm.Cond.code (⟨"java/lang/Math", "min", "(JJ)J"⟩ : MethodName) jdk_29_method_70_code 4 (some .long) :: ws) ({ frames := 0, cells := 0, slots := 0, locals := 0 } : Room)) (fun a U => a = #[(.long q1), (.long q2)] ∧ Z.Warmed39 U.vm ∧ U.heap = h0) (fun _ _ _ _ _ => True) (fun _ U o U' => ∃ v L, o = .returned v ∧ Q_10 Z q1 q2  h0 n0 v U'.heap L ∧ FrameEnd U o U' L ({ frames := 0, cells := 0, slots := 0, locals := 0 } : Room).cells ({ frames := 0, cells := 0, slots := 0, locals := 0 } : Room).slots) := by
  refine MetFree.of_bodySF (Jvm.Free.JP.mathPlain rfl (by decide +kernel)) hisR ?_
  intro p e s m args below meth c s₁ Bd hml0 hP hK
  obtain ⟨rfl, hZ, hh⟩ := hP
  have hx := Bd.exec
  have hby := Bd.bytes
  have hml : c.maxLocals = 4 := hml0
  have hown : s.vm.findClass "java/lang/Math" = some m.cls := findClass_of_methodNamed Bd.named
  have hnm := (name_of_methodNamed Bd.named Bd.method).1
  have X0 : Stand p l e ({ frames := 0, cells := 0, slots := 0, locals := 0 } : Room) s m #[(.long q1), (.long q2)] below meth c s₁ [] 0 0 := Stand.of_body Bd
  have e0 : s₁.heap = h0 := by rw [← hh, Bd.state]; rfl
  have N0 := Fr.nil n0
  have pre0 : ∀ t, Steps p.tables e below (s₁.setTop (mkF m 0 #[.val (.long q1), .second, .val (.long q2), .second] [])) t → Steps p.tables e below (s₁.setTop (entryFrame m #[(.long q1), (.long q2)] 4)) t := fun t k => castTop (ef_10 m q1 q2) k
  have j : ∀ t, Steps p.tables e below (s₁.setTop (mkF m 11 #[.val (.long q1), .second, .val (.long q2), .second] [(.long (own_minL q1 q2))])) t → Steps p.tables e below (s₁.setTop (mkF m 0 #[.val (.long q1), .second, .val (.long q2), .second] [])) t := by
    intro t kt
    by_cases hc : q2 < q1
    · have hv : own_minL q1 q2 = q2 := if_pos hc
      rw [hv] at kt
      show Steps p.tables e below (s₁.setTop (mkF m 0 #[.val (.long q1), .second, .val (.long q2), .second] [])) _
      refine XS.lloadN X0.here hx rfl (hb hby d10_0) rfl ?_
      show Steps p.tables e below (s₁.setTop (mkF m 1 #[.val (.long q1), .second, .val (.long q2), .second] [(.long q1)])) _
      refine XS.lloadN X0.here hx rfl (hb hby d10_1) rfl ?_
      show Steps p.tables e below (s₁.setTop (mkF m 2 #[.val (.long q1), .second, .val (.long q2), .second] [(.long q2), (.long q1)])) _
      refine XS.lcmp X0.here hx rfl (hb hby d10_2) rfl ?_
      show Steps p.tables e below (s₁.setTop (mkF m 3 #[.val (.long q1), .second, .val (.long q2), .second] [(.int (lcmpW q1 q2))])) _
      refine XS.ifYes X0.here hx rfl (pc0 := 3) (pc' := 10) rfl (hb hby d10_3) rfl ((if0 _ _).trans (tlt ((lw_gt _ _).mpr hc : (0 : Int32) < (lcmpW q1 q2))).2.2.1) (by decide) (by decide) ?_
      show Steps p.tables e below (s₁.setTop (mkF m 10 #[.val (.long q1), .second, .val (.long q2), .second] [])) _
      refine XS.lloadN X0.here hx rfl (hb hby d10_10) rfl ?_
      exact kt
    · have hv : own_minL q1 q2 = q1 := if_neg hc
      rw [hv] at kt
      show Steps p.tables e below (s₁.setTop (mkF m 0 #[.val (.long q1), .second, .val (.long q2), .second] [])) _
      refine XS.lloadN X0.here hx rfl (hb hby d10_0) rfl ?_
      show Steps p.tables e below (s₁.setTop (mkF m 1 #[.val (.long q1), .second, .val (.long q2), .second] [(.long q1)])) _
      refine XS.lloadN X0.here hx rfl (hb hby d10_1) rfl ?_
      show Steps p.tables e below (s₁.setTop (mkF m 2 #[.val (.long q1), .second, .val (.long q2), .second] [(.long q2), (.long q1)])) _
      refine XS.lcmp X0.here hx rfl (hb hby d10_2) rfl ?_
      show Steps p.tables e below (s₁.setTop (mkF m 3 #[.val (.long q1), .second, .val (.long q2), .second] [(.int (lcmpW q1 q2))])) _
      refine XS.ifNo X0.here hx rfl (hb hby d10_3) rfl ((if0 _ _).trans (flt (fun q => hc ((lw_gt _ _).mp q) : ¬ ((0 : Int32) < (lcmpW q1 q2)))).2.2.1) ?_
      show Steps p.tables e below (s₁.setTop (mkF m 6 #[.val (.long q1), .second, .val (.long q2), .second] [])) _
      refine XS.lloadN X0.here hx rfl (hb hby d10_6) rfl ?_
      show Steps p.tables e below (s₁.setTop (mkF m 7 #[.val (.long q1), .second, .val (.long q2), .second] [(.long q1)])) _
      refine XS.goto X0.here hx rfl (pc0 := 7) (pc' := 11) rfl (hb hby d10_7) (by decide) (by decide) ?_
      exact kt
  obtain ⟨fs, hr, hrun, hended, hW, hsame⟩ := X0.leave (v := some (.long (own_minL q1 q2))) (fun h => by rw [Bd.returns] at h; cases h)
  refine ⟨_, _, pre0 _ ?_, hrun, hended, _, _, rfl, ?_, ⟨_, rfl⟩, hW, hsame.mono (by decide) (by decide)⟩
  · show Steps p.tables e below (s₁.setTop (mkF m 0 #[.val (.long q1), .second, .val (.long q2), .second] [])) _
    refine j _ ?_
    show Steps p.tables e below (s₁.setTop (mkF m 11 #[.val (.long q1), .second, .val (.long q2), .second] [(.long (own_minL q1 q2))])) _
    jvm_step X0.here [X0.here.top, hx, (hb hby d10_11), X0.method', Bd.returns, narrow]
    first | (intro acts; rw [hr _ acts rfl rfl rfl]) | rw [hr _ _ rfl rfl rfl]
    exact Steps.refl _
  · show Q_10 Z q1 q2  h0 n0 _ s₁.heap _
    rw [e0]
    exact ⟨rfl, N0, rfl⟩
theorem d7_0 : decode jdk_65_method_121_code 0 = .ok (.iload_n 1, 1) := by decide +kernel
theorem d7_1 : decode jdk_65_method_121_code 1 = .ok (.aload_n 0, 1) := by decide +kernel
theorem d7_2 : decode jdk_65_method_121_code 2 = .ok (.arraylength, 1) := by decide +kernel
theorem d7_3 : decode jdk_65_method_121_code 3 = .ok (.if_icmp .ne 11, 3) := by decide +kernel
theorem d7_14 : decode jdk_65_method_121_code 14 = .ok (.iload_n 1, 1) := by decide +kernel
theorem d7_15 : decode jdk_65_method_121_code 15 = .ok (.newarray .byte, 2) := by decide +kernel
theorem d7_17 : decode jdk_65_method_121_code 17 = .ok (.astore_n 2, 1) := by decide +kernel
theorem d7_18 : decode jdk_65_method_121_code 18 = .ok (.aload_n 0, 1) := by decide +kernel
theorem d7_19 : decode jdk_65_method_121_code 19 = .ok (.iconst 0, 1) := by decide +kernel
theorem d7_20 : decode jdk_65_method_121_code 20 = .ok (.aload_n 2, 1) := by decide +kernel
theorem d7_21 : decode jdk_65_method_121_code 21 = .ok (.iconst 0, 1) := by decide +kernel
theorem d7_22 : decode jdk_65_method_121_code 22 = .ok (.aload_n 0, 1) := by decide +kernel
theorem d7_23 : decode jdk_65_method_121_code 23 = .ok (.arraylength, 1) := by decide +kernel
theorem d7_24 : decode jdk_65_method_121_code 24 = .ok (.iload_n 1, 1) := by decide +kernel
theorem pd_0 : parseMethodDescriptor "(II)I" = some ⟨[.int, .int], some .int⟩ := by decide +kernel
theorem d7_25 : decode jdk_65_method_121_code 25 = .ok (.invokestatic 304, 3) := by decide +kernel
theorem d7_28 : decode jdk_65_method_121_code 28 = .ok (.invokestatic 150, 3) := by decide +kernel
theorem d7_31 : decode jdk_65_method_121_code 31 = .ok (.aload_n 2, 1) := by decide +kernel
theorem d7_32 : decode jdk_65_method_121_code 32 = .ok (.areturn, 1) := by decide +kernel
theorem pn_0 : plainName "java/util/Arrays" = true := by first | (simp [plainName, overriddenIn]; done) | decide +kernel
theorem ef_7 (m : MethodId) (a1 : Addr) (p2 : Int32) : entryFrame m #[(.ref a1), (.int p2)] 3 = mkF m 0 #[.val (.ref a1), .val (.int p2), .unset] [] := by first | (simp [entryFrame, mkF, argsToLocals, Value.category]; done) | rfl
def Q_7 (Z : State) (a1 : Addr) (p2 : Int32) (z : Int32) (f : Nat → Int32) (h0 : Heap) (n0 : Nat) (v : Option Value) (h : Heap) (L : List Loc) : Prop := ∃ b : Addr, v = some (.ref b) ∧ Fr n0 L ∧ n0 ≤ b ∧ h0.size ≤ b ∧ Keep h0 h [] ∧ ∃ f' : Nat → Int32, own_B Z h b p2 f' ∧ ∀ j, j < z.toNatClampNeg → j < p2.toNatClampNeg → f' j = f j
set_option maxRecDepth 65536 in
set_option maxHeartbeats 40000000 in
theorem rm_7 (l : Launch) (Z : State) (a0 : Array Value) (hw : ∀ d ∈ tables_1, d.before a0 Z = true) (ws : List Jvm.Cond) (a1 : Addr) (p2 : Int32) (z : Int32) (f : Nat → Int32) (h0 : Heap) (n0 : Nat) (Z0 : n0 ≤ h0.size) (B1 : own_B Z h0 a1 z f) (hne : ¬ p2 = z) (hp1 : 0 ≤ p2.toInt) (hp2 : p2.toInt ≤ 16) :
    MetFree l (⟨"java/util/Arrays", "copyOf", "([BI)[B"⟩ : MethodName) (head1 (Jvm.Cond.code (⟨"java/util/Arrays", "copyOf", "([BI)[B"⟩ : MethodName) jdk_65_method_121_code 3 (some (.array .byte)) :: ws) ({ frames := 1, cells := 1, slots := 16, locals := 60 } : Room)) (fun a U => a = #[(.ref a1), (.int p2)] ∧ Z.Warmed39 U.vm ∧ U.heap = h0) (fun _ _ _ _ _ => True) (fun _ U o U' => ∃ v L, o = .returned v ∧ Q_7 Z a1 p2 z f h0 n0 v U'.heap L ∧ FrameEnd U o U' L ({ frames := 1, cells := 1, slots := 16, locals := 60 } : Room).cells ({ frames := 1, cells := 1, slots := 16, locals := 60 } : Room).slots) := by
  refine MetFree.of_bodySF (plainFor_of_name pn_0) hisR ?_
  intro p e s m args below meth c s₁ Bd hml0 hP hK
  obtain ⟨rfl, hZ, hh⟩ := hP
  have hx := Bd.exec
  have hby := Bd.bytes
  have hml : c.maxLocals = 3 := hml0
  have hown : s.vm.findClass "java/util/Arrays" = some m.cls := findClass_of_methodNamed Bd.named
  have hnm := (name_of_methodNamed Bd.named Bd.method).1
  have X0 : Stand p l e ({ frames := 1, cells := 1, slots := 16, locals := 60 } : Room) s m #[(.ref a1), (.int p2)] below meth c s₁ [] 0 0 := Stand.of_body Bd
  have e0 : s₁.heap = h0 := by rw [← hh, Bd.state]; rfl
  have N0 := Fr.nil n0
  have pre0 : ∀ t, Steps p.tables e below (s₁.setTop (mkF m 0 #[.val (.ref a1), .val (.int p2), .unset] [])) t → Steps p.tables e below (s₁.setTop (entryFrame m #[(.ref a1), (.int p2)] 3)) t := fun t k => castTop (ef_7 m a1 p2) k
  obtain ⟨clx, Arx, Sx, Mx, Hx⟩ := own_open B1
  obtain ⟨T1, h1, k1, X1, e1, E1, A1, st1⟩ := newP X0 hx hZ (hw _ (List.mem_of_getElem? (i := 0) rfl)) e0 (g := (mkF m 15 #[.val (.ref a1), .val (.int p2), .unset] [(.int p2)])) rfl (hb hby d7_15) rfl (own_nn hp1) (cap := 16) (own_cap16 hp1 hp2) (by decide) (by decide) (by decide)
  obtain ⟨b, g1⟩ : ∃ z, z = h0.size := ⟨_, rfl⟩
  rw [← g1] at A1 st1
  have g_b : n0 ≤ b := Nat.le_trans Z0 (Nat.le_of_eq g1.symm)
  have Z1 : n0 ≤ h1.size := Nat.le_trans Z0 E1.1
  have szb : h0.size ≤ b := Nat.le_of_eq g1.symm
  have B1e := own_ext B1 E1
  have Bb := own_new A1 (own_nn hp1)
  obtain ⟨cly, Ary, Sy, My, Hy⟩ := own_open B1e
  have Ke : Keep h0 h1 [] := (Keep.refl h0 []).ext E1
  obtain ⟨_, _, ⟨T2, L2, k2, n2⟩, -, X2, ⟨Lc2, hQ2, l2, y2, z2⟩, st2⟩ := Jvm.LawKit.callS X1 hx (y := (⟨"java/lang/Math", "min", "(II)I"⟩ : MethodName)) hown (mvT hZ (hw _ (List.mem_of_getElem? (i := 43) rfl))) (mvT hZ (hw _ (List.mem_of_getElem? (i := 44) rfl))) (mvT hZ (hw _ (List.mem_of_getElem? (i := 45) rfl))) (mvT hZ (hw _ (List.mem_of_getElem? (i := 46) rfl))) (by decide) (backOf (W := 4) (rm_8 l Z a0 hw [] z p2 h1 n0 Z1) hZ (hw _ (List.mem_of_getElem? (i := 46) rfl)) (hw _ (List.mem_of_getElem? (i := 45) rfl)) (by decide) (by decide)) (g := (mkF m 25 #[.val (.ref a1), .val (.int p2), .val (.ref b)] [(.int p2), (.int z), (.int (0 : Int32)), (.ref b), (.int (0 : Int32)), (.ref a1)])) rfl (by rw [hml]; rfl) (argsL := [(.int z), (.int p2)]) (rest := [(.int (0 : Int32)), (.ref b), (.int (0 : Int32)), (.ref a1)]) (lenOf pd_0 rfl) rfl (by show 2 * 0 + _ ≤ _; exact Nat.le_of_eq rfl) (hb hby d7_25) (fun _ _ => ⟨rfl, e1, (by decide : 1 + 0 ≤ _), (by decide : 16 + 0 ≤ _)⟩)
  dsimp only [Pt.U, Pt.locs, Pt.cells, Pt.slots] at X2 l2 y2 z2 st2 hQ2
  subst l2 y2 z2
  obtain ⟨rfl, N2q, em⟩ := hQ2
  have N2 := Fr.app N0 N2q
  obtain ⟨T3, h3, L3, X3, e3, N3, Kc, Bc, st3⟩ := own_cp X2 hx hZ hown (hw _ (List.mem_of_getElem? (i := 47) rfl)) (hw _ (List.mem_of_getElem? (i := 23) rfl)) (hw _ (List.mem_of_getElem? (i := 21) rfl)) (hw _ (List.mem_of_getElem? (i := 22) rfl)) em B1e Bb (by decide) (by decide) (own_minN (own_tn My) hp1) (own_minA (own_tn My) hp1) (own_minB (own_tn My) hp1) N2 g_b (g := (mkF m 28 #[.val (.ref a1), .val (.int p2), .val (.ref b)] [(.int (own_min z p2)), (.int (0 : Int32)), (.ref b), (.int (0 : Int32)), (.ref a1)])) rfl (by rw [hml]; rfl) (rest := []) rfl (hb hby d7_28) (by decide) (W := 0) (by show 2 * 0 + _ ≤ _; exact Nat.le_of_eq rfl) (by decide)
  have Z3 : n0 ≤ h3.size := Nat.le_trans Z1 Kc.1
  have Kf : Keep h0 h3 [] := Ke.trans Kc (allS (Or.inr szb) all0)
  obtain ⟨fs, hr, hrun, hended, hW, hsame⟩ := X3.leave (v := some (.ref b)) (fun h => by rw [Bd.returns] at h; cases h)
  refine ⟨_, _, pre0 _ ?_, hrun, hended, _, _, rfl, ?_, ⟨_, rfl⟩, hW, hsame.mono (by decide) (by decide)⟩
  · show Steps p.tables e below (s₁.setTop (mkF m 0 #[.val (.ref a1), .val (.int p2), .unset] [])) _
    refine XS.iloadN X0.here hx rfl (hb hby d7_0) rfl ?_
    show Steps p.tables e below (s₁.setTop (mkF m 1 #[.val (.ref a1), .val (.int p2), .unset] [(.int p2)])) _
    refine XS.aloadN X0.here hx rfl (hb hby d7_1) rfl rfl ?_
    show Steps p.tables e below (s₁.setTop (mkF m 2 #[.val (.ref a1), .val (.int p2), .unset] [(.ref a1), (.int p2)])) _
    refine X0.arraylength hx (by rw [e0]; exact Arx.1) (State.isArrayOf_alike hZ.alike Arx.2.1) (g := (mkF m 2 #[.val (.ref a1), .val (.int p2), .unset] [(.ref a1), (.int p2)])) rfl rfl (hb hby d7_2) _ ?_
    rw [len_of Sx Mx]
    show Steps p.tables e below (s₁.setTop (mkF m 3 #[.val (.ref a1), .val (.int p2), .unset] [(.int z), (.int p2)])) _
    refine XS.icmpYes X0.here hx rfl (pc0 := 3) (pc' := 14) rfl (hb hby d7_3) rfl (feq (hne : ¬ (p2 = z))).2 (by decide) (by decide) ?_
    show Steps p.tables e below (s₁.setTop (mkF m 14 #[.val (.ref a1), .val (.int p2), .unset] [])) _
    refine XS.iloadN X0.here hx rfl (hb hby d7_14) rfl ?_
    show Steps p.tables e below (s₁.setTop (mkF m 15 #[.val (.ref a1), .val (.int p2), .unset] [(.int p2)])) _
    refine st1 _ ?_
    show Steps p.tables e below (T1.setTop (mkF m 17 #[.val (.ref a1), .val (.int p2), .unset] [(.ref b)])) _
    refine XS.astoreN X1.here hx rfl (hb hby d7_17) rfl rfl (l' := #[.val (.ref a1), .val (.int p2), .val (.ref b)]) rfl ?_
    show Steps p.tables e below (T1.setTop (mkF m 18 #[.val (.ref a1), .val (.int p2), .val (.ref b)] [])) _
    refine XS.aloadN X1.here hx rfl (hb hby d7_18) rfl rfl ?_
    show Steps p.tables e below (T1.setTop (mkF m 19 #[.val (.ref a1), .val (.int p2), .val (.ref b)] [(.ref a1)])) _
    refine XS.iconst X1.here hx rfl (hb hby d7_19) ?_
    show Steps p.tables e below (T1.setTop (mkF m 20 #[.val (.ref a1), .val (.int p2), .val (.ref b)] [(.int (0 : Int32)), (.ref a1)])) _
    refine XS.aloadN X1.here hx rfl (hb hby d7_20) rfl rfl ?_
    show Steps p.tables e below (T1.setTop (mkF m 21 #[.val (.ref a1), .val (.int p2), .val (.ref b)] [(.ref b), (.int (0 : Int32)), (.ref a1)])) _
    refine XS.iconst X1.here hx rfl (hb hby d7_21) ?_
    show Steps p.tables e below (T1.setTop (mkF m 22 #[.val (.ref a1), .val (.int p2), .val (.ref b)] [(.int (0 : Int32)), (.ref b), (.int (0 : Int32)), (.ref a1)])) _
    refine XS.aloadN X1.here hx rfl (hb hby d7_22) rfl rfl ?_
    show Steps p.tables e below (T1.setTop (mkF m 23 #[.val (.ref a1), .val (.int p2), .val (.ref b)] [(.ref a1), (.int (0 : Int32)), (.ref b), (.int (0 : Int32)), (.ref a1)])) _
    refine X1.arraylength hx (by rw [e1]; exact Ary.1) (State.isArrayOf_alike hZ.alike Ary.2.1) (g := (mkF m 23 #[.val (.ref a1), .val (.int p2), .val (.ref b)] [(.ref a1), (.int (0 : Int32)), (.ref b), (.int (0 : Int32)), (.ref a1)])) rfl rfl (hb hby d7_23) _ ?_
    rw [len_of Sy My]
    show Steps p.tables e below (T1.setTop (mkF m 24 #[.val (.ref a1), .val (.int p2), .val (.ref b)] [(.int z), (.int (0 : Int32)), (.ref b), (.int (0 : Int32)), (.ref a1)])) _
    refine XS.iloadN X1.here hx rfl (hb hby d7_24) rfl ?_
    show Steps p.tables e below (T1.setTop (mkF m 25 #[.val (.ref a1), .val (.int p2), .val (.ref b)] [(.int p2), (.int z), (.int (0 : Int32)), (.ref b), (.int (0 : Int32)), (.ref a1)])) _
    refine st2 _ ?_
    show Steps p.tables e below (T2.setTop (mkF m 28 #[.val (.ref a1), .val (.int p2), .val (.ref b)] [(.int (own_min z p2)), (.int (0 : Int32)), (.ref b), (.int (0 : Int32)), (.ref a1)])) _
    refine st3 _ ?_
    show Steps p.tables e below (T3.setTop (mkF m 31 #[.val (.ref a1), .val (.int p2), .val (.ref b)] [])) _
    refine XS.aloadN X3.here hx rfl (hb hby d7_31) rfl rfl ?_
    show Steps p.tables e below (T3.setTop (mkF m 32 #[.val (.ref a1), .val (.int p2), .val (.ref b)] [(.ref b)])) _
    jvm_step X3.here [X3.here.top, hx, (hb hby d7_32), X3.method', Bd.returns, Value.isRef, FieldType.isReference]
    first | (intro acts; rw [hr _ acts rfl rfl rfl]) | rw [hr _ _ rfl rfl rfl]
    exact Steps.refl _
  · show Q_7 Z a1 p2 z f h0 n0 _ T3.heap _
    rw [e3]
    exact ⟨b, rfl, N3, g_b, szb, Kf, _, Bc, fun j q1 q2 => own_cpin (f := f) (f0 := fun _ => 0) (own_tn My) hp1 q1 q2⟩
theorem d1_0 : decode prog_4_method_1_code 0 = .ok (.aload_n 0, 1) := by decide +kernel
theorem d1_1 : decode prog_4_method_1_code 1 = .ok (.invokespecial 3, 3) := by decide +kernel
theorem d1_4 : decode prog_4_method_1_code 4 = .ok (.lload_n 1, 1) := by decide +kernel
theorem d1_5 : decode prog_4_method_1_code 5 = .ok (.ldc2_w 9, 3) := by decide +kernel
theorem d1_8 : decode prog_4_method_1_code 8 = .ok (.lcmp, 1) := by decide +kernel
theorem d1_9 : decode prog_4_method_1_code 9 = .ok (.ifCond .le 17, 3) := by decide +kernel
theorem d1_26 : decode prog_4_method_1_code 26 = .ok (.aload_n 0, 1) := by decide +kernel
theorem d1_27 : decode prog_4_method_1_code 27 = .ok (.lload_n 1, 1) := by decide +kernel
theorem d1_28 : decode prog_4_method_1_code 28 = .ok (.lconst 0, 1) := by decide +kernel
theorem d1_29 : decode prog_4_method_1_code 29 = .ok (.lcmp, 1) := by decide +kernel
theorem d1_30 : decode prog_4_method_1_code 30 = .ok (.ifCond .ge 9, 3) := by decide +kernel
theorem d1_33 : decode prog_4_method_1_code 33 = .ok (.sipush 8192, 3) := by decide +kernel
theorem d1_36 : decode prog_4_method_1_code 36 = .ok (.goto 5, 3) := by decide +kernel
theorem d1_39 : decode prog_4_method_1_code 39 = .ok (.lload_n 1, 1) := by decide +kernel
theorem d1_40 : decode prog_4_method_1_code 40 = .ok (.l2i, 1) := by decide +kernel
theorem d1_41 : decode prog_4_method_1_code 41 = .ok (.newarray .byte, 2) := by decide +kernel
theorem d1_43 : decode prog_4_method_1_code 43 = .ok (.putfield 22, 3) := by decide +kernel
theorem d1_46 : decode prog_4_method_1_code 46 = .ok (.return_, 1) := by decide +kernel
theorem pn_1 : plainName "com/example/tympan/tympan/BodyLimit$Received" = true := by first | (simp [plainName, overriddenIn]; done) | decide +kernel
theorem ef_1 (m : MethodId) (a1 : Addr) (q2 : Int64) : entryFrame m #[(.ref a1), (.long q2)] 3 = mkF m 0 #[.val (.ref a1), .val (.long q2), .second] [] := by first | (simp [entryFrame, mkF, argsToLocals, Value.category]; done) | rfl
def Q_1 (Z : State) (a1 : Addr) (q2 : Int64)  (h0 : Heap) (n0 : Nat) (v : Option Value) (h : Heap) (L : List Loc) : Prop := v = none ∧ Fr n0 L ∧ Keep h0 h [a1] ∧ ∃ (b : Addr) (z : Int32), n0 ≤ b ∧ own_R Z h a1 b z 0 (fun _ => 0) ∧ 0 ≤ z.toInt ∧ z.toInt ≤ 8192 ∧ h0.size ≤ b
set_option maxRecDepth 65536 in
set_option maxHeartbeats 40000000 in
theorem rm_1 (l : Launch) (Z : State) (a0 : Array Value) (hw : ∀ d ∈ tables_1, d.before a0 Z = true) (ws : List Jvm.Cond) (a1 : Addr) (q2 : Int64)  (h0 : Heap) (n0 : Nat) (Z0 : n0 ≤ h0.size) (E_a1 : Exa Z h0 a1 "com/example/tympan/tympan/BodyLimit$Received") (g_a1 : n0 ≤ a1) (F_bytes : Fld Z h0 a1 "com/example/tympan/tympan/BodyLimit$Received" "bytes" "[B" .null) (F_size : Fld Z h0 a1 "com/example/tympan/tympan/BodyLimit$Received" "size" "I" (.int (0 : Int32))) (hq1 : -1 ≤ q2.toInt) (hq2 : q2.toInt ≤ 8) :
    MetFree l (⟨"com/example/tympan/tympan/BodyLimit$Received", "<init>", "(J)V"⟩ : MethodName) (head1 (Jvm.Cond.code (⟨"com/example/tympan/tympan/BodyLimit$Received", "<init>", "(J)V"⟩ : MethodName) prog_4_method_1_code 3 none :: ws) ({ frames := 1, cells := 1, slots := 8192, locals := 12 } : Room)) (fun a U => a = #[(.ref a1), (.long q2)] ∧ Z.Warmed39 U.vm ∧ U.heap = h0) (fun _ _ _ _ _ => True) (fun _ U o U' => ∃ v L, o = .returned v ∧ Q_1 Z a1 q2  h0 n0 v U'.heap L ∧ FrameEnd U o U' L ({ frames := 1, cells := 1, slots := 8192, locals := 12 } : Room).cells ({ frames := 1, cells := 1, slots := 8192, locals := 12 } : Room).slots) := by
  refine MetFree.of_bodySF (plainFor_of_name pn_1) hisR ?_
  intro p e s m args below meth c s₁ Bd hml0 hP hK
  obtain ⟨rfl, hZ, hh⟩ := hP
  have hx := Bd.exec
  have hby := Bd.bytes
  have hml : c.maxLocals = 3 := hml0
  have hown : s.vm.findClass "com/example/tympan/tympan/BodyLimit$Received" = some m.cls := findClass_of_methodNamed Bd.named
  have hnm := (name_of_methodNamed Bd.named Bd.method).1
  have X0 : Stand p l e ({ frames := 1, cells := 1, slots := 8192, locals := 12 } : Room) s m #[(.ref a1), (.long q2)] below meth c s₁ [] 0 0 := Stand.of_body Bd
  have e0 : s₁.heap = h0 := by rw [← hh, Bd.state]; rfl
  have N0 := Fr.nil n0
  have pre0 : ∀ t, Steps p.tables e below (s₁.setTop (mkF m 0 #[.val (.ref a1), .val (.long q2), .second] [])) t → Steps p.tables e below (s₁.setTop (entryFrame m #[(.ref a1), (.long q2)] 3)) t := fun t k => castTop (ef_1 m a1 q2) k
  obtain ⟨T4, X4, e4, st4⟩ := initO X0 hx hZ hown (hw _ (List.mem_of_getElem? (i := 7) rfl)) (hw _ (List.mem_of_getElem? (i := 8) rfl)) (hw _ (List.mem_of_getElem? (i := 9) rfl)) e0 (g := (mkF m 1 #[.val (.ref a1), .val (.long q2), .second] [(.ref a1)])) rfl (by rw [hml]; rfl) rfl (hb hby d1_1) (by decide) (W := 0) (by show 2 * 0 + _ ≤ _; exact Nat.le_of_eq rfl) (by decide)
  have j41 : ∀ t, Steps p.tables e below (T4.setTop (mkF m 41 #[.val (.ref a1), .val (.long q2), .second] [(.int (own_len0 q2)), (.ref a1)])) t → Steps p.tables e below (T4.setTop (mkF m 30 #[.val (.ref a1), .val (.long q2), .second] [(.int (lcmpW q2 (0 : Int64))), (.ref a1)])) t := by
    intro t kt
    by_cases hc : q2 < (0 : Int64)
    · have hv : own_len0 q2 = 8192 := if_pos hc
      rw [hv] at kt
      show Steps p.tables e below (T4.setTop (mkF m 30 #[.val (.ref a1), .val (.long q2), .second] [(.int (lcmpW q2 (0 : Int64))), (.ref a1)])) _
      refine XS.ifNo X4.here hx rfl (hb hby d1_30) rfl ((if0 _ _).trans (tlt ((lw_lt _ _).mpr hc : (lcmpW q2 (0 : Int64)) < (0 : Int32))).2.1) ?_
      show Steps p.tables e below (T4.setTop (mkF m 33 #[.val (.ref a1), .val (.long q2), .second] [(.ref a1)])) _
      refine XS.sipush X4.here hx rfl (hb hby d1_33) ?_
      show Steps p.tables e below (T4.setTop (mkF m 36 #[.val (.ref a1), .val (.long q2), .second] [(.int (8192 : Int32)), (.ref a1)])) _
      refine XS.goto X4.here hx rfl (pc0 := 36) (pc' := 41) rfl (hb hby d1_36) (by decide) (by decide) ?_
      exact kt
    · have hv : own_len0 q2 = q2.toInt32 := if_neg hc
      rw [hv] at kt
      show Steps p.tables e below (T4.setTop (mkF m 30 #[.val (.ref a1), .val (.long q2), .second] [(.int (lcmpW q2 (0 : Int64))), (.ref a1)])) _
      refine XS.ifYes X4.here hx rfl (pc0 := 30) (pc' := 39) rfl (hb hby d1_30) rfl ((if0 _ _).trans (flt (fun q => hc ((lw_lt _ _).mp q) : ¬ ((lcmpW q2 (0 : Int64)) < (0 : Int32)))).2.1) (by decide) (by decide) ?_
      show Steps p.tables e below (T4.setTop (mkF m 39 #[.val (.ref a1), .val (.long q2), .second] [(.ref a1)])) _
      refine XS.lloadN X4.here hx rfl (hb hby d1_39) rfl ?_
      show Steps p.tables e below (T4.setTop (mkF m 40 #[.val (.ref a1), .val (.long q2), .second] [(.long q2), (.ref a1)])) _
      refine XS.l2i X4.here hx rfl (hb hby d1_40) rfl ?_
      exact kt
  obtain ⟨z1, z2⟩ := own_len0B hq1 hq2
  obtain ⟨T5, h5, k5, X5, e5, E5, A5, st5⟩ := newP X4 hx hZ (hw _ (List.mem_of_getElem? (i := 0) rfl)) e4 (g := (mkF m 41 #[.val (.ref a1), .val (.long q2), .second] [(.int (own_len0 q2)), (.ref a1)])) rfl (hb hby d1_41) rfl (own_nn z1) (cap := 8192) (own_cap8192 z1 z2) (by decide) (by decide) (by decide)
  obtain ⟨b, g5⟩ : ∃ z, z = h0.size := ⟨_, rfl⟩
  rw [← g5] at A5 st5
  have g_b : n0 ≤ b := Nat.le_trans Z0 (Nat.le_of_eq g5.symm)
  have Z5 : n0 ≤ h5.size := Nat.le_trans Z0 E5.1
  have szb : h0.size ≤ b := Nat.le_of_eq g5.symm
  have Bb := own_new A5 (own_nn z1)
  have ne_ab : a1 ≠ b := Nat.ne_of_lt (Nat.lt_of_lt_of_le E_a1.lt szb)
  have K5 : Keep h0 h5 [a1] := (Keep.refl h0 [a1]).ext E5
  have G5_a1_bytes := Fld.ext E5 F_bytes
  have G5_a1_size := Fld.ext E5 F_size
  have GE5_a1 := Exa.ext E5 E_a1
  obtain ⟨T6, h6, X6, e6, W6, st6⟩ := putF X5 hx hZ hown (host := "") (Or.inl (hw _ (List.mem_of_getElem? (i := 11) rfl))) Via.refl e5 G5_a1_bytes GE5_a1 (Or.inl (hw _ (List.mem_of_getElem? (i := 12) rfl))) (hw _ (List.mem_of_getElem? (i := 2) rfl)) (ty := (.array .byte)) (by decide) rfl rfl (g := (mkF m 43 #[.val (.ref a1), .val (.long q2), .second] [(.ref b), (.ref a1)])) rfl rfl (hb hby d1_43)
  have N6 := Fr.snoc X6 N0 g_a1
  have Z6 : n0 ≤ h6.size := Nat.le_trans Z5 (Keep.of_wr W6).1
  have G6_a1_bytes := Fld.same W6 G5_a1_bytes
  have G6_a1_size := Fld.other W6 G5_a1_size (Or.inr (slot_ne (Or.inl (hw _ (List.mem_of_getElem? (i := 19) rfl))) (Or.inl (hw _ (List.mem_of_getElem? (i := 12) rfl))) (by decide) (t := .int) (t' := (.array .byte)) (by decide) (by decide)))
  have GE6_a1 := Exa.wr W6 GE5_a1
  have K6 : Keep h0 h6 [a1] := Keep.wr K5 W6 (Or.inl (List.mem_of_getElem? (i := 0) rfl))
  have Bw := own_other Bb W6 (Ne.symm ne_ab)
  obtain ⟨fs, hr, hrun, hended, hW, hsame⟩ := X6.leave (v := none) (fun _ => rfl)
  refine ⟨_, _, pre0 _ ?_, hrun, hended, _, _, rfl, ?_, ⟨_, rfl⟩, hW, hsame.mono (by decide) (by decide)⟩
  · show Steps p.tables e below (s₁.setTop (mkF m 0 #[.val (.ref a1), .val (.long q2), .second] [])) _
    refine XS.aloadN X0.here hx rfl (hb hby d1_0) rfl rfl ?_
    show Steps p.tables e below (s₁.setTop (mkF m 1 #[.val (.ref a1), .val (.long q2), .second] [(.ref a1)])) _
    refine st4 _ ?_
    show Steps p.tables e below (T4.setTop (mkF m 4 #[.val (.ref a1), .val (.long q2), .second] [])) _
    refine XS.lloadN X4.here hx rfl (hb hby d1_4) rfl ?_
    show Steps p.tables e below (T4.setTop (mkF m 5 #[.val (.ref a1), .val (.long q2), .second] [(.long q2)])) _
    refine X4.ldc2Long hx hown (mvT hZ (hw _ (List.mem_of_getElem? (i := 10) rfl))) (g := (mkF m 5 #[.val (.ref a1), .val (.long q2), .second] [(.long q2)])) rfl (hb hby d1_5) _ ?_
    show Steps p.tables e below (T4.setTop (mkF m 8 #[.val (.ref a1), .val (.long q2), .second] [(.long (16777216 : Int64)), (.long q2)])) _
    refine XS.lcmp X4.here hx rfl (hb hby d1_8) rfl ?_
    show Steps p.tables e below (T4.setTop (mkF m 9 #[.val (.ref a1), .val (.long q2), .second] [(.int (lcmpW q2 (16777216 : Int64)))])) _
    refine XS.ifYes X4.here hx rfl (pc0 := 9) (pc' := 26) rfl (hb hby d1_9) rfl ((if0 _ _).trans (flt (fun q => own_q8 hq2 ((lw_gt _ _).mp q) : ¬ ((0 : Int32) < (lcmpW q2 (16777216 : Int64))))).2.2.2) (by decide) (by decide) ?_
    show Steps p.tables e below (T4.setTop (mkF m 26 #[.val (.ref a1), .val (.long q2), .second] [])) _
    refine XS.aloadN X4.here hx rfl (hb hby d1_26) rfl rfl ?_
    show Steps p.tables e below (T4.setTop (mkF m 27 #[.val (.ref a1), .val (.long q2), .second] [(.ref a1)])) _
    refine XS.lloadN X4.here hx rfl (hb hby d1_27) rfl ?_
    show Steps p.tables e below (T4.setTop (mkF m 28 #[.val (.ref a1), .val (.long q2), .second] [(.long q2), (.ref a1)])) _
    refine XS.lconst X4.here hx rfl (hb hby d1_28) ?_
    show Steps p.tables e below (T4.setTop (mkF m 29 #[.val (.ref a1), .val (.long q2), .second] [(.long (0 : Int64)), (.long q2), (.ref a1)])) _
    refine XS.lcmp X4.here hx rfl (hb hby d1_29) rfl ?_
    show Steps p.tables e below (T4.setTop (mkF m 30 #[.val (.ref a1), .val (.long q2), .second] [(.int (lcmpW q2 (0 : Int64))), (.ref a1)])) _
    refine j41 _ ?_
    show Steps p.tables e below (T4.setTop (mkF m 41 #[.val (.ref a1), .val (.long q2), .second] [(.int (own_len0 q2)), (.ref a1)])) _
    refine st5 _ ?_
    show Steps p.tables e below (T5.setTop (mkF m 43 #[.val (.ref a1), .val (.long q2), .second] [(.ref b), (.ref a1)])) _
    refine st6 _ ?_
    show Steps p.tables e below (T6.setTop (mkF m 46 #[.val (.ref a1), .val (.long q2), .second] [])) _
    exact X6.returnOut hx Bd.returns (hb hby d1_46) hr
  · show Q_1 Z a1 q2  h0 n0 _ T6.heap _
    rw [e6]
    exact ⟨rfl, N6, K6, b, _, g_b, ⟨ne_ab, GE6_a1, G6_a1_bytes, G6_a1_size, Bw⟩, z1, z2, szb⟩
theorem d3_0 : decode prog_4_method_3_code 0 = .ok (.aload_n 0, 1) := by decide +kernel
theorem d3_1 : decode prog_4_method_3_code 1 = .ok (.getfield 28, 3) := by decide +kernel
theorem d3_4 : decode prog_4_method_3_code 4 = .ok (.i2l, 1) := by decide +kernel
theorem d3_5 : decode prog_4_method_3_code 5 = .ok (.iload_n 2, 1) := by decide +kernel
theorem d3_6 : decode prog_4_method_3_code 6 = .ok (.i2l, 1) := by decide +kernel
theorem d3_7 : decode prog_4_method_3_code 7 = .ok (.ladd, 1) := by decide +kernel
theorem d3_8 : decode prog_4_method_3_code 8 = .ok (.ldc2_w 9, 3) := by decide +kernel
theorem d3_11 : decode prog_4_method_3_code 11 = .ok (.lcmp, 1) := by decide +kernel
theorem d3_12 : decode prog_4_method_3_code 12 = .ok (.ifCond .le 11, 3) := by decide +kernel
theorem d3_23 : decode prog_4_method_3_code 23 = .ok (.aload_n 0, 1) := by decide +kernel
theorem d3_24 : decode prog_4_method_3_code 24 = .ok (.getfield 28, 3) := by decide +kernel
theorem d3_27 : decode prog_4_method_3_code 27 = .ok (.iload_n 2, 1) := by decide +kernel
theorem d3_28 : decode prog_4_method_3_code 28 = .ok (.iadd, 1) := by decide +kernel
theorem d3_29 : decode prog_4_method_3_code 29 = .ok (.aload_n 0, 1) := by decide +kernel
theorem d3_30 : decode prog_4_method_3_code 30 = .ok (.getfield 22, 3) := by decide +kernel
theorem d3_33 : decode prog_4_method_3_code 33 = .ok (.arraylength, 1) := by decide +kernel
theorem d3_34 : decode prog_4_method_3_code 34 = .ok (.if_icmp .le 43, 3) := by decide +kernel
theorem d3_77 : decode prog_4_method_3_code 77 = .ok (.aload_n 1, 1) := by decide +kernel
theorem d3_78 : decode prog_4_method_3_code 78 = .ok (.iconst 0, 1) := by decide +kernel
theorem d3_79 : decode prog_4_method_3_code 79 = .ok (.aload_n 0, 1) := by decide +kernel
theorem d3_80 : decode prog_4_method_3_code 80 = .ok (.getfield 22, 3) := by decide +kernel
theorem d3_83 : decode prog_4_method_3_code 83 = .ok (.aload_n 0, 1) := by decide +kernel
theorem d3_84 : decode prog_4_method_3_code 84 = .ok (.getfield 28, 3) := by decide +kernel
theorem d3_87 : decode prog_4_method_3_code 87 = .ok (.iload_n 2, 1) := by decide +kernel
theorem d3_88 : decode prog_4_method_3_code 88 = .ok (.invokestatic 52, 3) := by decide +kernel
theorem d3_91 : decode prog_4_method_3_code 91 = .ok (.aload_n 0, 1) := by decide +kernel
theorem d3_92 : decode prog_4_method_3_code 92 = .ok (.dup, 1) := by decide +kernel
theorem d3_93 : decode prog_4_method_3_code 93 = .ok (.getfield 28, 3) := by decide +kernel
theorem d3_96 : decode prog_4_method_3_code 96 = .ok (.iload_n 2, 1) := by decide +kernel
theorem d3_97 : decode prog_4_method_3_code 97 = .ok (.iadd, 1) := by decide +kernel
theorem d3_98 : decode prog_4_method_3_code 98 = .ok (.putfield 28, 3) := by decide +kernel
theorem d3_101 : decode prog_4_method_3_code 101 = .ok (.return_, 1) := by decide +kernel
theorem ef_3a (m : MethodId) (a1 : Addr) (a2 : Addr) (p3 : Int32) : entryFrame m #[(.ref a1), (.ref a2), (.int p3)] 4 = mkF m 0 #[.val (.ref a1), .val (.ref a2), .val (.int p3), .unset] [] := by first | (simp [entryFrame, mkF, argsToLocals, Value.category]; done) | rfl
def Q_3a (Z : State) (a1 : Addr) (a2 : Addr) (p3 : Int32) (b : Addr) (z sz : Int32) (f gf : Nat → Int32) (h0 : Heap) (n0 : Nat) (v : Option Value) (h : Heap) (L : List Loc) : Prop := v = none ∧ Fr n0 L ∧ ∃ (b' : Addr) (z' : Int32) (f' : Nat → Int32), n0 ≤ b' ∧ (b' = b ∨ h0.size ≤ b') ∧ Keep h0 h [a1, b] ∧ own_R Z h a1 b' z' (sz + p3) f' ∧ 0 ≤ z'.toInt ∧ z'.toInt ≤ 8192 ∧ (sz + p3).toInt ≤ z'.toInt ∧ (∀ j, j < sz.toNatClampNeg → f' j = f j) ∧ (∀ j, j < p3.toNatClampNeg → f' (sz.toNatClampNeg + j) = gf j)
set_option maxRecDepth 65536 in
set_option maxHeartbeats 40000000 in
theorem rm_3a (l : Launch) (Z : State) (a0 : Array Value) (hw : ∀ d ∈ tables_1, d.before a0 Z = true) (ws : List Jvm.Cond) (a1 : Addr) (a2 : Addr) (p3 : Int32) (b : Addr) (z sz : Int32) (f gf : Nat → Int32) (h0 : Heap) (n0 : Nat) (Z0 : n0 ≤ h0.size) (R0 : own_R Z h0 a1 b z sz f) (B2 : own_B Z h0 a2 (4 : Int32) gf) (nb : a2 ≠ b) (na : a2 ≠ a1) (g_a1 : n0 ≤ a1) (g_b : n0 ≤ b) (hs1 : 0 ≤ sz.toInt) (hs2 : sz.toInt ≤ 4) (hl1 : 0 ≤ p3.toInt) (hl2 : p3.toInt ≤ 4) (hz1 : 0 ≤ z.toInt) (hz2 : z.toInt ≤ 8192) (hsz : sz.toInt ≤ z.toInt) (hc : ¬ z < (sz + p3)) :
    MetFree l (⟨"com/example/tympan/tympan/BodyLimit$Received", "add", "([BI)V"⟩ : MethodName) (head1 (Jvm.Cond.code (⟨"com/example/tympan/tympan/BodyLimit$Received", "add", "([BI)V"⟩ : MethodName) prog_4_method_3_code 4 none :: ws) ({ frames := 2, cells := 1, slots := 16, locals := 90 } : Room)) (fun a U => a = #[(.ref a1), (.ref a2), (.int p3)] ∧ Z.Warmed39 U.vm ∧ U.heap = h0) (fun _ _ _ _ _ => True) (fun _ U o U' => ∃ v L, o = .returned v ∧ Q_3a Z a1 a2 p3 b z sz f gf h0 n0 v U'.heap L ∧ FrameEnd U o U' L ({ frames := 2, cells := 1, slots := 16, locals := 90 } : Room).cells ({ frames := 2, cells := 1, slots := 16, locals := 90 } : Room).slots) := by
  refine MetFree.of_bodySF (plainFor_of_name pn_1) hisR ?_
  intro p e s m args below meth c s₁ Bd hml0 hP hK
  obtain ⟨rfl, hZ, hh⟩ := hP
  have hx := Bd.exec
  have hby := Bd.bytes
  have hml : c.maxLocals = 4 := hml0
  have hown : s.vm.findClass "com/example/tympan/tympan/BodyLimit$Received" = some m.cls := findClass_of_methodNamed Bd.named
  have hnm := (name_of_methodNamed Bd.named Bd.method).1
  have X0 : Stand p l e ({ frames := 2, cells := 1, slots := 16, locals := 90 } : Room) s m #[(.ref a1), (.ref a2), (.int p3)] below meth c s₁ [] 0 0 := Stand.of_body Bd
  have e0 : s₁.heap = h0 := by rw [← hh, Bd.state]; rfl
  have N0 := Fr.nil n0
  have pre0 : ∀ t, Steps p.tables e below (s₁.setTop (mkF m 0 #[.val (.ref a1), .val (.ref a2), .val (.int p3), .unset] [])) t → Steps p.tables e below (s₁.setTop (entryFrame m #[(.ref a1), (.ref a2), (.int p3)] 4)) t := fun t k => castTop (ef_3a m a1 a2 p3) k
  obtain ⟨ne_ab, E_a, F_b, F_s, Bb⟩ := R0
  obtain ⟨clx, Arx, Sx, Mx, Hx⟩ := own_open Bb
  have ha := own_add4 hs1 hs2 hl1 hl2
  obtain ⟨T7, X7, e7, st7⟩ := getF X0 hx hZ hown (host := "") (Or.inl (hw _ (List.mem_of_getElem? (i := 18) rfl))) Via.refl e0 F_s (g := (mkF m 1 #[.val (.ref a1), .val (.ref a2), .val (.int p3), .unset] [(.ref a1)])) rfl rfl (hb hby d3_1)
  obtain ⟨T8, X8, e8, st8⟩ := getF X7 hx hZ hown (host := "") (Or.inl (hw _ (List.mem_of_getElem? (i := 18) rfl))) Via.refl e7 F_s (g := (mkF m 24 #[.val (.ref a1), .val (.ref a2), .val (.int p3), .unset] [(.ref a1)])) rfl rfl (hb hby d3_24)
  obtain ⟨T9, X9, e9, st9⟩ := getF X8 hx hZ hown (host := "") (Or.inl (hw _ (List.mem_of_getElem? (i := 11) rfl))) Via.refl e8 F_b (g := (mkF m 30 #[.val (.ref a1), .val (.ref a2), .val (.int p3), .unset] [(.ref a1), (.int (sz + p3))])) rfl rfl (hb hby d3_30)
  obtain ⟨T10, X10, e10, st10⟩ := getF X9 hx hZ hown (host := "") (Or.inl (hw _ (List.mem_of_getElem? (i := 11) rfl))) Via.refl e9 F_b (g := (mkF m 80 #[.val (.ref a1), .val (.ref a2), .val (.int p3), .unset] [(.ref a1), (.int (0 : Int32)), (.ref a2)])) rfl rfl (hb hby d3_80)
  obtain ⟨T11, X11, e11, st11⟩ := getF X10 hx hZ hown (host := "") (Or.inl (hw _ (List.mem_of_getElem? (i := 18) rfl))) Via.refl e10 F_s (g := (mkF m 84 #[.val (.ref a1), .val (.ref a2), .val (.int p3), .unset] [(.ref a1), (.ref b), (.int (0 : Int32)), (.ref a2)])) rfl rfl (hb hby d3_84)
  obtain ⟨T12, h12, L12, X12, e12, N12, Kc, Bc, st12⟩ := own_cp X11 hx hZ hown (hw _ (List.mem_of_getElem? (i := 20) rfl)) (hw _ (List.mem_of_getElem? (i := 23) rfl)) (hw _ (List.mem_of_getElem? (i := 21) rfl)) (hw _ (List.mem_of_getElem? (i := 22) rfl)) e11 B2 Bb (by decide) (own_nn hs1) (own_nn hl1) (own_src hl1 hl2) (own_dst hs1 hs2 hl1 hl2 (own_le hc)) N0 g_b (g := (mkF m 88 #[.val (.ref a1), .val (.ref a2), .val (.int p3), .unset] [(.int p3), (.int sz), (.ref b), (.int (0 : Int32)), (.ref a2)])) rfl (by rw [hml]; rfl) (rest := []) rfl (hb hby d3_88) (by decide) (W := 0) (by show 2 * 0 + _ ≤ _; exact Nat.le_of_eq rfl) (by decide)
  have Z12 : n0 ≤ h12.size := Nat.le_trans Z0 Kc.1
  have Gkc_a1_bytes := Fld.keep F_b Kc (ninS ne_ab nin0)
  have Gkc_a1_size := Fld.keep F_s Kc (ninS ne_ab nin0)
  have GEkc_a1 := Exa.keep E_a Kc
  have Kc2 : Keep h0 h12 [a1, b] := (Keep.refl h0 [a1, b]).trans Kc (allS (Or.inl (List.mem_of_getElem? (i := 1) rfl)) all0)
  obtain ⟨T13, X13, e13, st13⟩ := getF X12 hx hZ hown (host := "") (Or.inl (hw _ (List.mem_of_getElem? (i := 18) rfl))) Via.refl e12 Gkc_a1_size (g := (mkF m 93 #[.val (.ref a1), .val (.ref a2), .val (.int p3), .unset] [(.ref a1), (.ref a1)])) rfl rfl (hb hby d3_93)
  obtain ⟨T14, h14, X14, e14, W14, st14⟩ := putF X13 hx hZ hown (host := "") (Or.inl (hw _ (List.mem_of_getElem? (i := 18) rfl))) Via.refl e13 Gkc_a1_size GEkc_a1 (Or.inl (hw _ (List.mem_of_getElem? (i := 19) rfl))) (hw _ (List.mem_of_getElem? (i := 2) rfl)) (ty := .int) (by decide) rfl rfl (g := (mkF m 98 #[.val (.ref a1), .val (.ref a2), .val (.int p3), .unset] [(.int (sz + p3)), (.ref a1)])) rfl rfl (hb hby d3_98)
  have N14 := Fr.snoc X14 N12 g_a1
  have Z14 : n0 ≤ h14.size := Nat.le_trans Z12 (Keep.of_wr W14).1
  have G14_a1_bytes := Fld.other W14 Gkc_a1_bytes (Or.inr (slot_ne (Or.inl (hw _ (List.mem_of_getElem? (i := 12) rfl))) (Or.inl (hw _ (List.mem_of_getElem? (i := 19) rfl))) (by decide) (t := (.array .byte)) (t' := .int) (by decide) (by decide)))
  have G14_a1_size := Fld.same W14 Gkc_a1_size
  have GE14_a1 := Exa.wr W14 GEkc_a1
  have Kf : Keep h0 h14 [a1, b] := Keep.wr Kc2 W14 (Or.inl (List.mem_of_getElem? (i := 0) rfl))
  have Bf := own_other Bc W14 (Ne.symm ne_ab)
  obtain ⟨fs, hr, hrun, hended, hW, hsame⟩ := X14.leave (v := none) (fun _ => rfl)
  refine ⟨_, _, pre0 _ ?_, hrun, hended, _, _, rfl, ?_, ⟨_, rfl⟩, hW, hsame.mono (by decide) (by decide)⟩
  · show Steps p.tables e below (s₁.setTop (mkF m 0 #[.val (.ref a1), .val (.ref a2), .val (.int p3), .unset] [])) _
    refine XS.aloadN X0.here hx rfl (hb hby d3_0) rfl rfl ?_
    show Steps p.tables e below (s₁.setTop (mkF m 1 #[.val (.ref a1), .val (.ref a2), .val (.int p3), .unset] [(.ref a1)])) _
    refine st7 _ ?_
    show Steps p.tables e below (T7.setTop (mkF m 4 #[.val (.ref a1), .val (.ref a2), .val (.int p3), .unset] [(.int sz)])) _
    refine XS.i2l X7.here hx rfl (hb hby d3_4) rfl ?_
    show Steps p.tables e below (T7.setTop (mkF m 5 #[.val (.ref a1), .val (.ref a2), .val (.int p3), .unset] [(.long (sz.toInt64))])) _
    refine XS.iloadN X7.here hx rfl (hb hby d3_5) rfl ?_
    show Steps p.tables e below (T7.setTop (mkF m 6 #[.val (.ref a1), .val (.ref a2), .val (.int p3), .unset] [(.int p3), (.long (sz.toInt64))])) _
    refine XS.i2l X7.here hx rfl (hb hby d3_6) rfl ?_
    show Steps p.tables e below (T7.setTop (mkF m 7 #[.val (.ref a1), .val (.ref a2), .val (.int p3), .unset] [(.long (p3.toInt64)), (.long (sz.toInt64))])) _
    refine XS.ladd X7.here hx rfl (hb hby d3_7) rfl ?_
    show Steps p.tables e below (T7.setTop (mkF m 8 #[.val (.ref a1), .val (.ref a2), .val (.int p3), .unset] [(.long ((sz.toInt64) + (p3.toInt64)))])) _
    refine X7.ldc2Long hx hown (mvT hZ (hw _ (List.mem_of_getElem? (i := 10) rfl))) (g := (mkF m 8 #[.val (.ref a1), .val (.ref a2), .val (.int p3), .unset] [(.long ((sz.toInt64) + (p3.toInt64)))])) rfl (hb hby d3_8) _ ?_
    show Steps p.tables e below (T7.setTop (mkF m 11 #[.val (.ref a1), .val (.ref a2), .val (.int p3), .unset] [(.long (16777216 : Int64)), (.long ((sz.toInt64) + (p3.toInt64)))])) _
    refine XS.lcmp X7.here hx rfl (hb hby d3_11) rfl ?_
    show Steps p.tables e below (T7.setTop (mkF m 12 #[.val (.ref a1), .val (.ref a2), .val (.int p3), .unset] [(.int (lcmpW ((sz.toInt64) + (p3.toInt64)) (16777216 : Int64)))])) _
    refine XS.ifYes X7.here hx rfl (pc0 := 12) (pc' := 23) rfl (hb hby d3_12) rfl ((if0 _ _).trans (flt (fun q => own_max hs2 hl2 hs1 hl1 ((lw_gt _ _).mp q) : ¬ ((0 : Int32) < (lcmpW ((sz.toInt64) + (p3.toInt64)) (16777216 : Int64))))).2.2.2) (by decide) (by decide) ?_
    show Steps p.tables e below (T7.setTop (mkF m 23 #[.val (.ref a1), .val (.ref a2), .val (.int p3), .unset] [])) _
    refine XS.aloadN X7.here hx rfl (hb hby d3_23) rfl rfl ?_
    show Steps p.tables e below (T7.setTop (mkF m 24 #[.val (.ref a1), .val (.ref a2), .val (.int p3), .unset] [(.ref a1)])) _
    refine st8 _ ?_
    show Steps p.tables e below (T8.setTop (mkF m 27 #[.val (.ref a1), .val (.ref a2), .val (.int p3), .unset] [(.int sz)])) _
    refine XS.iloadN X8.here hx rfl (hb hby d3_27) rfl ?_
    show Steps p.tables e below (T8.setTop (mkF m 28 #[.val (.ref a1), .val (.ref a2), .val (.int p3), .unset] [(.int p3), (.int sz)])) _
    refine XS.iadd X8.here hx rfl (hb hby d3_28) rfl ?_
    show Steps p.tables e below (T8.setTop (mkF m 29 #[.val (.ref a1), .val (.ref a2), .val (.int p3), .unset] [(.int (sz + p3))])) _
    refine XS.aloadN X8.here hx rfl (hb hby d3_29) rfl rfl ?_
    show Steps p.tables e below (T8.setTop (mkF m 30 #[.val (.ref a1), .val (.ref a2), .val (.int p3), .unset] [(.ref a1), (.int (sz + p3))])) _
    refine st9 _ ?_
    show Steps p.tables e below (T9.setTop (mkF m 33 #[.val (.ref a1), .val (.ref a2), .val (.int p3), .unset] [(.ref b), (.int (sz + p3))])) _
    refine X9.arraylength hx (by rw [e9]; exact Arx.1) (State.isArrayOf_alike hZ.alike Arx.2.1) (g := (mkF m 33 #[.val (.ref a1), .val (.ref a2), .val (.int p3), .unset] [(.ref b), (.int (sz + p3))])) rfl rfl (hb hby d3_33) _ ?_
    rw [len_of Sx Mx]
    show Steps p.tables e below (T9.setTop (mkF m 34 #[.val (.ref a1), .val (.ref a2), .val (.int p3), .unset] [(.int z), (.int (sz + p3))])) _
    refine XS.icmpYes X9.here hx rfl (pc0 := 34) (pc' := 77) rfl (hb hby d3_34) rfl (flt (hc : ¬ (z < (sz + p3)))).2.2.2 (by decide) (by decide) ?_
    show Steps p.tables e below (T9.setTop (mkF m 77 #[.val (.ref a1), .val (.ref a2), .val (.int p3), .unset] [])) _
    refine XS.aloadN X9.here hx rfl (hb hby d3_77) rfl rfl ?_
    show Steps p.tables e below (T9.setTop (mkF m 78 #[.val (.ref a1), .val (.ref a2), .val (.int p3), .unset] [(.ref a2)])) _
    refine XS.iconst X9.here hx rfl (hb hby d3_78) ?_
    show Steps p.tables e below (T9.setTop (mkF m 79 #[.val (.ref a1), .val (.ref a2), .val (.int p3), .unset] [(.int (0 : Int32)), (.ref a2)])) _
    refine XS.aloadN X9.here hx rfl (hb hby d3_79) rfl rfl ?_
    show Steps p.tables e below (T9.setTop (mkF m 80 #[.val (.ref a1), .val (.ref a2), .val (.int p3), .unset] [(.ref a1), (.int (0 : Int32)), (.ref a2)])) _
    refine st10 _ ?_
    show Steps p.tables e below (T10.setTop (mkF m 83 #[.val (.ref a1), .val (.ref a2), .val (.int p3), .unset] [(.ref b), (.int (0 : Int32)), (.ref a2)])) _
    refine XS.aloadN X10.here hx rfl (hb hby d3_83) rfl rfl ?_
    show Steps p.tables e below (T10.setTop (mkF m 84 #[.val (.ref a1), .val (.ref a2), .val (.int p3), .unset] [(.ref a1), (.ref b), (.int (0 : Int32)), (.ref a2)])) _
    refine st11 _ ?_
    show Steps p.tables e below (T11.setTop (mkF m 87 #[.val (.ref a1), .val (.ref a2), .val (.int p3), .unset] [(.int sz), (.ref b), (.int (0 : Int32)), (.ref a2)])) _
    refine XS.iloadN X11.here hx rfl (hb hby d3_87) rfl ?_
    show Steps p.tables e below (T11.setTop (mkF m 88 #[.val (.ref a1), .val (.ref a2), .val (.int p3), .unset] [(.int p3), (.int sz), (.ref b), (.int (0 : Int32)), (.ref a2)])) _
    refine st12 _ ?_
    show Steps p.tables e below (T12.setTop (mkF m 91 #[.val (.ref a1), .val (.ref a2), .val (.int p3), .unset] [])) _
    refine XS.aloadN X12.here hx rfl (hb hby d3_91) rfl rfl ?_
    show Steps p.tables e below (T12.setTop (mkF m 92 #[.val (.ref a1), .val (.ref a2), .val (.int p3), .unset] [(.ref a1)])) _
    refine XS.dup X12.here hx rfl (hb hby d3_92) rfl rfl ?_
    show Steps p.tables e below (T12.setTop (mkF m 93 #[.val (.ref a1), .val (.ref a2), .val (.int p3), .unset] [(.ref a1), (.ref a1)])) _
    refine st13 _ ?_
    show Steps p.tables e below (T13.setTop (mkF m 96 #[.val (.ref a1), .val (.ref a2), .val (.int p3), .unset] [(.int sz), (.ref a1)])) _
    refine XS.iloadN X13.here hx rfl (hb hby d3_96) rfl ?_
    show Steps p.tables e below (T13.setTop (mkF m 97 #[.val (.ref a1), .val (.ref a2), .val (.int p3), .unset] [(.int p3), (.int sz), (.ref a1)])) _
    refine XS.iadd X13.here hx rfl (hb hby d3_97) rfl ?_
    show Steps p.tables e below (T13.setTop (mkF m 98 #[.val (.ref a1), .val (.ref a2), .val (.int p3), .unset] [(.int (sz + p3)), (.ref a1)])) _
    refine st14 _ ?_
    show Steps p.tables e below (T14.setTop (mkF m 101 #[.val (.ref a1), .val (.ref a2), .val (.int p3), .unset] [])) _
    exact X14.returnOut hx Bd.returns (hb hby d3_101) hr
  · show Q_3a Z a1 a2 p3 b z sz f gf h0 n0 _ T14.heap _
    rw [e14]
    exact ⟨rfl, N14, b, z, _, g_b, Or.inl rfl, Kf, ⟨ne_ab, GE14_a1, G14_a1_bytes, G14_a1_size, Bf⟩, hz1, hz2, own_le hc, fun j q => own_cplo q, fun j q => own_cphi q⟩
theorem d3_37 : decode prog_4_method_3_code 37 = .ok (.ldc2_w 35, 3) := by decide +kernel
theorem d3_40 : decode prog_4_method_3_code 40 = .ok (.aload_n 0, 1) := by decide +kernel
theorem d3_41 : decode prog_4_method_3_code 41 = .ok (.getfield 22, 3) := by decide +kernel
theorem d3_44 : decode prog_4_method_3_code 44 = .ok (.arraylength, 1) := by decide +kernel
theorem d3_45 : decode prog_4_method_3_code 45 = .ok (.i2l, 1) := by decide +kernel
theorem d3_46 : decode prog_4_method_3_code 46 = .ok (.lmul, 1) := by decide +kernel
theorem d3_47 : decode prog_4_method_3_code 47 = .ok (.aload_n 0, 1) := by decide +kernel
theorem d3_48 : decode prog_4_method_3_code 48 = .ok (.getfield 28, 3) := by decide +kernel
theorem d3_51 : decode prog_4_method_3_code 51 = .ok (.iload_n 2, 1) := by decide +kernel
theorem d3_52 : decode prog_4_method_3_code 52 = .ok (.iadd, 1) := by decide +kernel
theorem d3_53 : decode prog_4_method_3_code 53 = .ok (.i2l, 1) := by decide +kernel
theorem pd_1 : parseMethodDescriptor "(JJ)J" = some ⟨[.long, .long], some .long⟩ := by decide +kernel
theorem d3_54 : decode prog_4_method_3_code 54 = .ok (.invokestatic 37, 3) := by decide +kernel
theorem d3_57 : decode prog_4_method_3_code 57 = .ok (.ldc2_w 9, 3) := by decide +kernel
theorem d3_60 : decode prog_4_method_3_code 60 = .ok (.invokestatic 43, 3) := by decide +kernel
theorem d3_63 : decode prog_4_method_3_code 63 = .ok (.l2i, 1) := by decide +kernel
theorem d3_64 : decode prog_4_method_3_code 64 = .ok (.istore_n 3, 1) := by decide +kernel
theorem d3_65 : decode prog_4_method_3_code 65 = .ok (.aload_n 0, 1) := by decide +kernel
theorem d3_66 : decode prog_4_method_3_code 66 = .ok (.aload_n 0, 1) := by decide +kernel
theorem d3_67 : decode prog_4_method_3_code 67 = .ok (.getfield 22, 3) := by decide +kernel
theorem d3_70 : decode prog_4_method_3_code 70 = .ok (.iload_n 3, 1) := by decide +kernel
theorem pd_2 : parseMethodDescriptor "([BI)[B" = some ⟨[(.array .byte), .int], some (.array .byte)⟩ := by decide +kernel
theorem d3_71 : decode prog_4_method_3_code 71 = .ok (.invokestatic 46, 3) := by decide +kernel
theorem d3_74 : decode prog_4_method_3_code 74 = .ok (.putfield 22, 3) := by decide +kernel
theorem ef_3b (m : MethodId) (a1 : Addr) (a2 : Addr) (p3 : Int32) : entryFrame m #[(.ref a1), (.ref a2), (.int p3)] 4 = mkF m 0 #[.val (.ref a1), .val (.ref a2), .val (.int p3), .unset] [] := by first | (simp [entryFrame, mkF, argsToLocals, Value.category]; done) | rfl
set_option maxRecDepth 65536 in
set_option maxHeartbeats 40000000 in
theorem rm_3b (l : Launch) (Z : State) (a0 : Array Value) (hw : ∀ d ∈ tables_1, d.before a0 Z = true) (ws : List Jvm.Cond) (a1 : Addr) (a2 : Addr) (p3 : Int32) (b : Addr) (z sz : Int32) (f gf : Nat → Int32) (h0 : Heap) (n0 : Nat) (Z0 : n0 ≤ h0.size) (R0 : own_R Z h0 a1 b z sz f) (B2 : own_B Z h0 a2 (4 : Int32) gf) (nb : a2 ≠ b) (na : a2 ≠ a1) (g_a1 : n0 ≤ a1) (g_b : n0 ≤ b) (hs1 : 0 ≤ sz.toInt) (hs2 : sz.toInt ≤ 4) (hl1 : 0 ≤ p3.toInt) (hl2 : p3.toInt ≤ 4) (hz1 : 0 ≤ z.toInt) (hz2 : z.toInt ≤ 8192) (hsz : sz.toInt ≤ z.toInt) (hc : z < (sz + p3)) :
    MetFree l (⟨"com/example/tympan/tympan/BodyLimit$Received", "add", "([BI)V"⟩ : MethodName) (head1 (Jvm.Cond.code (⟨"com/example/tympan/tympan/BodyLimit$Received", "add", "([BI)V"⟩ : MethodName) prog_4_method_3_code 4 none :: ws) ({ frames := 2, cells := 1, slots := 16, locals := 90 } : Room)) (fun a U => a = #[(.ref a1), (.ref a2), (.int p3)] ∧ Z.Warmed39 U.vm ∧ U.heap = h0) (fun _ _ _ _ _ => True) (fun _ U o U' => ∃ v L, o = .returned v ∧ Q_3a Z a1 a2 p3 b z sz f gf h0 n0 v U'.heap L ∧ FrameEnd U o U' L ({ frames := 2, cells := 1, slots := 16, locals := 90 } : Room).cells ({ frames := 2, cells := 1, slots := 16, locals := 90 } : Room).slots) := by
  refine MetFree.of_bodySF (plainFor_of_name pn_1) hisR ?_
  intro p e s m args below meth c s₁ Bd hml0 hP hK
  obtain ⟨rfl, hZ, hh⟩ := hP
  have hx := Bd.exec
  have hby := Bd.bytes
  have hml : c.maxLocals = 4 := hml0
  have hown : s.vm.findClass "com/example/tympan/tympan/BodyLimit$Received" = some m.cls := findClass_of_methodNamed Bd.named
  have hnm := (name_of_methodNamed Bd.named Bd.method).1
  have X0 : Stand p l e ({ frames := 2, cells := 1, slots := 16, locals := 90 } : Room) s m #[(.ref a1), (.ref a2), (.int p3)] below meth c s₁ [] 0 0 := Stand.of_body Bd
  have e0 : s₁.heap = h0 := by rw [← hh, Bd.state]; rfl
  have N0 := Fr.nil n0
  have pre0 : ∀ t, Steps p.tables e below (s₁.setTop (mkF m 0 #[.val (.ref a1), .val (.ref a2), .val (.int p3), .unset] [])) t → Steps p.tables e below (s₁.setTop (entryFrame m #[(.ref a1), (.ref a2), (.int p3)] 4)) t := fun t k => castTop (ef_3b m a1 a2 p3) k
  obtain ⟨ne_ab, E_a, F_b, F_s, Bb⟩ := R0
  obtain ⟨clx, Arx, Sx, Mx, Hx⟩ := own_open Bb
  have ha := own_add4 hs1 hs2 hl1 hl2
  obtain ⟨gg, hgg⟩ : ∃ y : Int32, y = ((own_minL (own_maxL ((2 : Int64) * (z.toInt64)) ((sz + p3).toInt64)) (16777216 : Int64)).toInt32) := ⟨_, rfl⟩
  obtain ⟨hg1, hg2, hg3⟩ := own_grown hz1 hc ha hgg hs1 hs2 hl1 hl2
  obtain ⟨T15, X15, e15, st15⟩ := getF X0 hx hZ hown (host := "") (Or.inl (hw _ (List.mem_of_getElem? (i := 18) rfl))) Via.refl e0 F_s (g := (mkF m 1 #[.val (.ref a1), .val (.ref a2), .val (.int p3), .unset] [(.ref a1)])) rfl rfl (hb hby d3_1)
  obtain ⟨T16, X16, e16, st16⟩ := getF X15 hx hZ hown (host := "") (Or.inl (hw _ (List.mem_of_getElem? (i := 18) rfl))) Via.refl e15 F_s (g := (mkF m 24 #[.val (.ref a1), .val (.ref a2), .val (.int p3), .unset] [(.ref a1)])) rfl rfl (hb hby d3_24)
  obtain ⟨T17, X17, e17, st17⟩ := getF X16 hx hZ hown (host := "") (Or.inl (hw _ (List.mem_of_getElem? (i := 11) rfl))) Via.refl e16 F_b (g := (mkF m 30 #[.val (.ref a1), .val (.ref a2), .val (.int p3), .unset] [(.ref a1), (.int (sz + p3))])) rfl rfl (hb hby d3_30)
  obtain ⟨T18, X18, e18, st18⟩ := getF X17 hx hZ hown (host := "") (Or.inl (hw _ (List.mem_of_getElem? (i := 11) rfl))) Via.refl e17 F_b (g := (mkF m 41 #[.val (.ref a1), .val (.ref a2), .val (.int p3), .unset] [(.ref a1), (.long (2 : Int64))])) rfl rfl (hb hby d3_41)
  obtain ⟨T19, X19, e19, st19⟩ := getF X18 hx hZ hown (host := "") (Or.inl (hw _ (List.mem_of_getElem? (i := 18) rfl))) Via.refl e18 F_s (g := (mkF m 48 #[.val (.ref a1), .val (.ref a2), .val (.int p3), .unset] [(.ref a1), (.long ((2 : Int64) * (z.toInt64)))])) rfl rfl (hb hby d3_48)
  obtain ⟨_, _, ⟨T20, L20, k20, n20⟩, -, X20, ⟨Lc20, hQ20, l20, y20, z20⟩, st20⟩ := Jvm.LawKit.callS X19 hx (y := (⟨"java/lang/Math", "max", "(JJ)J"⟩ : MethodName)) hown (mvT hZ (hw _ (List.mem_of_getElem? (i := 49) rfl))) (mvT hZ (hw _ (List.mem_of_getElem? (i := 50) rfl))) (mvT hZ (hw _ (List.mem_of_getElem? (i := 45) rfl))) (mvT hZ (hw _ (List.mem_of_getElem? (i := 51) rfl))) (by decide) (backOf (W := 0) (rm_9 l Z a0 hw [] ((2 : Int64) * (z.toInt64)) ((sz + p3).toInt64) h0 n0 Z0) hZ (hw _ (List.mem_of_getElem? (i := 51) rfl)) (hw _ (List.mem_of_getElem? (i := 45) rfl)) (by decide) (by decide)) (g := (mkF m 54 #[.val (.ref a1), .val (.ref a2), .val (.int p3), .unset] [(.long ((sz + p3).toInt64)), (.long ((2 : Int64) * (z.toInt64)))])) rfl (by rw [hml]; rfl) (argsL := [(.long ((2 : Int64) * (z.toInt64))), (.long ((sz + p3).toInt64))]) (rest := []) (lenOf pd_1 rfl) rfl (by show 2 * 0 + _ ≤ _; exact Nat.le_of_eq rfl) (hb hby d3_54) (fun _ _ => ⟨rfl, e19, (by decide : 0 + 0 ≤ _), (by decide : 0 + 0 ≤ _)⟩)
  dsimp only [Pt.U, Pt.locs, Pt.cells, Pt.slots] at X20 l20 y20 z20 st20 hQ20
  subst l20 y20 z20
  obtain ⟨rfl, N20q, em9⟩ := hQ20
  have N20 := Fr.app N0 N20q
  obtain ⟨_, _, ⟨T21, L21, k21, n21⟩, -, X21, ⟨Lc21, hQ21, l21, y21, z21⟩, st21⟩ := Jvm.LawKit.callS X20 hx (y := (⟨"java/lang/Math", "min", "(JJ)J"⟩ : MethodName)) hown (mvT hZ (hw _ (List.mem_of_getElem? (i := 52) rfl))) (mvT hZ (hw _ (List.mem_of_getElem? (i := 53) rfl))) (mvT hZ (hw _ (List.mem_of_getElem? (i := 45) rfl))) (mvT hZ (hw _ (List.mem_of_getElem? (i := 54) rfl))) (by decide) (backOf (W := 0) (rm_10 l Z a0 hw [] (own_maxL ((2 : Int64) * (z.toInt64)) ((sz + p3).toInt64)) (16777216 : Int64) h0 n0 Z0) hZ (hw _ (List.mem_of_getElem? (i := 54) rfl)) (hw _ (List.mem_of_getElem? (i := 45) rfl)) (by decide) (by decide)) (g := (mkF m 60 #[.val (.ref a1), .val (.ref a2), .val (.int p3), .unset] [(.long (16777216 : Int64)), (.long (own_maxL ((2 : Int64) * (z.toInt64)) ((sz + p3).toInt64)))])) rfl (by rw [hml]; rfl) (argsL := [(.long (own_maxL ((2 : Int64) * (z.toInt64)) ((sz + p3).toInt64))), (.long (16777216 : Int64))]) (rest := []) (lenOf pd_1 rfl) rfl (by show 2 * 0 + _ ≤ _; exact Nat.le_of_eq rfl) (hb hby d3_60) (fun _ _ => ⟨rfl, em9, (by decide : 0 + 0 ≤ _), (by decide : 0 + 0 ≤ _)⟩)
  dsimp only [Pt.U, Pt.locs, Pt.cells, Pt.slots] at X21 l21 y21 z21 st21 hQ21
  subst l21 y21 z21
  obtain ⟨rfl, N21q, em10⟩ := hQ21
  have N21 := Fr.app N20 N21q
  obtain ⟨T22, X22, e22, st22⟩ := getF X21 hx hZ hown (host := "") (Or.inl (hw _ (List.mem_of_getElem? (i := 11) rfl))) Via.refl em10 F_b (g := (mkF m 67 #[.val (.ref a1), .val (.ref a2), .val (.int p3), .val (.int gg)] [(.ref a1), (.ref a1)])) rfl rfl (hb hby d3_67)
  obtain ⟨_, _, ⟨T23, L23, k23, n23⟩, -, X23, ⟨Lc23, hQ23, l23, y23, z23⟩, st23⟩ := Jvm.LawKit.callS X22 hx (y := (⟨"java/util/Arrays", "copyOf", "([BI)[B"⟩ : MethodName)) hown (mvT hZ (hw _ (List.mem_of_getElem? (i := 39) rfl))) (mvT hZ (hw _ (List.mem_of_getElem? (i := 40) rfl))) (mvT hZ (hw _ (List.mem_of_getElem? (i := 41) rfl))) (mvT hZ (hw _ (List.mem_of_getElem? (i := 42) rfl))) (by decide) (backOf (W := 1) (rm_7 l Z a0 hw [] b gg z f h0 n0 Z0 Bb (own_gne hg1) (own_g0 hg1 hz1) hg3) hZ (hw _ (List.mem_of_getElem? (i := 42) rfl)) (hw _ (List.mem_of_getElem? (i := 41) rfl)) (by decide) (by decide)) (g := (mkF m 71 #[.val (.ref a1), .val (.ref a2), .val (.int p3), .val (.int gg)] [(.int gg), (.ref b), (.ref a1)])) rfl (by rw [hml]; rfl) (argsL := [(.ref b), (.int gg)]) (rest := [(.ref a1)]) (lenOf pd_2 rfl) rfl (by show 2 * 0 + _ ≤ _; exact Nat.le_of_eq rfl) (hb hby d3_71) (fun _ _ => ⟨rfl, e22, (by decide : 0 + 1 ≤ _), (by decide : 0 + 16 ≤ _)⟩)
  dsimp only [Pt.U, Pt.locs, Pt.cells, Pt.slots] at X23 l23 y23 z23 st23 hQ23
  subst l23 y23 z23
  obtain ⟨d, rfl, N23q, g_d, szd, Kd, fd, Bd1, hfd⟩ := hQ23
  have N23 := Fr.app N21 N23q
  have Z23 : n0 ≤ T23.heap.size := Nat.le_trans Z0 Kd.1
  have Gkd_a1_bytes := Fld.keep F_b Kd nin0
  have Gkd_a1_size := Fld.keep F_s Kd nin0
  have GEkd_a1 := Exa.keep E_a Kd
  have ne_ad : a1 ≠ d := Nat.ne_of_lt (Nat.lt_of_lt_of_le E_a.lt szd)
  have B2d := own_keep B2 Kd nin0
  obtain ⟨T24, h24, X24, e24, W24, st24⟩ := putF X23 hx hZ hown (host := "") (Or.inl (hw _ (List.mem_of_getElem? (i := 11) rfl))) Via.refl rfl Gkd_a1_bytes GEkd_a1 (Or.inl (hw _ (List.mem_of_getElem? (i := 12) rfl))) (hw _ (List.mem_of_getElem? (i := 2) rfl)) (ty := (.array .byte)) (by decide) rfl rfl (g := (mkF m 74 #[.val (.ref a1), .val (.ref a2), .val (.int p3), .val (.int gg)] [(.ref d), (.ref a1)])) rfl rfl (hb hby d3_74)
  have N24 := Fr.snoc X24 N23 g_a1
  have Z24 : n0 ≤ h24.size := Nat.le_trans Z23 (Keep.of_wr W24).1
  have G24_a1_bytes := Fld.same W24 Gkd_a1_bytes
  have G24_a1_size := Fld.other W24 Gkd_a1_size (Or.inr (slot_ne (Or.inl (hw _ (List.mem_of_getElem? (i := 19) rfl))) (Or.inl (hw _ (List.mem_of_getElem? (i := 12) rfl))) (by decide) (t := .int) (t' := (.array .byte)) (by decide) (by decide)))
  have GE24_a1 := Exa.wr W24 GEkd_a1
  have Bd2 := own_other Bd1 W24 (Ne.symm ne_ad)
  have B2e := own_other B2d W24 na
  have K24 : Keep h0 h24 [a1, b] := Keep.wr ((Keep.refl h0 [a1, b]).trans Kd all0) W24 (Or.inl (List.mem_of_getElem? (i := 0) rfl))
  obtain ⟨T25, X25, e25, st25⟩ := getF X24 hx hZ hown (host := "") (Or.inl (hw _ (List.mem_of_getElem? (i := 11) rfl))) Via.refl e24 G24_a1_bytes (g := (mkF m 80 #[.val (.ref a1), .val (.ref a2), .val (.int p3), .val (.int gg)] [(.ref a1), (.int (0 : Int32)), (.ref a2)])) rfl rfl (hb hby d3_80)
  obtain ⟨T26, X26, e26, st26⟩ := getF X25 hx hZ hown (host := "") (Or.inl (hw _ (List.mem_of_getElem? (i := 18) rfl))) Via.refl e25 G24_a1_size (g := (mkF m 84 #[.val (.ref a1), .val (.ref a2), .val (.int p3), .val (.int gg)] [(.ref a1), (.ref d), (.int (0 : Int32)), (.ref a2)])) rfl rfl (hb hby d3_84)
  obtain ⟨T27, h27, L27, X27, e27, N27, Kc, Bc, st27⟩ := own_cp X26 hx hZ hown (hw _ (List.mem_of_getElem? (i := 20) rfl)) (hw _ (List.mem_of_getElem? (i := 23) rfl)) (hw _ (List.mem_of_getElem? (i := 21) rfl)) (hw _ (List.mem_of_getElem? (i := 22) rfl)) e26 B2e Bd2 (by decide) (own_nn hs1) (own_nn hl1) (own_src hl1 hl2) (own_dst hs1 hs2 hl1 hl2 (own_le hg2)) N24 g_d (g := (mkF m 88 #[.val (.ref a1), .val (.ref a2), .val (.int p3), .val (.int gg)] [(.int p3), (.int sz), (.ref d), (.int (0 : Int32)), (.ref a2)])) rfl (by rw [hml]; rfl) (rest := []) rfl (hb hby d3_88) (by decide) (W := 0) (by show 2 * 0 + _ ≤ _; exact Nat.le_of_eq rfl) (by decide)
  have Z27 : n0 ≤ h27.size := Nat.le_trans Z24 Kc.1
  have Gkc_a1_bytes := Fld.keep G24_a1_bytes Kc (ninS ne_ad nin0)
  have Gkc_a1_size := Fld.keep G24_a1_size Kc (ninS ne_ad nin0)
  have GEkc_a1 := Exa.keep GE24_a1 Kc
  have Kc2 : Keep h0 h27 [a1, b] := K24.trans Kc (allS (Or.inr szd) all0)
  obtain ⟨T28, X28, e28, st28⟩ := getF X27 hx hZ hown (host := "") (Or.inl (hw _ (List.mem_of_getElem? (i := 18) rfl))) Via.refl e27 Gkc_a1_size (g := (mkF m 93 #[.val (.ref a1), .val (.ref a2), .val (.int p3), .val (.int gg)] [(.ref a1), (.ref a1)])) rfl rfl (hb hby d3_93)
  obtain ⟨T29, h29, X29, e29, W29, st29⟩ := putF X28 hx hZ hown (host := "") (Or.inl (hw _ (List.mem_of_getElem? (i := 18) rfl))) Via.refl e28 Gkc_a1_size GEkc_a1 (Or.inl (hw _ (List.mem_of_getElem? (i := 19) rfl))) (hw _ (List.mem_of_getElem? (i := 2) rfl)) (ty := .int) (by decide) rfl rfl (g := (mkF m 98 #[.val (.ref a1), .val (.ref a2), .val (.int p3), .val (.int gg)] [(.int (sz + p3)), (.ref a1)])) rfl rfl (hb hby d3_98)
  have N29 := Fr.snoc X29 N27 g_a1
  have Z29 : n0 ≤ h29.size := Nat.le_trans Z27 (Keep.of_wr W29).1
  have G29_a1_bytes := Fld.other W29 Gkc_a1_bytes (Or.inr (slot_ne (Or.inl (hw _ (List.mem_of_getElem? (i := 12) rfl))) (Or.inl (hw _ (List.mem_of_getElem? (i := 19) rfl))) (by decide) (t := (.array .byte)) (t' := .int) (by decide) (by decide)))
  have G29_a1_size := Fld.same W29 Gkc_a1_size
  have GE29_a1 := Exa.wr W29 GEkc_a1
  have Kf : Keep h0 h29 [a1, b] := Keep.wr Kc2 W29 (Or.inl (List.mem_of_getElem? (i := 0) rfl))
  have Bf := own_other Bc W29 (Ne.symm ne_ad)
  obtain ⟨fs, hr, hrun, hended, hW, hsame⟩ := X29.leave (v := none) (fun _ => rfl)
  refine ⟨_, _, pre0 _ ?_, hrun, hended, _, _, rfl, ?_, ⟨_, rfl⟩, hW, hsame.mono (by decide) (by decide)⟩
  · show Steps p.tables e below (s₁.setTop (mkF m 0 #[.val (.ref a1), .val (.ref a2), .val (.int p3), .unset] [])) _
    refine XS.aloadN X0.here hx rfl (hb hby d3_0) rfl rfl ?_
    show Steps p.tables e below (s₁.setTop (mkF m 1 #[.val (.ref a1), .val (.ref a2), .val (.int p3), .unset] [(.ref a1)])) _
    refine st15 _ ?_
    show Steps p.tables e below (T15.setTop (mkF m 4 #[.val (.ref a1), .val (.ref a2), .val (.int p3), .unset] [(.int sz)])) _
    refine XS.i2l X15.here hx rfl (hb hby d3_4) rfl ?_
    show Steps p.tables e below (T15.setTop (mkF m 5 #[.val (.ref a1), .val (.ref a2), .val (.int p3), .unset] [(.long (sz.toInt64))])) _
    refine XS.iloadN X15.here hx rfl (hb hby d3_5) rfl ?_
    show Steps p.tables e below (T15.setTop (mkF m 6 #[.val (.ref a1), .val (.ref a2), .val (.int p3), .unset] [(.int p3), (.long (sz.toInt64))])) _
    refine XS.i2l X15.here hx rfl (hb hby d3_6) rfl ?_
    show Steps p.tables e below (T15.setTop (mkF m 7 #[.val (.ref a1), .val (.ref a2), .val (.int p3), .unset] [(.long (p3.toInt64)), (.long (sz.toInt64))])) _
    refine XS.ladd X15.here hx rfl (hb hby d3_7) rfl ?_
    show Steps p.tables e below (T15.setTop (mkF m 8 #[.val (.ref a1), .val (.ref a2), .val (.int p3), .unset] [(.long ((sz.toInt64) + (p3.toInt64)))])) _
    refine X15.ldc2Long hx hown (mvT hZ (hw _ (List.mem_of_getElem? (i := 10) rfl))) (g := (mkF m 8 #[.val (.ref a1), .val (.ref a2), .val (.int p3), .unset] [(.long ((sz.toInt64) + (p3.toInt64)))])) rfl (hb hby d3_8) _ ?_
    show Steps p.tables e below (T15.setTop (mkF m 11 #[.val (.ref a1), .val (.ref a2), .val (.int p3), .unset] [(.long (16777216 : Int64)), (.long ((sz.toInt64) + (p3.toInt64)))])) _
    refine XS.lcmp X15.here hx rfl (hb hby d3_11) rfl ?_
    show Steps p.tables e below (T15.setTop (mkF m 12 #[.val (.ref a1), .val (.ref a2), .val (.int p3), .unset] [(.int (lcmpW ((sz.toInt64) + (p3.toInt64)) (16777216 : Int64)))])) _
    refine XS.ifYes X15.here hx rfl (pc0 := 12) (pc' := 23) rfl (hb hby d3_12) rfl ((if0 _ _).trans (flt (fun q => own_max hs2 hl2 hs1 hl1 ((lw_gt _ _).mp q) : ¬ ((0 : Int32) < (lcmpW ((sz.toInt64) + (p3.toInt64)) (16777216 : Int64))))).2.2.2) (by decide) (by decide) ?_
    show Steps p.tables e below (T15.setTop (mkF m 23 #[.val (.ref a1), .val (.ref a2), .val (.int p3), .unset] [])) _
    refine XS.aloadN X15.here hx rfl (hb hby d3_23) rfl rfl ?_
    show Steps p.tables e below (T15.setTop (mkF m 24 #[.val (.ref a1), .val (.ref a2), .val (.int p3), .unset] [(.ref a1)])) _
    refine st16 _ ?_
    show Steps p.tables e below (T16.setTop (mkF m 27 #[.val (.ref a1), .val (.ref a2), .val (.int p3), .unset] [(.int sz)])) _
    refine XS.iloadN X16.here hx rfl (hb hby d3_27) rfl ?_
    show Steps p.tables e below (T16.setTop (mkF m 28 #[.val (.ref a1), .val (.ref a2), .val (.int p3), .unset] [(.int p3), (.int sz)])) _
    refine XS.iadd X16.here hx rfl (hb hby d3_28) rfl ?_
    show Steps p.tables e below (T16.setTop (mkF m 29 #[.val (.ref a1), .val (.ref a2), .val (.int p3), .unset] [(.int (sz + p3))])) _
    refine XS.aloadN X16.here hx rfl (hb hby d3_29) rfl rfl ?_
    show Steps p.tables e below (T16.setTop (mkF m 30 #[.val (.ref a1), .val (.ref a2), .val (.int p3), .unset] [(.ref a1), (.int (sz + p3))])) _
    refine st17 _ ?_
    show Steps p.tables e below (T17.setTop (mkF m 33 #[.val (.ref a1), .val (.ref a2), .val (.int p3), .unset] [(.ref b), (.int (sz + p3))])) _
    refine X17.arraylength hx (by rw [e17]; exact Arx.1) (State.isArrayOf_alike hZ.alike Arx.2.1) (g := (mkF m 33 #[.val (.ref a1), .val (.ref a2), .val (.int p3), .unset] [(.ref b), (.int (sz + p3))])) rfl rfl (hb hby d3_33) _ ?_
    rw [len_of Sx Mx]
    show Steps p.tables e below (T17.setTop (mkF m 34 #[.val (.ref a1), .val (.ref a2), .val (.int p3), .unset] [(.int z), (.int (sz + p3))])) _
    refine XS.icmpNo X17.here hx rfl (hb hby d3_34) rfl (tlt (hc : z < (sz + p3))).2.2.2 ?_
    show Steps p.tables e below (T17.setTop (mkF m 37 #[.val (.ref a1), .val (.ref a2), .val (.int p3), .unset] [])) _
    refine X17.ldc2Long hx hown (mvT hZ (hw _ (List.mem_of_getElem? (i := 48) rfl))) (g := (mkF m 37 #[.val (.ref a1), .val (.ref a2), .val (.int p3), .unset] [])) rfl (hb hby d3_37) _ ?_
    show Steps p.tables e below (T17.setTop (mkF m 40 #[.val (.ref a1), .val (.ref a2), .val (.int p3), .unset] [(.long (2 : Int64))])) _
    refine XS.aloadN X17.here hx rfl (hb hby d3_40) rfl rfl ?_
    show Steps p.tables e below (T17.setTop (mkF m 41 #[.val (.ref a1), .val (.ref a2), .val (.int p3), .unset] [(.ref a1), (.long (2 : Int64))])) _
    refine st18 _ ?_
    show Steps p.tables e below (T18.setTop (mkF m 44 #[.val (.ref a1), .val (.ref a2), .val (.int p3), .unset] [(.ref b), (.long (2 : Int64))])) _
    refine X18.arraylength hx (by rw [e18]; exact Arx.1) (State.isArrayOf_alike hZ.alike Arx.2.1) (g := (mkF m 44 #[.val (.ref a1), .val (.ref a2), .val (.int p3), .unset] [(.ref b), (.long (2 : Int64))])) rfl rfl (hb hby d3_44) _ ?_
    rw [len_of Sx Mx]
    show Steps p.tables e below (T18.setTop (mkF m 45 #[.val (.ref a1), .val (.ref a2), .val (.int p3), .unset] [(.int z), (.long (2 : Int64))])) _
    refine XS.i2l X18.here hx rfl (hb hby d3_45) rfl ?_
    show Steps p.tables e below (T18.setTop (mkF m 46 #[.val (.ref a1), .val (.ref a2), .val (.int p3), .unset] [(.long (z.toInt64)), (.long (2 : Int64))])) _
    refine XS.lmul X18.here hx rfl (hb hby d3_46) rfl ?_
    show Steps p.tables e below (T18.setTop (mkF m 47 #[.val (.ref a1), .val (.ref a2), .val (.int p3), .unset] [(.long ((2 : Int64) * (z.toInt64)))])) _
    refine XS.aloadN X18.here hx rfl (hb hby d3_47) rfl rfl ?_
    show Steps p.tables e below (T18.setTop (mkF m 48 #[.val (.ref a1), .val (.ref a2), .val (.int p3), .unset] [(.ref a1), (.long ((2 : Int64) * (z.toInt64)))])) _
    refine st19 _ ?_
    show Steps p.tables e below (T19.setTop (mkF m 51 #[.val (.ref a1), .val (.ref a2), .val (.int p3), .unset] [(.int sz), (.long ((2 : Int64) * (z.toInt64)))])) _
    refine XS.iloadN X19.here hx rfl (hb hby d3_51) rfl ?_
    show Steps p.tables e below (T19.setTop (mkF m 52 #[.val (.ref a1), .val (.ref a2), .val (.int p3), .unset] [(.int p3), (.int sz), (.long ((2 : Int64) * (z.toInt64)))])) _
    refine XS.iadd X19.here hx rfl (hb hby d3_52) rfl ?_
    show Steps p.tables e below (T19.setTop (mkF m 53 #[.val (.ref a1), .val (.ref a2), .val (.int p3), .unset] [(.int (sz + p3)), (.long ((2 : Int64) * (z.toInt64)))])) _
    refine XS.i2l X19.here hx rfl (hb hby d3_53) rfl ?_
    show Steps p.tables e below (T19.setTop (mkF m 54 #[.val (.ref a1), .val (.ref a2), .val (.int p3), .unset] [(.long ((sz + p3).toInt64)), (.long ((2 : Int64) * (z.toInt64)))])) _
    refine st20 _ ?_
    show Steps p.tables e below (T20.setTop (mkF m 57 #[.val (.ref a1), .val (.ref a2), .val (.int p3), .unset] [(.long (own_maxL ((2 : Int64) * (z.toInt64)) ((sz + p3).toInt64)))])) _
    refine X20.ldc2Long hx hown (mvT hZ (hw _ (List.mem_of_getElem? (i := 10) rfl))) (g := (mkF m 57 #[.val (.ref a1), .val (.ref a2), .val (.int p3), .unset] [(.long (own_maxL ((2 : Int64) * (z.toInt64)) ((sz + p3).toInt64)))])) rfl (hb hby d3_57) _ ?_
    show Steps p.tables e below (T20.setTop (mkF m 60 #[.val (.ref a1), .val (.ref a2), .val (.int p3), .unset] [(.long (16777216 : Int64)), (.long (own_maxL ((2 : Int64) * (z.toInt64)) ((sz + p3).toInt64)))])) _
    refine st21 _ ?_
    show Steps p.tables e below (T21.setTop (mkF m 63 #[.val (.ref a1), .val (.ref a2), .val (.int p3), .unset] [(.long (own_minL (own_maxL ((2 : Int64) * (z.toInt64)) ((sz + p3).toInt64)) (16777216 : Int64)))])) _
    refine XS.l2i X21.here hx rfl (hb hby d3_63) rfl ?_
    show Steps p.tables e below (T21.setTop (mkF m 64 #[.val (.ref a1), .val (.ref a2), .val (.int p3), .unset] [(.int ((own_minL (own_maxL ((2 : Int64) * (z.toInt64)) ((sz + p3).toInt64)) (16777216 : Int64)).toInt32))])) _
    rw [← hgg]
    show Steps p.tables e below (T21.setTop (mkF m 64 #[.val (.ref a1), .val (.ref a2), .val (.int p3), .unset] [(.int gg)])) _
    refine XS.istoreN X21.here hx rfl (hb hby d3_64) rfl (l' := #[.val (.ref a1), .val (.ref a2), .val (.int p3), .val (.int gg)]) rfl ?_
    show Steps p.tables e below (T21.setTop (mkF m 65 #[.val (.ref a1), .val (.ref a2), .val (.int p3), .val (.int gg)] [])) _
    refine XS.aloadN X21.here hx rfl (hb hby d3_65) rfl rfl ?_
    show Steps p.tables e below (T21.setTop (mkF m 66 #[.val (.ref a1), .val (.ref a2), .val (.int p3), .val (.int gg)] [(.ref a1)])) _
    refine XS.aloadN X21.here hx rfl (hb hby d3_66) rfl rfl ?_
    show Steps p.tables e below (T21.setTop (mkF m 67 #[.val (.ref a1), .val (.ref a2), .val (.int p3), .val (.int gg)] [(.ref a1), (.ref a1)])) _
    refine st22 _ ?_
    show Steps p.tables e below (T22.setTop (mkF m 70 #[.val (.ref a1), .val (.ref a2), .val (.int p3), .val (.int gg)] [(.ref b), (.ref a1)])) _
    refine XS.iloadN X22.here hx rfl (hb hby d3_70) rfl ?_
    show Steps p.tables e below (T22.setTop (mkF m 71 #[.val (.ref a1), .val (.ref a2), .val (.int p3), .val (.int gg)] [(.int gg), (.ref b), (.ref a1)])) _
    refine st23 _ ?_
    show Steps p.tables e below (T23.setTop (mkF m 74 #[.val (.ref a1), .val (.ref a2), .val (.int p3), .val (.int gg)] [(.ref d), (.ref a1)])) _
    refine st24 _ ?_
    show Steps p.tables e below (T24.setTop (mkF m 77 #[.val (.ref a1), .val (.ref a2), .val (.int p3), .val (.int gg)] [])) _
    refine XS.aloadN X24.here hx rfl (hb hby d3_77) rfl rfl ?_
    show Steps p.tables e below (T24.setTop (mkF m 78 #[.val (.ref a1), .val (.ref a2), .val (.int p3), .val (.int gg)] [(.ref a2)])) _
    refine XS.iconst X24.here hx rfl (hb hby d3_78) ?_
    show Steps p.tables e below (T24.setTop (mkF m 79 #[.val (.ref a1), .val (.ref a2), .val (.int p3), .val (.int gg)] [(.int (0 : Int32)), (.ref a2)])) _
    refine XS.aloadN X24.here hx rfl (hb hby d3_79) rfl rfl ?_
    show Steps p.tables e below (T24.setTop (mkF m 80 #[.val (.ref a1), .val (.ref a2), .val (.int p3), .val (.int gg)] [(.ref a1), (.int (0 : Int32)), (.ref a2)])) _
    refine st25 _ ?_
    show Steps p.tables e below (T25.setTop (mkF m 83 #[.val (.ref a1), .val (.ref a2), .val (.int p3), .val (.int gg)] [(.ref d), (.int (0 : Int32)), (.ref a2)])) _
    refine XS.aloadN X25.here hx rfl (hb hby d3_83) rfl rfl ?_
    show Steps p.tables e below (T25.setTop (mkF m 84 #[.val (.ref a1), .val (.ref a2), .val (.int p3), .val (.int gg)] [(.ref a1), (.ref d), (.int (0 : Int32)), (.ref a2)])) _
    refine st26 _ ?_
    show Steps p.tables e below (T26.setTop (mkF m 87 #[.val (.ref a1), .val (.ref a2), .val (.int p3), .val (.int gg)] [(.int sz), (.ref d), (.int (0 : Int32)), (.ref a2)])) _
    refine XS.iloadN X26.here hx rfl (hb hby d3_87) rfl ?_
    show Steps p.tables e below (T26.setTop (mkF m 88 #[.val (.ref a1), .val (.ref a2), .val (.int p3), .val (.int gg)] [(.int p3), (.int sz), (.ref d), (.int (0 : Int32)), (.ref a2)])) _
    refine st27 _ ?_
    show Steps p.tables e below (T27.setTop (mkF m 91 #[.val (.ref a1), .val (.ref a2), .val (.int p3), .val (.int gg)] [])) _
    refine XS.aloadN X27.here hx rfl (hb hby d3_91) rfl rfl ?_
    show Steps p.tables e below (T27.setTop (mkF m 92 #[.val (.ref a1), .val (.ref a2), .val (.int p3), .val (.int gg)] [(.ref a1)])) _
    refine XS.dup X27.here hx rfl (hb hby d3_92) rfl rfl ?_
    show Steps p.tables e below (T27.setTop (mkF m 93 #[.val (.ref a1), .val (.ref a2), .val (.int p3), .val (.int gg)] [(.ref a1), (.ref a1)])) _
    refine st28 _ ?_
    show Steps p.tables e below (T28.setTop (mkF m 96 #[.val (.ref a1), .val (.ref a2), .val (.int p3), .val (.int gg)] [(.int sz), (.ref a1)])) _
    refine XS.iloadN X28.here hx rfl (hb hby d3_96) rfl ?_
    show Steps p.tables e below (T28.setTop (mkF m 97 #[.val (.ref a1), .val (.ref a2), .val (.int p3), .val (.int gg)] [(.int p3), (.int sz), (.ref a1)])) _
    refine XS.iadd X28.here hx rfl (hb hby d3_97) rfl ?_
    show Steps p.tables e below (T28.setTop (mkF m 98 #[.val (.ref a1), .val (.ref a2), .val (.int p3), .val (.int gg)] [(.int (sz + p3)), (.ref a1)])) _
    refine st29 _ ?_
    show Steps p.tables e below (T29.setTop (mkF m 101 #[.val (.ref a1), .val (.ref a2), .val (.int p3), .val (.int gg)] [])) _
    exact X29.returnOut hx Bd.returns (hb hby d3_101) hr
  · show Q_3a Z a1 a2 p3 b z sz f gf h0 n0 _ T29.heap _
    rw [e29]
    exact ⟨rfl, N29, d, gg, _, g_d, Or.inr szd, Kf, ⟨ne_ad, GE29_a1, G29_a1_bytes, G29_a1_size, Bf⟩, own_g0 hg1 hz1, Int.le_trans hg3 (by decide), own_le hg2, fun j q => (own_cplo q).trans (hfd j (own_gj q hsz hg1).1 (own_gj q hsz hg1).2), fun j q => own_cphi q⟩
theorem rm_3 (l : Launch) (Z : State) (a0 : Array Value) (hw : ∀ d ∈ tables_1, d.before a0 Z = true) (ws : List Jvm.Cond) (a1 : Addr) (a2 : Addr) (p3 : Int32) (b : Addr) (z sz : Int32) (f gf : Nat → Int32) (h0 : Heap) (n0 : Nat) (Z0 : n0 ≤ h0.size) (R0 : own_R Z h0 a1 b z sz f) (B2 : own_B Z h0 a2 (4 : Int32) gf) (nb : a2 ≠ b) (na : a2 ≠ a1) (g_a1 : n0 ≤ a1) (g_b : n0 ≤ b) (hs1 : 0 ≤ sz.toInt) (hs2 : sz.toInt ≤ 4) (hl1 : 0 ≤ p3.toInt) (hl2 : p3.toInt ≤ 4) (hz1 : 0 ≤ z.toInt) (hz2 : z.toInt ≤ 8192) (hsz : sz.toInt ≤ z.toInt) :
    MetFree l (⟨"com/example/tympan/tympan/BodyLimit$Received", "add", "([BI)V"⟩ : MethodName) (head1 (Jvm.Cond.code (⟨"com/example/tympan/tympan/BodyLimit$Received", "add", "([BI)V"⟩ : MethodName) prog_4_method_3_code 4 none :: ws) ({ frames := 2, cells := 1, slots := 16, locals := 90 } : Room)) (fun a U => a = #[(.ref a1), (.ref a2), (.int p3)] ∧ Z.Warmed39 U.vm ∧ U.heap = h0) (fun _ _ _ _ _ => True) (fun _ U o U' => ∃ v L, o = .returned v ∧ Q_3a Z a1 a2 p3 b z sz f gf h0 n0 v U'.heap L ∧ FrameEnd U o U' L ({ frames := 2, cells := 1, slots := 16, locals := 90 } : Room).cells ({ frames := 2, cells := 1, slots := 16, locals := 90 } : Room).slots) := by
  by_cases hc : z < (sz + p3)
  · exact rm_3b l Z a0 hw ws a1 a2 p3 b z sz f gf h0 n0 Z0 R0 B2 nb na g_a1 g_b hs1 hs2 hl1 hl2 hz1 hz2 hsz hc
  · exact rm_3a l Z a0 hw ws a1 a2 p3 b z sz f gf h0 n0 Z0 R0 B2 nb na g_a1 g_b hs1 hs2 hl1 hl2 hz1 hz2 hsz hc
theorem d4_0 : decode prog_4_method_5_code 0 = .ok (.aload_n 0, 1) := by decide +kernel
theorem d4_1 : decode prog_4_method_5_code 1 = .ok (.getfield 28, 3) := by decide +kernel
theorem d4_4 : decode prog_4_method_5_code 4 = .ok (.aload_n 0, 1) := by decide +kernel
theorem d4_5 : decode prog_4_method_5_code 5 = .ok (.getfield 22, 3) := by decide +kernel
theorem d4_8 : decode prog_4_method_5_code 8 = .ok (.arraylength, 1) := by decide +kernel
theorem d4_9 : decode prog_4_method_5_code 9 = .ok (.if_icmp .ne 10, 3) := by decide +kernel
theorem d4_12 : decode prog_4_method_5_code 12 = .ok (.aload_n 0, 1) := by decide +kernel
theorem d4_13 : decode prog_4_method_5_code 13 = .ok (.getfield 22, 3) := by decide +kernel
theorem d4_16 : decode prog_4_method_5_code 16 = .ok (.goto 14, 3) := by decide +kernel
theorem d4_30 : decode prog_4_method_5_code 30 = .ok (.areturn, 1) := by decide +kernel
theorem ef_4a (m : MethodId) (a1 : Addr) : entryFrame m #[(.ref a1)] 1 = mkF m 0 #[.val (.ref a1)] [] := by first | (simp [entryFrame, mkF, argsToLocals, Value.category]; done) | rfl
def Q_4a (Z : State) (a1 : Addr) (b : Addr) (z sz : Int32) (f : Nat → Int32) (h0 : Heap) (n0 : Nat) (v : Option Value) (h : Heap) (L : List Loc) : Prop := ∃ r : Addr, v = some (.ref r) ∧ Fr n0 L ∧ Keep h0 h [] ∧ ∃ f' : Nat → Int32, own_B Z h r sz f' ∧ ∀ j, j < sz.toNatClampNeg → j < z.toNatClampNeg → f' j = f j
set_option maxRecDepth 65536 in
set_option maxHeartbeats 40000000 in
theorem rm_4a (l : Launch) (Z : State) (a0 : Array Value) (hw : ∀ d ∈ tables_1, d.before a0 Z = true) (ws : List Jvm.Cond) (a1 : Addr) (b : Addr) (z sz : Int32) (f : Nat → Int32) (h0 : Heap) (n0 : Nat) (Z0 : n0 ≤ h0.size) (R0 : own_R Z h0 a1 b z sz f) (hs1 : 0 ≤ sz.toInt) (hs2 : sz.toInt ≤ 8) (hc : sz = z) :
    MetFree l (⟨"com/example/tympan/tympan/BodyLimit$Received", "toByteArray", "()[B"⟩ : MethodName) (head1 (Jvm.Cond.code (⟨"com/example/tympan/tympan/BodyLimit$Received", "toByteArray", "()[B"⟩ : MethodName) prog_4_method_5_code 1 (some (.array .byte)) :: ws) ({ frames := 2, cells := 1, slots := 16, locals := 80 } : Room)) (fun a U => a = #[(.ref a1)] ∧ Z.Warmed39 U.vm ∧ U.heap = h0) (fun _ _ _ _ _ => True) (fun _ U o U' => ∃ v L, o = .returned v ∧ Q_4a Z a1 b z sz f h0 n0 v U'.heap L ∧ FrameEnd U o U' L ({ frames := 2, cells := 1, slots := 16, locals := 80 } : Room).cells ({ frames := 2, cells := 1, slots := 16, locals := 80 } : Room).slots) := by
  refine MetFree.of_bodySF (plainFor_of_name pn_1) hisR ?_
  intro p e s m args below meth c s₁ Bd hml0 hP hK
  obtain ⟨rfl, hZ, hh⟩ := hP
  have hx := Bd.exec
  have hby := Bd.bytes
  have hml : c.maxLocals = 1 := hml0
  have hown : s.vm.findClass "com/example/tympan/tympan/BodyLimit$Received" = some m.cls := findClass_of_methodNamed Bd.named
  have hnm := (name_of_methodNamed Bd.named Bd.method).1
  have X0 : Stand p l e ({ frames := 2, cells := 1, slots := 16, locals := 80 } : Room) s m #[(.ref a1)] below meth c s₁ [] 0 0 := Stand.of_body Bd
  have e0 : s₁.heap = h0 := by rw [← hh, Bd.state]; rfl
  have N0 := Fr.nil n0
  have pre0 : ∀ t, Steps p.tables e below (s₁.setTop (mkF m 0 #[.val (.ref a1)] [])) t → Steps p.tables e below (s₁.setTop (entryFrame m #[(.ref a1)] 1)) t := fun t k => castTop (ef_4a m a1) k
  obtain ⟨ne_ab, E_a, F_b, F_s, Bb⟩ := R0
  obtain ⟨clx, Arx, Sx, Mx, Hx⟩ := own_open Bb
  obtain ⟨T30, X30, e30, st30⟩ := getF X0 hx hZ hown (host := "") (Or.inl (hw _ (List.mem_of_getElem? (i := 18) rfl))) Via.refl e0 F_s (g := (mkF m 1 #[.val (.ref a1)] [(.ref a1)])) rfl rfl (hb hby d4_1)
  obtain ⟨T31, X31, e31, st31⟩ := getF X30 hx hZ hown (host := "") (Or.inl (hw _ (List.mem_of_getElem? (i := 11) rfl))) Via.refl e30 F_b (g := (mkF m 5 #[.val (.ref a1)] [(.ref a1), (.int sz)])) rfl rfl (hb hby d4_5)
  obtain ⟨T32, X32, e32, st32⟩ := getF X31 hx hZ hown (host := "") (Or.inl (hw _ (List.mem_of_getElem? (i := 11) rfl))) Via.refl e31 F_b (g := (mkF m 13 #[.val (.ref a1)] [(.ref a1)])) rfl rfl (hb hby d4_13)
  obtain ⟨fs, hr, hrun, hended, hW, hsame⟩ := X32.leave (v := some (.ref b)) (fun h => by rw [Bd.returns] at h; cases h)
  refine ⟨_, _, pre0 _ ?_, hrun, hended, _, _, rfl, ?_, ⟨_, rfl⟩, hW, hsame.mono (by decide) (by decide)⟩
  · show Steps p.tables e below (s₁.setTop (mkF m 0 #[.val (.ref a1)] [])) _
    refine XS.aloadN X0.here hx rfl (hb hby d4_0) rfl rfl ?_
    show Steps p.tables e below (s₁.setTop (mkF m 1 #[.val (.ref a1)] [(.ref a1)])) _
    refine st30 _ ?_
    show Steps p.tables e below (T30.setTop (mkF m 4 #[.val (.ref a1)] [(.int sz)])) _
    refine XS.aloadN X30.here hx rfl (hb hby d4_4) rfl rfl ?_
    show Steps p.tables e below (T30.setTop (mkF m 5 #[.val (.ref a1)] [(.ref a1), (.int sz)])) _
    refine st31 _ ?_
    show Steps p.tables e below (T31.setTop (mkF m 8 #[.val (.ref a1)] [(.ref b), (.int sz)])) _
    refine X31.arraylength hx (by rw [e31]; exact Arx.1) (State.isArrayOf_alike hZ.alike Arx.2.1) (g := (mkF m 8 #[.val (.ref a1)] [(.ref b), (.int sz)])) rfl rfl (hb hby d4_8) _ ?_
    rw [len_of Sx Mx]
    show Steps p.tables e below (T31.setTop (mkF m 9 #[.val (.ref a1)] [(.int z), (.int sz)])) _
    refine XS.icmpNo X31.here hx rfl (hb hby d4_9) rfl (teq (hc : sz = z)).2 ?_
    show Steps p.tables e below (T31.setTop (mkF m 12 #[.val (.ref a1)] [])) _
    refine XS.aloadN X31.here hx rfl (hb hby d4_12) rfl rfl ?_
    show Steps p.tables e below (T31.setTop (mkF m 13 #[.val (.ref a1)] [(.ref a1)])) _
    refine st32 _ ?_
    show Steps p.tables e below (T32.setTop (mkF m 16 #[.val (.ref a1)] [(.ref b)])) _
    refine XS.goto X32.here hx rfl (pc0 := 16) (pc' := 30) rfl (hb hby d4_16) (by decide) (by decide) ?_
    show Steps p.tables e below (T32.setTop (mkF m 30 #[.val (.ref a1)] [(.ref b)])) _
    jvm_step X32.here [X32.here.top, hx, (hb hby d4_30), X32.method', Bd.returns, Value.isRef, FieldType.isReference]
    first | (intro acts; rw [hr _ acts rfl rfl rfl]) | rw [hr _ _ rfl rfl rfl]
    exact Steps.refl _
  · show Q_4a Z a1 b z sz f h0 n0 _ T32.heap _
    rw [e32]
    exact ⟨b, rfl, N0, Keep.refl _ _, f, by rw [hc]; exact Bb, fun j _ _ => rfl⟩
theorem d4_19 : decode prog_4_method_5_code 19 = .ok (.aload_n 0, 1) := by decide +kernel
theorem d4_20 : decode prog_4_method_5_code 20 = .ok (.getfield 22, 3) := by decide +kernel
theorem d4_23 : decode prog_4_method_5_code 23 = .ok (.aload_n 0, 1) := by decide +kernel
theorem d4_24 : decode prog_4_method_5_code 24 = .ok (.getfield 28, 3) := by decide +kernel
theorem d4_27 : decode prog_4_method_5_code 27 = .ok (.invokestatic 46, 3) := by decide +kernel
theorem ef_4b (m : MethodId) (a1 : Addr) : entryFrame m #[(.ref a1)] 1 = mkF m 0 #[.val (.ref a1)] [] := by first | (simp [entryFrame, mkF, argsToLocals, Value.category]; done) | rfl
set_option maxRecDepth 65536 in
set_option maxHeartbeats 40000000 in
theorem rm_4b (l : Launch) (Z : State) (a0 : Array Value) (hw : ∀ d ∈ tables_1, d.before a0 Z = true) (ws : List Jvm.Cond) (a1 : Addr) (b : Addr) (z sz : Int32) (f : Nat → Int32) (h0 : Heap) (n0 : Nat) (Z0 : n0 ≤ h0.size) (R0 : own_R Z h0 a1 b z sz f) (hs1 : 0 ≤ sz.toInt) (hs2 : sz.toInt ≤ 8) (hc : ¬ sz = z) :
    MetFree l (⟨"com/example/tympan/tympan/BodyLimit$Received", "toByteArray", "()[B"⟩ : MethodName) (head1 (Jvm.Cond.code (⟨"com/example/tympan/tympan/BodyLimit$Received", "toByteArray", "()[B"⟩ : MethodName) prog_4_method_5_code 1 (some (.array .byte)) :: ws) ({ frames := 2, cells := 1, slots := 16, locals := 80 } : Room)) (fun a U => a = #[(.ref a1)] ∧ Z.Warmed39 U.vm ∧ U.heap = h0) (fun _ _ _ _ _ => True) (fun _ U o U' => ∃ v L, o = .returned v ∧ Q_4a Z a1 b z sz f h0 n0 v U'.heap L ∧ FrameEnd U o U' L ({ frames := 2, cells := 1, slots := 16, locals := 80 } : Room).cells ({ frames := 2, cells := 1, slots := 16, locals := 80 } : Room).slots) := by
  refine MetFree.of_bodySF (plainFor_of_name pn_1) hisR ?_
  intro p e s m args below meth c s₁ Bd hml0 hP hK
  obtain ⟨rfl, hZ, hh⟩ := hP
  have hx := Bd.exec
  have hby := Bd.bytes
  have hml : c.maxLocals = 1 := hml0
  have hown : s.vm.findClass "com/example/tympan/tympan/BodyLimit$Received" = some m.cls := findClass_of_methodNamed Bd.named
  have hnm := (name_of_methodNamed Bd.named Bd.method).1
  have X0 : Stand p l e ({ frames := 2, cells := 1, slots := 16, locals := 80 } : Room) s m #[(.ref a1)] below meth c s₁ [] 0 0 := Stand.of_body Bd
  have e0 : s₁.heap = h0 := by rw [← hh, Bd.state]; rfl
  have N0 := Fr.nil n0
  have pre0 : ∀ t, Steps p.tables e below (s₁.setTop (mkF m 0 #[.val (.ref a1)] [])) t → Steps p.tables e below (s₁.setTop (entryFrame m #[(.ref a1)] 1)) t := fun t k => castTop (ef_4b m a1) k
  obtain ⟨ne_ab, E_a, F_b, F_s, Bb⟩ := R0
  obtain ⟨clx, Arx, Sx, Mx, Hx⟩ := own_open Bb
  obtain ⟨T33, X33, e33, st33⟩ := getF X0 hx hZ hown (host := "") (Or.inl (hw _ (List.mem_of_getElem? (i := 18) rfl))) Via.refl e0 F_s (g := (mkF m 1 #[.val (.ref a1)] [(.ref a1)])) rfl rfl (hb hby d4_1)
  obtain ⟨T34, X34, e34, st34⟩ := getF X33 hx hZ hown (host := "") (Or.inl (hw _ (List.mem_of_getElem? (i := 11) rfl))) Via.refl e33 F_b (g := (mkF m 5 #[.val (.ref a1)] [(.ref a1), (.int sz)])) rfl rfl (hb hby d4_5)
  obtain ⟨T35, X35, e35, st35⟩ := getF X34 hx hZ hown (host := "") (Or.inl (hw _ (List.mem_of_getElem? (i := 11) rfl))) Via.refl e34 F_b (g := (mkF m 20 #[.val (.ref a1)] [(.ref a1)])) rfl rfl (hb hby d4_20)
  obtain ⟨T36, X36, e36, st36⟩ := getF X35 hx hZ hown (host := "") (Or.inl (hw _ (List.mem_of_getElem? (i := 18) rfl))) Via.refl e35 F_s (g := (mkF m 24 #[.val (.ref a1)] [(.ref a1), (.ref b)])) rfl rfl (hb hby d4_24)
  obtain ⟨_, _, ⟨T37, L37, k37, n37⟩, -, X37, ⟨Lc37, hQ37, l37, y37, z37⟩, st37⟩ := Jvm.LawKit.callS X36 hx (y := (⟨"java/util/Arrays", "copyOf", "([BI)[B"⟩ : MethodName)) hown (mvT hZ (hw _ (List.mem_of_getElem? (i := 39) rfl))) (mvT hZ (hw _ (List.mem_of_getElem? (i := 40) rfl))) (mvT hZ (hw _ (List.mem_of_getElem? (i := 41) rfl))) (mvT hZ (hw _ (List.mem_of_getElem? (i := 42) rfl))) (by decide) (backOf (W := 0) (rm_7 l Z a0 hw [] b sz z f h0 n0 Z0 Bb hc hs1 (Int.le_trans hs2 (by decide))) hZ (hw _ (List.mem_of_getElem? (i := 42) rfl)) (hw _ (List.mem_of_getElem? (i := 41) rfl)) (by decide) (by decide)) (g := (mkF m 27 #[.val (.ref a1)] [(.int sz), (.ref b)])) rfl (by rw [hml]; rfl) (argsL := [(.ref b), (.int sz)]) (rest := []) (lenOf pd_2 rfl) rfl (by show 2 * 0 + _ ≤ _; exact Nat.le_of_eq rfl) (hb hby d4_27) (fun _ _ => ⟨rfl, e36, (by decide : 0 + 1 ≤ _), (by decide : 0 + 16 ≤ _)⟩)
  dsimp only [Pt.U, Pt.locs, Pt.cells, Pt.slots] at X37 l37 y37 z37 st37 hQ37
  subst l37 y37 z37
  obtain ⟨d, rfl, N37q, g_d, szd, Kd, fd, Bd1, hfd⟩ := hQ37
  have N37 := Fr.app N0 N37q
  have Z37 : n0 ≤ T37.heap.size := Nat.le_trans Z0 Kd.1
  obtain ⟨fs, hr, hrun, hended, hW, hsame⟩ := X37.leave (v := some (.ref d)) (fun h => by rw [Bd.returns] at h; cases h)
  refine ⟨_, _, pre0 _ ?_, hrun, hended, _, _, rfl, ?_, ⟨_, rfl⟩, hW, hsame.mono (by decide) (by decide)⟩
  · show Steps p.tables e below (s₁.setTop (mkF m 0 #[.val (.ref a1)] [])) _
    refine XS.aloadN X0.here hx rfl (hb hby d4_0) rfl rfl ?_
    show Steps p.tables e below (s₁.setTop (mkF m 1 #[.val (.ref a1)] [(.ref a1)])) _
    refine st33 _ ?_
    show Steps p.tables e below (T33.setTop (mkF m 4 #[.val (.ref a1)] [(.int sz)])) _
    refine XS.aloadN X33.here hx rfl (hb hby d4_4) rfl rfl ?_
    show Steps p.tables e below (T33.setTop (mkF m 5 #[.val (.ref a1)] [(.ref a1), (.int sz)])) _
    refine st34 _ ?_
    show Steps p.tables e below (T34.setTop (mkF m 8 #[.val (.ref a1)] [(.ref b), (.int sz)])) _
    refine X34.arraylength hx (by rw [e34]; exact Arx.1) (State.isArrayOf_alike hZ.alike Arx.2.1) (g := (mkF m 8 #[.val (.ref a1)] [(.ref b), (.int sz)])) rfl rfl (hb hby d4_8) _ ?_
    rw [len_of Sx Mx]
    show Steps p.tables e below (T34.setTop (mkF m 9 #[.val (.ref a1)] [(.int z), (.int sz)])) _
    refine XS.icmpYes X34.here hx rfl (pc0 := 9) (pc' := 19) rfl (hb hby d4_9) rfl (feq (hc : ¬ (sz = z))).2 (by decide) (by decide) ?_
    show Steps p.tables e below (T34.setTop (mkF m 19 #[.val (.ref a1)] [])) _
    refine XS.aloadN X34.here hx rfl (hb hby d4_19) rfl rfl ?_
    show Steps p.tables e below (T34.setTop (mkF m 20 #[.val (.ref a1)] [(.ref a1)])) _
    refine st35 _ ?_
    show Steps p.tables e below (T35.setTop (mkF m 23 #[.val (.ref a1)] [(.ref b)])) _
    refine XS.aloadN X35.here hx rfl (hb hby d4_23) rfl rfl ?_
    show Steps p.tables e below (T35.setTop (mkF m 24 #[.val (.ref a1)] [(.ref a1), (.ref b)])) _
    refine st36 _ ?_
    show Steps p.tables e below (T36.setTop (mkF m 27 #[.val (.ref a1)] [(.int sz), (.ref b)])) _
    refine st37 _ ?_
    show Steps p.tables e below (T37.setTop (mkF m 30 #[.val (.ref a1)] [(.ref d)])) _
    jvm_step X37.here [X37.here.top, hx, (hb hby d4_30), X37.method', Bd.returns, Value.isRef, FieldType.isReference]
    first | (intro acts; rw [hr _ acts rfl rfl rfl]) | rw [hr _ _ rfl rfl rfl]
    exact Steps.refl _
  · show Q_4a Z a1 b z sz f h0 n0 _ T37.heap _
    exact ⟨d, rfl, N37, Kd, fd, Bd1, fun j q1 q2 => hfd j q2 q1⟩
theorem rm_4 (l : Launch) (Z : State) (a0 : Array Value) (hw : ∀ d ∈ tables_1, d.before a0 Z = true) (ws : List Jvm.Cond) (a1 : Addr) (b : Addr) (z sz : Int32) (f : Nat → Int32) (h0 : Heap) (n0 : Nat) (Z0 : n0 ≤ h0.size) (R0 : own_R Z h0 a1 b z sz f) (hs1 : 0 ≤ sz.toInt) (hs2 : sz.toInt ≤ 8) :
    MetFree l (⟨"com/example/tympan/tympan/BodyLimit$Received", "toByteArray", "()[B"⟩ : MethodName) (head1 (Jvm.Cond.code (⟨"com/example/tympan/tympan/BodyLimit$Received", "toByteArray", "()[B"⟩ : MethodName) prog_4_method_5_code 1 (some (.array .byte)) :: ws) ({ frames := 2, cells := 1, slots := 16, locals := 80 } : Room)) (fun a U => a = #[(.ref a1)] ∧ Z.Warmed39 U.vm ∧ U.heap = h0) (fun _ _ _ _ _ => True) (fun _ U o U' => ∃ v L, o = .returned v ∧ Q_4a Z a1 b z sz f h0 n0 v U'.heap L ∧ FrameEnd U o U' L ({ frames := 2, cells := 1, slots := 16, locals := 80 } : Room).cells ({ frames := 2, cells := 1, slots := 16, locals := 80 } : Room).slots) := by
  by_cases hc : sz = z
  · exact rm_4a l Z a0 hw ws a1 b z sz f h0 n0 Z0 R0 hs1 hs2 hc
  · exact rm_4b l Z a0 hw ws a1 b z sz f h0 n0 Z0 R0 hs1 hs2 hc
theorem d5_0 : decode prog_4_method_4_code 0 = .ok (.aload_n 0, 1) := by decide +kernel
theorem d5_1 : decode prog_4_method_4_code 1 = .ok (.getfield 28, 3) := by decide +kernel
theorem d5_4 : decode prog_4_method_4_code 4 = .ok (.ireturn, 1) := by decide +kernel
theorem ef_5 (m : MethodId) (a1 : Addr) : entryFrame m #[(.ref a1)] 1 = mkF m 0 #[.val (.ref a1)] [] := by first | (simp [entryFrame, mkF, argsToLocals, Value.category]; done) | rfl
def Q_5 (Z : State) (a1 : Addr) (p2 : Int32) (h0 : Heap) (n0 : Nat) (v : Option Value) (h : Heap) (L : List Loc) : Prop := v = some (.int p2) ∧ Fr n0 L ∧ h = h0
set_option maxRecDepth 65536 in
set_option maxHeartbeats 40000000 in
theorem rm_5 (l : Launch) (Z : State) (a0 : Array Value) (hw : ∀ d ∈ tables_1, d.before a0 Z = true) (ws : List Jvm.Cond) (a1 : Addr) (p2 : Int32) (h0 : Heap) (n0 : Nat) (Z0 : n0 ≤ h0.size) (F_size : Fld Z h0 a1 "com/example/tympan/tympan/BodyLimit$Received" "size" "I" (.int p2)) :
    MetFree l (⟨"com/example/tympan/tympan/BodyLimit$Received", "size", "()I"⟩ : MethodName) (head1 (Jvm.Cond.code (⟨"com/example/tympan/tympan/BodyLimit$Received", "size", "()I"⟩ : MethodName) prog_4_method_4_code 1 (some .int) :: ws) ({ frames := 0, cells := 0, slots := 0, locals := 0 } : Room)) (fun a U => a = #[(.ref a1)] ∧ Z.Warmed39 U.vm ∧ U.heap = h0) (fun _ _ _ _ _ => True) (fun _ U o U' => ∃ v L, o = .returned v ∧ Q_5 Z a1 p2 h0 n0 v U'.heap L ∧ FrameEnd U o U' L ({ frames := 0, cells := 0, slots := 0, locals := 0 } : Room).cells ({ frames := 0, cells := 0, slots := 0, locals := 0 } : Room).slots) := by
  refine MetFree.of_bodySF (plainFor_of_name pn_1) hisR ?_
  intro p e s m args below meth c s₁ Bd hml0 hP hK
  obtain ⟨rfl, hZ, hh⟩ := hP
  have hx := Bd.exec
  have hby := Bd.bytes
  have hml : c.maxLocals = 1 := hml0
  have hown : s.vm.findClass "com/example/tympan/tympan/BodyLimit$Received" = some m.cls := findClass_of_methodNamed Bd.named
  have hnm := (name_of_methodNamed Bd.named Bd.method).1
  have X0 : Stand p l e ({ frames := 0, cells := 0, slots := 0, locals := 0 } : Room) s m #[(.ref a1)] below meth c s₁ [] 0 0 := Stand.of_body Bd
  have e0 : s₁.heap = h0 := by rw [← hh, Bd.state]; rfl
  have N0 := Fr.nil n0
  have pre0 : ∀ t, Steps p.tables e below (s₁.setTop (mkF m 0 #[.val (.ref a1)] [])) t → Steps p.tables e below (s₁.setTop (entryFrame m #[(.ref a1)] 1)) t := fun t k => castTop (ef_5 m a1) k
  obtain ⟨T38, X38, e38, st38⟩ := getF X0 hx hZ hown (host := "") (Or.inl (hw _ (List.mem_of_getElem? (i := 18) rfl))) Via.refl e0 F_size (g := (mkF m 1 #[.val (.ref a1)] [(.ref a1)])) rfl rfl (hb hby d5_1)
  obtain ⟨fs, hr, hrun, hended, hW, hsame⟩ := X38.leave (v := some (.int p2)) (fun h => by rw [Bd.returns] at h; cases h)
  refine ⟨_, _, pre0 _ ?_, hrun, hended, _, _, rfl, ?_, ⟨_, rfl⟩, hW, hsame.mono (by decide) (by decide)⟩
  · show Steps p.tables e below (s₁.setTop (mkF m 0 #[.val (.ref a1)] [])) _
    refine XS.aloadN X0.here hx rfl (hb hby d5_0) rfl rfl ?_
    show Steps p.tables e below (s₁.setTop (mkF m 1 #[.val (.ref a1)] [(.ref a1)])) _
    refine st38 _ ?_
    show Steps p.tables e below (T38.setTop (mkF m 4 #[.val (.ref a1)] [(.int p2)])) _
    exact retI X38 hx Bd.returns (hb hby d5_4) hr
  · show Q_5 Z a1 p2 h0 n0 _ T38.heap _
    rw [e38]
    exact ⟨rfl, N0, rfl⟩
theorem d6_0 : decode method_3_code 0 = .ok (.iload_n 1, 1) := by decide +kernel
theorem d6_1 : decode method_3_code 1 = .ok (.aload_n 0, 1) := by decide +kernel
theorem d6_2 : decode method_3_code 2 = .ok (.arraylength, 1) := by decide +kernel
theorem d6_3 : decode method_3_code 3 = .ok (.if_icmp .lt 5, 3) := by decide +kernel
theorem d6_6 : decode method_3_code 6 = .ok (.iconst 1, 1) := by decide +kernel
theorem d6_7 : decode method_3_code 7 = .ok (.ireturn, 1) := by decide +kernel
theorem pn_2 : plainName "com/example/tympan/tympan/ReceivedToByteArrayPinLaw" = true := by first | (simp [plainName, overriddenIn]; done) | decide +kernel
theorem ef_6a (m : MethodId) (a1 : Addr) (p2 : Int32) (a3 : Addr) (p4 : Int32) (a5 : Addr) : entryFrame m #[(.ref a1), (.int p2), (.ref a3), (.int p4), (.ref a5)] 6 = mkF m 0 #[.val (.ref a1), .val (.int p2), .val (.ref a3), .val (.int p4), .val (.ref a5), .unset] [] := by first | (simp [entryFrame, mkF, argsToLocals, Value.category]; done) | rfl
def Q_6a (Z : State) (a1 : Addr) (p2 : Int32) (a3 : Addr) (p4 : Int32) (a5 : Addr) (tot : Int32) (f g1 g2 : Nat → Int32) (h0 : Heap) (n0 : Nat) (v : Option Value) (h : Heap) (L : List Loc) : Prop := v = some (.int (1 : Int32)) ∧ Fr n0 L ∧ h = h0
set_option maxRecDepth 65536 in
set_option maxHeartbeats 40000000 in
theorem rm_6a (l : Launch) (Z : State) (a0 : Array Value) (hw : ∀ d ∈ tables_1, d.before a0 Z = true) (ws : List Jvm.Cond) (a1 : Addr) (p2 : Int32) (a3 : Addr) (p4 : Int32) (a5 : Addr) (tot : Int32) (f g1 g2 : Nat → Int32) (h0 : Heap) (n0 : Nat) (Z0 : n0 ≤ h0.size) (Bo : own_B Z h0 a1 tot f) (B1 : own_B Z h0 a3 (4 : Int32) g1) (B2 : own_B Z h0 a5 (4 : Int32) g2) (hk : 0 ≤ p2.toInt) (hl0 : 0 ≤ p4.toInt) (hl4 : p4.toInt ≤ 4) (ht : tot.toInt ≤ p4.toInt + 4) (hcon : ∀ j, j < tot.toNatClampNeg → f j = if j < p4.toNatClampNeg then g1 j else g2 (j - p4.toNatClampNeg)) (hc : ¬ p2 < tot) :
    MetFree l (⟨"com/example/tympan/tympan/ReceivedToByteArrayPinLaw", "at", "([BI[BI[B)Z"⟩ : MethodName) (head1 (Jvm.Cond.code (⟨"com/example/tympan/tympan/ReceivedToByteArrayPinLaw", "at", "([BI[BI[B)Z"⟩ : MethodName) method_3_code 6 (some .boolean) :: ws) ({ frames := 0, cells := 0, slots := 0, locals := 0 } : Room)) (fun a U => a = #[(.ref a1), (.int p2), (.ref a3), (.int p4), (.ref a5)] ∧ Z.Warmed39 U.vm ∧ U.heap = h0) (fun _ _ _ _ _ => True) (fun _ U o U' => ∃ v L, o = .returned v ∧ Q_6a Z a1 p2 a3 p4 a5 tot f g1 g2 h0 n0 v U'.heap L ∧ FrameEnd U o U' L ({ frames := 0, cells := 0, slots := 0, locals := 0 } : Room).cells ({ frames := 0, cells := 0, slots := 0, locals := 0 } : Room).slots) := by
  refine MetFree.of_bodySF (plainFor_of_name pn_2) hisR ?_
  intro p e s m args below meth c s₁ Bd hml0 hP hK
  obtain ⟨rfl, hZ, hh⟩ := hP
  have hx := Bd.exec
  have hby := Bd.bytes
  have hml : c.maxLocals = 6 := hml0
  have hown : s.vm.findClass "com/example/tympan/tympan/ReceivedToByteArrayPinLaw" = some m.cls := findClass_of_methodNamed Bd.named
  have hnm := (name_of_methodNamed Bd.named Bd.method).1
  have X0 : Stand p l e ({ frames := 0, cells := 0, slots := 0, locals := 0 } : Room) s m #[(.ref a1), (.int p2), (.ref a3), (.int p4), (.ref a5)] below meth c s₁ [] 0 0 := Stand.of_body Bd
  have e0 : s₁.heap = h0 := by rw [← hh, Bd.state]; rfl
  have N0 := Fr.nil n0
  have pre0 : ∀ t, Steps p.tables e below (s₁.setTop (mkF m 0 #[.val (.ref a1), .val (.int p2), .val (.ref a3), .val (.int p4), .val (.ref a5), .unset] [])) t → Steps p.tables e below (s₁.setTop (entryFrame m #[(.ref a1), (.int p2), (.ref a3), (.int p4), (.ref a5)] 6)) t := fun t k => castTop (ef_6a m a1 p2 a3 p4 a5) k
  obtain ⟨clo, Aro, So, Mo, Ho⟩ := own_open Bo
  obtain ⟨cl1, Ar1, S1, M1, H1⟩ := own_open B1
  obtain ⟨cl2, Ar2, S2, M2, H2⟩ := own_open B2
  obtain ⟨fs, hr, hrun, hended, hW, hsame⟩ := X0.leave (v := some (.int (1 : Int32))) (fun h => by rw [Bd.returns] at h; cases h)
  refine ⟨_, _, pre0 _ ?_, hrun, hended, _, _, rfl, ?_, ⟨_, rfl⟩, hW, hsame.mono (by decide) (by decide)⟩
  · show Steps p.tables e below (s₁.setTop (mkF m 0 #[.val (.ref a1), .val (.int p2), .val (.ref a3), .val (.int p4), .val (.ref a5), .unset] [])) _
    refine XS.iloadN X0.here hx rfl (hb hby d6_0) rfl ?_
    show Steps p.tables e below (s₁.setTop (mkF m 1 #[.val (.ref a1), .val (.int p2), .val (.ref a3), .val (.int p4), .val (.ref a5), .unset] [(.int p2)])) _
    refine XS.aloadN X0.here hx rfl (hb hby d6_1) rfl rfl ?_
    show Steps p.tables e below (s₁.setTop (mkF m 2 #[.val (.ref a1), .val (.int p2), .val (.ref a3), .val (.int p4), .val (.ref a5), .unset] [(.ref a1), (.int p2)])) _
    refine X0.arraylength hx (by rw [e0]; exact Aro.1) (State.isArrayOf_alike hZ.alike Aro.2.1) (g := (mkF m 2 #[.val (.ref a1), .val (.int p2), .val (.ref a3), .val (.int p4), .val (.ref a5), .unset] [(.ref a1), (.int p2)])) rfl rfl (hb hby d6_2) _ ?_
    rw [len_of So Mo]
    show Steps p.tables e below (s₁.setTop (mkF m 3 #[.val (.ref a1), .val (.int p2), .val (.ref a3), .val (.int p4), .val (.ref a5), .unset] [(.int tot), (.int p2)])) _
    refine XS.icmpNo X0.here hx rfl (hb hby d6_3) rfl (flt (hc : ¬ (p2 < tot))).1 ?_
    show Steps p.tables e below (s₁.setTop (mkF m 6 #[.val (.ref a1), .val (.int p2), .val (.ref a3), .val (.int p4), .val (.ref a5), .unset] [])) _
    refine XS.iconst X0.here hx rfl (hb hby d6_6) ?_
    show Steps p.tables e below (s₁.setTop (mkF m 7 #[.val (.ref a1), .val (.int p2), .val (.ref a3), .val (.int p4), .val (.ref a5), .unset] [(.int (1 : Int32))])) _
    exact retN X0 hx (t := .boolean) Bd.returns (by simp) (hb hby d6_7) hr
  · show Q_6a Z a1 p2 a3 p4 a5 tot f g1 g2 h0 n0 _ s₁.heap _
    rw [e0]
    exact ⟨rfl, N0, rfl⟩
theorem d6_8 : decode method_3_code 8 = .ok (.iload_n 1, 1) := by decide +kernel
theorem d6_9 : decode method_3_code 9 = .ok (.iload_n 3, 1) := by decide +kernel
theorem d6_10 : decode method_3_code 10 = .ok (.if_icmp .ge 9, 3) := by decide +kernel
theorem d6_13 : decode method_3_code 13 = .ok (.aload_n 2, 1) := by decide +kernel
theorem d6_14 : decode method_3_code 14 = .ok (.iload_n 1, 1) := by decide +kernel
theorem d6_15 : decode method_3_code 15 = .ok (.baload, 1) := by decide +kernel
theorem d6_16 : decode method_3_code 16 = .ok (.goto 9, 3) := by decide +kernel
theorem d6_25 : decode method_3_code 25 = .ok (.istore 5, 2) := by decide +kernel
theorem d6_27 : decode method_3_code 27 = .ok (.aload_n 0, 1) := by decide +kernel
theorem d6_28 : decode method_3_code 28 = .ok (.iload_n 1, 1) := by decide +kernel
theorem d6_29 : decode method_3_code 29 = .ok (.baload, 1) := by decide +kernel
theorem d6_30 : decode method_3_code 30 = .ok (.iload 5, 2) := by decide +kernel
theorem d6_32 : decode method_3_code 32 = .ok (.if_icmp .ne 7, 3) := by decide +kernel
theorem d6_35 : decode method_3_code 35 = .ok (.iconst 1, 1) := by decide +kernel
theorem d6_36 : decode method_3_code 36 = .ok (.goto 4, 3) := by decide +kernel
theorem d6_40 : decode method_3_code 40 = .ok (.ireturn, 1) := by decide +kernel
theorem ef_6b (m : MethodId) (a1 : Addr) (p2 : Int32) (a3 : Addr) (p4 : Int32) (a5 : Addr) : entryFrame m #[(.ref a1), (.int p2), (.ref a3), (.int p4), (.ref a5)] 6 = mkF m 0 #[.val (.ref a1), .val (.int p2), .val (.ref a3), .val (.int p4), .val (.ref a5), .unset] [] := by first | (simp [entryFrame, mkF, argsToLocals, Value.category]; done) | rfl
set_option maxRecDepth 65536 in
set_option maxHeartbeats 40000000 in
theorem rm_6b (l : Launch) (Z : State) (a0 : Array Value) (hw : ∀ d ∈ tables_1, d.before a0 Z = true) (ws : List Jvm.Cond) (a1 : Addr) (p2 : Int32) (a3 : Addr) (p4 : Int32) (a5 : Addr) (tot : Int32) (f g1 g2 : Nat → Int32) (h0 : Heap) (n0 : Nat) (Z0 : n0 ≤ h0.size) (Bo : own_B Z h0 a1 tot f) (B1 : own_B Z h0 a3 (4 : Int32) g1) (B2 : own_B Z h0 a5 (4 : Int32) g2) (hk : 0 ≤ p2.toInt) (hl0 : 0 ≤ p4.toInt) (hl4 : p4.toInt ≤ 4) (ht : tot.toInt ≤ p4.toInt + 4) (hcon : ∀ j, j < tot.toNatClampNeg → f j = if j < p4.toNatClampNeg then g1 j else g2 (j - p4.toNatClampNeg)) (hc : p2 < tot) (hd : p2 < p4) :
    MetFree l (⟨"com/example/tympan/tympan/ReceivedToByteArrayPinLaw", "at", "([BI[BI[B)Z"⟩ : MethodName) (head1 (Jvm.Cond.code (⟨"com/example/tympan/tympan/ReceivedToByteArrayPinLaw", "at", "([BI[BI[B)Z"⟩ : MethodName) method_3_code 6 (some .boolean) :: ws) ({ frames := 0, cells := 0, slots := 0, locals := 0 } : Room)) (fun a U => a = #[(.ref a1), (.int p2), (.ref a3), (.int p4), (.ref a5)] ∧ Z.Warmed39 U.vm ∧ U.heap = h0) (fun _ _ _ _ _ => True) (fun _ U o U' => ∃ v L, o = .returned v ∧ Q_6a Z a1 p2 a3 p4 a5 tot f g1 g2 h0 n0 v U'.heap L ∧ FrameEnd U o U' L ({ frames := 0, cells := 0, slots := 0, locals := 0 } : Room).cells ({ frames := 0, cells := 0, slots := 0, locals := 0 } : Room).slots) := by
  refine MetFree.of_bodySF (plainFor_of_name pn_2) hisR ?_
  intro p e s m args below meth c s₁ Bd hml0 hP hK
  obtain ⟨rfl, hZ, hh⟩ := hP
  have hx := Bd.exec
  have hby := Bd.bytes
  have hml : c.maxLocals = 6 := hml0
  have hown : s.vm.findClass "com/example/tympan/tympan/ReceivedToByteArrayPinLaw" = some m.cls := findClass_of_methodNamed Bd.named
  have hnm := (name_of_methodNamed Bd.named Bd.method).1
  have X0 : Stand p l e ({ frames := 0, cells := 0, slots := 0, locals := 0 } : Room) s m #[(.ref a1), (.int p2), (.ref a3), (.int p4), (.ref a5)] below meth c s₁ [] 0 0 := Stand.of_body Bd
  have e0 : s₁.heap = h0 := by rw [← hh, Bd.state]; rfl
  have N0 := Fr.nil n0
  have pre0 : ∀ t, Steps p.tables e below (s₁.setTop (mkF m 0 #[.val (.ref a1), .val (.int p2), .val (.ref a3), .val (.int p4), .val (.ref a5), .unset] [])) t → Steps p.tables e below (s₁.setTop (entryFrame m #[(.ref a1), (.int p2), (.ref a3), (.int p4), (.ref a5)] 6)) t := fun t k => castTop (ef_6b m a1 p2 a3 p4 a5) k
  obtain ⟨clo, Aro, So, Mo, Ho⟩ := own_open Bo
  obtain ⟨cl1, Ar1, S1, M1, H1⟩ := own_open B1
  obtain ⟨cl2, Ar2, S2, M2, H2⟩ := own_open B2
  obtain ⟨fs, hr, hrun, hended, hW, hsame⟩ := X0.leave (v := some (.int (1 : Int32))) (fun h => by rw [Bd.returns] at h; cases h)
  refine ⟨_, _, pre0 _ ?_, hrun, hended, _, _, rfl, ?_, ⟨_, rfl⟩, hW, hsame.mono (by decide) (by decide)⟩
  · show Steps p.tables e below (s₁.setTop (mkF m 0 #[.val (.ref a1), .val (.int p2), .val (.ref a3), .val (.int p4), .val (.ref a5), .unset] [])) _
    refine XS.iloadN X0.here hx rfl (hb hby d6_0) rfl ?_
    show Steps p.tables e below (s₁.setTop (mkF m 1 #[.val (.ref a1), .val (.int p2), .val (.ref a3), .val (.int p4), .val (.ref a5), .unset] [(.int p2)])) _
    refine XS.aloadN X0.here hx rfl (hb hby d6_1) rfl rfl ?_
    show Steps p.tables e below (s₁.setTop (mkF m 2 #[.val (.ref a1), .val (.int p2), .val (.ref a3), .val (.int p4), .val (.ref a5), .unset] [(.ref a1), (.int p2)])) _
    refine X0.arraylength hx (by rw [e0]; exact Aro.1) (State.isArrayOf_alike hZ.alike Aro.2.1) (g := (mkF m 2 #[.val (.ref a1), .val (.int p2), .val (.ref a3), .val (.int p4), .val (.ref a5), .unset] [(.ref a1), (.int p2)])) rfl rfl (hb hby d6_2) _ ?_
    rw [len_of So Mo]
    show Steps p.tables e below (s₁.setTop (mkF m 3 #[.val (.ref a1), .val (.int p2), .val (.ref a3), .val (.int p4), .val (.ref a5), .unset] [(.int tot), (.int p2)])) _
    refine XS.icmpYes X0.here hx rfl (pc0 := 3) (pc' := 8) rfl (hb hby d6_3) rfl (tlt (hc : p2 < tot)).1 (by decide) (by decide) ?_
    show Steps p.tables e below (s₁.setTop (mkF m 8 #[.val (.ref a1), .val (.int p2), .val (.ref a3), .val (.int p4), .val (.ref a5), .unset] [])) _
    refine XS.iloadN X0.here hx rfl (hb hby d6_8) rfl ?_
    show Steps p.tables e below (s₁.setTop (mkF m 9 #[.val (.ref a1), .val (.int p2), .val (.ref a3), .val (.int p4), .val (.ref a5), .unset] [(.int p2)])) _
    refine XS.iloadN X0.here hx rfl (hb hby d6_9) rfl ?_
    show Steps p.tables e below (s₁.setTop (mkF m 10 #[.val (.ref a1), .val (.int p2), .val (.ref a3), .val (.int p4), .val (.ref a5), .unset] [(.int p4), (.int p2)])) _
    refine XS.icmpNo X0.here hx rfl (hb hby d6_10) rfl (tlt (hd : p2 < p4)).2.1 ?_
    show Steps p.tables e below (s₁.setTop (mkF m 13 #[.val (.ref a1), .val (.int p2), .val (.ref a3), .val (.int p4), .val (.ref a5), .unset] [])) _
    refine XS.aloadN X0.here hx rfl (hb hby d6_13) rfl rfl ?_
    show Steps p.tables e below (s₁.setTop (mkF m 14 #[.val (.ref a1), .val (.int p2), .val (.ref a3), .val (.int p4), .val (.ref a5), .unset] [(.ref a3)])) _
    refine XS.iloadN X0.here hx rfl (hb hby d6_14) rfl ?_
    show Steps p.tables e below (s₁.setTop (mkF m 15 #[.val (.ref a1), .val (.int p2), .val (.ref a3), .val (.int p4), .val (.ref a5), .unset] [(.int p2), (.ref a3)])) _
    refine X0.baloadBytes hx (j := p2) (v := (.int (g1 p2.toNatClampNeg))) (by rw [e0]; exact Ar1.1) (State.isArrayOf_alike hZ.alike Ar1.2.1) Ar1.2.2 (inb_of S1 (own_in1 hk hd hl4)) (H1 _ (own_i4 hk hd hl4)) (g := (mkF m 15 #[.val (.ref a1), .val (.int p2), .val (.ref a3), .val (.int p4), .val (.ref a5), .unset] [(.int p2), (.ref a3)])) rfl rfl (hb hby d6_15) _ ?_
    show Steps p.tables e below (s₁.setTop (mkF m 16 #[.val (.ref a1), .val (.int p2), .val (.ref a3), .val (.int p4), .val (.ref a5), .unset] [(.int (g1 p2.toNatClampNeg))])) _
    refine XS.goto X0.here hx rfl (pc0 := 16) (pc' := 25) rfl (hb hby d6_16) (by decide) (by decide) ?_
    show Steps p.tables e below (s₁.setTop (mkF m 25 #[.val (.ref a1), .val (.int p2), .val (.ref a3), .val (.int p4), .val (.ref a5), .unset] [(.int (g1 p2.toNatClampNeg))])) _
    refine XS.istore X0.here hx rfl (hb hby d6_25) rfl (l' := #[.val (.ref a1), .val (.int p2), .val (.ref a3), .val (.int p4), .val (.ref a5), .val (.int (g1 p2.toNatClampNeg))]) rfl ?_
    show Steps p.tables e below (s₁.setTop (mkF m 27 #[.val (.ref a1), .val (.int p2), .val (.ref a3), .val (.int p4), .val (.ref a5), .val (.int (g1 p2.toNatClampNeg))] [])) _
    refine XS.aloadN X0.here hx rfl (hb hby d6_27) rfl rfl ?_
    show Steps p.tables e below (s₁.setTop (mkF m 28 #[.val (.ref a1), .val (.int p2), .val (.ref a3), .val (.int p4), .val (.ref a5), .val (.int (g1 p2.toNatClampNeg))] [(.ref a1)])) _
    refine XS.iloadN X0.here hx rfl (hb hby d6_28) rfl ?_
    show Steps p.tables e below (s₁.setTop (mkF m 29 #[.val (.ref a1), .val (.int p2), .val (.ref a3), .val (.int p4), .val (.ref a5), .val (.int (g1 p2.toNatClampNeg))] [(.int p2), (.ref a1)])) _
    refine X0.baloadBytes hx (j := p2) (v := (.int (f p2.toNatClampNeg))) (by rw [e0]; exact Aro.1) (State.isArrayOf_alike hZ.alike Aro.2.1) Aro.2.2 (inb_of So ⟨own_nn hk, hc⟩) (Ho _ (own_it hk hc)) (g := (mkF m 29 #[.val (.ref a1), .val (.int p2), .val (.ref a3), .val (.int p4), .val (.ref a5), .val (.int (g1 p2.toNatClampNeg))] [(.int p2), (.ref a1)])) rfl rfl (hb hby d6_29) _ ?_
    show Steps p.tables e below (s₁.setTop (mkF m 30 #[.val (.ref a1), .val (.int p2), .val (.ref a3), .val (.int p4), .val (.ref a5), .val (.int (g1 p2.toNatClampNeg))] [(.int (f p2.toNatClampNeg))])) _
    refine XS.iload X0.here hx rfl (hb hby d6_30) rfl ?_
    show Steps p.tables e below (s₁.setTop (mkF m 32 #[.val (.ref a1), .val (.int p2), .val (.ref a3), .val (.int p4), .val (.ref a5), .val (.int (g1 p2.toNatClampNeg))] [(.int (g1 p2.toNatClampNeg)), (.int (f p2.toNatClampNeg))])) _
    refine XS.icmpNo X0.here hx rfl (hb hby d6_32) rfl (teq ((hcon _ (own_it hk hc)).trans (if_pos (own_il hk hd)) : (f p2.toNatClampNeg) = (g1 p2.toNatClampNeg))).2 ?_
    show Steps p.tables e below (s₁.setTop (mkF m 35 #[.val (.ref a1), .val (.int p2), .val (.ref a3), .val (.int p4), .val (.ref a5), .val (.int (g1 p2.toNatClampNeg))] [])) _
    refine XS.iconst X0.here hx rfl (hb hby d6_35) ?_
    show Steps p.tables e below (s₁.setTop (mkF m 36 #[.val (.ref a1), .val (.int p2), .val (.ref a3), .val (.int p4), .val (.ref a5), .val (.int (g1 p2.toNatClampNeg))] [(.int (1 : Int32))])) _
    refine XS.goto X0.here hx rfl (pc0 := 36) (pc' := 40) rfl (hb hby d6_36) (by decide) (by decide) ?_
    show Steps p.tables e below (s₁.setTop (mkF m 40 #[.val (.ref a1), .val (.int p2), .val (.ref a3), .val (.int p4), .val (.ref a5), .val (.int (g1 p2.toNatClampNeg))] [(.int (1 : Int32))])) _
    exact retN X0 hx (t := .boolean) Bd.returns (by simp) (hb hby d6_40) hr
  · show Q_6a Z a1 p2 a3 p4 a5 tot f g1 g2 h0 n0 _ s₁.heap _
    rw [e0]
    exact ⟨rfl, N0, rfl⟩
theorem d6_19 : decode method_3_code 19 = .ok (.aload 4, 2) := by decide +kernel
theorem d6_21 : decode method_3_code 21 = .ok (.iload_n 1, 1) := by decide +kernel
theorem d6_22 : decode method_3_code 22 = .ok (.iload_n 3, 1) := by decide +kernel
theorem d6_23 : decode method_3_code 23 = .ok (.isub, 1) := by decide +kernel
theorem d6_24 : decode method_3_code 24 = .ok (.baload, 1) := by decide +kernel
theorem ef_6c (m : MethodId) (a1 : Addr) (p2 : Int32) (a3 : Addr) (p4 : Int32) (a5 : Addr) : entryFrame m #[(.ref a1), (.int p2), (.ref a3), (.int p4), (.ref a5)] 6 = mkF m 0 #[.val (.ref a1), .val (.int p2), .val (.ref a3), .val (.int p4), .val (.ref a5), .unset] [] := by first | (simp [entryFrame, mkF, argsToLocals, Value.category]; done) | rfl
set_option maxRecDepth 65536 in
set_option maxHeartbeats 40000000 in
theorem rm_6c (l : Launch) (Z : State) (a0 : Array Value) (hw : ∀ d ∈ tables_1, d.before a0 Z = true) (ws : List Jvm.Cond) (a1 : Addr) (p2 : Int32) (a3 : Addr) (p4 : Int32) (a5 : Addr) (tot : Int32) (f g1 g2 : Nat → Int32) (h0 : Heap) (n0 : Nat) (Z0 : n0 ≤ h0.size) (Bo : own_B Z h0 a1 tot f) (B1 : own_B Z h0 a3 (4 : Int32) g1) (B2 : own_B Z h0 a5 (4 : Int32) g2) (hk : 0 ≤ p2.toInt) (hl0 : 0 ≤ p4.toInt) (hl4 : p4.toInt ≤ 4) (ht : tot.toInt ≤ p4.toInt + 4) (hcon : ∀ j, j < tot.toNatClampNeg → f j = if j < p4.toNatClampNeg then g1 j else g2 (j - p4.toNatClampNeg)) (hc : p2 < tot) (hd : ¬ p2 < p4) :
    MetFree l (⟨"com/example/tympan/tympan/ReceivedToByteArrayPinLaw", "at", "([BI[BI[B)Z"⟩ : MethodName) (head1 (Jvm.Cond.code (⟨"com/example/tympan/tympan/ReceivedToByteArrayPinLaw", "at", "([BI[BI[B)Z"⟩ : MethodName) method_3_code 6 (some .boolean) :: ws) ({ frames := 0, cells := 0, slots := 0, locals := 0 } : Room)) (fun a U => a = #[(.ref a1), (.int p2), (.ref a3), (.int p4), (.ref a5)] ∧ Z.Warmed39 U.vm ∧ U.heap = h0) (fun _ _ _ _ _ => True) (fun _ U o U' => ∃ v L, o = .returned v ∧ Q_6a Z a1 p2 a3 p4 a5 tot f g1 g2 h0 n0 v U'.heap L ∧ FrameEnd U o U' L ({ frames := 0, cells := 0, slots := 0, locals := 0 } : Room).cells ({ frames := 0, cells := 0, slots := 0, locals := 0 } : Room).slots) := by
  refine MetFree.of_bodySF (plainFor_of_name pn_2) hisR ?_
  intro p e s m args below meth c s₁ Bd hml0 hP hK
  obtain ⟨rfl, hZ, hh⟩ := hP
  have hx := Bd.exec
  have hby := Bd.bytes
  have hml : c.maxLocals = 6 := hml0
  have hown : s.vm.findClass "com/example/tympan/tympan/ReceivedToByteArrayPinLaw" = some m.cls := findClass_of_methodNamed Bd.named
  have hnm := (name_of_methodNamed Bd.named Bd.method).1
  have X0 : Stand p l e ({ frames := 0, cells := 0, slots := 0, locals := 0 } : Room) s m #[(.ref a1), (.int p2), (.ref a3), (.int p4), (.ref a5)] below meth c s₁ [] 0 0 := Stand.of_body Bd
  have e0 : s₁.heap = h0 := by rw [← hh, Bd.state]; rfl
  have N0 := Fr.nil n0
  have pre0 : ∀ t, Steps p.tables e below (s₁.setTop (mkF m 0 #[.val (.ref a1), .val (.int p2), .val (.ref a3), .val (.int p4), .val (.ref a5), .unset] [])) t → Steps p.tables e below (s₁.setTop (entryFrame m #[(.ref a1), (.int p2), (.ref a3), (.int p4), (.ref a5)] 6)) t := fun t k => castTop (ef_6c m a1 p2 a3 p4 a5) k
  obtain ⟨clo, Aro, So, Mo, Ho⟩ := own_open Bo
  obtain ⟨cl1, Ar1, S1, M1, H1⟩ := own_open B1
  obtain ⟨cl2, Ar2, S2, M2, H2⟩ := own_open B2
  obtain ⟨fs, hr, hrun, hended, hW, hsame⟩ := X0.leave (v := some (.int (1 : Int32))) (fun h => by rw [Bd.returns] at h; cases h)
  refine ⟨_, _, pre0 _ ?_, hrun, hended, _, _, rfl, ?_, ⟨_, rfl⟩, hW, hsame.mono (by decide) (by decide)⟩
  · show Steps p.tables e below (s₁.setTop (mkF m 0 #[.val (.ref a1), .val (.int p2), .val (.ref a3), .val (.int p4), .val (.ref a5), .unset] [])) _
    refine XS.iloadN X0.here hx rfl (hb hby d6_0) rfl ?_
    show Steps p.tables e below (s₁.setTop (mkF m 1 #[.val (.ref a1), .val (.int p2), .val (.ref a3), .val (.int p4), .val (.ref a5), .unset] [(.int p2)])) _
    refine XS.aloadN X0.here hx rfl (hb hby d6_1) rfl rfl ?_
    show Steps p.tables e below (s₁.setTop (mkF m 2 #[.val (.ref a1), .val (.int p2), .val (.ref a3), .val (.int p4), .val (.ref a5), .unset] [(.ref a1), (.int p2)])) _
    refine X0.arraylength hx (by rw [e0]; exact Aro.1) (State.isArrayOf_alike hZ.alike Aro.2.1) (g := (mkF m 2 #[.val (.ref a1), .val (.int p2), .val (.ref a3), .val (.int p4), .val (.ref a5), .unset] [(.ref a1), (.int p2)])) rfl rfl (hb hby d6_2) _ ?_
    rw [len_of So Mo]
    show Steps p.tables e below (s₁.setTop (mkF m 3 #[.val (.ref a1), .val (.int p2), .val (.ref a3), .val (.int p4), .val (.ref a5), .unset] [(.int tot), (.int p2)])) _
    refine XS.icmpYes X0.here hx rfl (pc0 := 3) (pc' := 8) rfl (hb hby d6_3) rfl (tlt (hc : p2 < tot)).1 (by decide) (by decide) ?_
    show Steps p.tables e below (s₁.setTop (mkF m 8 #[.val (.ref a1), .val (.int p2), .val (.ref a3), .val (.int p4), .val (.ref a5), .unset] [])) _
    refine XS.iloadN X0.here hx rfl (hb hby d6_8) rfl ?_
    show Steps p.tables e below (s₁.setTop (mkF m 9 #[.val (.ref a1), .val (.int p2), .val (.ref a3), .val (.int p4), .val (.ref a5), .unset] [(.int p2)])) _
    refine XS.iloadN X0.here hx rfl (hb hby d6_9) rfl ?_
    show Steps p.tables e below (s₁.setTop (mkF m 10 #[.val (.ref a1), .val (.int p2), .val (.ref a3), .val (.int p4), .val (.ref a5), .unset] [(.int p4), (.int p2)])) _
    refine XS.icmpYes X0.here hx rfl (pc0 := 10) (pc' := 19) rfl (hb hby d6_10) rfl (flt (hd : ¬ (p2 < p4))).2.1 (by decide) (by decide) ?_
    show Steps p.tables e below (s₁.setTop (mkF m 19 #[.val (.ref a1), .val (.int p2), .val (.ref a3), .val (.int p4), .val (.ref a5), .unset] [])) _
    refine XS.aload X0.here hx rfl (hb hby d6_19) rfl rfl ?_
    show Steps p.tables e below (s₁.setTop (mkF m 21 #[.val (.ref a1), .val (.int p2), .val (.ref a3), .val (.int p4), .val (.ref a5), .unset] [(.ref a5)])) _
    refine XS.iloadN X0.here hx rfl (hb hby d6_21) rfl ?_
    show Steps p.tables e below (s₁.setTop (mkF m 22 #[.val (.ref a1), .val (.int p2), .val (.ref a3), .val (.int p4), .val (.ref a5), .unset] [(.int p2), (.ref a5)])) _
    refine XS.iloadN X0.here hx rfl (hb hby d6_22) rfl ?_
    show Steps p.tables e below (s₁.setTop (mkF m 23 #[.val (.ref a1), .val (.int p2), .val (.ref a3), .val (.int p4), .val (.ref a5), .unset] [(.int p4), (.int p2), (.ref a5)])) _
    refine XS.isub X0.here hx rfl (hb hby d6_23) rfl ?_
    show Steps p.tables e below (s₁.setTop (mkF m 24 #[.val (.ref a1), .val (.int p2), .val (.ref a3), .val (.int p4), .val (.ref a5), .unset] [(.int (p2 - p4)), (.ref a5)])) _
    refine X0.baloadBytes hx (j := (p2 - p4)) (v := (.int (g2 (p2 - p4).toNatClampNeg))) (by rw [e0]; exact Ar2.1) (State.isArrayOf_alike hZ.alike Ar2.2.1) Ar2.2.2 (inb_of S2 (own_in2 hk hc hd hl0 hl4 ht)) (H2 _ (own_i5 hk hc hd hl0 hl4 ht)) (g := (mkF m 24 #[.val (.ref a1), .val (.int p2), .val (.ref a3), .val (.int p4), .val (.ref a5), .unset] [(.int (p2 - p4)), (.ref a5)])) rfl rfl (hb hby d6_24) _ ?_
    show Steps p.tables e below (s₁.setTop (mkF m 25 #[.val (.ref a1), .val (.int p2), .val (.ref a3), .val (.int p4), .val (.ref a5), .unset] [(.int (g2 (p2 - p4).toNatClampNeg))])) _
    refine XS.istore X0.here hx rfl (hb hby d6_25) rfl (l' := #[.val (.ref a1), .val (.int p2), .val (.ref a3), .val (.int p4), .val (.ref a5), .val (.int (g2 (p2 - p4).toNatClampNeg))]) rfl ?_
    show Steps p.tables e below (s₁.setTop (mkF m 27 #[.val (.ref a1), .val (.int p2), .val (.ref a3), .val (.int p4), .val (.ref a5), .val (.int (g2 (p2 - p4).toNatClampNeg))] [])) _
    refine XS.aloadN X0.here hx rfl (hb hby d6_27) rfl rfl ?_
    show Steps p.tables e below (s₁.setTop (mkF m 28 #[.val (.ref a1), .val (.int p2), .val (.ref a3), .val (.int p4), .val (.ref a5), .val (.int (g2 (p2 - p4).toNatClampNeg))] [(.ref a1)])) _
    refine XS.iloadN X0.here hx rfl (hb hby d6_28) rfl ?_
    show Steps p.tables e below (s₁.setTop (mkF m 29 #[.val (.ref a1), .val (.int p2), .val (.ref a3), .val (.int p4), .val (.ref a5), .val (.int (g2 (p2 - p4).toNatClampNeg))] [(.int p2), (.ref a1)])) _
    refine X0.baloadBytes hx (j := p2) (v := (.int (f p2.toNatClampNeg))) (by rw [e0]; exact Aro.1) (State.isArrayOf_alike hZ.alike Aro.2.1) Aro.2.2 (inb_of So ⟨own_nn hk, hc⟩) (Ho _ (own_it hk hc)) (g := (mkF m 29 #[.val (.ref a1), .val (.int p2), .val (.ref a3), .val (.int p4), .val (.ref a5), .val (.int (g2 (p2 - p4).toNatClampNeg))] [(.int p2), (.ref a1)])) rfl rfl (hb hby d6_29) _ ?_
    show Steps p.tables e below (s₁.setTop (mkF m 30 #[.val (.ref a1), .val (.int p2), .val (.ref a3), .val (.int p4), .val (.ref a5), .val (.int (g2 (p2 - p4).toNatClampNeg))] [(.int (f p2.toNatClampNeg))])) _
    refine XS.iload X0.here hx rfl (hb hby d6_30) rfl ?_
    show Steps p.tables e below (s₁.setTop (mkF m 32 #[.val (.ref a1), .val (.int p2), .val (.ref a3), .val (.int p4), .val (.ref a5), .val (.int (g2 (p2 - p4).toNatClampNeg))] [(.int (g2 (p2 - p4).toNatClampNeg)), (.int (f p2.toNatClampNeg))])) _
    refine XS.icmpNo X0.here hx rfl (hb hby d6_32) rfl (teq (((hcon _ (own_it hk hc)).trans (if_neg (own_im hk hl0 hd))).trans (by rw [own_isb hk hl0 hl4 hd]) : (f p2.toNatClampNeg) = (g2 (p2 - p4).toNatClampNeg))).2 ?_
    show Steps p.tables e below (s₁.setTop (mkF m 35 #[.val (.ref a1), .val (.int p2), .val (.ref a3), .val (.int p4), .val (.ref a5), .val (.int (g2 (p2 - p4).toNatClampNeg))] [])) _
    refine XS.iconst X0.here hx rfl (hb hby d6_35) ?_
    show Steps p.tables e below (s₁.setTop (mkF m 36 #[.val (.ref a1), .val (.int p2), .val (.ref a3), .val (.int p4), .val (.ref a5), .val (.int (g2 (p2 - p4).toNatClampNeg))] [(.int (1 : Int32))])) _
    refine XS.goto X0.here hx rfl (pc0 := 36) (pc' := 40) rfl (hb hby d6_36) (by decide) (by decide) ?_
    show Steps p.tables e below (s₁.setTop (mkF m 40 #[.val (.ref a1), .val (.int p2), .val (.ref a3), .val (.int p4), .val (.ref a5), .val (.int (g2 (p2 - p4).toNatClampNeg))] [(.int (1 : Int32))])) _
    exact retN X0 hx (t := .boolean) Bd.returns (by simp) (hb hby d6_40) hr
  · show Q_6a Z a1 p2 a3 p4 a5 tot f g1 g2 h0 n0 _ s₁.heap _
    rw [e0]
    exact ⟨rfl, N0, rfl⟩
theorem rm_6 (l : Launch) (Z : State) (a0 : Array Value) (hw : ∀ d ∈ tables_1, d.before a0 Z = true) (ws : List Jvm.Cond) (a1 : Addr) (p2 : Int32) (a3 : Addr) (p4 : Int32) (a5 : Addr) (tot : Int32) (f g1 g2 : Nat → Int32) (h0 : Heap) (n0 : Nat) (Z0 : n0 ≤ h0.size) (Bo : own_B Z h0 a1 tot f) (B1 : own_B Z h0 a3 (4 : Int32) g1) (B2 : own_B Z h0 a5 (4 : Int32) g2) (hk : 0 ≤ p2.toInt) (hl0 : 0 ≤ p4.toInt) (hl4 : p4.toInt ≤ 4) (ht : tot.toInt ≤ p4.toInt + 4) (hcon : ∀ j, j < tot.toNatClampNeg → f j = if j < p4.toNatClampNeg then g1 j else g2 (j - p4.toNatClampNeg)) :
    MetFree l (⟨"com/example/tympan/tympan/ReceivedToByteArrayPinLaw", "at", "([BI[BI[B)Z"⟩ : MethodName) (head1 (Jvm.Cond.code (⟨"com/example/tympan/tympan/ReceivedToByteArrayPinLaw", "at", "([BI[BI[B)Z"⟩ : MethodName) method_3_code 6 (some .boolean) :: ws) ({ frames := 0, cells := 0, slots := 0, locals := 0 } : Room)) (fun a U => a = #[(.ref a1), (.int p2), (.ref a3), (.int p4), (.ref a5)] ∧ Z.Warmed39 U.vm ∧ U.heap = h0) (fun _ _ _ _ _ => True) (fun _ U o U' => ∃ v L, o = .returned v ∧ Q_6a Z a1 p2 a3 p4 a5 tot f g1 g2 h0 n0 v U'.heap L ∧ FrameEnd U o U' L ({ frames := 0, cells := 0, slots := 0, locals := 0 } : Room).cells ({ frames := 0, cells := 0, slots := 0, locals := 0 } : Room).slots) := by
  by_cases hc : p2 < tot
  · by_cases hd : p2 < p4
    · exact rm_6b l Z a0 hw ws a1 p2 a3 p4 a5 tot f g1 g2 h0 n0 Z0 Bo B1 B2 hk hl0 hl4 ht hcon hc hd
    · exact rm_6c l Z a0 hw ws a1 p2 a3 p4 a5 tot f g1 g2 h0 n0 Z0 Bo B1 B2 hk hl0 hl4 ht hcon hc hd
  · exact rm_6a l Z a0 hw ws a1 p2 a3 p4 a5 tot f g1 g2 h0 n0 Z0 Bo B1 B2 hk hl0 hl4 ht hcon hc
theorem pd_3 : parseMethodDescriptor "(J)V" = some ⟨[.long], none⟩ := by decide +kernel
theorem pd_4 : parseMethodDescriptor "([BI)V" = some ⟨[(.array .byte), .int], none⟩ := by decide +kernel
theorem pd_5 : parseMethodDescriptor "()[B" = some ⟨[], some (.array .byte)⟩ := by decide +kernel
theorem pd_6 : parseMethodDescriptor "()I" = some ⟨[], some .int⟩ := by decide +kernel
theorem pd_7 : parseMethodDescriptor "([BI[BI[B)Z" = some ⟨[(.array .byte), .int, (.array .byte), .int, (.array .byte)], some .boolean⟩ := by decide +kernel
theorem ef_0 (m : MethodId) (p0 : Int32) (q1 : Int64) : entryFrame m #[(.int p0), (.long q1)] maxLocals = mkF m 0 #[.val (.int p0), .val (.long q1), .second, .unset, .unset, .unset, .unset, .unset, .unset, .unset, .unset, .unset, .unset] [] := by first | (simp [entryFrame, mkF, argsToLocals, Value.category, maxLocals]; done) | rfl
def Q_0 (Z : State) (p0 : Int32) (q1 : Int64)  (h0 : Heap) (n0 : Nat) (v : Option Value) (h : Heap) (L : List Loc) : Prop := v = some (.int (1 : Int32)) ∧ Fr n0 L
set_option maxRecDepth 65536 in
set_option maxHeartbeats 40000000 in
theorem rm_0 (l : Launch) (Z : State) (a0 : Array Value) (hw : ∀ d ∈ tables_1, d.before a0 Z = true) (ws : List Jvm.Cond) (p0 : Int32) (q1 : Int64)  (h0 : Heap) (n0 : Nat) (Z0 : n0 ≤ h0.size)  :
    MetFree l x (head1 (Jvm.Cond.code x code maxLocals ret :: ws) room_1) (fun a U => a = #[(.int p0), (.long q1)] ∧ Z.Warmed39 U.vm ∧ U.heap = h0) (fun _ _ _ _ _ => True) (fun _ U o U' => ∃ v L, o = .returned v ∧ Q_0 Z p0 q1  h0 n0 v U'.heap L ∧ FrameEnd U o U' L room_1.cells room_1.slots) := by
  refine MetFree.of_bodySF (plainFor_of_name pn_2) hisR ?_
  intro p e s m args below meth c s₁ Bd hml0 hP hK
  obtain ⟨rfl, hZ, hh⟩ := hP
  have hx := Bd.exec
  have hby := Bd.bytes
  have hml : c.maxLocals = 13 := hml0
  have hown : s.vm.findClass "com/example/tympan/tympan/ReceivedToByteArrayPinLaw" = some m.cls := findClass_of_methodNamed Bd.named
  have hnm := (name_of_methodNamed Bd.named Bd.method).1
  have X0 : Stand p l e room_1 s m #[(.int p0), (.long q1)] below meth c s₁ [] 0 0 := Stand.of_body Bd
  have e0 : s₁.heap = h0 := by rw [← hh, Bd.state]; rfl
  have N0 := Fr.nil n0
  have pre0 : ∀ t, Steps p.tables e below (s₁.setTop (mkF m 0 #[.val (.int p0), .val (.long q1), .second, .unset, .unset, .unset, .unset, .unset, .unset, .unset, .unset, .unset, .unset] [])) t → Steps p.tables e below (s₁.setTop (entryFrame m #[(.int p0), (.long q1)] maxLocals)) t := fun t k => castTop (ef_0 m p0 q1) k
  obtain ⟨dd, hdd⟩ : ∃ y : Int64, y = (own_dec (own_q (p0 &&& (1 : Int32))) (((((p0.toUInt32 >>> ((1 : Int32) &&& 31).toUInt32).toInt32) &&& (15 : Int32)) - ((((p0.toUInt32 >>> ((1 : Int32) &&& 31).toUInt32).toInt32) &&& (15 : Int32)) / (9 : Int32)) * (9 : Int32)).toInt64)) := ⟨_, rfl⟩
  obtain ⟨hq1, hq2⟩ := own_decB (own_q (p0 &&& (1 : Int32))) ((p0.toUInt32 >>> ((1 : Int32) &&& 31).toUInt32).toInt32)
  rw [← hdd] at hq1 hq2
  obtain ⟨l1, hl1⟩ : ∃ y : Int32, y = ((((p0.toUInt32 >>> ((5 : Int32) &&& 31).toUInt32).toInt32) &&& (7 : Int32)) - ((((p0.toUInt32 >>> ((5 : Int32) &&& 31).toUInt32).toInt32) &&& (7 : Int32)) / (5 : Int32)) * (5 : Int32)) := ⟨_, rfl⟩
  obtain ⟨la, lb⟩ := own_rem5 ((p0.toUInt32 >>> ((5 : Int32) &&& 31).toUInt32).toInt32)
  rw [← hl1] at la lb
  obtain ⟨l2, hl2⟩ : ∃ y : Int32, y = ((((p0.toUInt32 >>> ((8 : Int32) &&& 31).toUInt32).toInt32) &&& (7 : Int32)) - ((((p0.toUInt32 >>> ((8 : Int32) &&& 31).toUInt32).toInt32) &&& (7 : Int32)) / (5 : Int32)) * (5 : Int32)) := ⟨_, rfl⟩
  obtain ⟨lc, ld⟩ := own_rem5 ((p0.toUInt32 >>> ((8 : Int32) &&& 31).toUInt32).toInt32)
  rw [← hl2] at lc ld
  have j11 : ∀ t, Steps p.tables e below (s₁.setTop (mkF m 11 #[.val (.int p0), .val (.long q1), .second, .unset, .unset, .unset, .unset, .unset, .unset, .unset, .unset, .unset, .unset] [(.int (own_q (p0 &&& (1 : Int32))))])) t → Steps p.tables e below (s₁.setTop (mkF m 3 #[.val (.int p0), .val (.long q1), .second, .unset, .unset, .unset, .unset, .unset, .unset, .unset, .unset, .unset, .unset] [(.int (p0 &&& (1 : Int32)))])) t := by
    intro t kt
    by_cases h1 : (p0 &&& (1 : Int32)) = 0
    · have hv : own_q (p0 &&& (1 : Int32)) = 0 := if_pos h1
      rw [hv] at kt
      show Steps p.tables e below (s₁.setTop (mkF m 3 #[.val (.int p0), .val (.long q1), .second, .unset, .unset, .unset, .unset, .unset, .unset, .unset, .unset, .unset, .unset] [(.int (p0 &&& (1 : Int32)))])) _
      refine XS.ifYes X0.here hx rfl (pc0 := 3) (pc' := 10) rfl (hb hby at_3) rfl ((if0 _ _).trans (teq (h1 : (p0 &&& (1 : Int32)) = (0 : Int32))).1) (by decide) (by decide) ?_
      show Steps p.tables e below (s₁.setTop (mkF m 10 #[.val (.int p0), .val (.long q1), .second, .unset, .unset, .unset, .unset, .unset, .unset, .unset, .unset, .unset, .unset] [])) _
      refine XS.iconst X0.here hx rfl (hb hby at_10) ?_
      exact kt
    · have hv : own_q (p0 &&& (1 : Int32)) = 1 := if_neg h1
      rw [hv] at kt
      show Steps p.tables e below (s₁.setTop (mkF m 3 #[.val (.int p0), .val (.long q1), .second, .unset, .unset, .unset, .unset, .unset, .unset, .unset, .unset, .unset, .unset] [(.int (p0 &&& (1 : Int32)))])) _
      refine XS.ifNo X0.here hx rfl (hb hby at_3) rfl ((if0 _ _).trans (feq (h1 : ¬ ((p0 &&& (1 : Int32)) = (0 : Int32)))).1) ?_
      show Steps p.tables e below (s₁.setTop (mkF m 6 #[.val (.int p0), .val (.long q1), .second, .unset, .unset, .unset, .unset, .unset, .unset, .unset, .unset, .unset, .unset] [])) _
      refine XS.iconst X0.here hx rfl (hb hby at_6) ?_
      show Steps p.tables e below (s₁.setTop (mkF m 7 #[.val (.int p0), .val (.long q1), .second, .unset, .unset, .unset, .unset, .unset, .unset, .unset, .unset, .unset, .unset] [(.int (1 : Int32))])) _
      refine XS.goto X0.here hx rfl (pc0 := 7) (pc' := 11) rfl (hb hby at_7) (by decide) (by decide) ?_
      exact kt
  have j32 : ∀ t, Steps p.tables e below (s₁.setTop (mkF m 32 #[.val (.int p0), .val (.long q1), .second, .val (.int (own_q (p0 &&& (1 : Int32)))), .unset, .unset, .unset, .unset, .unset, .unset, .unset, .unset, .unset] [(.long (own_dec (own_q (p0 &&& (1 : Int32))) (((((p0.toUInt32 >>> ((1 : Int32) &&& 31).toUInt32).toInt32) &&& (15 : Int32)) - ((((p0.toUInt32 >>> ((1 : Int32) &&& 31).toUInt32).toInt32) &&& (15 : Int32)) / (9 : Int32)) * (9 : Int32)).toInt64)))])) t → Steps p.tables e below (s₁.setTop (mkF m 13 #[.val (.int p0), .val (.long q1), .second, .val (.int (own_q (p0 &&& (1 : Int32)))), .unset, .unset, .unset, .unset, .unset, .unset, .unset, .unset, .unset] [(.int (own_q (p0 &&& (1 : Int32))))])) t := by
    intro t kt
    by_cases h1 : own_q (p0 &&& (1 : Int32)) = 0
    · have hv : own_dec (own_q (p0 &&& (1 : Int32))) (((((p0.toUInt32 >>> ((1 : Int32) &&& 31).toUInt32).toInt32) &&& (15 : Int32)) - ((((p0.toUInt32 >>> ((1 : Int32) &&& 31).toUInt32).toInt32) &&& (15 : Int32)) / (9 : Int32)) * (9 : Int32)).toInt64) = (((((p0.toUInt32 >>> ((1 : Int32) &&& 31).toUInt32).toInt32) &&& (15 : Int32)) - ((((p0.toUInt32 >>> ((1 : Int32) &&& 31).toUInt32).toInt32) &&& (15 : Int32)) / (9 : Int32)) * (9 : Int32)).toInt64) := if_pos h1
      rw [hv] at kt
      show Steps p.tables e below (s₁.setTop (mkF m 13 #[.val (.int p0), .val (.long q1), .second, .val (.int (own_q (p0 &&& (1 : Int32)))), .unset, .unset, .unset, .unset, .unset, .unset, .unset, .unset, .unset] [(.int (own_q (p0 &&& (1 : Int32))))])) _
      refine XS.ifYes X0.here hx rfl (pc0 := 13) (pc' := 22) rfl (hb hby at_13) rfl ((if0 _ _).trans (teq (h1 : (own_q (p0 &&& (1 : Int32))) = (0 : Int32))).1) (by decide) (by decide) ?_
      show Steps p.tables e below (s₁.setTop (mkF m 22 #[.val (.int p0), .val (.long q1), .second, .val (.int (own_q (p0 &&& (1 : Int32)))), .unset, .unset, .unset, .unset, .unset, .unset, .unset, .unset, .unset] [])) _
      refine XS.iloadN X0.here hx rfl (hb hby at_22) rfl ?_
      show Steps p.tables e below (s₁.setTop (mkF m 23 #[.val (.int p0), .val (.long q1), .second, .val (.int (own_q (p0 &&& (1 : Int32)))), .unset, .unset, .unset, .unset, .unset, .unset, .unset, .unset, .unset] [(.int p0)])) _
      refine XS.iconst X0.here hx rfl (hb hby at_23) ?_
      show Steps p.tables e below (s₁.setTop (mkF m 24 #[.val (.int p0), .val (.long q1), .second, .val (.int (own_q (p0 &&& (1 : Int32)))), .unset, .unset, .unset, .unset, .unset, .unset, .unset, .unset, .unset] [(.int (1 : Int32)), (.int p0)])) _
      refine XS.iushr X0.here hx rfl (hb hby at_24) rfl ?_
      show Steps p.tables e below (s₁.setTop (mkF m 25 #[.val (.int p0), .val (.long q1), .second, .val (.int (own_q (p0 &&& (1 : Int32)))), .unset, .unset, .unset, .unset, .unset, .unset, .unset, .unset, .unset] [(.int ((p0.toUInt32 >>> ((1 : Int32) &&& 31).toUInt32).toInt32))])) _
      refine XS.bipush X0.here hx rfl (hb hby at_25) ?_
      show Steps p.tables e below (s₁.setTop (mkF m 27 #[.val (.int p0), .val (.long q1), .second, .val (.int (own_q (p0 &&& (1 : Int32)))), .unset, .unset, .unset, .unset, .unset, .unset, .unset, .unset, .unset] [(.int (15 : Int32)), (.int ((p0.toUInt32 >>> ((1 : Int32) &&& 31).toUInt32).toInt32))])) _
      refine XS.iand X0.here hx rfl (hb hby at_27) rfl ?_
      show Steps p.tables e below (s₁.setTop (mkF m 28 #[.val (.int p0), .val (.long q1), .second, .val (.int (own_q (p0 &&& (1 : Int32)))), .unset, .unset, .unset, .unset, .unset, .unset, .unset, .unset, .unset] [(.int (((p0.toUInt32 >>> ((1 : Int32) &&& 31).toUInt32).toInt32) &&& (15 : Int32)))])) _
      refine XS.bipush X0.here hx rfl (hb hby at_28) ?_
      show Steps p.tables e below (s₁.setTop (mkF m 30 #[.val (.int p0), .val (.long q1), .second, .val (.int (own_q (p0 &&& (1 : Int32)))), .unset, .unset, .unset, .unset, .unset, .unset, .unset, .unset, .unset] [(.int (9 : Int32)), (.int (((p0.toUInt32 >>> ((1 : Int32) &&& 31).toUInt32).toInt32) &&& (15 : Int32)))])) _
      refine XS.irem X0.here hx rfl (hb hby at_30) rfl (by decide) ?_
      show Steps p.tables e below (s₁.setTop (mkF m 31 #[.val (.int p0), .val (.long q1), .second, .val (.int (own_q (p0 &&& (1 : Int32)))), .unset, .unset, .unset, .unset, .unset, .unset, .unset, .unset, .unset] [(.int ((((p0.toUInt32 >>> ((1 : Int32) &&& 31).toUInt32).toInt32) &&& (15 : Int32)) - ((((p0.toUInt32 >>> ((1 : Int32) &&& 31).toUInt32).toInt32) &&& (15 : Int32)) / (9 : Int32)) * (9 : Int32)))])) _
      refine XS.i2l X0.here hx rfl (hb hby at_31) rfl ?_
      exact kt
    · have hv : own_dec (own_q (p0 &&& (1 : Int32))) (((((p0.toUInt32 >>> ((1 : Int32) &&& 31).toUInt32).toInt32) &&& (15 : Int32)) - ((((p0.toUInt32 >>> ((1 : Int32) &&& 31).toUInt32).toInt32) &&& (15 : Int32)) / (9 : Int32)) * (9 : Int32)).toInt64) = (-1 : Int64) := if_neg h1
      rw [hv] at kt
      show Steps p.tables e below (s₁.setTop (mkF m 13 #[.val (.int p0), .val (.long q1), .second, .val (.int (own_q (p0 &&& (1 : Int32)))), .unset, .unset, .unset, .unset, .unset, .unset, .unset, .unset, .unset] [(.int (own_q (p0 &&& (1 : Int32))))])) _
      refine XS.ifNo X0.here hx rfl (hb hby at_13) rfl ((if0 _ _).trans (feq (h1 : ¬ ((own_q (p0 &&& (1 : Int32))) = (0 : Int32)))).1) ?_
      show Steps p.tables e below (s₁.setTop (mkF m 16 #[.val (.int p0), .val (.long q1), .second, .val (.int (own_q (p0 &&& (1 : Int32)))), .unset, .unset, .unset, .unset, .unset, .unset, .unset, .unset, .unset] [])) _
      refine X0.ldc2Long hx hown (mvT hZ (hw _ (List.mem_of_getElem? (i := 38) rfl))) (g := (mkF m 16 #[.val (.int p0), .val (.long q1), .second, .val (.int (own_q (p0 &&& (1 : Int32)))), .unset, .unset, .unset, .unset, .unset, .unset, .unset, .unset, .unset] [])) rfl (hb hby at_16) _ ?_
      show Steps p.tables e below (s₁.setTop (mkF m 19 #[.val (.int p0), .val (.long q1), .second, .val (.int (own_q (p0 &&& (1 : Int32)))), .unset, .unset, .unset, .unset, .unset, .unset, .unset, .unset, .unset] [(.long (-1 : Int64))])) _
      refine XS.goto X0.here hx rfl (pc0 := 19) (pc' := 32) rfl (hb hby at_19) (by decide) (by decide) ?_
      exact kt
  obtain ⟨T39, h39, k39, X39, e39, E39, A39, st39⟩ := newP X0 hx hZ (hw _ (List.mem_of_getElem? (i := 0) rfl)) e0 (g := (mkF m 56 #[.val (.int p0), .val (.long q1), .second, .val (.int (own_q (p0 &&& (1 : Int32)))), .val (.long dd), .second, .val (.int l1), .val (.int l2), .unset, .unset, .unset, .unset, .unset] [(.int (4 : Int32))])) rfl (hb hby at_56) rfl (by decide) (cap := 4) (by decide) (by decide) (by decide) (by decide)
  obtain ⟨n1, g39⟩ : ∃ z, z = h0.size := ⟨_, rfl⟩
  rw [← g39] at A39 st39
  have g_n1 : n0 ≤ n1 := Nat.le_trans Z0 (Nat.le_of_eq g39.symm)
  have Z39 : n0 ≤ h39.size := Nat.le_trans Z0 E39.1
  have C1_39 : ∃ f, own_B Z h39 n1 (4 : Int32) f := ⟨_, own_new A39 (by decide)⟩
  obtain ⟨T40, h40, k40, X40, e40, E40, A40, st40⟩ := newP X39 hx hZ (hw _ (List.mem_of_getElem? (i := 0) rfl)) e39 (g := (mkF m 61 #[.val (.int p0), .val (.long q1), .second, .val (.int (own_q (p0 &&& (1 : Int32)))), .val (.long dd), .second, .val (.int l1), .val (.int l2), .val (.ref n1), .unset, .unset, .unset, .unset] [(.int (4 : Int32))])) rfl (hb hby at_61) rfl (by decide) (cap := 4) (by decide) (by decide) (by decide) (by decide)
  obtain ⟨n2, g40⟩ : ∃ z, z = h39.size := ⟨_, rfl⟩
  rw [← g40] at A40 st40
  have g_n2 : n0 ≤ n2 := Nat.le_trans Z39 (Nat.le_of_eq g40.symm)
  have Z40 : n0 ≤ h40.size := Nat.le_trans Z39 E40.1
  have n12 : n1 ≠ n2 := Nat.ne_of_lt (Nat.lt_of_lt_of_le (own_lt C1_39) (Nat.le_of_eq g40.symm))
  have C2_40 : ∃ f, own_B Z h40 n2 (4 : Int32) f := ⟨_, own_new A40 (by decide)⟩
  have C1_40 := own_extE C1_39 E40
  obtain ⟨cl0, Ar0, S0, M0⟩ := own_openE C1_40
  obtain ⟨T41, h41, X41, e41, W41, st41⟩ := stB X40 hx hZ e40 Ar0 (j := (0 : Int32)) (inb_of S0 ⟨by decide, by decide⟩) (g := (mkF m 71 #[.val (.int p0), .val (.long q1), .second, .val (.int (own_q (p0 &&& (1 : Int32)))), .val (.long dd), .second, .val (.int l1), .val (.int l2), .val (.ref n1), .val (.ref n2), .unset, .unset, .unset] [(.int ((q1.toInt32).toInt8.toInt32)), (.int (0 : Int32)), (.ref n1)])) rfl rfl (hb hby at_71)
  have N41 := Fr.snoc X41 N0 g_n1
  have Z41 : n0 ≤ h41.size := Nat.le_trans Z40 (Keep.of_wr W41).1
  have Cm_41 := own_store C1_40 W41 (fits_nar_byte _) (by decide)
  have Co_41 := own_otherE C2_40 W41 (Ne.symm n12)
  obtain ⟨cl1, Ar1, S1, M1⟩ := own_openE Cm_41
  obtain ⟨T42, h42, X42, e42, W42, st42⟩ := stB X41 hx hZ e41 Ar1 (j := (1 : Int32)) (inb_of S1 ⟨by decide, by decide⟩) (g := (mkF m 81 #[.val (.int p0), .val (.long q1), .second, .val (.int (own_q (p0 &&& (1 : Int32)))), .val (.long dd), .second, .val (.int l1), .val (.int l2), .val (.ref n1), .val (.ref n2), .unset, .unset, .unset] [(.int ((((q1.toUInt64 >>> ((8 : Int32) &&& 0x3f).toInt64.toUInt64).toInt64).toInt32).toInt8.toInt32)), (.int (1 : Int32)), (.ref n1)])) rfl rfl (hb hby at_81)
  have N42 := Fr.snoc X42 N41 g_n1
  have Z42 : n0 ≤ h42.size := Nat.le_trans Z41 (Keep.of_wr W42).1
  have Cm_42 := own_store Cm_41 W42 (fits_nar_byte _) (by decide)
  have Co_42 := own_otherE Co_41 W42 (Ne.symm n12)
  obtain ⟨cl2, Ar2, S2, M2⟩ := own_openE Cm_42
  obtain ⟨T43, h43, X43, e43, W43, st43⟩ := stB X42 hx hZ e42 Ar2 (j := (2 : Int32)) (inb_of S2 ⟨by decide, by decide⟩) (g := (mkF m 91 #[.val (.int p0), .val (.long q1), .second, .val (.int (own_q (p0 &&& (1 : Int32)))), .val (.long dd), .second, .val (.int l1), .val (.int l2), .val (.ref n1), .val (.ref n2), .unset, .unset, .unset] [(.int ((((q1.toUInt64 >>> ((16 : Int32) &&& 0x3f).toInt64.toUInt64).toInt64).toInt32).toInt8.toInt32)), (.int (2 : Int32)), (.ref n1)])) rfl rfl (hb hby at_91)
  have N43 := Fr.snoc X43 N42 g_n1
  have Z43 : n0 ≤ h43.size := Nat.le_trans Z42 (Keep.of_wr W43).1
  have Cm_43 := own_store Cm_42 W43 (fits_nar_byte _) (by decide)
  have Co_43 := own_otherE Co_42 W43 (Ne.symm n12)
  obtain ⟨cl3, Ar3, S3, M3⟩ := own_openE Cm_43
  obtain ⟨T44, h44, X44, e44, W44, st44⟩ := stB X43 hx hZ e43 Ar3 (j := (3 : Int32)) (inb_of S3 ⟨by decide, by decide⟩) (g := (mkF m 101 #[.val (.int p0), .val (.long q1), .second, .val (.int (own_q (p0 &&& (1 : Int32)))), .val (.long dd), .second, .val (.int l1), .val (.int l2), .val (.ref n1), .val (.ref n2), .unset, .unset, .unset] [(.int ((((q1.toUInt64 >>> ((24 : Int32) &&& 0x3f).toInt64.toUInt64).toInt64).toInt32).toInt8.toInt32)), (.int (3 : Int32)), (.ref n1)])) rfl rfl (hb hby at_101)
  have N44 := Fr.snoc X44 N43 g_n1
  have Z44 : n0 ≤ h44.size := Nat.le_trans Z43 (Keep.of_wr W44).1
  have Cm_44 := own_store Cm_43 W44 (fits_nar_byte _) (by decide)
  have Co_44 := own_otherE Co_43 W44 (Ne.symm n12)
  obtain ⟨cl4, Ar4, S4, M4⟩ := own_openE Co_44
  obtain ⟨T45, h45, X45, e45, W45, st45⟩ := stB X44 hx hZ e44 Ar4 (j := (0 : Int32)) (inb_of S4 ⟨by decide, by decide⟩) (g := (mkF m 111 #[.val (.int p0), .val (.long q1), .second, .val (.int (own_q (p0 &&& (1 : Int32)))), .val (.long dd), .second, .val (.int l1), .val (.int l2), .val (.ref n1), .val (.ref n2), .unset, .unset, .unset] [(.int ((((q1.toUInt64 >>> ((32 : Int32) &&& 0x3f).toInt64.toUInt64).toInt64).toInt32).toInt8.toInt32)), (.int (0 : Int32)), (.ref n2)])) rfl rfl (hb hby at_111)
  have N45 := Fr.snoc X45 N44 g_n2
  have Z45 : n0 ≤ h45.size := Nat.le_trans Z44 (Keep.of_wr W45).1
  have Cm_45 := own_store Co_44 W45 (fits_nar_byte _) (by decide)
  have Co_45 := own_otherE Cm_44 W45 (Ne.symm (Ne.symm n12))
  obtain ⟨cl5, Ar5, S5, M5⟩ := own_openE Cm_45
  obtain ⟨T46, h46, X46, e46, W46, st46⟩ := stB X45 hx hZ e45 Ar5 (j := (1 : Int32)) (inb_of S5 ⟨by decide, by decide⟩) (g := (mkF m 121 #[.val (.int p0), .val (.long q1), .second, .val (.int (own_q (p0 &&& (1 : Int32)))), .val (.long dd), .second, .val (.int l1), .val (.int l2), .val (.ref n1), .val (.ref n2), .unset, .unset, .unset] [(.int ((((q1.toUInt64 >>> ((40 : Int32) &&& 0x3f).toInt64.toUInt64).toInt64).toInt32).toInt8.toInt32)), (.int (1 : Int32)), (.ref n2)])) rfl rfl (hb hby at_121)
  have N46 := Fr.snoc X46 N45 g_n2
  have Z46 : n0 ≤ h46.size := Nat.le_trans Z45 (Keep.of_wr W46).1
  have Cm_46 := own_store Cm_45 W46 (fits_nar_byte _) (by decide)
  have Co_46 := own_otherE Co_45 W46 (Ne.symm (Ne.symm n12))
  obtain ⟨cl6, Ar6, S6, M6⟩ := own_openE Cm_46
  obtain ⟨T47, h47, X47, e47, W47, st47⟩ := stB X46 hx hZ e46 Ar6 (j := (2 : Int32)) (inb_of S6 ⟨by decide, by decide⟩) (g := (mkF m 131 #[.val (.int p0), .val (.long q1), .second, .val (.int (own_q (p0 &&& (1 : Int32)))), .val (.long dd), .second, .val (.int l1), .val (.int l2), .val (.ref n1), .val (.ref n2), .unset, .unset, .unset] [(.int ((((q1.toUInt64 >>> ((48 : Int32) &&& 0x3f).toInt64.toUInt64).toInt64).toInt32).toInt8.toInt32)), (.int (2 : Int32)), (.ref n2)])) rfl rfl (hb hby at_131)
  have N47 := Fr.snoc X47 N46 g_n2
  have Z47 : n0 ≤ h47.size := Nat.le_trans Z46 (Keep.of_wr W47).1
  have Cm_47 := own_store Cm_46 W47 (fits_nar_byte _) (by decide)
  have Co_47 := own_otherE Co_46 W47 (Ne.symm (Ne.symm n12))
  obtain ⟨cl7, Ar7, S7, M7⟩ := own_openE Cm_47
  obtain ⟨T48, h48, X48, e48, W48, st48⟩ := stB X47 hx hZ e47 Ar7 (j := (3 : Int32)) (inb_of S7 ⟨by decide, by decide⟩) (g := (mkF m 141 #[.val (.int p0), .val (.long q1), .second, .val (.int (own_q (p0 &&& (1 : Int32)))), .val (.long dd), .second, .val (.int l1), .val (.int l2), .val (.ref n1), .val (.ref n2), .unset, .unset, .unset] [(.int ((((q1.toUInt64 >>> ((56 : Int32) &&& 0x3f).toInt64.toUInt64).toInt64).toInt32).toInt8.toInt32)), (.int (3 : Int32)), (.ref n2)])) rfl rfl (hb hby at_141)
  have N48 := Fr.snoc X48 N47 g_n2
  have Z48 : n0 ≤ h48.size := Nat.le_trans Z47 (Keep.of_wr W48).1
  have Cm_48 := own_store Cm_47 W48 (fits_nar_byte _) (by decide)
  have Co_48 := own_otherE Co_47 W48 (Ne.symm (Ne.symm n12))
  obtain ⟨g1, G1⟩ := Co_48
  obtain ⟨g2, G2⟩ := Cm_48
  obtain ⟨T49, h49, X49, e49, E49, A49, D49, -, st49⟩ := newO X48 hx hZ hown (hw _ (List.mem_of_getElem? (i := 1) rfl)) (hw _ (List.mem_of_getElem? (i := 2) rfl)) (hw _ (List.mem_of_getElem? (i := 3) rfl)) e48 (g := (mkF m 142 #[.val (.int p0), .val (.long q1), .second, .val (.int (own_q (p0 &&& (1 : Int32)))), .val (.long dd), .second, .val (.int l1), .val (.int l2), .val (.ref n1), .val (.ref n2), .unset, .unset, .unset] [])) rfl (hb hby at_142) (by decide) (by decide)
  obtain ⟨a, g49⟩ : ∃ z, z = h48.size := ⟨_, rfl⟩
  rw [← g49] at A49 D49 st49
  have E_a := A49
  have g_a : n0 ≤ a := Nat.le_trans Z48 (Nat.le_of_eq g49.symm)
  have F_bytes_a : Fld Z h49 a "com/example/tympan/tympan/BodyLimit$Received" "bytes" "[B" .null := D49 (Or.inl (hw _ (List.mem_of_getElem? (i := 12) rfl))) (ty := (.array .byte)) (by decide)
  have F_size_a : Fld Z h49 a "com/example/tympan/tympan/BodyLimit$Received" "size" "I" (.int (0 : Int32)) := D49 (Or.inl (hw _ (List.mem_of_getElem? (i := 19) rfl))) (ty := .int) (by decide)
  have Z49 : n0 ≤ h49.size := Nat.le_trans Z48 E49.1
  have n1a : n1 ≠ a := Nat.ne_of_lt (Nat.lt_of_lt_of_le (own_ltB G1) (Nat.le_of_eq g49.symm))
  have n2a : n2 ≠ a := Nat.ne_of_lt (Nat.lt_of_lt_of_le (own_ltB G2) (Nat.le_of_eq g49.symm))
  have G1a := own_ext G1 E49
  have G2a := own_ext G2 E49
  obtain ⟨_, _, ⟨T50, L50, k50, n50⟩, -, X50, ⟨Lc50, hQ50, l50, y50, z50⟩, st50⟩ := X49.specialBack hx (y := (⟨"com/example/tympan/tympan/BodyLimit$Received", "<init>", "(J)V"⟩ : MethodName)) rfl hown (mvT hZ (hw _ (List.mem_of_getElem? (i := 4) rfl))) (mvT hZ (hw _ (List.mem_of_getElem? (i := 5) rfl))) (mvT hZ (hw _ (List.mem_of_getElem? (i := 6) rfl))) (by decide) (backOf (W := 1) (rm_1 l Z a0 hw [] a dd h49 n0 Z49 E_a g_a F_bytes_a F_size_a hq1 hq2) hZ (hw _ (List.mem_of_getElem? (i := 6) rfl)) (hw _ (List.mem_of_getElem? (i := 3) rfl)) (by decide) (by decide)) (g := (mkF m 148 #[.val (.int p0), .val (.long q1), .second, .val (.int (own_q (p0 &&& (1 : Int32)))), .val (.long dd), .second, .val (.int l1), .val (.int l2), .val (.ref n1), .val (.ref n2), .unset, .unset, .unset] [(.long dd), (.ref a), (.ref a)])) rfl (by rw [hml]; rfl) (Steps.refl _) (a := a) (argsL := [(.long dd)]) (rest := [(.ref a)]) (lenOf pd_3 rfl) rfl (by show 2 * 0 + _ ≤ _; exact Nat.le_of_eq rfl) (hb hby at_148) (fun _ _ => ⟨rfl, e49, (by decide : 3 + 1 ≤ _), (by decide : 10 + 8192 ≤ _)⟩)
  dsimp only [Pt.U, Pt.locs, Pt.cells, Pt.slots] at X50 l50 y50 z50 st50 hQ50
  subst l50 y50 z50
  obtain ⟨rfl, N50q, K1, b, z, g_b, R1, z1, z2, szb⟩ := hQ50
  have N50 := Fr.app N48 N50q
  have Z50 : n0 ≤ T50.heap.size := Nat.le_trans Z49 K1.1
  have n1b : n1 ≠ b := Nat.ne_of_lt (Nat.lt_of_lt_of_le (own_ltB G1a) szb)
  have n2b : n2 ≠ b := Nat.ne_of_lt (Nat.lt_of_lt_of_le (own_ltB G2a) szb)
  have G1b := own_keep G1a K1 (ninS n1a nin0)
  have G2b := own_keep G2a K1 (ninS n2a nin0)
  obtain ⟨cq51, kq51, q51a, q51b, q51c⟩ := isOf hZ rfl R1.2.1
  obtain ⟨_, _, ⟨T51, L51, k51, n51⟩, -, X51, ⟨Lc51, hQ51, l51, y51, z51⟩, st51⟩ := X50.virtualBack hx (y := (⟨"com/example/tympan/tympan/BodyLimit$Received", "add", "([BI)V"⟩ : MethodName)) (z := (⟨"com/example/tympan/tympan/BodyLimit$Received", "add", "([BI)V"⟩ : MethodName)) hown (mvT hZ (hw _ (List.mem_of_getElem? (i := 13) rfl))) (mvT hZ (hw _ (List.mem_of_getElem? (i := 14) rfl))) (notFace_of_selects (args := #[]) (mvT hZ (hw _ (List.mem_of_getElem? (i := 16) rfl)))) (mvT hZ (hw _ (List.mem_of_getElem? (i := 16) rfl))) (mvT hZ (hw _ (List.mem_of_getElem? (i := 15) rfl))) (by decide) (backOf (W := 0) (rm_3 l Z a0 hw [] a n1 l1 b z 0 (fun _ => 0) g1 T50.heap n0 Z50 R1 G1b n1b n1a g_a g_b (by decide) (by decide) la lb z1 z2 z1) hZ (hw _ (List.mem_of_getElem? (i := 17) rfl)) (hw _ (List.mem_of_getElem? (i := 3) rfl)) (by decide) (by decide)) q51a q51c (g := (mkF m 159 #[.val (.int p0), .val (.long q1), .second, .val (.int (own_q (p0 &&& (1 : Int32)))), .val (.long dd), .second, .val (.int l1), .val (.int l2), .val (.ref n1), .val (.ref n2), .val (.ref a), .unset, .unset] [(.int l1), (.ref n1), (.ref a)])) rfl (by rw [hml]; rfl) (Steps.refl _) (argsL := [(.ref n1), (.int l1)]) (rest := []) (lenOf pd_4 rfl) rfl (by show 2 * 0 + _ ≤ _; exact Nat.le_of_eq rfl) (hb hby at_159) (fun _ _ => ⟨rfl, rfl, (by decide : 4 + 1 ≤ _), (by decide : 8202 + 16 ≤ _)⟩)
  dsimp only [Pt.U, Pt.locs, Pt.cells, Pt.slots] at X51 l51 y51 z51 st51 hQ51
  subst l51 y51 z51
  obtain ⟨rfl, N51q, b', z', f', g_b', ob', K2, R2, z1', z2', zz', lo', hi'⟩ := hQ51
  have N51 := Fr.app N50 N51q
  have Z51 : n0 ≤ T51.heap.size := Nat.le_trans Z50 K2.1
  have n1b' : n1 ≠ b' := own_neb n1b (own_ltB G1b) ob'
  have n2b' : n2 ≠ b' := own_neb n2b (own_ltB G2b) ob'
  have G1c := own_keep G1b K2 (ninS n1a (ninS n1b nin0))
  have G2c := own_keep G2b K2 (ninS n2a (ninS n2b nin0))
  have s1e : ((0 : Int32) + l1) = l1 := Int32.zero_add l1
  obtain ⟨cq52, kq52, q52a, q52b, q52c⟩ := isOf hZ rfl R2.2.1
  obtain ⟨_, _, ⟨T52, L52, k52, n52⟩, -, X52, ⟨Lc52, hQ52, l52, y52, z52⟩, st52⟩ := X51.virtualBack hx (y := (⟨"com/example/tympan/tympan/BodyLimit$Received", "add", "([BI)V"⟩ : MethodName)) (z := (⟨"com/example/tympan/tympan/BodyLimit$Received", "add", "([BI)V"⟩ : MethodName)) hown (mvT hZ (hw _ (List.mem_of_getElem? (i := 13) rfl))) (mvT hZ (hw _ (List.mem_of_getElem? (i := 14) rfl))) (notFace_of_selects (args := #[]) (mvT hZ (hw _ (List.mem_of_getElem? (i := 16) rfl)))) (mvT hZ (hw _ (List.mem_of_getElem? (i := 16) rfl))) (mvT hZ (hw _ (List.mem_of_getElem? (i := 15) rfl))) (by decide) (backOf (W := 0) (rm_3 l Z a0 hw [] a n2 l2 b' z' ((0 : Int32) + l1) f' g2 T51.heap n0 Z51 R2 G2c n2b' n2a g_a g_b' (by rw [s1e]; exact la) (by rw [s1e]; exact lb) lc ld z1' z2' zz') hZ (hw _ (List.mem_of_getElem? (i := 17) rfl)) (hw _ (List.mem_of_getElem? (i := 3) rfl)) (by decide) (by decide)) q52a q52c (g := (mkF m 168 #[.val (.int p0), .val (.long q1), .second, .val (.int (own_q (p0 &&& (1 : Int32)))), .val (.long dd), .second, .val (.int l1), .val (.int l2), .val (.ref n1), .val (.ref n2), .val (.ref a), .unset, .unset] [(.int l2), (.ref n2), (.ref a)])) rfl (by rw [hml]; rfl) (Steps.refl _) (argsL := [(.ref n2), (.int l2)]) (rest := []) (lenOf pd_4 rfl) rfl (by show 2 * 0 + _ ≤ _; exact Nat.le_of_eq rfl) (hb hby at_168) (fun _ _ => ⟨rfl, rfl, (by decide : 5 + 1 ≤ _), (by decide : 8218 + 16 ≤ _)⟩)
  dsimp only [Pt.U, Pt.locs, Pt.cells, Pt.slots] at X52 l52 y52 z52 st52 hQ52
  subst l52 y52 z52
  obtain ⟨rfl, N52q, b'', z'', f'', g_b'', ob'', K3, R3, z1'', z2'', zz'', lo'', hi''⟩ := hQ52
  have N52 := Fr.app N51 N52q
  have Z52 : n0 ≤ T52.heap.size := Nat.le_trans Z51 K3.1
  have G1d := own_keep G1c K3 (ninS n1a (ninS n1b' nin0))
  have G2d := own_keep G2c K3 (ninS n2a (ninS n2b' nin0))
  have hsum := own_sum la lb lc ld
  obtain ⟨cq53, kq53, q53a, q53b, q53c⟩ := isOf hZ rfl R3.2.1
  obtain ⟨_, _, ⟨T53, L53, k53, n53⟩, -, X53, ⟨Lc53, hQ53, l53, y53, z53⟩, st53⟩ := X52.virtualBack hx (y := (⟨"com/example/tympan/tympan/BodyLimit$Received", "toByteArray", "()[B"⟩ : MethodName)) (z := (⟨"com/example/tympan/tympan/BodyLimit$Received", "toByteArray", "()[B"⟩ : MethodName)) hown (mvT hZ (hw _ (List.mem_of_getElem? (i := 24) rfl))) (mvT hZ (hw _ (List.mem_of_getElem? (i := 25) rfl))) (notFace_of_selects (args := #[]) (mvT hZ (hw _ (List.mem_of_getElem? (i := 27) rfl)))) (mvT hZ (hw _ (List.mem_of_getElem? (i := 27) rfl))) (mvT hZ (hw _ (List.mem_of_getElem? (i := 26) rfl))) (by decide) (backOf (W := 0) (rm_4 l Z a0 hw [] a b'' z'' (((0 : Int32) + l1) + l2) f'' T52.heap n0 Z52 R3 (by rw [s1e, hsum]; omega) (by rw [s1e, hsum]; omega)) hZ (hw _ (List.mem_of_getElem? (i := 28) rfl)) (hw _ (List.mem_of_getElem? (i := 3) rfl)) (by decide) (by decide)) q53a q53c (g := (mkF m 173 #[.val (.int p0), .val (.long q1), .second, .val (.int (own_q (p0 &&& (1 : Int32)))), .val (.long dd), .second, .val (.int l1), .val (.int l2), .val (.ref n1), .val (.ref n2), .val (.ref a), .unset, .unset] [(.ref a)])) rfl (by rw [hml]; rfl) (Steps.refl _) (argsL := []) (rest := []) (lenOf pd_5 rfl) rfl (by show 2 * 0 + _ ≤ _; exact Nat.le_of_eq rfl) (hb hby at_173) (fun _ _ => ⟨rfl, rfl, (by decide : 6 + 1 ≤ _), (by decide : 8234 + 16 ≤ _)⟩)
  dsimp only [Pt.U, Pt.locs, Pt.cells, Pt.slots] at X53 l53 y53 z53 st53 hQ53
  subst l53 y53 z53
  obtain ⟨r, rfl, N53q, K4, fr, Br, hfr⟩ := hQ53
  have N53 := Fr.app N52 N53q
  have Z53 : n0 ≤ T53.heap.size := Nat.le_trans Z52 K4.1
  have G1e := own_keep G1d K4 nin0
  have G2e := own_keep G2d K4 nin0
  have E4 := Exa.keep R3.2.1 K4
  have S4 := Fld.keep R3.2.2.2.1 K4 nin0
  obtain ⟨cq54, kq54, q54a, q54b, q54c⟩ := isOf hZ rfl E4
  obtain ⟨_, _, ⟨T54, L54, k54, n54⟩, -, X54, ⟨Lc54, hQ54, l54, y54, z54⟩, st54⟩ := X53.virtualBack hx (y := (⟨"com/example/tympan/tympan/BodyLimit$Received", "size", "()I"⟩ : MethodName)) (z := (⟨"com/example/tympan/tympan/BodyLimit$Received", "size", "()I"⟩ : MethodName)) hown (mvT hZ (hw _ (List.mem_of_getElem? (i := 29) rfl))) (mvT hZ (hw _ (List.mem_of_getElem? (i := 30) rfl))) (notFace_of_selects (args := #[]) (mvT hZ (hw _ (List.mem_of_getElem? (i := 32) rfl)))) (mvT hZ (hw _ (List.mem_of_getElem? (i := 32) rfl))) (mvT hZ (hw _ (List.mem_of_getElem? (i := 31) rfl))) (by decide) (backOf (W := 0) (rm_5 l Z a0 hw [] a (((0 : Int32) + l1) + l2) T53.heap n0 Z53 S4) hZ (hw _ (List.mem_of_getElem? (i := 33) rfl)) (hw _ (List.mem_of_getElem? (i := 3) rfl)) (by decide) (by decide)) q54a q54c (g := (mkF m 187 #[.val (.int p0), .val (.long q1), .second, .val (.int (own_q (p0 &&& (1 : Int32)))), .val (.long dd), .second, .val (.int l1), .val (.int l2), .val (.ref n1), .val (.ref n2), .val (.ref a), .val (.ref r), .val (.int (l1 + l2))] [(.ref a)])) rfl (by rw [hml]; rfl) (Steps.refl _) (argsL := []) (rest := []) (lenOf pd_6 rfl) rfl (by show 2 * 0 + _ ≤ _; exact Nat.le_of_eq rfl) (hb hby at_187) (fun _ _ => ⟨rfl, rfl, (by decide : 7 + 0 ≤ _), (by decide : 8250 + 0 ≤ _)⟩)
  dsimp only [Pt.U, Pt.locs, Pt.cells, Pt.slots] at X54 l54 y54 z54 st54 hQ54
  subst l54 y54 z54
  obtain ⟨rfl, N54q, es⟩ := hQ54
  have N54 := Fr.app N53 N54q
  obtain ⟨clr, Arr_, Sr, Mr, Hr⟩ := own_open Br
  have hcon := own_con (f := f') (f2 := f'') (fr := fr) la lb lc ld zz'' hi' lo'' hi'' hfr
  obtain ⟨_, _, ⟨T55, L55, k55, n55⟩, -, X55, ⟨Lc55, hQ55, l55, y55, z55⟩, st55⟩ := Jvm.LawKit.callS X54 hx (y := (⟨"com/example/tympan/tympan/ReceivedToByteArrayPinLaw", "at", "([BI[BI[B)Z"⟩ : MethodName)) hown (mvT hZ (hw _ (List.mem_of_getElem? (i := 34) rfl))) (mvT hZ (hw _ (List.mem_of_getElem? (i := 35) rfl))) (mvT hZ (hw _ (List.mem_of_getElem? (i := 36) rfl))) (mvT hZ (hw _ (List.mem_of_getElem? (i := 37) rfl))) (by decide) (backOf (W := 0) (rm_6 l Z a0 hw [] r (0 : Int32) n1 l1 n2 (((0 : Int32) + l1) + l2) fr g1 g2 T53.heap n0 Z53 Br G1e G2e (by decide) la lb (by rw [s1e, hsum]; omega) hcon) hZ (hw _ (List.mem_of_getElem? (i := 37) rfl)) (hw _ (List.mem_of_getElem? (i := 36) rfl)) (by decide) (by decide)) (g := (mkF m 216 #[.val (.int p0), .val (.long q1), .second, .val (.int (own_q (p0 &&& (1 : Int32)))), .val (.long dd), .second, .val (.int l1), .val (.int l2), .val (.ref n1), .val (.ref n2), .val (.ref a), .val (.ref r), .val (.int (l1 + l2))] [(.ref n2), (.int l1), (.ref n1), (.int (0 : Int32)), (.ref r)])) rfl (by rw [hml]; rfl) (argsL := [(.ref r), (.int (0 : Int32)), (.ref n1), (.int l1), (.ref n2)]) (rest := []) (lenOf pd_7 rfl) rfl (by show 2 * 0 + _ ≤ _; exact Nat.le_of_eq rfl) (hb hby at_216) (fun _ _ => ⟨rfl, es, (by decide : 7 + 0 ≤ _), (by decide : 8250 + 0 ≤ _)⟩)
  dsimp only [Pt.U, Pt.locs, Pt.cells, Pt.slots] at X55 l55 y55 z55 st55 hQ55
  subst l55 y55 z55
  obtain ⟨rfl, N55q, ea0⟩ := hQ55
  have N55 := Fr.app N54 N55q
  obtain ⟨_, _, ⟨T56, L56, k56, n56⟩, -, X56, ⟨Lc56, hQ56, l56, y56, z56⟩, st56⟩ := Jvm.LawKit.callS X55 hx (y := (⟨"com/example/tympan/tympan/ReceivedToByteArrayPinLaw", "at", "([BI[BI[B)Z"⟩ : MethodName)) hown (mvT hZ (hw _ (List.mem_of_getElem? (i := 34) rfl))) (mvT hZ (hw _ (List.mem_of_getElem? (i := 35) rfl))) (mvT hZ (hw _ (List.mem_of_getElem? (i := 36) rfl))) (mvT hZ (hw _ (List.mem_of_getElem? (i := 37) rfl))) (by decide) (backOf (W := 0) (rm_6 l Z a0 hw [] r (1 : Int32) n1 l1 n2 (((0 : Int32) + l1) + l2) fr g1 g2 T53.heap n0 Z53 Br G1e G2e (by decide) la lb (by rw [s1e, hsum]; omega) hcon) hZ (hw _ (List.mem_of_getElem? (i := 37) rfl)) (hw _ (List.mem_of_getElem? (i := 36) rfl)) (by decide) (by decide)) (g := (mkF m 231 #[.val (.int p0), .val (.long q1), .second, .val (.int (own_q (p0 &&& (1 : Int32)))), .val (.long dd), .second, .val (.int l1), .val (.int l2), .val (.ref n1), .val (.ref n2), .val (.ref a), .val (.ref r), .val (.int (l1 + l2))] [(.ref n2), (.int l1), (.ref n1), (.int (1 : Int32)), (.ref r)])) rfl (by rw [hml]; rfl) (argsL := [(.ref r), (.int (1 : Int32)), (.ref n1), (.int l1), (.ref n2)]) (rest := []) (lenOf pd_7 rfl) rfl (by show 2 * 0 + _ ≤ _; exact Nat.le_of_eq rfl) (hb hby at_231) (fun _ _ => ⟨rfl, ea0, (by decide : 7 + 0 ≤ _), (by decide : 8250 + 0 ≤ _)⟩)
  dsimp only [Pt.U, Pt.locs, Pt.cells, Pt.slots] at X56 l56 y56 z56 st56 hQ56
  subst l56 y56 z56
  obtain ⟨rfl, N56q, ea1⟩ := hQ56
  have N56 := Fr.app N55 N56q
  obtain ⟨_, _, ⟨T57, L57, k57, n57⟩, -, X57, ⟨Lc57, hQ57, l57, y57, z57⟩, st57⟩ := Jvm.LawKit.callS X56 hx (y := (⟨"com/example/tympan/tympan/ReceivedToByteArrayPinLaw", "at", "([BI[BI[B)Z"⟩ : MethodName)) hown (mvT hZ (hw _ (List.mem_of_getElem? (i := 34) rfl))) (mvT hZ (hw _ (List.mem_of_getElem? (i := 35) rfl))) (mvT hZ (hw _ (List.mem_of_getElem? (i := 36) rfl))) (mvT hZ (hw _ (List.mem_of_getElem? (i := 37) rfl))) (by decide) (backOf (W := 0) (rm_6 l Z a0 hw [] r (2 : Int32) n1 l1 n2 (((0 : Int32) + l1) + l2) fr g1 g2 T53.heap n0 Z53 Br G1e G2e (by decide) la lb (by rw [s1e, hsum]; omega) hcon) hZ (hw _ (List.mem_of_getElem? (i := 37) rfl)) (hw _ (List.mem_of_getElem? (i := 36) rfl)) (by decide) (by decide)) (g := (mkF m 246 #[.val (.int p0), .val (.long q1), .second, .val (.int (own_q (p0 &&& (1 : Int32)))), .val (.long dd), .second, .val (.int l1), .val (.int l2), .val (.ref n1), .val (.ref n2), .val (.ref a), .val (.ref r), .val (.int (l1 + l2))] [(.ref n2), (.int l1), (.ref n1), (.int (2 : Int32)), (.ref r)])) rfl (by rw [hml]; rfl) (argsL := [(.ref r), (.int (2 : Int32)), (.ref n1), (.int l1), (.ref n2)]) (rest := []) (lenOf pd_7 rfl) rfl (by show 2 * 0 + _ ≤ _; exact Nat.le_of_eq rfl) (hb hby at_246) (fun _ _ => ⟨rfl, ea1, (by decide : 7 + 0 ≤ _), (by decide : 8250 + 0 ≤ _)⟩)
  dsimp only [Pt.U, Pt.locs, Pt.cells, Pt.slots] at X57 l57 y57 z57 st57 hQ57
  subst l57 y57 z57
  obtain ⟨rfl, N57q, ea2⟩ := hQ57
  have N57 := Fr.app N56 N57q
  obtain ⟨_, _, ⟨T58, L58, k58, n58⟩, -, X58, ⟨Lc58, hQ58, l58, y58, z58⟩, st58⟩ := Jvm.LawKit.callS X57 hx (y := (⟨"com/example/tympan/tympan/ReceivedToByteArrayPinLaw", "at", "([BI[BI[B)Z"⟩ : MethodName)) hown (mvT hZ (hw _ (List.mem_of_getElem? (i := 34) rfl))) (mvT hZ (hw _ (List.mem_of_getElem? (i := 35) rfl))) (mvT hZ (hw _ (List.mem_of_getElem? (i := 36) rfl))) (mvT hZ (hw _ (List.mem_of_getElem? (i := 37) rfl))) (by decide) (backOf (W := 0) (rm_6 l Z a0 hw [] r (3 : Int32) n1 l1 n2 (((0 : Int32) + l1) + l2) fr g1 g2 T53.heap n0 Z53 Br G1e G2e (by decide) la lb (by rw [s1e, hsum]; omega) hcon) hZ (hw _ (List.mem_of_getElem? (i := 37) rfl)) (hw _ (List.mem_of_getElem? (i := 36) rfl)) (by decide) (by decide)) (g := (mkF m 261 #[.val (.int p0), .val (.long q1), .second, .val (.int (own_q (p0 &&& (1 : Int32)))), .val (.long dd), .second, .val (.int l1), .val (.int l2), .val (.ref n1), .val (.ref n2), .val (.ref a), .val (.ref r), .val (.int (l1 + l2))] [(.ref n2), (.int l1), (.ref n1), (.int (3 : Int32)), (.ref r)])) rfl (by rw [hml]; rfl) (argsL := [(.ref r), (.int (3 : Int32)), (.ref n1), (.int l1), (.ref n2)]) (rest := []) (lenOf pd_7 rfl) rfl (by show 2 * 0 + _ ≤ _; exact Nat.le_of_eq rfl) (hb hby at_261) (fun _ _ => ⟨rfl, ea2, (by decide : 7 + 0 ≤ _), (by decide : 8250 + 0 ≤ _)⟩)
  dsimp only [Pt.U, Pt.locs, Pt.cells, Pt.slots] at X58 l58 y58 z58 st58 hQ58
  subst l58 y58 z58
  obtain ⟨rfl, N58q, ea3⟩ := hQ58
  have N58 := Fr.app N57 N58q
  obtain ⟨_, _, ⟨T59, L59, k59, n59⟩, -, X59, ⟨Lc59, hQ59, l59, y59, z59⟩, st59⟩ := Jvm.LawKit.callS X58 hx (y := (⟨"com/example/tympan/tympan/ReceivedToByteArrayPinLaw", "at", "([BI[BI[B)Z"⟩ : MethodName)) hown (mvT hZ (hw _ (List.mem_of_getElem? (i := 34) rfl))) (mvT hZ (hw _ (List.mem_of_getElem? (i := 35) rfl))) (mvT hZ (hw _ (List.mem_of_getElem? (i := 36) rfl))) (mvT hZ (hw _ (List.mem_of_getElem? (i := 37) rfl))) (by decide) (backOf (W := 0) (rm_6 l Z a0 hw [] r (4 : Int32) n1 l1 n2 (((0 : Int32) + l1) + l2) fr g1 g2 T53.heap n0 Z53 Br G1e G2e (by decide) la lb (by rw [s1e, hsum]; omega) hcon) hZ (hw _ (List.mem_of_getElem? (i := 37) rfl)) (hw _ (List.mem_of_getElem? (i := 36) rfl)) (by decide) (by decide)) (g := (mkF m 276 #[.val (.int p0), .val (.long q1), .second, .val (.int (own_q (p0 &&& (1 : Int32)))), .val (.long dd), .second, .val (.int l1), .val (.int l2), .val (.ref n1), .val (.ref n2), .val (.ref a), .val (.ref r), .val (.int (l1 + l2))] [(.ref n2), (.int l1), (.ref n1), (.int (4 : Int32)), (.ref r)])) rfl (by rw [hml]; rfl) (argsL := [(.ref r), (.int (4 : Int32)), (.ref n1), (.int l1), (.ref n2)]) (rest := []) (lenOf pd_7 rfl) rfl (by show 2 * 0 + _ ≤ _; exact Nat.le_of_eq rfl) (hb hby at_276) (fun _ _ => ⟨rfl, ea3, (by decide : 7 + 0 ≤ _), (by decide : 8250 + 0 ≤ _)⟩)
  dsimp only [Pt.U, Pt.locs, Pt.cells, Pt.slots] at X59 l59 y59 z59 st59 hQ59
  subst l59 y59 z59
  obtain ⟨rfl, N59q, ea4⟩ := hQ59
  have N59 := Fr.app N58 N59q
  obtain ⟨_, _, ⟨T60, L60, k60, n60⟩, -, X60, ⟨Lc60, hQ60, l60, y60, z60⟩, st60⟩ := Jvm.LawKit.callS X59 hx (y := (⟨"com/example/tympan/tympan/ReceivedToByteArrayPinLaw", "at", "([BI[BI[B)Z"⟩ : MethodName)) hown (mvT hZ (hw _ (List.mem_of_getElem? (i := 34) rfl))) (mvT hZ (hw _ (List.mem_of_getElem? (i := 35) rfl))) (mvT hZ (hw _ (List.mem_of_getElem? (i := 36) rfl))) (mvT hZ (hw _ (List.mem_of_getElem? (i := 37) rfl))) (by decide) (backOf (W := 0) (rm_6 l Z a0 hw [] r (5 : Int32) n1 l1 n2 (((0 : Int32) + l1) + l2) fr g1 g2 T53.heap n0 Z53 Br G1e G2e (by decide) la lb (by rw [s1e, hsum]; omega) hcon) hZ (hw _ (List.mem_of_getElem? (i := 37) rfl)) (hw _ (List.mem_of_getElem? (i := 36) rfl)) (by decide) (by decide)) (g := (mkF m 291 #[.val (.int p0), .val (.long q1), .second, .val (.int (own_q (p0 &&& (1 : Int32)))), .val (.long dd), .second, .val (.int l1), .val (.int l2), .val (.ref n1), .val (.ref n2), .val (.ref a), .val (.ref r), .val (.int (l1 + l2))] [(.ref n2), (.int l1), (.ref n1), (.int (5 : Int32)), (.ref r)])) rfl (by rw [hml]; rfl) (argsL := [(.ref r), (.int (5 : Int32)), (.ref n1), (.int l1), (.ref n2)]) (rest := []) (lenOf pd_7 rfl) rfl (by show 2 * 0 + _ ≤ _; exact Nat.le_of_eq rfl) (hb hby at_291) (fun _ _ => ⟨rfl, ea4, (by decide : 7 + 0 ≤ _), (by decide : 8250 + 0 ≤ _)⟩)
  dsimp only [Pt.U, Pt.locs, Pt.cells, Pt.slots] at X60 l60 y60 z60 st60 hQ60
  subst l60 y60 z60
  obtain ⟨rfl, N60q, ea5⟩ := hQ60
  have N60 := Fr.app N59 N60q
  obtain ⟨_, _, ⟨T61, L61, k61, n61⟩, -, X61, ⟨Lc61, hQ61, l61, y61, z61⟩, st61⟩ := Jvm.LawKit.callS X60 hx (y := (⟨"com/example/tympan/tympan/ReceivedToByteArrayPinLaw", "at", "([BI[BI[B)Z"⟩ : MethodName)) hown (mvT hZ (hw _ (List.mem_of_getElem? (i := 34) rfl))) (mvT hZ (hw _ (List.mem_of_getElem? (i := 35) rfl))) (mvT hZ (hw _ (List.mem_of_getElem? (i := 36) rfl))) (mvT hZ (hw _ (List.mem_of_getElem? (i := 37) rfl))) (by decide) (backOf (W := 0) (rm_6 l Z a0 hw [] r (6 : Int32) n1 l1 n2 (((0 : Int32) + l1) + l2) fr g1 g2 T53.heap n0 Z53 Br G1e G2e (by decide) la lb (by rw [s1e, hsum]; omega) hcon) hZ (hw _ (List.mem_of_getElem? (i := 37) rfl)) (hw _ (List.mem_of_getElem? (i := 36) rfl)) (by decide) (by decide)) (g := (mkF m 307 #[.val (.int p0), .val (.long q1), .second, .val (.int (own_q (p0 &&& (1 : Int32)))), .val (.long dd), .second, .val (.int l1), .val (.int l2), .val (.ref n1), .val (.ref n2), .val (.ref a), .val (.ref r), .val (.int (l1 + l2))] [(.ref n2), (.int l1), (.ref n1), (.int (6 : Int32)), (.ref r)])) rfl (by rw [hml]; rfl) (argsL := [(.ref r), (.int (6 : Int32)), (.ref n1), (.int l1), (.ref n2)]) (rest := []) (lenOf pd_7 rfl) rfl (by show 2 * 0 + _ ≤ _; exact Nat.le_of_eq rfl) (hb hby at_307) (fun _ _ => ⟨rfl, ea5, (by decide : 7 + 0 ≤ _), (by decide : 8250 + 0 ≤ _)⟩)
  dsimp only [Pt.U, Pt.locs, Pt.cells, Pt.slots] at X61 l61 y61 z61 st61 hQ61
  subst l61 y61 z61
  obtain ⟨rfl, N61q, ea6⟩ := hQ61
  have N61 := Fr.app N60 N61q
  obtain ⟨_, _, ⟨T62, L62, k62, n62⟩, -, X62, ⟨Lc62, hQ62, l62, y62, z62⟩, st62⟩ := Jvm.LawKit.callS X61 hx (y := (⟨"com/example/tympan/tympan/ReceivedToByteArrayPinLaw", "at", "([BI[BI[B)Z"⟩ : MethodName)) hown (mvT hZ (hw _ (List.mem_of_getElem? (i := 34) rfl))) (mvT hZ (hw _ (List.mem_of_getElem? (i := 35) rfl))) (mvT hZ (hw _ (List.mem_of_getElem? (i := 36) rfl))) (mvT hZ (hw _ (List.mem_of_getElem? (i := 37) rfl))) (by decide) (backOf (W := 0) (rm_6 l Z a0 hw [] r (7 : Int32) n1 l1 n2 (((0 : Int32) + l1) + l2) fr g1 g2 T53.heap n0 Z53 Br G1e G2e (by decide) la lb (by rw [s1e, hsum]; omega) hcon) hZ (hw _ (List.mem_of_getElem? (i := 37) rfl)) (hw _ (List.mem_of_getElem? (i := 36) rfl)) (by decide) (by decide)) (g := (mkF m 323 #[.val (.int p0), .val (.long q1), .second, .val (.int (own_q (p0 &&& (1 : Int32)))), .val (.long dd), .second, .val (.int l1), .val (.int l2), .val (.ref n1), .val (.ref n2), .val (.ref a), .val (.ref r), .val (.int (l1 + l2))] [(.ref n2), (.int l1), (.ref n1), (.int (7 : Int32)), (.ref r)])) rfl (by rw [hml]; rfl) (argsL := [(.ref r), (.int (7 : Int32)), (.ref n1), (.int l1), (.ref n2)]) (rest := []) (lenOf pd_7 rfl) rfl (by show 2 * 0 + _ ≤ _; exact Nat.le_of_eq rfl) (hb hby at_323) (fun _ _ => ⟨rfl, ea6, (by decide : 7 + 0 ≤ _), (by decide : 8250 + 0 ≤ _)⟩)
  dsimp only [Pt.U, Pt.locs, Pt.cells, Pt.slots] at X62 l62 y62 z62 st62 hQ62
  subst l62 y62 z62
  obtain ⟨rfl, N62q, ea7⟩ := hQ62
  have N62 := Fr.app N61 N62q
  obtain ⟨fs, hr, hrun, hended, hW, hsame⟩ := X62.leave (v := some (.int (1 : Int32))) (fun h => by rw [Bd.returns] at h; cases h)
  refine ⟨_, _, pre0 _ ?_, hrun, hended, _, _, rfl, ?_, ⟨_, rfl⟩, hW, hsame.mono (by decide) (by decide)⟩
  · show Steps p.tables e below (s₁.setTop (mkF m 0 #[.val (.int p0), .val (.long q1), .second, .unset, .unset, .unset, .unset, .unset, .unset, .unset, .unset, .unset, .unset] [])) _
    refine XS.iloadN X0.here hx rfl (hb hby at_0) rfl ?_
    show Steps p.tables e below (s₁.setTop (mkF m 1 #[.val (.int p0), .val (.long q1), .second, .unset, .unset, .unset, .unset, .unset, .unset, .unset, .unset, .unset, .unset] [(.int p0)])) _
    refine XS.iconst X0.here hx rfl (hb hby at_1) ?_
    show Steps p.tables e below (s₁.setTop (mkF m 2 #[.val (.int p0), .val (.long q1), .second, .unset, .unset, .unset, .unset, .unset, .unset, .unset, .unset, .unset, .unset] [(.int (1 : Int32)), (.int p0)])) _
    refine XS.iand X0.here hx rfl (hb hby at_2) rfl ?_
    show Steps p.tables e below (s₁.setTop (mkF m 3 #[.val (.int p0), .val (.long q1), .second, .unset, .unset, .unset, .unset, .unset, .unset, .unset, .unset, .unset, .unset] [(.int (p0 &&& (1 : Int32)))])) _
    refine j11 _ ?_
    show Steps p.tables e below (s₁.setTop (mkF m 11 #[.val (.int p0), .val (.long q1), .second, .unset, .unset, .unset, .unset, .unset, .unset, .unset, .unset, .unset, .unset] [(.int (own_q (p0 &&& (1 : Int32))))])) _
    refine XS.istoreN X0.here hx rfl (hb hby at_11) rfl (l' := #[.val (.int p0), .val (.long q1), .second, .val (.int (own_q (p0 &&& (1 : Int32)))), .unset, .unset, .unset, .unset, .unset, .unset, .unset, .unset, .unset]) rfl ?_
    show Steps p.tables e below (s₁.setTop (mkF m 12 #[.val (.int p0), .val (.long q1), .second, .val (.int (own_q (p0 &&& (1 : Int32)))), .unset, .unset, .unset, .unset, .unset, .unset, .unset, .unset, .unset] [])) _
    refine XS.iloadN X0.here hx rfl (hb hby at_12) rfl ?_
    show Steps p.tables e below (s₁.setTop (mkF m 13 #[.val (.int p0), .val (.long q1), .second, .val (.int (own_q (p0 &&& (1 : Int32)))), .unset, .unset, .unset, .unset, .unset, .unset, .unset, .unset, .unset] [(.int (own_q (p0 &&& (1 : Int32))))])) _
    refine j32 _ ?_
    show Steps p.tables e below (s₁.setTop (mkF m 32 #[.val (.int p0), .val (.long q1), .second, .val (.int (own_q (p0 &&& (1 : Int32)))), .unset, .unset, .unset, .unset, .unset, .unset, .unset, .unset, .unset] [(.long (own_dec (own_q (p0 &&& (1 : Int32))) (((((p0.toUInt32 >>> ((1 : Int32) &&& 31).toUInt32).toInt32) &&& (15 : Int32)) - ((((p0.toUInt32 >>> ((1 : Int32) &&& 31).toUInt32).toInt32) &&& (15 : Int32)) / (9 : Int32)) * (9 : Int32)).toInt64)))])) _
    rw [← hdd]
    show Steps p.tables e below (s₁.setTop (mkF m 32 #[.val (.int p0), .val (.long q1), .second, .val (.int (own_q (p0 &&& (1 : Int32)))), .unset, .unset, .unset, .unset, .unset, .unset, .unset, .unset, .unset] [(.long dd)])) _
    refine XS.lstore X0.here hx rfl (hb hby at_32) rfl (l' := #[.val (.int p0), .val (.long q1), .second, .val (.int (own_q (p0 &&& (1 : Int32)))), .val (.long dd), .second, .unset, .unset, .unset, .unset, .unset, .unset, .unset]) rfl ?_
    show Steps p.tables e below (s₁.setTop (mkF m 34 #[.val (.int p0), .val (.long q1), .second, .val (.int (own_q (p0 &&& (1 : Int32)))), .val (.long dd), .second, .unset, .unset, .unset, .unset, .unset, .unset, .unset] [])) _
    refine XS.iloadN X0.here hx rfl (hb hby at_34) rfl ?_
    show Steps p.tables e below (s₁.setTop (mkF m 35 #[.val (.int p0), .val (.long q1), .second, .val (.int (own_q (p0 &&& (1 : Int32)))), .val (.long dd), .second, .unset, .unset, .unset, .unset, .unset, .unset, .unset] [(.int p0)])) _
    refine XS.iconst X0.here hx rfl (hb hby at_35) ?_
    show Steps p.tables e below (s₁.setTop (mkF m 36 #[.val (.int p0), .val (.long q1), .second, .val (.int (own_q (p0 &&& (1 : Int32)))), .val (.long dd), .second, .unset, .unset, .unset, .unset, .unset, .unset, .unset] [(.int (5 : Int32)), (.int p0)])) _
    refine XS.iushr X0.here hx rfl (hb hby at_36) rfl ?_
    show Steps p.tables e below (s₁.setTop (mkF m 37 #[.val (.int p0), .val (.long q1), .second, .val (.int (own_q (p0 &&& (1 : Int32)))), .val (.long dd), .second, .unset, .unset, .unset, .unset, .unset, .unset, .unset] [(.int ((p0.toUInt32 >>> ((5 : Int32) &&& 31).toUInt32).toInt32))])) _
    refine XS.bipush X0.here hx rfl (hb hby at_37) ?_
    show Steps p.tables e below (s₁.setTop (mkF m 39 #[.val (.int p0), .val (.long q1), .second, .val (.int (own_q (p0 &&& (1 : Int32)))), .val (.long dd), .second, .unset, .unset, .unset, .unset, .unset, .unset, .unset] [(.int (7 : Int32)), (.int ((p0.toUInt32 >>> ((5 : Int32) &&& 31).toUInt32).toInt32))])) _
    refine XS.iand X0.here hx rfl (hb hby at_39) rfl ?_
    show Steps p.tables e below (s₁.setTop (mkF m 40 #[.val (.int p0), .val (.long q1), .second, .val (.int (own_q (p0 &&& (1 : Int32)))), .val (.long dd), .second, .unset, .unset, .unset, .unset, .unset, .unset, .unset] [(.int (((p0.toUInt32 >>> ((5 : Int32) &&& 31).toUInt32).toInt32) &&& (7 : Int32)))])) _
    refine XS.iconst X0.here hx rfl (hb hby at_40) ?_
    show Steps p.tables e below (s₁.setTop (mkF m 41 #[.val (.int p0), .val (.long q1), .second, .val (.int (own_q (p0 &&& (1 : Int32)))), .val (.long dd), .second, .unset, .unset, .unset, .unset, .unset, .unset, .unset] [(.int (5 : Int32)), (.int (((p0.toUInt32 >>> ((5 : Int32) &&& 31).toUInt32).toInt32) &&& (7 : Int32)))])) _
    refine XS.irem X0.here hx rfl (hb hby at_41) rfl (by decide) ?_
    show Steps p.tables e below (s₁.setTop (mkF m 42 #[.val (.int p0), .val (.long q1), .second, .val (.int (own_q (p0 &&& (1 : Int32)))), .val (.long dd), .second, .unset, .unset, .unset, .unset, .unset, .unset, .unset] [(.int ((((p0.toUInt32 >>> ((5 : Int32) &&& 31).toUInt32).toInt32) &&& (7 : Int32)) - ((((p0.toUInt32 >>> ((5 : Int32) &&& 31).toUInt32).toInt32) &&& (7 : Int32)) / (5 : Int32)) * (5 : Int32)))])) _
    rw [← hl1]
    show Steps p.tables e below (s₁.setTop (mkF m 42 #[.val (.int p0), .val (.long q1), .second, .val (.int (own_q (p0 &&& (1 : Int32)))), .val (.long dd), .second, .unset, .unset, .unset, .unset, .unset, .unset, .unset] [(.int l1)])) _
    refine XS.istore X0.here hx rfl (hb hby at_42) rfl (l' := #[.val (.int p0), .val (.long q1), .second, .val (.int (own_q (p0 &&& (1 : Int32)))), .val (.long dd), .second, .val (.int l1), .unset, .unset, .unset, .unset, .unset, .unset]) rfl ?_
    show Steps p.tables e below (s₁.setTop (mkF m 44 #[.val (.int p0), .val (.long q1), .second, .val (.int (own_q (p0 &&& (1 : Int32)))), .val (.long dd), .second, .val (.int l1), .unset, .unset, .unset, .unset, .unset, .unset] [])) _
    refine XS.iloadN X0.here hx rfl (hb hby at_44) rfl ?_
    show Steps p.tables e below (s₁.setTop (mkF m 45 #[.val (.int p0), .val (.long q1), .second, .val (.int (own_q (p0 &&& (1 : Int32)))), .val (.long dd), .second, .val (.int l1), .unset, .unset, .unset, .unset, .unset, .unset] [(.int p0)])) _
    refine XS.bipush X0.here hx rfl (hb hby at_45) ?_
    show Steps p.tables e below (s₁.setTop (mkF m 47 #[.val (.int p0), .val (.long q1), .second, .val (.int (own_q (p0 &&& (1 : Int32)))), .val (.long dd), .second, .val (.int l1), .unset, .unset, .unset, .unset, .unset, .unset] [(.int (8 : Int32)), (.int p0)])) _
    refine XS.iushr X0.here hx rfl (hb hby at_47) rfl ?_
    show Steps p.tables e below (s₁.setTop (mkF m 48 #[.val (.int p0), .val (.long q1), .second, .val (.int (own_q (p0 &&& (1 : Int32)))), .val (.long dd), .second, .val (.int l1), .unset, .unset, .unset, .unset, .unset, .unset] [(.int ((p0.toUInt32 >>> ((8 : Int32) &&& 31).toUInt32).toInt32))])) _
    refine XS.bipush X0.here hx rfl (hb hby at_48) ?_
    show Steps p.tables e below (s₁.setTop (mkF m 50 #[.val (.int p0), .val (.long q1), .second, .val (.int (own_q (p0 &&& (1 : Int32)))), .val (.long dd), .second, .val (.int l1), .unset, .unset, .unset, .unset, .unset, .unset] [(.int (7 : Int32)), (.int ((p0.toUInt32 >>> ((8 : Int32) &&& 31).toUInt32).toInt32))])) _
    refine XS.iand X0.here hx rfl (hb hby at_50) rfl ?_
    show Steps p.tables e below (s₁.setTop (mkF m 51 #[.val (.int p0), .val (.long q1), .second, .val (.int (own_q (p0 &&& (1 : Int32)))), .val (.long dd), .second, .val (.int l1), .unset, .unset, .unset, .unset, .unset, .unset] [(.int (((p0.toUInt32 >>> ((8 : Int32) &&& 31).toUInt32).toInt32) &&& (7 : Int32)))])) _
    refine XS.iconst X0.here hx rfl (hb hby at_51) ?_
    show Steps p.tables e below (s₁.setTop (mkF m 52 #[.val (.int p0), .val (.long q1), .second, .val (.int (own_q (p0 &&& (1 : Int32)))), .val (.long dd), .second, .val (.int l1), .unset, .unset, .unset, .unset, .unset, .unset] [(.int (5 : Int32)), (.int (((p0.toUInt32 >>> ((8 : Int32) &&& 31).toUInt32).toInt32) &&& (7 : Int32)))])) _
    refine XS.irem X0.here hx rfl (hb hby at_52) rfl (by decide) ?_
    show Steps p.tables e below (s₁.setTop (mkF m 53 #[.val (.int p0), .val (.long q1), .second, .val (.int (own_q (p0 &&& (1 : Int32)))), .val (.long dd), .second, .val (.int l1), .unset, .unset, .unset, .unset, .unset, .unset] [(.int ((((p0.toUInt32 >>> ((8 : Int32) &&& 31).toUInt32).toInt32) &&& (7 : Int32)) - ((((p0.toUInt32 >>> ((8 : Int32) &&& 31).toUInt32).toInt32) &&& (7 : Int32)) / (5 : Int32)) * (5 : Int32)))])) _
    rw [← hl2]
    show Steps p.tables e below (s₁.setTop (mkF m 53 #[.val (.int p0), .val (.long q1), .second, .val (.int (own_q (p0 &&& (1 : Int32)))), .val (.long dd), .second, .val (.int l1), .unset, .unset, .unset, .unset, .unset, .unset] [(.int l2)])) _
    refine XS.istore X0.here hx rfl (hb hby at_53) rfl (l' := #[.val (.int p0), .val (.long q1), .second, .val (.int (own_q (p0 &&& (1 : Int32)))), .val (.long dd), .second, .val (.int l1), .val (.int l2), .unset, .unset, .unset, .unset, .unset]) rfl ?_
    show Steps p.tables e below (s₁.setTop (mkF m 55 #[.val (.int p0), .val (.long q1), .second, .val (.int (own_q (p0 &&& (1 : Int32)))), .val (.long dd), .second, .val (.int l1), .val (.int l2), .unset, .unset, .unset, .unset, .unset] [])) _
    refine XS.iconst X0.here hx rfl (hb hby at_55) ?_
    show Steps p.tables e below (s₁.setTop (mkF m 56 #[.val (.int p0), .val (.long q1), .second, .val (.int (own_q (p0 &&& (1 : Int32)))), .val (.long dd), .second, .val (.int l1), .val (.int l2), .unset, .unset, .unset, .unset, .unset] [(.int (4 : Int32))])) _
    refine st39 _ ?_
    show Steps p.tables e below (T39.setTop (mkF m 58 #[.val (.int p0), .val (.long q1), .second, .val (.int (own_q (p0 &&& (1 : Int32)))), .val (.long dd), .second, .val (.int l1), .val (.int l2), .unset, .unset, .unset, .unset, .unset] [(.ref n1)])) _
    refine XS.astore X39.here hx rfl (hb hby at_58) rfl rfl (l' := #[.val (.int p0), .val (.long q1), .second, .val (.int (own_q (p0 &&& (1 : Int32)))), .val (.long dd), .second, .val (.int l1), .val (.int l2), .val (.ref n1), .unset, .unset, .unset, .unset]) rfl ?_
    show Steps p.tables e below (T39.setTop (mkF m 60 #[.val (.int p0), .val (.long q1), .second, .val (.int (own_q (p0 &&& (1 : Int32)))), .val (.long dd), .second, .val (.int l1), .val (.int l2), .val (.ref n1), .unset, .unset, .unset, .unset] [])) _
    refine XS.iconst X39.here hx rfl (hb hby at_60) ?_
    show Steps p.tables e below (T39.setTop (mkF m 61 #[.val (.int p0), .val (.long q1), .second, .val (.int (own_q (p0 &&& (1 : Int32)))), .val (.long dd), .second, .val (.int l1), .val (.int l2), .val (.ref n1), .unset, .unset, .unset, .unset] [(.int (4 : Int32))])) _
    refine st40 _ ?_
    show Steps p.tables e below (T40.setTop (mkF m 63 #[.val (.int p0), .val (.long q1), .second, .val (.int (own_q (p0 &&& (1 : Int32)))), .val (.long dd), .second, .val (.int l1), .val (.int l2), .val (.ref n1), .unset, .unset, .unset, .unset] [(.ref n2)])) _
    refine XS.astore X40.here hx rfl (hb hby at_63) rfl rfl (l' := #[.val (.int p0), .val (.long q1), .second, .val (.int (own_q (p0 &&& (1 : Int32)))), .val (.long dd), .second, .val (.int l1), .val (.int l2), .val (.ref n1), .val (.ref n2), .unset, .unset, .unset]) rfl ?_
    show Steps p.tables e below (T40.setTop (mkF m 65 #[.val (.int p0), .val (.long q1), .second, .val (.int (own_q (p0 &&& (1 : Int32)))), .val (.long dd), .second, .val (.int l1), .val (.int l2), .val (.ref n1), .val (.ref n2), .unset, .unset, .unset] [])) _
    refine XS.aload X40.here hx rfl (hb hby at_65) rfl rfl ?_
    show Steps p.tables e below (T40.setTop (mkF m 67 #[.val (.int p0), .val (.long q1), .second, .val (.int (own_q (p0 &&& (1 : Int32)))), .val (.long dd), .second, .val (.int l1), .val (.int l2), .val (.ref n1), .val (.ref n2), .unset, .unset, .unset] [(.ref n1)])) _
    refine XS.iconst X40.here hx rfl (hb hby at_67) ?_
    show Steps p.tables e below (T40.setTop (mkF m 68 #[.val (.int p0), .val (.long q1), .second, .val (.int (own_q (p0 &&& (1 : Int32)))), .val (.long dd), .second, .val (.int l1), .val (.int l2), .val (.ref n1), .val (.ref n2), .unset, .unset, .unset] [(.int (0 : Int32)), (.ref n1)])) _
    refine XS.lloadN X40.here hx rfl (hb hby at_68) rfl ?_
    show Steps p.tables e below (T40.setTop (mkF m 69 #[.val (.int p0), .val (.long q1), .second, .val (.int (own_q (p0 &&& (1 : Int32)))), .val (.long dd), .second, .val (.int l1), .val (.int l2), .val (.ref n1), .val (.ref n2), .unset, .unset, .unset] [(.long q1), (.int (0 : Int32)), (.ref n1)])) _
    refine XS.l2i X40.here hx rfl (hb hby at_69) rfl ?_
    show Steps p.tables e below (T40.setTop (mkF m 70 #[.val (.int p0), .val (.long q1), .second, .val (.int (own_q (p0 &&& (1 : Int32)))), .val (.long dd), .second, .val (.int l1), .val (.int l2), .val (.ref n1), .val (.ref n2), .unset, .unset, .unset] [(.int (q1.toInt32)), (.int (0 : Int32)), (.ref n1)])) _
    refine XS.i2b X40.here hx rfl (hb hby at_70) rfl ?_
    show Steps p.tables e below (T40.setTop (mkF m 71 #[.val (.int p0), .val (.long q1), .second, .val (.int (own_q (p0 &&& (1 : Int32)))), .val (.long dd), .second, .val (.int l1), .val (.int l2), .val (.ref n1), .val (.ref n2), .unset, .unset, .unset] [(.int ((q1.toInt32).toInt8.toInt32)), (.int (0 : Int32)), (.ref n1)])) _
    refine st41 _ ?_
    show Steps p.tables e below (T41.setTop (mkF m 72 #[.val (.int p0), .val (.long q1), .second, .val (.int (own_q (p0 &&& (1 : Int32)))), .val (.long dd), .second, .val (.int l1), .val (.int l2), .val (.ref n1), .val (.ref n2), .unset, .unset, .unset] [])) _
    refine XS.aload X41.here hx rfl (hb hby at_72) rfl rfl ?_
    show Steps p.tables e below (T41.setTop (mkF m 74 #[.val (.int p0), .val (.long q1), .second, .val (.int (own_q (p0 &&& (1 : Int32)))), .val (.long dd), .second, .val (.int l1), .val (.int l2), .val (.ref n1), .val (.ref n2), .unset, .unset, .unset] [(.ref n1)])) _
    refine XS.iconst X41.here hx rfl (hb hby at_74) ?_
    show Steps p.tables e below (T41.setTop (mkF m 75 #[.val (.int p0), .val (.long q1), .second, .val (.int (own_q (p0 &&& (1 : Int32)))), .val (.long dd), .second, .val (.int l1), .val (.int l2), .val (.ref n1), .val (.ref n2), .unset, .unset, .unset] [(.int (1 : Int32)), (.ref n1)])) _
    refine XS.lloadN X41.here hx rfl (hb hby at_75) rfl ?_
    show Steps p.tables e below (T41.setTop (mkF m 76 #[.val (.int p0), .val (.long q1), .second, .val (.int (own_q (p0 &&& (1 : Int32)))), .val (.long dd), .second, .val (.int l1), .val (.int l2), .val (.ref n1), .val (.ref n2), .unset, .unset, .unset] [(.long q1), (.int (1 : Int32)), (.ref n1)])) _
    refine XS.bipush X41.here hx rfl (hb hby at_76) ?_
    show Steps p.tables e below (T41.setTop (mkF m 78 #[.val (.int p0), .val (.long q1), .second, .val (.int (own_q (p0 &&& (1 : Int32)))), .val (.long dd), .second, .val (.int l1), .val (.int l2), .val (.ref n1), .val (.ref n2), .unset, .unset, .unset] [(.int (8 : Int32)), (.long q1), (.int (1 : Int32)), (.ref n1)])) _
    refine XS.lushr X41.here hx rfl (hb hby at_78) rfl ?_
    show Steps p.tables e below (T41.setTop (mkF m 79 #[.val (.int p0), .val (.long q1), .second, .val (.int (own_q (p0 &&& (1 : Int32)))), .val (.long dd), .second, .val (.int l1), .val (.int l2), .val (.ref n1), .val (.ref n2), .unset, .unset, .unset] [(.long ((q1.toUInt64 >>> ((8 : Int32) &&& 0x3f).toInt64.toUInt64).toInt64)), (.int (1 : Int32)), (.ref n1)])) _
    refine XS.l2i X41.here hx rfl (hb hby at_79) rfl ?_
    show Steps p.tables e below (T41.setTop (mkF m 80 #[.val (.int p0), .val (.long q1), .second, .val (.int (own_q (p0 &&& (1 : Int32)))), .val (.long dd), .second, .val (.int l1), .val (.int l2), .val (.ref n1), .val (.ref n2), .unset, .unset, .unset] [(.int (((q1.toUInt64 >>> ((8 : Int32) &&& 0x3f).toInt64.toUInt64).toInt64).toInt32)), (.int (1 : Int32)), (.ref n1)])) _
    refine XS.i2b X41.here hx rfl (hb hby at_80) rfl ?_
    show Steps p.tables e below (T41.setTop (mkF m 81 #[.val (.int p0), .val (.long q1), .second, .val (.int (own_q (p0 &&& (1 : Int32)))), .val (.long dd), .second, .val (.int l1), .val (.int l2), .val (.ref n1), .val (.ref n2), .unset, .unset, .unset] [(.int ((((q1.toUInt64 >>> ((8 : Int32) &&& 0x3f).toInt64.toUInt64).toInt64).toInt32).toInt8.toInt32)), (.int (1 : Int32)), (.ref n1)])) _
    refine st42 _ ?_
    show Steps p.tables e below (T42.setTop (mkF m 82 #[.val (.int p0), .val (.long q1), .second, .val (.int (own_q (p0 &&& (1 : Int32)))), .val (.long dd), .second, .val (.int l1), .val (.int l2), .val (.ref n1), .val (.ref n2), .unset, .unset, .unset] [])) _
    refine XS.aload X42.here hx rfl (hb hby at_82) rfl rfl ?_
    show Steps p.tables e below (T42.setTop (mkF m 84 #[.val (.int p0), .val (.long q1), .second, .val (.int (own_q (p0 &&& (1 : Int32)))), .val (.long dd), .second, .val (.int l1), .val (.int l2), .val (.ref n1), .val (.ref n2), .unset, .unset, .unset] [(.ref n1)])) _
    refine XS.iconst X42.here hx rfl (hb hby at_84) ?_
    show Steps p.tables e below (T42.setTop (mkF m 85 #[.val (.int p0), .val (.long q1), .second, .val (.int (own_q (p0 &&& (1 : Int32)))), .val (.long dd), .second, .val (.int l1), .val (.int l2), .val (.ref n1), .val (.ref n2), .unset, .unset, .unset] [(.int (2 : Int32)), (.ref n1)])) _
    refine XS.lloadN X42.here hx rfl (hb hby at_85) rfl ?_
    show Steps p.tables e below (T42.setTop (mkF m 86 #[.val (.int p0), .val (.long q1), .second, .val (.int (own_q (p0 &&& (1 : Int32)))), .val (.long dd), .second, .val (.int l1), .val (.int l2), .val (.ref n1), .val (.ref n2), .unset, .unset, .unset] [(.long q1), (.int (2 : Int32)), (.ref n1)])) _
    refine XS.bipush X42.here hx rfl (hb hby at_86) ?_
    show Steps p.tables e below (T42.setTop (mkF m 88 #[.val (.int p0), .val (.long q1), .second, .val (.int (own_q (p0 &&& (1 : Int32)))), .val (.long dd), .second, .val (.int l1), .val (.int l2), .val (.ref n1), .val (.ref n2), .unset, .unset, .unset] [(.int (16 : Int32)), (.long q1), (.int (2 : Int32)), (.ref n1)])) _
    refine XS.lushr X42.here hx rfl (hb hby at_88) rfl ?_
    show Steps p.tables e below (T42.setTop (mkF m 89 #[.val (.int p0), .val (.long q1), .second, .val (.int (own_q (p0 &&& (1 : Int32)))), .val (.long dd), .second, .val (.int l1), .val (.int l2), .val (.ref n1), .val (.ref n2), .unset, .unset, .unset] [(.long ((q1.toUInt64 >>> ((16 : Int32) &&& 0x3f).toInt64.toUInt64).toInt64)), (.int (2 : Int32)), (.ref n1)])) _
    refine XS.l2i X42.here hx rfl (hb hby at_89) rfl ?_
    show Steps p.tables e below (T42.setTop (mkF m 90 #[.val (.int p0), .val (.long q1), .second, .val (.int (own_q (p0 &&& (1 : Int32)))), .val (.long dd), .second, .val (.int l1), .val (.int l2), .val (.ref n1), .val (.ref n2), .unset, .unset, .unset] [(.int (((q1.toUInt64 >>> ((16 : Int32) &&& 0x3f).toInt64.toUInt64).toInt64).toInt32)), (.int (2 : Int32)), (.ref n1)])) _
    refine XS.i2b X42.here hx rfl (hb hby at_90) rfl ?_
    show Steps p.tables e below (T42.setTop (mkF m 91 #[.val (.int p0), .val (.long q1), .second, .val (.int (own_q (p0 &&& (1 : Int32)))), .val (.long dd), .second, .val (.int l1), .val (.int l2), .val (.ref n1), .val (.ref n2), .unset, .unset, .unset] [(.int ((((q1.toUInt64 >>> ((16 : Int32) &&& 0x3f).toInt64.toUInt64).toInt64).toInt32).toInt8.toInt32)), (.int (2 : Int32)), (.ref n1)])) _
    refine st43 _ ?_
    show Steps p.tables e below (T43.setTop (mkF m 92 #[.val (.int p0), .val (.long q1), .second, .val (.int (own_q (p0 &&& (1 : Int32)))), .val (.long dd), .second, .val (.int l1), .val (.int l2), .val (.ref n1), .val (.ref n2), .unset, .unset, .unset] [])) _
    refine XS.aload X43.here hx rfl (hb hby at_92) rfl rfl ?_
    show Steps p.tables e below (T43.setTop (mkF m 94 #[.val (.int p0), .val (.long q1), .second, .val (.int (own_q (p0 &&& (1 : Int32)))), .val (.long dd), .second, .val (.int l1), .val (.int l2), .val (.ref n1), .val (.ref n2), .unset, .unset, .unset] [(.ref n1)])) _
    refine XS.iconst X43.here hx rfl (hb hby at_94) ?_
    show Steps p.tables e below (T43.setTop (mkF m 95 #[.val (.int p0), .val (.long q1), .second, .val (.int (own_q (p0 &&& (1 : Int32)))), .val (.long dd), .second, .val (.int l1), .val (.int l2), .val (.ref n1), .val (.ref n2), .unset, .unset, .unset] [(.int (3 : Int32)), (.ref n1)])) _
    refine XS.lloadN X43.here hx rfl (hb hby at_95) rfl ?_
    show Steps p.tables e below (T43.setTop (mkF m 96 #[.val (.int p0), .val (.long q1), .second, .val (.int (own_q (p0 &&& (1 : Int32)))), .val (.long dd), .second, .val (.int l1), .val (.int l2), .val (.ref n1), .val (.ref n2), .unset, .unset, .unset] [(.long q1), (.int (3 : Int32)), (.ref n1)])) _
    refine XS.bipush X43.here hx rfl (hb hby at_96) ?_
    show Steps p.tables e below (T43.setTop (mkF m 98 #[.val (.int p0), .val (.long q1), .second, .val (.int (own_q (p0 &&& (1 : Int32)))), .val (.long dd), .second, .val (.int l1), .val (.int l2), .val (.ref n1), .val (.ref n2), .unset, .unset, .unset] [(.int (24 : Int32)), (.long q1), (.int (3 : Int32)), (.ref n1)])) _
    refine XS.lushr X43.here hx rfl (hb hby at_98) rfl ?_
    show Steps p.tables e below (T43.setTop (mkF m 99 #[.val (.int p0), .val (.long q1), .second, .val (.int (own_q (p0 &&& (1 : Int32)))), .val (.long dd), .second, .val (.int l1), .val (.int l2), .val (.ref n1), .val (.ref n2), .unset, .unset, .unset] [(.long ((q1.toUInt64 >>> ((24 : Int32) &&& 0x3f).toInt64.toUInt64).toInt64)), (.int (3 : Int32)), (.ref n1)])) _
    refine XS.l2i X43.here hx rfl (hb hby at_99) rfl ?_
    show Steps p.tables e below (T43.setTop (mkF m 100 #[.val (.int p0), .val (.long q1), .second, .val (.int (own_q (p0 &&& (1 : Int32)))), .val (.long dd), .second, .val (.int l1), .val (.int l2), .val (.ref n1), .val (.ref n2), .unset, .unset, .unset] [(.int (((q1.toUInt64 >>> ((24 : Int32) &&& 0x3f).toInt64.toUInt64).toInt64).toInt32)), (.int (3 : Int32)), (.ref n1)])) _
    refine XS.i2b X43.here hx rfl (hb hby at_100) rfl ?_
    show Steps p.tables e below (T43.setTop (mkF m 101 #[.val (.int p0), .val (.long q1), .second, .val (.int (own_q (p0 &&& (1 : Int32)))), .val (.long dd), .second, .val (.int l1), .val (.int l2), .val (.ref n1), .val (.ref n2), .unset, .unset, .unset] [(.int ((((q1.toUInt64 >>> ((24 : Int32) &&& 0x3f).toInt64.toUInt64).toInt64).toInt32).toInt8.toInt32)), (.int (3 : Int32)), (.ref n1)])) _
    refine st44 _ ?_
    show Steps p.tables e below (T44.setTop (mkF m 102 #[.val (.int p0), .val (.long q1), .second, .val (.int (own_q (p0 &&& (1 : Int32)))), .val (.long dd), .second, .val (.int l1), .val (.int l2), .val (.ref n1), .val (.ref n2), .unset, .unset, .unset] [])) _
    refine XS.aload X44.here hx rfl (hb hby at_102) rfl rfl ?_
    show Steps p.tables e below (T44.setTop (mkF m 104 #[.val (.int p0), .val (.long q1), .second, .val (.int (own_q (p0 &&& (1 : Int32)))), .val (.long dd), .second, .val (.int l1), .val (.int l2), .val (.ref n1), .val (.ref n2), .unset, .unset, .unset] [(.ref n2)])) _
    refine XS.iconst X44.here hx rfl (hb hby at_104) ?_
    show Steps p.tables e below (T44.setTop (mkF m 105 #[.val (.int p0), .val (.long q1), .second, .val (.int (own_q (p0 &&& (1 : Int32)))), .val (.long dd), .second, .val (.int l1), .val (.int l2), .val (.ref n1), .val (.ref n2), .unset, .unset, .unset] [(.int (0 : Int32)), (.ref n2)])) _
    refine XS.lloadN X44.here hx rfl (hb hby at_105) rfl ?_
    show Steps p.tables e below (T44.setTop (mkF m 106 #[.val (.int p0), .val (.long q1), .second, .val (.int (own_q (p0 &&& (1 : Int32)))), .val (.long dd), .second, .val (.int l1), .val (.int l2), .val (.ref n1), .val (.ref n2), .unset, .unset, .unset] [(.long q1), (.int (0 : Int32)), (.ref n2)])) _
    refine XS.bipush X44.here hx rfl (hb hby at_106) ?_
    show Steps p.tables e below (T44.setTop (mkF m 108 #[.val (.int p0), .val (.long q1), .second, .val (.int (own_q (p0 &&& (1 : Int32)))), .val (.long dd), .second, .val (.int l1), .val (.int l2), .val (.ref n1), .val (.ref n2), .unset, .unset, .unset] [(.int (32 : Int32)), (.long q1), (.int (0 : Int32)), (.ref n2)])) _
    refine XS.lushr X44.here hx rfl (hb hby at_108) rfl ?_
    show Steps p.tables e below (T44.setTop (mkF m 109 #[.val (.int p0), .val (.long q1), .second, .val (.int (own_q (p0 &&& (1 : Int32)))), .val (.long dd), .second, .val (.int l1), .val (.int l2), .val (.ref n1), .val (.ref n2), .unset, .unset, .unset] [(.long ((q1.toUInt64 >>> ((32 : Int32) &&& 0x3f).toInt64.toUInt64).toInt64)), (.int (0 : Int32)), (.ref n2)])) _
    refine XS.l2i X44.here hx rfl (hb hby at_109) rfl ?_
    show Steps p.tables e below (T44.setTop (mkF m 110 #[.val (.int p0), .val (.long q1), .second, .val (.int (own_q (p0 &&& (1 : Int32)))), .val (.long dd), .second, .val (.int l1), .val (.int l2), .val (.ref n1), .val (.ref n2), .unset, .unset, .unset] [(.int (((q1.toUInt64 >>> ((32 : Int32) &&& 0x3f).toInt64.toUInt64).toInt64).toInt32)), (.int (0 : Int32)), (.ref n2)])) _
    refine XS.i2b X44.here hx rfl (hb hby at_110) rfl ?_
    show Steps p.tables e below (T44.setTop (mkF m 111 #[.val (.int p0), .val (.long q1), .second, .val (.int (own_q (p0 &&& (1 : Int32)))), .val (.long dd), .second, .val (.int l1), .val (.int l2), .val (.ref n1), .val (.ref n2), .unset, .unset, .unset] [(.int ((((q1.toUInt64 >>> ((32 : Int32) &&& 0x3f).toInt64.toUInt64).toInt64).toInt32).toInt8.toInt32)), (.int (0 : Int32)), (.ref n2)])) _
    refine st45 _ ?_
    show Steps p.tables e below (T45.setTop (mkF m 112 #[.val (.int p0), .val (.long q1), .second, .val (.int (own_q (p0 &&& (1 : Int32)))), .val (.long dd), .second, .val (.int l1), .val (.int l2), .val (.ref n1), .val (.ref n2), .unset, .unset, .unset] [])) _
    refine XS.aload X45.here hx rfl (hb hby at_112) rfl rfl ?_
    show Steps p.tables e below (T45.setTop (mkF m 114 #[.val (.int p0), .val (.long q1), .second, .val (.int (own_q (p0 &&& (1 : Int32)))), .val (.long dd), .second, .val (.int l1), .val (.int l2), .val (.ref n1), .val (.ref n2), .unset, .unset, .unset] [(.ref n2)])) _
    refine XS.iconst X45.here hx rfl (hb hby at_114) ?_
    show Steps p.tables e below (T45.setTop (mkF m 115 #[.val (.int p0), .val (.long q1), .second, .val (.int (own_q (p0 &&& (1 : Int32)))), .val (.long dd), .second, .val (.int l1), .val (.int l2), .val (.ref n1), .val (.ref n2), .unset, .unset, .unset] [(.int (1 : Int32)), (.ref n2)])) _
    refine XS.lloadN X45.here hx rfl (hb hby at_115) rfl ?_
    show Steps p.tables e below (T45.setTop (mkF m 116 #[.val (.int p0), .val (.long q1), .second, .val (.int (own_q (p0 &&& (1 : Int32)))), .val (.long dd), .second, .val (.int l1), .val (.int l2), .val (.ref n1), .val (.ref n2), .unset, .unset, .unset] [(.long q1), (.int (1 : Int32)), (.ref n2)])) _
    refine XS.bipush X45.here hx rfl (hb hby at_116) ?_
    show Steps p.tables e below (T45.setTop (mkF m 118 #[.val (.int p0), .val (.long q1), .second, .val (.int (own_q (p0 &&& (1 : Int32)))), .val (.long dd), .second, .val (.int l1), .val (.int l2), .val (.ref n1), .val (.ref n2), .unset, .unset, .unset] [(.int (40 : Int32)), (.long q1), (.int (1 : Int32)), (.ref n2)])) _
    refine XS.lushr X45.here hx rfl (hb hby at_118) rfl ?_
    show Steps p.tables e below (T45.setTop (mkF m 119 #[.val (.int p0), .val (.long q1), .second, .val (.int (own_q (p0 &&& (1 : Int32)))), .val (.long dd), .second, .val (.int l1), .val (.int l2), .val (.ref n1), .val (.ref n2), .unset, .unset, .unset] [(.long ((q1.toUInt64 >>> ((40 : Int32) &&& 0x3f).toInt64.toUInt64).toInt64)), (.int (1 : Int32)), (.ref n2)])) _
    refine XS.l2i X45.here hx rfl (hb hby at_119) rfl ?_
    show Steps p.tables e below (T45.setTop (mkF m 120 #[.val (.int p0), .val (.long q1), .second, .val (.int (own_q (p0 &&& (1 : Int32)))), .val (.long dd), .second, .val (.int l1), .val (.int l2), .val (.ref n1), .val (.ref n2), .unset, .unset, .unset] [(.int (((q1.toUInt64 >>> ((40 : Int32) &&& 0x3f).toInt64.toUInt64).toInt64).toInt32)), (.int (1 : Int32)), (.ref n2)])) _
    refine XS.i2b X45.here hx rfl (hb hby at_120) rfl ?_
    show Steps p.tables e below (T45.setTop (mkF m 121 #[.val (.int p0), .val (.long q1), .second, .val (.int (own_q (p0 &&& (1 : Int32)))), .val (.long dd), .second, .val (.int l1), .val (.int l2), .val (.ref n1), .val (.ref n2), .unset, .unset, .unset] [(.int ((((q1.toUInt64 >>> ((40 : Int32) &&& 0x3f).toInt64.toUInt64).toInt64).toInt32).toInt8.toInt32)), (.int (1 : Int32)), (.ref n2)])) _
    refine st46 _ ?_
    show Steps p.tables e below (T46.setTop (mkF m 122 #[.val (.int p0), .val (.long q1), .second, .val (.int (own_q (p0 &&& (1 : Int32)))), .val (.long dd), .second, .val (.int l1), .val (.int l2), .val (.ref n1), .val (.ref n2), .unset, .unset, .unset] [])) _
    refine XS.aload X46.here hx rfl (hb hby at_122) rfl rfl ?_
    show Steps p.tables e below (T46.setTop (mkF m 124 #[.val (.int p0), .val (.long q1), .second, .val (.int (own_q (p0 &&& (1 : Int32)))), .val (.long dd), .second, .val (.int l1), .val (.int l2), .val (.ref n1), .val (.ref n2), .unset, .unset, .unset] [(.ref n2)])) _
    refine XS.iconst X46.here hx rfl (hb hby at_124) ?_
    show Steps p.tables e below (T46.setTop (mkF m 125 #[.val (.int p0), .val (.long q1), .second, .val (.int (own_q (p0 &&& (1 : Int32)))), .val (.long dd), .second, .val (.int l1), .val (.int l2), .val (.ref n1), .val (.ref n2), .unset, .unset, .unset] [(.int (2 : Int32)), (.ref n2)])) _
    refine XS.lloadN X46.here hx rfl (hb hby at_125) rfl ?_
    show Steps p.tables e below (T46.setTop (mkF m 126 #[.val (.int p0), .val (.long q1), .second, .val (.int (own_q (p0 &&& (1 : Int32)))), .val (.long dd), .second, .val (.int l1), .val (.int l2), .val (.ref n1), .val (.ref n2), .unset, .unset, .unset] [(.long q1), (.int (2 : Int32)), (.ref n2)])) _
    refine XS.bipush X46.here hx rfl (hb hby at_126) ?_
    show Steps p.tables e below (T46.setTop (mkF m 128 #[.val (.int p0), .val (.long q1), .second, .val (.int (own_q (p0 &&& (1 : Int32)))), .val (.long dd), .second, .val (.int l1), .val (.int l2), .val (.ref n1), .val (.ref n2), .unset, .unset, .unset] [(.int (48 : Int32)), (.long q1), (.int (2 : Int32)), (.ref n2)])) _
    refine XS.lushr X46.here hx rfl (hb hby at_128) rfl ?_
    show Steps p.tables e below (T46.setTop (mkF m 129 #[.val (.int p0), .val (.long q1), .second, .val (.int (own_q (p0 &&& (1 : Int32)))), .val (.long dd), .second, .val (.int l1), .val (.int l2), .val (.ref n1), .val (.ref n2), .unset, .unset, .unset] [(.long ((q1.toUInt64 >>> ((48 : Int32) &&& 0x3f).toInt64.toUInt64).toInt64)), (.int (2 : Int32)), (.ref n2)])) _
    refine XS.l2i X46.here hx rfl (hb hby at_129) rfl ?_
    show Steps p.tables e below (T46.setTop (mkF m 130 #[.val (.int p0), .val (.long q1), .second, .val (.int (own_q (p0 &&& (1 : Int32)))), .val (.long dd), .second, .val (.int l1), .val (.int l2), .val (.ref n1), .val (.ref n2), .unset, .unset, .unset] [(.int (((q1.toUInt64 >>> ((48 : Int32) &&& 0x3f).toInt64.toUInt64).toInt64).toInt32)), (.int (2 : Int32)), (.ref n2)])) _
    refine XS.i2b X46.here hx rfl (hb hby at_130) rfl ?_
    show Steps p.tables e below (T46.setTop (mkF m 131 #[.val (.int p0), .val (.long q1), .second, .val (.int (own_q (p0 &&& (1 : Int32)))), .val (.long dd), .second, .val (.int l1), .val (.int l2), .val (.ref n1), .val (.ref n2), .unset, .unset, .unset] [(.int ((((q1.toUInt64 >>> ((48 : Int32) &&& 0x3f).toInt64.toUInt64).toInt64).toInt32).toInt8.toInt32)), (.int (2 : Int32)), (.ref n2)])) _
    refine st47 _ ?_
    show Steps p.tables e below (T47.setTop (mkF m 132 #[.val (.int p0), .val (.long q1), .second, .val (.int (own_q (p0 &&& (1 : Int32)))), .val (.long dd), .second, .val (.int l1), .val (.int l2), .val (.ref n1), .val (.ref n2), .unset, .unset, .unset] [])) _
    refine XS.aload X47.here hx rfl (hb hby at_132) rfl rfl ?_
    show Steps p.tables e below (T47.setTop (mkF m 134 #[.val (.int p0), .val (.long q1), .second, .val (.int (own_q (p0 &&& (1 : Int32)))), .val (.long dd), .second, .val (.int l1), .val (.int l2), .val (.ref n1), .val (.ref n2), .unset, .unset, .unset] [(.ref n2)])) _
    refine XS.iconst X47.here hx rfl (hb hby at_134) ?_
    show Steps p.tables e below (T47.setTop (mkF m 135 #[.val (.int p0), .val (.long q1), .second, .val (.int (own_q (p0 &&& (1 : Int32)))), .val (.long dd), .second, .val (.int l1), .val (.int l2), .val (.ref n1), .val (.ref n2), .unset, .unset, .unset] [(.int (3 : Int32)), (.ref n2)])) _
    refine XS.lloadN X47.here hx rfl (hb hby at_135) rfl ?_
    show Steps p.tables e below (T47.setTop (mkF m 136 #[.val (.int p0), .val (.long q1), .second, .val (.int (own_q (p0 &&& (1 : Int32)))), .val (.long dd), .second, .val (.int l1), .val (.int l2), .val (.ref n1), .val (.ref n2), .unset, .unset, .unset] [(.long q1), (.int (3 : Int32)), (.ref n2)])) _
    refine XS.bipush X47.here hx rfl (hb hby at_136) ?_
    show Steps p.tables e below (T47.setTop (mkF m 138 #[.val (.int p0), .val (.long q1), .second, .val (.int (own_q (p0 &&& (1 : Int32)))), .val (.long dd), .second, .val (.int l1), .val (.int l2), .val (.ref n1), .val (.ref n2), .unset, .unset, .unset] [(.int (56 : Int32)), (.long q1), (.int (3 : Int32)), (.ref n2)])) _
    refine XS.lushr X47.here hx rfl (hb hby at_138) rfl ?_
    show Steps p.tables e below (T47.setTop (mkF m 139 #[.val (.int p0), .val (.long q1), .second, .val (.int (own_q (p0 &&& (1 : Int32)))), .val (.long dd), .second, .val (.int l1), .val (.int l2), .val (.ref n1), .val (.ref n2), .unset, .unset, .unset] [(.long ((q1.toUInt64 >>> ((56 : Int32) &&& 0x3f).toInt64.toUInt64).toInt64)), (.int (3 : Int32)), (.ref n2)])) _
    refine XS.l2i X47.here hx rfl (hb hby at_139) rfl ?_
    show Steps p.tables e below (T47.setTop (mkF m 140 #[.val (.int p0), .val (.long q1), .second, .val (.int (own_q (p0 &&& (1 : Int32)))), .val (.long dd), .second, .val (.int l1), .val (.int l2), .val (.ref n1), .val (.ref n2), .unset, .unset, .unset] [(.int (((q1.toUInt64 >>> ((56 : Int32) &&& 0x3f).toInt64.toUInt64).toInt64).toInt32)), (.int (3 : Int32)), (.ref n2)])) _
    refine XS.i2b X47.here hx rfl (hb hby at_140) rfl ?_
    show Steps p.tables e below (T47.setTop (mkF m 141 #[.val (.int p0), .val (.long q1), .second, .val (.int (own_q (p0 &&& (1 : Int32)))), .val (.long dd), .second, .val (.int l1), .val (.int l2), .val (.ref n1), .val (.ref n2), .unset, .unset, .unset] [(.int ((((q1.toUInt64 >>> ((56 : Int32) &&& 0x3f).toInt64.toUInt64).toInt64).toInt32).toInt8.toInt32)), (.int (3 : Int32)), (.ref n2)])) _
    refine st48 _ ?_
    show Steps p.tables e below (T48.setTop (mkF m 142 #[.val (.int p0), .val (.long q1), .second, .val (.int (own_q (p0 &&& (1 : Int32)))), .val (.long dd), .second, .val (.int l1), .val (.int l2), .val (.ref n1), .val (.ref n2), .unset, .unset, .unset] [])) _
    refine st49 _ ?_
    show Steps p.tables e below (T49.setTop (mkF m 145 #[.val (.int p0), .val (.long q1), .second, .val (.int (own_q (p0 &&& (1 : Int32)))), .val (.long dd), .second, .val (.int l1), .val (.int l2), .val (.ref n1), .val (.ref n2), .unset, .unset, .unset] [(.ref a)])) _
    refine XS.dup X49.here hx rfl (hb hby at_145) rfl rfl ?_
    show Steps p.tables e below (T49.setTop (mkF m 146 #[.val (.int p0), .val (.long q1), .second, .val (.int (own_q (p0 &&& (1 : Int32)))), .val (.long dd), .second, .val (.int l1), .val (.int l2), .val (.ref n1), .val (.ref n2), .unset, .unset, .unset] [(.ref a), (.ref a)])) _
    refine XS.lload X49.here hx rfl (hb hby at_146) rfl ?_
    show Steps p.tables e below (T49.setTop (mkF m 148 #[.val (.int p0), .val (.long q1), .second, .val (.int (own_q (p0 &&& (1 : Int32)))), .val (.long dd), .second, .val (.int l1), .val (.int l2), .val (.ref n1), .val (.ref n2), .unset, .unset, .unset] [(.long dd), (.ref a), (.ref a)])) _
    refine st50.trans ?_
    show Steps p.tables e below (T50.setTop (mkF m 151 #[.val (.int p0), .val (.long q1), .second, .val (.int (own_q (p0 &&& (1 : Int32)))), .val (.long dd), .second, .val (.int l1), .val (.int l2), .val (.ref n1), .val (.ref n2), .unset, .unset, .unset] [(.ref a)])) _
    refine XS.astore X50.here hx rfl (hb hby at_151) rfl rfl (l' := #[.val (.int p0), .val (.long q1), .second, .val (.int (own_q (p0 &&& (1 : Int32)))), .val (.long dd), .second, .val (.int l1), .val (.int l2), .val (.ref n1), .val (.ref n2), .val (.ref a), .unset, .unset]) rfl ?_
    show Steps p.tables e below (T50.setTop (mkF m 153 #[.val (.int p0), .val (.long q1), .second, .val (.int (own_q (p0 &&& (1 : Int32)))), .val (.long dd), .second, .val (.int l1), .val (.int l2), .val (.ref n1), .val (.ref n2), .val (.ref a), .unset, .unset] [])) _
    refine XS.aload X50.here hx rfl (hb hby at_153) rfl rfl ?_
    show Steps p.tables e below (T50.setTop (mkF m 155 #[.val (.int p0), .val (.long q1), .second, .val (.int (own_q (p0 &&& (1 : Int32)))), .val (.long dd), .second, .val (.int l1), .val (.int l2), .val (.ref n1), .val (.ref n2), .val (.ref a), .unset, .unset] [(.ref a)])) _
    refine XS.aload X50.here hx rfl (hb hby at_155) rfl rfl ?_
    show Steps p.tables e below (T50.setTop (mkF m 157 #[.val (.int p0), .val (.long q1), .second, .val (.int (own_q (p0 &&& (1 : Int32)))), .val (.long dd), .second, .val (.int l1), .val (.int l2), .val (.ref n1), .val (.ref n2), .val (.ref a), .unset, .unset] [(.ref n1), (.ref a)])) _
    refine XS.iload X50.here hx rfl (hb hby at_157) rfl ?_
    show Steps p.tables e below (T50.setTop (mkF m 159 #[.val (.int p0), .val (.long q1), .second, .val (.int (own_q (p0 &&& (1 : Int32)))), .val (.long dd), .second, .val (.int l1), .val (.int l2), .val (.ref n1), .val (.ref n2), .val (.ref a), .unset, .unset] [(.int l1), (.ref n1), (.ref a)])) _
    refine st51.trans ?_
    show Steps p.tables e below (T51.setTop (mkF m 162 #[.val (.int p0), .val (.long q1), .second, .val (.int (own_q (p0 &&& (1 : Int32)))), .val (.long dd), .second, .val (.int l1), .val (.int l2), .val (.ref n1), .val (.ref n2), .val (.ref a), .unset, .unset] [])) _
    refine XS.aload X51.here hx rfl (hb hby at_162) rfl rfl ?_
    show Steps p.tables e below (T51.setTop (mkF m 164 #[.val (.int p0), .val (.long q1), .second, .val (.int (own_q (p0 &&& (1 : Int32)))), .val (.long dd), .second, .val (.int l1), .val (.int l2), .val (.ref n1), .val (.ref n2), .val (.ref a), .unset, .unset] [(.ref a)])) _
    refine XS.aload X51.here hx rfl (hb hby at_164) rfl rfl ?_
    show Steps p.tables e below (T51.setTop (mkF m 166 #[.val (.int p0), .val (.long q1), .second, .val (.int (own_q (p0 &&& (1 : Int32)))), .val (.long dd), .second, .val (.int l1), .val (.int l2), .val (.ref n1), .val (.ref n2), .val (.ref a), .unset, .unset] [(.ref n2), (.ref a)])) _
    refine XS.iload X51.here hx rfl (hb hby at_166) rfl ?_
    show Steps p.tables e below (T51.setTop (mkF m 168 #[.val (.int p0), .val (.long q1), .second, .val (.int (own_q (p0 &&& (1 : Int32)))), .val (.long dd), .second, .val (.int l1), .val (.int l2), .val (.ref n1), .val (.ref n2), .val (.ref a), .unset, .unset] [(.int l2), (.ref n2), (.ref a)])) _
    refine st52.trans ?_
    show Steps p.tables e below (T52.setTop (mkF m 171 #[.val (.int p0), .val (.long q1), .second, .val (.int (own_q (p0 &&& (1 : Int32)))), .val (.long dd), .second, .val (.int l1), .val (.int l2), .val (.ref n1), .val (.ref n2), .val (.ref a), .unset, .unset] [])) _
    refine XS.aload X52.here hx rfl (hb hby at_171) rfl rfl ?_
    show Steps p.tables e below (T52.setTop (mkF m 173 #[.val (.int p0), .val (.long q1), .second, .val (.int (own_q (p0 &&& (1 : Int32)))), .val (.long dd), .second, .val (.int l1), .val (.int l2), .val (.ref n1), .val (.ref n2), .val (.ref a), .unset, .unset] [(.ref a)])) _
    refine st53.trans ?_
    show Steps p.tables e below (T53.setTop (mkF m 176 #[.val (.int p0), .val (.long q1), .second, .val (.int (own_q (p0 &&& (1 : Int32)))), .val (.long dd), .second, .val (.int l1), .val (.int l2), .val (.ref n1), .val (.ref n2), .val (.ref a), .unset, .unset] [(.ref r)])) _
    refine XS.astore X53.here hx rfl (hb hby at_176) rfl rfl (l' := #[.val (.int p0), .val (.long q1), .second, .val (.int (own_q (p0 &&& (1 : Int32)))), .val (.long dd), .second, .val (.int l1), .val (.int l2), .val (.ref n1), .val (.ref n2), .val (.ref a), .val (.ref r), .unset]) rfl ?_
    show Steps p.tables e below (T53.setTop (mkF m 178 #[.val (.int p0), .val (.long q1), .second, .val (.int (own_q (p0 &&& (1 : Int32)))), .val (.long dd), .second, .val (.int l1), .val (.int l2), .val (.ref n1), .val (.ref n2), .val (.ref a), .val (.ref r), .unset] [])) _
    refine XS.iload X53.here hx rfl (hb hby at_178) rfl ?_
    show Steps p.tables e below (T53.setTop (mkF m 180 #[.val (.int p0), .val (.long q1), .second, .val (.int (own_q (p0 &&& (1 : Int32)))), .val (.long dd), .second, .val (.int l1), .val (.int l2), .val (.ref n1), .val (.ref n2), .val (.ref a), .val (.ref r), .unset] [(.int l1)])) _
    refine XS.iload X53.here hx rfl (hb hby at_180) rfl ?_
    show Steps p.tables e below (T53.setTop (mkF m 182 #[.val (.int p0), .val (.long q1), .second, .val (.int (own_q (p0 &&& (1 : Int32)))), .val (.long dd), .second, .val (.int l1), .val (.int l2), .val (.ref n1), .val (.ref n2), .val (.ref a), .val (.ref r), .unset] [(.int l2), (.int l1)])) _
    refine XS.iadd X53.here hx rfl (hb hby at_182) rfl ?_
    show Steps p.tables e below (T53.setTop (mkF m 183 #[.val (.int p0), .val (.long q1), .second, .val (.int (own_q (p0 &&& (1 : Int32)))), .val (.long dd), .second, .val (.int l1), .val (.int l2), .val (.ref n1), .val (.ref n2), .val (.ref a), .val (.ref r), .unset] [(.int (l1 + l2))])) _
    refine XS.istore X53.here hx rfl (hb hby at_183) rfl (l' := #[.val (.int p0), .val (.long q1), .second, .val (.int (own_q (p0 &&& (1 : Int32)))), .val (.long dd), .second, .val (.int l1), .val (.int l2), .val (.ref n1), .val (.ref n2), .val (.ref a), .val (.ref r), .val (.int (l1 + l2))]) rfl ?_
    show Steps p.tables e below (T53.setTop (mkF m 185 #[.val (.int p0), .val (.long q1), .second, .val (.int (own_q (p0 &&& (1 : Int32)))), .val (.long dd), .second, .val (.int l1), .val (.int l2), .val (.ref n1), .val (.ref n2), .val (.ref a), .val (.ref r), .val (.int (l1 + l2))] [])) _
    refine XS.aload X53.here hx rfl (hb hby at_185) rfl rfl ?_
    show Steps p.tables e below (T53.setTop (mkF m 187 #[.val (.int p0), .val (.long q1), .second, .val (.int (own_q (p0 &&& (1 : Int32)))), .val (.long dd), .second, .val (.int l1), .val (.int l2), .val (.ref n1), .val (.ref n2), .val (.ref a), .val (.ref r), .val (.int (l1 + l2))] [(.ref a)])) _
    refine st54.trans ?_
    show Steps p.tables e below (T54.setTop (mkF m 190 #[.val (.int p0), .val (.long q1), .second, .val (.int (own_q (p0 &&& (1 : Int32)))), .val (.long dd), .second, .val (.int l1), .val (.int l2), .val (.ref n1), .val (.ref n2), .val (.ref a), .val (.ref r), .val (.int (l1 + l2))] [(.int (((0 : Int32) + l1) + l2))])) _
    refine XS.iload X54.here hx rfl (hb hby at_190) rfl ?_
    show Steps p.tables e below (T54.setTop (mkF m 192 #[.val (.int p0), .val (.long q1), .second, .val (.int (own_q (p0 &&& (1 : Int32)))), .val (.long dd), .second, .val (.int l1), .val (.int l2), .val (.ref n1), .val (.ref n2), .val (.ref a), .val (.ref r), .val (.int (l1 + l2))] [(.int (l1 + l2)), (.int (((0 : Int32) + l1) + l2))])) _
    refine XS.icmpYes X54.here hx rfl (pc0 := 192) (pc' := 197) rfl (hb hby at_192) rfl (teq (by rw [s1e] : (((0 : Int32) + l1) + l2) = (l1 + l2))).1 (by decide) (by decide) ?_
    show Steps p.tables e below (T54.setTop (mkF m 197 #[.val (.int p0), .val (.long q1), .second, .val (.int (own_q (p0 &&& (1 : Int32)))), .val (.long dd), .second, .val (.int l1), .val (.int l2), .val (.ref n1), .val (.ref n2), .val (.ref a), .val (.ref r), .val (.int (l1 + l2))] [])) _
    refine XS.aload X54.here hx rfl (hb hby at_197) rfl rfl ?_
    show Steps p.tables e below (T54.setTop (mkF m 199 #[.val (.int p0), .val (.long q1), .second, .val (.int (own_q (p0 &&& (1 : Int32)))), .val (.long dd), .second, .val (.int l1), .val (.int l2), .val (.ref n1), .val (.ref n2), .val (.ref a), .val (.ref r), .val (.int (l1 + l2))] [(.ref r)])) _
    refine X54.arraylength hx (by rw [es]; exact Arr_.1) (State.isArrayOf_alike hZ.alike Arr_.2.1) (g := (mkF m 199 #[.val (.int p0), .val (.long q1), .second, .val (.int (own_q (p0 &&& (1 : Int32)))), .val (.long dd), .second, .val (.int l1), .val (.int l2), .val (.ref n1), .val (.ref n2), .val (.ref a), .val (.ref r), .val (.int (l1 + l2))] [(.ref r)])) rfl rfl (hb hby at_199) _ ?_
    rw [len_of Sr Mr]
    show Steps p.tables e below (T54.setTop (mkF m 200 #[.val (.int p0), .val (.long q1), .second, .val (.int (own_q (p0 &&& (1 : Int32)))), .val (.long dd), .second, .val (.int l1), .val (.int l2), .val (.ref n1), .val (.ref n2), .val (.ref a), .val (.ref r), .val (.int (l1 + l2))] [(.int (((0 : Int32) + l1) + l2))])) _
    refine XS.iload X54.here hx rfl (hb hby at_200) rfl ?_
    show Steps p.tables e below (T54.setTop (mkF m 202 #[.val (.int p0), .val (.long q1), .second, .val (.int (own_q (p0 &&& (1 : Int32)))), .val (.long dd), .second, .val (.int l1), .val (.int l2), .val (.ref n1), .val (.ref n2), .val (.ref a), .val (.ref r), .val (.int (l1 + l2))] [(.int (l1 + l2)), (.int (((0 : Int32) + l1) + l2))])) _
    refine XS.icmpYes X54.here hx rfl (pc0 := 202) (pc' := 207) rfl (hb hby at_202) rfl (teq (by rw [s1e] : (((0 : Int32) + l1) + l2) = (l1 + l2))).1 (by decide) (by decide) ?_
    show Steps p.tables e below (T54.setTop (mkF m 207 #[.val (.int p0), .val (.long q1), .second, .val (.int (own_q (p0 &&& (1 : Int32)))), .val (.long dd), .second, .val (.int l1), .val (.int l2), .val (.ref n1), .val (.ref n2), .val (.ref a), .val (.ref r), .val (.int (l1 + l2))] [])) _
    refine XS.aload X54.here hx rfl (hb hby at_207) rfl rfl ?_
    show Steps p.tables e below (T54.setTop (mkF m 209 #[.val (.int p0), .val (.long q1), .second, .val (.int (own_q (p0 &&& (1 : Int32)))), .val (.long dd), .second, .val (.int l1), .val (.int l2), .val (.ref n1), .val (.ref n2), .val (.ref a), .val (.ref r), .val (.int (l1 + l2))] [(.ref r)])) _
    refine XS.iconst X54.here hx rfl (hb hby at_209) ?_
    show Steps p.tables e below (T54.setTop (mkF m 210 #[.val (.int p0), .val (.long q1), .second, .val (.int (own_q (p0 &&& (1 : Int32)))), .val (.long dd), .second, .val (.int l1), .val (.int l2), .val (.ref n1), .val (.ref n2), .val (.ref a), .val (.ref r), .val (.int (l1 + l2))] [(.int (0 : Int32)), (.ref r)])) _
    refine XS.aload X54.here hx rfl (hb hby at_210) rfl rfl ?_
    show Steps p.tables e below (T54.setTop (mkF m 212 #[.val (.int p0), .val (.long q1), .second, .val (.int (own_q (p0 &&& (1 : Int32)))), .val (.long dd), .second, .val (.int l1), .val (.int l2), .val (.ref n1), .val (.ref n2), .val (.ref a), .val (.ref r), .val (.int (l1 + l2))] [(.ref n1), (.int (0 : Int32)), (.ref r)])) _
    refine XS.iload X54.here hx rfl (hb hby at_212) rfl ?_
    show Steps p.tables e below (T54.setTop (mkF m 214 #[.val (.int p0), .val (.long q1), .second, .val (.int (own_q (p0 &&& (1 : Int32)))), .val (.long dd), .second, .val (.int l1), .val (.int l2), .val (.ref n1), .val (.ref n2), .val (.ref a), .val (.ref r), .val (.int (l1 + l2))] [(.int l1), (.ref n1), (.int (0 : Int32)), (.ref r)])) _
    refine XS.aload X54.here hx rfl (hb hby at_214) rfl rfl ?_
    show Steps p.tables e below (T54.setTop (mkF m 216 #[.val (.int p0), .val (.long q1), .second, .val (.int (own_q (p0 &&& (1 : Int32)))), .val (.long dd), .second, .val (.int l1), .val (.int l2), .val (.ref n1), .val (.ref n2), .val (.ref a), .val (.ref r), .val (.int (l1 + l2))] [(.ref n2), (.int l1), (.ref n1), (.int (0 : Int32)), (.ref r)])) _
    refine st55 _ ?_
    show Steps p.tables e below (T55.setTop (mkF m 219 #[.val (.int p0), .val (.long q1), .second, .val (.int (own_q (p0 &&& (1 : Int32)))), .val (.long dd), .second, .val (.int l1), .val (.int l2), .val (.ref n1), .val (.ref n2), .val (.ref a), .val (.ref r), .val (.int (l1 + l2))] [(.int (1 : Int32))])) _
    refine XS.ifNo X55.here hx rfl (hb hby at_219) rfl ((if0 _ _).trans (feq (by decide : ¬ ((1 : Int32) = (0 : Int32)))).1) ?_
    show Steps p.tables e below (T55.setTop (mkF m 222 #[.val (.int p0), .val (.long q1), .second, .val (.int (own_q (p0 &&& (1 : Int32)))), .val (.long dd), .second, .val (.int l1), .val (.int l2), .val (.ref n1), .val (.ref n2), .val (.ref a), .val (.ref r), .val (.int (l1 + l2))] [])) _
    refine XS.aload X55.here hx rfl (hb hby at_222) rfl rfl ?_
    show Steps p.tables e below (T55.setTop (mkF m 224 #[.val (.int p0), .val (.long q1), .second, .val (.int (own_q (p0 &&& (1 : Int32)))), .val (.long dd), .second, .val (.int l1), .val (.int l2), .val (.ref n1), .val (.ref n2), .val (.ref a), .val (.ref r), .val (.int (l1 + l2))] [(.ref r)])) _
    refine XS.iconst X55.here hx rfl (hb hby at_224) ?_
    show Steps p.tables e below (T55.setTop (mkF m 225 #[.val (.int p0), .val (.long q1), .second, .val (.int (own_q (p0 &&& (1 : Int32)))), .val (.long dd), .second, .val (.int l1), .val (.int l2), .val (.ref n1), .val (.ref n2), .val (.ref a), .val (.ref r), .val (.int (l1 + l2))] [(.int (1 : Int32)), (.ref r)])) _
    refine XS.aload X55.here hx rfl (hb hby at_225) rfl rfl ?_
    show Steps p.tables e below (T55.setTop (mkF m 227 #[.val (.int p0), .val (.long q1), .second, .val (.int (own_q (p0 &&& (1 : Int32)))), .val (.long dd), .second, .val (.int l1), .val (.int l2), .val (.ref n1), .val (.ref n2), .val (.ref a), .val (.ref r), .val (.int (l1 + l2))] [(.ref n1), (.int (1 : Int32)), (.ref r)])) _
    refine XS.iload X55.here hx rfl (hb hby at_227) rfl ?_
    show Steps p.tables e below (T55.setTop (mkF m 229 #[.val (.int p0), .val (.long q1), .second, .val (.int (own_q (p0 &&& (1 : Int32)))), .val (.long dd), .second, .val (.int l1), .val (.int l2), .val (.ref n1), .val (.ref n2), .val (.ref a), .val (.ref r), .val (.int (l1 + l2))] [(.int l1), (.ref n1), (.int (1 : Int32)), (.ref r)])) _
    refine XS.aload X55.here hx rfl (hb hby at_229) rfl rfl ?_
    show Steps p.tables e below (T55.setTop (mkF m 231 #[.val (.int p0), .val (.long q1), .second, .val (.int (own_q (p0 &&& (1 : Int32)))), .val (.long dd), .second, .val (.int l1), .val (.int l2), .val (.ref n1), .val (.ref n2), .val (.ref a), .val (.ref r), .val (.int (l1 + l2))] [(.ref n2), (.int l1), (.ref n1), (.int (1 : Int32)), (.ref r)])) _
    refine st56 _ ?_
    show Steps p.tables e below (T56.setTop (mkF m 234 #[.val (.int p0), .val (.long q1), .second, .val (.int (own_q (p0 &&& (1 : Int32)))), .val (.long dd), .second, .val (.int l1), .val (.int l2), .val (.ref n1), .val (.ref n2), .val (.ref a), .val (.ref r), .val (.int (l1 + l2))] [(.int (1 : Int32))])) _
    refine XS.ifNo X56.here hx rfl (hb hby at_234) rfl ((if0 _ _).trans (feq (by decide : ¬ ((1 : Int32) = (0 : Int32)))).1) ?_
    show Steps p.tables e below (T56.setTop (mkF m 237 #[.val (.int p0), .val (.long q1), .second, .val (.int (own_q (p0 &&& (1 : Int32)))), .val (.long dd), .second, .val (.int l1), .val (.int l2), .val (.ref n1), .val (.ref n2), .val (.ref a), .val (.ref r), .val (.int (l1 + l2))] [])) _
    refine XS.aload X56.here hx rfl (hb hby at_237) rfl rfl ?_
    show Steps p.tables e below (T56.setTop (mkF m 239 #[.val (.int p0), .val (.long q1), .second, .val (.int (own_q (p0 &&& (1 : Int32)))), .val (.long dd), .second, .val (.int l1), .val (.int l2), .val (.ref n1), .val (.ref n2), .val (.ref a), .val (.ref r), .val (.int (l1 + l2))] [(.ref r)])) _
    refine XS.iconst X56.here hx rfl (hb hby at_239) ?_
    show Steps p.tables e below (T56.setTop (mkF m 240 #[.val (.int p0), .val (.long q1), .second, .val (.int (own_q (p0 &&& (1 : Int32)))), .val (.long dd), .second, .val (.int l1), .val (.int l2), .val (.ref n1), .val (.ref n2), .val (.ref a), .val (.ref r), .val (.int (l1 + l2))] [(.int (2 : Int32)), (.ref r)])) _
    refine XS.aload X56.here hx rfl (hb hby at_240) rfl rfl ?_
    show Steps p.tables e below (T56.setTop (mkF m 242 #[.val (.int p0), .val (.long q1), .second, .val (.int (own_q (p0 &&& (1 : Int32)))), .val (.long dd), .second, .val (.int l1), .val (.int l2), .val (.ref n1), .val (.ref n2), .val (.ref a), .val (.ref r), .val (.int (l1 + l2))] [(.ref n1), (.int (2 : Int32)), (.ref r)])) _
    refine XS.iload X56.here hx rfl (hb hby at_242) rfl ?_
    show Steps p.tables e below (T56.setTop (mkF m 244 #[.val (.int p0), .val (.long q1), .second, .val (.int (own_q (p0 &&& (1 : Int32)))), .val (.long dd), .second, .val (.int l1), .val (.int l2), .val (.ref n1), .val (.ref n2), .val (.ref a), .val (.ref r), .val (.int (l1 + l2))] [(.int l1), (.ref n1), (.int (2 : Int32)), (.ref r)])) _
    refine XS.aload X56.here hx rfl (hb hby at_244) rfl rfl ?_
    show Steps p.tables e below (T56.setTop (mkF m 246 #[.val (.int p0), .val (.long q1), .second, .val (.int (own_q (p0 &&& (1 : Int32)))), .val (.long dd), .second, .val (.int l1), .val (.int l2), .val (.ref n1), .val (.ref n2), .val (.ref a), .val (.ref r), .val (.int (l1 + l2))] [(.ref n2), (.int l1), (.ref n1), (.int (2 : Int32)), (.ref r)])) _
    refine st57 _ ?_
    show Steps p.tables e below (T57.setTop (mkF m 249 #[.val (.int p0), .val (.long q1), .second, .val (.int (own_q (p0 &&& (1 : Int32)))), .val (.long dd), .second, .val (.int l1), .val (.int l2), .val (.ref n1), .val (.ref n2), .val (.ref a), .val (.ref r), .val (.int (l1 + l2))] [(.int (1 : Int32))])) _
    refine XS.ifNo X57.here hx rfl (hb hby at_249) rfl ((if0 _ _).trans (feq (by decide : ¬ ((1 : Int32) = (0 : Int32)))).1) ?_
    show Steps p.tables e below (T57.setTop (mkF m 252 #[.val (.int p0), .val (.long q1), .second, .val (.int (own_q (p0 &&& (1 : Int32)))), .val (.long dd), .second, .val (.int l1), .val (.int l2), .val (.ref n1), .val (.ref n2), .val (.ref a), .val (.ref r), .val (.int (l1 + l2))] [])) _
    refine XS.aload X57.here hx rfl (hb hby at_252) rfl rfl ?_
    show Steps p.tables e below (T57.setTop (mkF m 254 #[.val (.int p0), .val (.long q1), .second, .val (.int (own_q (p0 &&& (1 : Int32)))), .val (.long dd), .second, .val (.int l1), .val (.int l2), .val (.ref n1), .val (.ref n2), .val (.ref a), .val (.ref r), .val (.int (l1 + l2))] [(.ref r)])) _
    refine XS.iconst X57.here hx rfl (hb hby at_254) ?_
    show Steps p.tables e below (T57.setTop (mkF m 255 #[.val (.int p0), .val (.long q1), .second, .val (.int (own_q (p0 &&& (1 : Int32)))), .val (.long dd), .second, .val (.int l1), .val (.int l2), .val (.ref n1), .val (.ref n2), .val (.ref a), .val (.ref r), .val (.int (l1 + l2))] [(.int (3 : Int32)), (.ref r)])) _
    refine XS.aload X57.here hx rfl (hb hby at_255) rfl rfl ?_
    show Steps p.tables e below (T57.setTop (mkF m 257 #[.val (.int p0), .val (.long q1), .second, .val (.int (own_q (p0 &&& (1 : Int32)))), .val (.long dd), .second, .val (.int l1), .val (.int l2), .val (.ref n1), .val (.ref n2), .val (.ref a), .val (.ref r), .val (.int (l1 + l2))] [(.ref n1), (.int (3 : Int32)), (.ref r)])) _
    refine XS.iload X57.here hx rfl (hb hby at_257) rfl ?_
    show Steps p.tables e below (T57.setTop (mkF m 259 #[.val (.int p0), .val (.long q1), .second, .val (.int (own_q (p0 &&& (1 : Int32)))), .val (.long dd), .second, .val (.int l1), .val (.int l2), .val (.ref n1), .val (.ref n2), .val (.ref a), .val (.ref r), .val (.int (l1 + l2))] [(.int l1), (.ref n1), (.int (3 : Int32)), (.ref r)])) _
    refine XS.aload X57.here hx rfl (hb hby at_259) rfl rfl ?_
    show Steps p.tables e below (T57.setTop (mkF m 261 #[.val (.int p0), .val (.long q1), .second, .val (.int (own_q (p0 &&& (1 : Int32)))), .val (.long dd), .second, .val (.int l1), .val (.int l2), .val (.ref n1), .val (.ref n2), .val (.ref a), .val (.ref r), .val (.int (l1 + l2))] [(.ref n2), (.int l1), (.ref n1), (.int (3 : Int32)), (.ref r)])) _
    refine st58 _ ?_
    show Steps p.tables e below (T58.setTop (mkF m 264 #[.val (.int p0), .val (.long q1), .second, .val (.int (own_q (p0 &&& (1 : Int32)))), .val (.long dd), .second, .val (.int l1), .val (.int l2), .val (.ref n1), .val (.ref n2), .val (.ref a), .val (.ref r), .val (.int (l1 + l2))] [(.int (1 : Int32))])) _
    refine XS.ifNo X58.here hx rfl (hb hby at_264) rfl ((if0 _ _).trans (feq (by decide : ¬ ((1 : Int32) = (0 : Int32)))).1) ?_
    show Steps p.tables e below (T58.setTop (mkF m 267 #[.val (.int p0), .val (.long q1), .second, .val (.int (own_q (p0 &&& (1 : Int32)))), .val (.long dd), .second, .val (.int l1), .val (.int l2), .val (.ref n1), .val (.ref n2), .val (.ref a), .val (.ref r), .val (.int (l1 + l2))] [])) _
    refine XS.aload X58.here hx rfl (hb hby at_267) rfl rfl ?_
    show Steps p.tables e below (T58.setTop (mkF m 269 #[.val (.int p0), .val (.long q1), .second, .val (.int (own_q (p0 &&& (1 : Int32)))), .val (.long dd), .second, .val (.int l1), .val (.int l2), .val (.ref n1), .val (.ref n2), .val (.ref a), .val (.ref r), .val (.int (l1 + l2))] [(.ref r)])) _
    refine XS.iconst X58.here hx rfl (hb hby at_269) ?_
    show Steps p.tables e below (T58.setTop (mkF m 270 #[.val (.int p0), .val (.long q1), .second, .val (.int (own_q (p0 &&& (1 : Int32)))), .val (.long dd), .second, .val (.int l1), .val (.int l2), .val (.ref n1), .val (.ref n2), .val (.ref a), .val (.ref r), .val (.int (l1 + l2))] [(.int (4 : Int32)), (.ref r)])) _
    refine XS.aload X58.here hx rfl (hb hby at_270) rfl rfl ?_
    show Steps p.tables e below (T58.setTop (mkF m 272 #[.val (.int p0), .val (.long q1), .second, .val (.int (own_q (p0 &&& (1 : Int32)))), .val (.long dd), .second, .val (.int l1), .val (.int l2), .val (.ref n1), .val (.ref n2), .val (.ref a), .val (.ref r), .val (.int (l1 + l2))] [(.ref n1), (.int (4 : Int32)), (.ref r)])) _
    refine XS.iload X58.here hx rfl (hb hby at_272) rfl ?_
    show Steps p.tables e below (T58.setTop (mkF m 274 #[.val (.int p0), .val (.long q1), .second, .val (.int (own_q (p0 &&& (1 : Int32)))), .val (.long dd), .second, .val (.int l1), .val (.int l2), .val (.ref n1), .val (.ref n2), .val (.ref a), .val (.ref r), .val (.int (l1 + l2))] [(.int l1), (.ref n1), (.int (4 : Int32)), (.ref r)])) _
    refine XS.aload X58.here hx rfl (hb hby at_274) rfl rfl ?_
    show Steps p.tables e below (T58.setTop (mkF m 276 #[.val (.int p0), .val (.long q1), .second, .val (.int (own_q (p0 &&& (1 : Int32)))), .val (.long dd), .second, .val (.int l1), .val (.int l2), .val (.ref n1), .val (.ref n2), .val (.ref a), .val (.ref r), .val (.int (l1 + l2))] [(.ref n2), (.int l1), (.ref n1), (.int (4 : Int32)), (.ref r)])) _
    refine st59 _ ?_
    show Steps p.tables e below (T59.setTop (mkF m 279 #[.val (.int p0), .val (.long q1), .second, .val (.int (own_q (p0 &&& (1 : Int32)))), .val (.long dd), .second, .val (.int l1), .val (.int l2), .val (.ref n1), .val (.ref n2), .val (.ref a), .val (.ref r), .val (.int (l1 + l2))] [(.int (1 : Int32))])) _
    refine XS.ifNo X59.here hx rfl (hb hby at_279) rfl ((if0 _ _).trans (feq (by decide : ¬ ((1 : Int32) = (0 : Int32)))).1) ?_
    show Steps p.tables e below (T59.setTop (mkF m 282 #[.val (.int p0), .val (.long q1), .second, .val (.int (own_q (p0 &&& (1 : Int32)))), .val (.long dd), .second, .val (.int l1), .val (.int l2), .val (.ref n1), .val (.ref n2), .val (.ref a), .val (.ref r), .val (.int (l1 + l2))] [])) _
    refine XS.aload X59.here hx rfl (hb hby at_282) rfl rfl ?_
    show Steps p.tables e below (T59.setTop (mkF m 284 #[.val (.int p0), .val (.long q1), .second, .val (.int (own_q (p0 &&& (1 : Int32)))), .val (.long dd), .second, .val (.int l1), .val (.int l2), .val (.ref n1), .val (.ref n2), .val (.ref a), .val (.ref r), .val (.int (l1 + l2))] [(.ref r)])) _
    refine XS.iconst X59.here hx rfl (hb hby at_284) ?_
    show Steps p.tables e below (T59.setTop (mkF m 285 #[.val (.int p0), .val (.long q1), .second, .val (.int (own_q (p0 &&& (1 : Int32)))), .val (.long dd), .second, .val (.int l1), .val (.int l2), .val (.ref n1), .val (.ref n2), .val (.ref a), .val (.ref r), .val (.int (l1 + l2))] [(.int (5 : Int32)), (.ref r)])) _
    refine XS.aload X59.here hx rfl (hb hby at_285) rfl rfl ?_
    show Steps p.tables e below (T59.setTop (mkF m 287 #[.val (.int p0), .val (.long q1), .second, .val (.int (own_q (p0 &&& (1 : Int32)))), .val (.long dd), .second, .val (.int l1), .val (.int l2), .val (.ref n1), .val (.ref n2), .val (.ref a), .val (.ref r), .val (.int (l1 + l2))] [(.ref n1), (.int (5 : Int32)), (.ref r)])) _
    refine XS.iload X59.here hx rfl (hb hby at_287) rfl ?_
    show Steps p.tables e below (T59.setTop (mkF m 289 #[.val (.int p0), .val (.long q1), .second, .val (.int (own_q (p0 &&& (1 : Int32)))), .val (.long dd), .second, .val (.int l1), .val (.int l2), .val (.ref n1), .val (.ref n2), .val (.ref a), .val (.ref r), .val (.int (l1 + l2))] [(.int l1), (.ref n1), (.int (5 : Int32)), (.ref r)])) _
    refine XS.aload X59.here hx rfl (hb hby at_289) rfl rfl ?_
    show Steps p.tables e below (T59.setTop (mkF m 291 #[.val (.int p0), .val (.long q1), .second, .val (.int (own_q (p0 &&& (1 : Int32)))), .val (.long dd), .second, .val (.int l1), .val (.int l2), .val (.ref n1), .val (.ref n2), .val (.ref a), .val (.ref r), .val (.int (l1 + l2))] [(.ref n2), (.int l1), (.ref n1), (.int (5 : Int32)), (.ref r)])) _
    refine st60 _ ?_
    show Steps p.tables e below (T60.setTop (mkF m 294 #[.val (.int p0), .val (.long q1), .second, .val (.int (own_q (p0 &&& (1 : Int32)))), .val (.long dd), .second, .val (.int l1), .val (.int l2), .val (.ref n1), .val (.ref n2), .val (.ref a), .val (.ref r), .val (.int (l1 + l2))] [(.int (1 : Int32))])) _
    refine XS.ifNo X60.here hx rfl (hb hby at_294) rfl ((if0 _ _).trans (feq (by decide : ¬ ((1 : Int32) = (0 : Int32)))).1) ?_
    show Steps p.tables e below (T60.setTop (mkF m 297 #[.val (.int p0), .val (.long q1), .second, .val (.int (own_q (p0 &&& (1 : Int32)))), .val (.long dd), .second, .val (.int l1), .val (.int l2), .val (.ref n1), .val (.ref n2), .val (.ref a), .val (.ref r), .val (.int (l1 + l2))] [])) _
    refine XS.aload X60.here hx rfl (hb hby at_297) rfl rfl ?_
    show Steps p.tables e below (T60.setTop (mkF m 299 #[.val (.int p0), .val (.long q1), .second, .val (.int (own_q (p0 &&& (1 : Int32)))), .val (.long dd), .second, .val (.int l1), .val (.int l2), .val (.ref n1), .val (.ref n2), .val (.ref a), .val (.ref r), .val (.int (l1 + l2))] [(.ref r)])) _
    refine XS.bipush X60.here hx rfl (hb hby at_299) ?_
    show Steps p.tables e below (T60.setTop (mkF m 301 #[.val (.int p0), .val (.long q1), .second, .val (.int (own_q (p0 &&& (1 : Int32)))), .val (.long dd), .second, .val (.int l1), .val (.int l2), .val (.ref n1), .val (.ref n2), .val (.ref a), .val (.ref r), .val (.int (l1 + l2))] [(.int (6 : Int32)), (.ref r)])) _
    refine XS.aload X60.here hx rfl (hb hby at_301) rfl rfl ?_
    show Steps p.tables e below (T60.setTop (mkF m 303 #[.val (.int p0), .val (.long q1), .second, .val (.int (own_q (p0 &&& (1 : Int32)))), .val (.long dd), .second, .val (.int l1), .val (.int l2), .val (.ref n1), .val (.ref n2), .val (.ref a), .val (.ref r), .val (.int (l1 + l2))] [(.ref n1), (.int (6 : Int32)), (.ref r)])) _
    refine XS.iload X60.here hx rfl (hb hby at_303) rfl ?_
    show Steps p.tables e below (T60.setTop (mkF m 305 #[.val (.int p0), .val (.long q1), .second, .val (.int (own_q (p0 &&& (1 : Int32)))), .val (.long dd), .second, .val (.int l1), .val (.int l2), .val (.ref n1), .val (.ref n2), .val (.ref a), .val (.ref r), .val (.int (l1 + l2))] [(.int l1), (.ref n1), (.int (6 : Int32)), (.ref r)])) _
    refine XS.aload X60.here hx rfl (hb hby at_305) rfl rfl ?_
    show Steps p.tables e below (T60.setTop (mkF m 307 #[.val (.int p0), .val (.long q1), .second, .val (.int (own_q (p0 &&& (1 : Int32)))), .val (.long dd), .second, .val (.int l1), .val (.int l2), .val (.ref n1), .val (.ref n2), .val (.ref a), .val (.ref r), .val (.int (l1 + l2))] [(.ref n2), (.int l1), (.ref n1), (.int (6 : Int32)), (.ref r)])) _
    refine st61 _ ?_
    show Steps p.tables e below (T61.setTop (mkF m 310 #[.val (.int p0), .val (.long q1), .second, .val (.int (own_q (p0 &&& (1 : Int32)))), .val (.long dd), .second, .val (.int l1), .val (.int l2), .val (.ref n1), .val (.ref n2), .val (.ref a), .val (.ref r), .val (.int (l1 + l2))] [(.int (1 : Int32))])) _
    refine XS.ifNo X61.here hx rfl (hb hby at_310) rfl ((if0 _ _).trans (feq (by decide : ¬ ((1 : Int32) = (0 : Int32)))).1) ?_
    show Steps p.tables e below (T61.setTop (mkF m 313 #[.val (.int p0), .val (.long q1), .second, .val (.int (own_q (p0 &&& (1 : Int32)))), .val (.long dd), .second, .val (.int l1), .val (.int l2), .val (.ref n1), .val (.ref n2), .val (.ref a), .val (.ref r), .val (.int (l1 + l2))] [])) _
    refine XS.aload X61.here hx rfl (hb hby at_313) rfl rfl ?_
    show Steps p.tables e below (T61.setTop (mkF m 315 #[.val (.int p0), .val (.long q1), .second, .val (.int (own_q (p0 &&& (1 : Int32)))), .val (.long dd), .second, .val (.int l1), .val (.int l2), .val (.ref n1), .val (.ref n2), .val (.ref a), .val (.ref r), .val (.int (l1 + l2))] [(.ref r)])) _
    refine XS.bipush X61.here hx rfl (hb hby at_315) ?_
    show Steps p.tables e below (T61.setTop (mkF m 317 #[.val (.int p0), .val (.long q1), .second, .val (.int (own_q (p0 &&& (1 : Int32)))), .val (.long dd), .second, .val (.int l1), .val (.int l2), .val (.ref n1), .val (.ref n2), .val (.ref a), .val (.ref r), .val (.int (l1 + l2))] [(.int (7 : Int32)), (.ref r)])) _
    refine XS.aload X61.here hx rfl (hb hby at_317) rfl rfl ?_
    show Steps p.tables e below (T61.setTop (mkF m 319 #[.val (.int p0), .val (.long q1), .second, .val (.int (own_q (p0 &&& (1 : Int32)))), .val (.long dd), .second, .val (.int l1), .val (.int l2), .val (.ref n1), .val (.ref n2), .val (.ref a), .val (.ref r), .val (.int (l1 + l2))] [(.ref n1), (.int (7 : Int32)), (.ref r)])) _
    refine XS.iload X61.here hx rfl (hb hby at_319) rfl ?_
    show Steps p.tables e below (T61.setTop (mkF m 321 #[.val (.int p0), .val (.long q1), .second, .val (.int (own_q (p0 &&& (1 : Int32)))), .val (.long dd), .second, .val (.int l1), .val (.int l2), .val (.ref n1), .val (.ref n2), .val (.ref a), .val (.ref r), .val (.int (l1 + l2))] [(.int l1), (.ref n1), (.int (7 : Int32)), (.ref r)])) _
    refine XS.aload X61.here hx rfl (hb hby at_321) rfl rfl ?_
    show Steps p.tables e below (T61.setTop (mkF m 323 #[.val (.int p0), .val (.long q1), .second, .val (.int (own_q (p0 &&& (1 : Int32)))), .val (.long dd), .second, .val (.int l1), .val (.int l2), .val (.ref n1), .val (.ref n2), .val (.ref a), .val (.ref r), .val (.int (l1 + l2))] [(.ref n2), (.int l1), (.ref n1), (.int (7 : Int32)), (.ref r)])) _
    refine st62 _ ?_
    show Steps p.tables e below (T62.setTop (mkF m 326 #[.val (.int p0), .val (.long q1), .second, .val (.int (own_q (p0 &&& (1 : Int32)))), .val (.long dd), .second, .val (.int l1), .val (.int l2), .val (.ref n1), .val (.ref n2), .val (.ref a), .val (.ref r), .val (.int (l1 + l2))] [(.int (1 : Int32))])) _
    refine XS.ifNo X62.here hx rfl (hb hby at_326) rfl ((if0 _ _).trans (feq (by decide : ¬ ((1 : Int32) = (0 : Int32)))).1) ?_
    show Steps p.tables e below (T62.setTop (mkF m 329 #[.val (.int p0), .val (.long q1), .second, .val (.int (own_q (p0 &&& (1 : Int32)))), .val (.long dd), .second, .val (.int l1), .val (.int l2), .val (.ref n1), .val (.ref n2), .val (.ref a), .val (.ref r), .val (.int (l1 + l2))] [])) _
    refine XS.iconst X62.here hx rfl (hb hby at_329) ?_
    show Steps p.tables e below (T62.setTop (mkF m 330 #[.val (.int p0), .val (.long q1), .second, .val (.int (own_q (p0 &&& (1 : Int32)))), .val (.long dd), .second, .val (.int l1), .val (.int l2), .val (.ref n1), .val (.ref n2), .val (.ref a), .val (.ref r), .val (.int (l1 + l2))] [(.int (1 : Int32))])) _
    refine XS.goto X62.here hx rfl (pc0 := 330) (pc' := 334) rfl (hb hby at_330) (by decide) (by decide) ?_
    show Steps p.tables e below (T62.setTop (mkF m 334 #[.val (.int p0), .val (.long q1), .second, .val (.int (own_q (p0 &&& (1 : Int32)))), .val (.long dd), .second, .val (.int l1), .val (.int l2), .val (.ref n1), .val (.ref n2), .val (.ref a), .val (.ref r), .val (.int (l1 + l2))] [(.int (1 : Int32))])) _
    exact retN X62 hx (t := .boolean) Bd.returns (by simp) (hb hby at_334) hr
  · show Q_0 Z p0 q1  h0 n0 _ T62.heap _
    rw [ea7]
    exact ⟨rfl, N62⟩
set_option maxRecDepth 65536 in
set_option maxHeartbeats 40000000 in
theorem comes_1 {Post : Tables → Env → Array Value → State → Outcome → State → Prop} (hpost : ∀ tb e args s v u, (limb_1_1.after args s (.returned v) u = true ∧ limb_1_2.after args s (.returned v) u = true ∧ True) → FrameEnd s (.returned v) u (Jvm.fieldLocs frame_1_writes args s ++ Jvm.arrayLocs frame_1_arrays args s ++ Jvm.staticLocs frame_1_statics s) 24 16512 → Post tb e args s (.returned v) u) :
    ArmFor flags0 classFile x code maxLocals ret World_1 tables_1 room_1 Calls_1 rest_1 Pre_1 Post := by
  intro l hfl _ _ p e ha hc hk s m args below hf hA hF happ hP
  obtain ⟨hcalls, hrest, hpre⟩ := hP
  obtain ⟨-, -, -, hnamed, -, -, -, hat⟩ := (Spec.applies_iff hf).mp happ
  obtain ⟨hg, hn⟩ := and_e (Cond.before_iff.mp (show (Jvm.Cond.and given_1 narrow_1).before args s = true from hpre))
  obtain ⟨gc, gr0⟩ := and_e hg
  obtain ⟨ga0, gr1⟩ := and_e gr0
  obtain ⟨w0, w1, rfl⟩ : ∃ w0 w1 : Value, args = #[w0, w1] := by
    have hs : args.size = 2 := by simpa [Cond.value, given_1] using gc
    obtain ⟨L⟩ := args
    match L, hs with
    | [w0, w1], _ => exact ⟨w0, w1, rfl⟩
  have hw := fun d (hd : d ∈ tables_1) => atoms_spec (ws := Jvm.Cond.code x code maxLocals ret :: tables_1) hat d (List.mem_cons_of_mem _ hd)
  obtain ⟨i0, ei0⟩ := is_v ga0
  obtain rfl : w0 = (.int i0) := Option.some.inj ei0
  obtain ⟨i1, ei1⟩ := isL_v gr1
  obtain rfl : w1 = (.long i1) := Option.some.inj ei1
  obtain ⟨n, o, h1, h2, h3, _, L, rfl, ⟨rfl, N⟩, hq⟩ := rm_0 l s _ hw tables_1 i0 i1 s.heap s.heap.size (Nat.le_refl _) p e ha hc hk s m _ below hf ((Spec.applies_iff_loose hf).mp happ).1 ⟨rfl, State.Warmed39.refl s, rfl⟩ trivial
  refine ⟨n, _, h1, h2, h3, hpost _ _ _ _ _ _ ⟨Cond.after_iff.mpr rfl, Cond.after_iff.mpr (eq_i res_at (Term.int_eval (1)) rfl), trivial⟩ ⟨hq.1, hq.2.1, (hq.2.2.sift fun y hy => Or.inr (N y hy)).mono (by decide) (by decide)⟩⟩
theorem main_1_1 : Claimed_1_1 := comes_1 fun _ _ _ _ _ _ h hF => ⟨h.1, hF⟩
theorem main_1_2 : Claimed_1_2 := comes_1 fun _ _ _ _ _ _ h hF => ⟨h.2.1, hF⟩
end Jvm.Pilot.@@N@@
namespace Jvm.Pilot.@@N@@
open Jvm Jvm.ClassFile Sem Op Lib Jvm.Free Jvm.Stand Jvm.Pilot.@@N@@.Jvm.D
/-! MADE BY PROGRAM (witnessworld.py) out of the Statement's table words and the real class files: 12 classes; the members and pool entries that the words name. The judged class is class 1, her method 1. -/
namespace start1
open Jvm.ClassFile
def u (s : String) : CpInfo := .utf8 (stringToUtf16 s)
/-- a pool by its gaps: so many unusable entries, then the entry; so many at the end -/
def gap : Nat → List CpInfo → List CpInfo
  | 0, r => r
  | n + 1, r => .unusable :: gap n r
def poolList (es : List (Nat × CpInfo)) (last : Nat) : List CpInfo := es.foldr (fun e r => gap e.1 (e.2 :: r)) (gap last [])
def pool (es : List (Nat × CpInfo)) (last : Nat) : Array CpInfo := ⟨poolList es last⟩
def fileOf (pool : Array CpInfo) (this : Nat) (attrs : Array Attribute := #[]) (ms : Array MethodInfo := #[]) (fl : Nat := 33) (sup : Nat := 0) (ifs : Array Nat := #[]) (fds : Array FieldInfo := #[]) : ClassFile where
  minorVersion := 0
  majorVersion := 65
  constantPool := pool
  accessFlags := fl
  thisClass := this
  superClass := sup
  interfaces := ifs
  fields := fds
  methods := ms
  attributes := attrs
def plain (name : String) (sup : Option ClassId) : Class where
  name := name
  kind := .ordinary
  loader := none
  accessFlags := 33
  super := sup
  interfaces := #[]
  cf := none
  fields := #[]
  methods := #[]
  instanceTypes := #[]
  staticTypes := #[]
  resolved := #[]
  callSites := []
  init := .initialized
  statics := none
  mirror := none

def pool0 : Array CpInfo := pool [(5, u "<init>"), (0, u "()V"), (1, .class_ 10), (1, u "java/lang/Object")] 113

def k0c0 : Code := { maxStack := 0, maxLocals := 1, code := object_method_1_code, exceptionTable := #[], attributes := #[] }
def k0m0 : Method := { name := "<init>", desc := "()V", sig := { parameters := [], returnType := none }, accessFlags := 1, code := some k0c0 }
/-- java/lang/Object -/
def k0 : Class := { plain "java/lang/Object" none with
  accessFlags := 33
  interfaces := #[]
  cf := some (fileOf pool0 8 #[] #[{ accessFlags := 1, nameIndex := 5, descriptorIndex := 6, attributes := #[] }] 33 0 #[] #[])
  fields := #[]
  methods := #[k0m0]
  instanceTypes := #[]
  staticTypes := #[]
  resolved := Array.replicate 124 none
  statics := none }

def pool1 : Array CpInfo := pool [(2, .class_ 4), (1, u "java/lang/Object"), (0, u "<init>"), (0, u "()V"), (0, .long 18446744073709551615), (1, .class_ 10), (0, u "com/example/tympan/tympan/BodyLimit$Received"), (0, .methodref 9 12), (0, .nameAndType 5 13), (0, u "(J)V"), (0, .methodref 9 15), (0, .nameAndType 16 17), (0, u "add"), (0, u "([BI)V"), (0, .methodref 9 19), (0, .nameAndType 20 21), (0, u "toByteArray"), (0, u "()[B"), (0, .methodref 9 23), (0, .nameAndType 24 25), (0, u "size"), (0, u "()I"), (0, .methodref 27 28), (0, .class_ 29), (0, .nameAndType 30 31), (0, u "com/example/tympan/tympan/ReceivedToByteArrayPinLaw"), (0, u "at"), (0, u "([BI[BI[B)Z"), (2, u "law"), (0, u "(IJ)Z")] 12

def k1m0 : Method := { name := "<init>", desc := "()V", sig := { parameters := [], returnType := none }, accessFlags := 1, code := none }
def k1c1 : Code := { maxStack := 5, maxLocals := 13, code := code, exceptionTable := #[], attributes := #[] }
def k1m1 : Method := { name := "law", desc := "(IJ)Z", sig := { parameters := [.int, .long], returnType := some .boolean }, accessFlags := 9, code := some k1c1 }
def k1c2 : Code := { maxStack := 3, maxLocals := 6, code := method_3_code, exceptionTable := #[], attributes := #[] }
def k1m2 : Method := { name := "at", desc := "([BI[BI[B)Z", sig := { parameters := [(.array .byte), .int, (.array .byte), .int, (.array .byte)], returnType := some .boolean }, accessFlags := 10, code := some k1c2 }
/-- com/example/tympan/tympan/ReceivedToByteArrayPinLaw -/
def k1 : Class := { plain "com/example/tympan/tympan/ReceivedToByteArrayPinLaw" (some 0) with
  accessFlags := 49
  interfaces := #[]
  cf := some (fileOf pool1 27 #[] #[{ accessFlags := 1, nameIndex := 5, descriptorIndex := 6, attributes := #[] }, { accessFlags := 9, nameIndex := 34, descriptorIndex := 35, attributes := #[] }, { accessFlags := 10, nameIndex := 30, descriptorIndex := 31, attributes := #[] }] 49 2 #[] #[])
  fields := #[]
  methods := #[k1m0, k1m1, k1m2]
  instanceTypes := #[]
  staticTypes := #[]
  resolved := Array.replicate 48 none
  statics := none }

def pool2 : Array CpInfo := pool [(1, .class_ 2), (0, u "com/example/tympan/tympan/BodyLimit"), (0, .methodref 4 5), (0, .class_ 6), (0, .nameAndType 7 8), (0, u "java/lang/Object"), (0, u "<init>"), (0, u "()V"), (0, .long 16777216), (10, .class_ 21), (0, u "com/example/tympan/tympan/BodyLimit$Received"), (0, .fieldref 20 23), (0, .nameAndType 24 25), (0, u "bytes"), (0, u "[B"), (2, .fieldref 20 29), (0, .nameAndType 30 31), (0, u "size"), (0, u "I"), (3, .long 2), (1, .methodref 38 39), (0, .class_ 40), (0, .nameAndType 41 42), (0, u "java/lang/Math"), (0, u "max"), (0, u "(JJ)J"), (0, .methodref 38 44), (0, .nameAndType 45 42), (0, u "min"), (0, .methodref 47 48), (0, .class_ 49), (0, .nameAndType 50 51), (0, u "java/util/Arrays"), (0, u "copyOf"), (0, u "([BI)[B"), (0, .methodref 53 54), (0, .class_ 55), (0, .nameAndType 56 57), (0, u "java/lang/System"), (0, u "arraycopy"), (0, u "(Ljava/lang/Object;ILjava/lang/Object;II)V"), (0, u "FIRST_BYTES"), (2, u "(J)V"), (5, u "add"), (0, u "([BI)V"), (1, u "()I"), (0, u "toByteArray"), (0, u "()[B")] 20

def k2c0 : Code := { maxStack := 5, maxLocals := 3, code := prog_4_method_1_code, exceptionTable := #[], attributes := #[] }
def k2m0 : Method := { name := "<init>", desc := "(J)V", sig := { parameters := [.long], returnType := none }, accessFlags := 0, code := some k2c0 }
def k2c1 : Code := { maxStack := 5, maxLocals := 4, code := prog_4_method_3_code, exceptionTable := #[], attributes := #[] }
def k2m1 : Method := { name := "add", desc := "([BI)V", sig := { parameters := [(.array .byte), .int], returnType := none }, accessFlags := 0, code := some k2c1 }
def k2c2 : Code := { maxStack := 1, maxLocals := 1, code := prog_4_method_4_code, exceptionTable := #[], attributes := #[] }
def k2m2 : Method := { name := "size", desc := "()I", sig := { parameters := [], returnType := some .int }, accessFlags := 0, code := some k2c2 }
def k2c3 : Code := { maxStack := 2, maxLocals := 1, code := prog_4_method_5_code, exceptionTable := #[], attributes := #[] }
def k2m3 : Method := { name := "toByteArray", desc := "()[B", sig := { parameters := [], returnType := some (.array .byte) }, accessFlags := 0, code := some k2c3 }
/-- com/example/tympan/tympan/BodyLimit$Received -/
def k2 : Class := { plain "com/example/tympan/tympan/BodyLimit$Received" (some 0) with
  accessFlags := 32
  interfaces := #[]
  cf := some (fileOf pool2 20 #[.nestHost 1] #[{ accessFlags := 0, nameIndex := 7, descriptorIndex := 61, attributes := #[] }, { accessFlags := 0, nameIndex := 67, descriptorIndex := 68, attributes := #[] }, { accessFlags := 0, nameIndex := 30, descriptorIndex := 70, attributes := #[] }, { accessFlags := 0, nameIndex := 71, descriptorIndex := 72, attributes := #[] }] 32 4 #[] #[{ accessFlags := 26, nameIndex := 58, descriptorIndex := 31, attributes := #[] }, { accessFlags := 2, nameIndex := 24, descriptorIndex := 25, attributes := #[] }, { accessFlags := 2, nameIndex := 30, descriptorIndex := 31, attributes := #[] }])
  fields := #[{ name := "FIRST_BYTES", type := .int, accessFlags := 26, slot := 0, constantValue := 0 }, { name := "bytes", type := (.array .byte), accessFlags := 2, slot := 0, constantValue := 0 }, { name := "size", type := .int, accessFlags := 2, slot := 1, constantValue := 0 }]
  methods := #[k2m0, k2m1, k2m2, k2m3]
  instanceTypes := #[(.array .byte), .int]
  staticTypes := #[.int]
  resolved := Array.replicate 93 none
  statics := none }

def pool3 : Array CpInfo := pool [(2, .class_ 4), (1, u "java/lang/Object"), (0, u "<init>"), (0, u "()V"), (1, .class_ 10), (1, u "java/lang/System"), (0, u "allowSecurityManager"), (0, u "I"), (16, u "cons"), (0, u "Ljava/io/Console;"), (77, .class_ 110), (1, u "java/lang/System$CallersHolder"), (43, u "initialErrStream"), (0, u "Ljava/io/PrintStream;"), (19, u "security"), (0, u "Ljava/lang/SecurityManager;"), (31, .class_ 209), (0, u "java/lang/System$1"), (7, u "props"), (0, u "Ljava/util/Properties;"), (2, u "lineSeparator"), (0, u "Ljava/lang/String;"), (96, .class_ 321), (1, u "java/lang/System$LoggerFinder"), (5, .class_ 328), (0, u "java/lang/System$Logger"), (67, u "err"), (2, u "out"), (91, u "notSupportedJnuEncoding"), (15, u "in"), (17, u "initialIn"), (0, u "Ljava/io/InputStream;"), (35, u "bootLayer"), (0, u "Ljava/lang/ModuleLayer;"), (99, .class_ 664), (0, u "java/lang/System$2"), (9, u "NEVER"), (2, u "MAYBE"), (49, u "arraycopy"), (0, u "(Ljava/lang/Object;ILjava/lang/Object;II)V"), (72, .class_ 802), (0, u "java/lang/System$Logger$Level")] 31

def k3m0 : Method := { name := "<init>", desc := "()V", sig := { parameters := [], returnType := none }, accessFlags := 2, code := none }
def k3m1 : Method := { name := "arraycopy", desc := "(Ljava/lang/Object;ILjava/lang/Object;II)V", sig := { parameters := [(.object "java/lang/Object"), .int, (.object "java/lang/Object"), .int, .int], returnType := none }, accessFlags := 265, code := none }
/-- java/lang/System -/
def k3 : Class := { plain "java/lang/System" (some 0) with
  accessFlags := 49
  interfaces := #[]
  cf := some (fileOf pool3 8 #[.nestMembers #[319, 327, 801, 108, 663, 208]] #[{ accessFlags := 2, nameIndex := 5, descriptorIndex := 6, attributes := #[] }, { accessFlags := 265, nameIndex := 727, descriptorIndex := 728, attributes := #[] }] 49 2 #[] #[{ accessFlags := 25, nameIndex := 507, descriptorIndex := 526, attributes := #[] }, { accessFlags := 25, nameIndex := 399, descriptorIndex := 155, attributes := #[] }, { accessFlags := 25, nameIndex := 396, descriptorIndex := 155, attributes := #[] }, { accessFlags := 10, nameIndex := 525, descriptorIndex := 526, attributes := #[] }, { accessFlags := 26, nameIndex := 674, descriptorIndex := 12, attributes := #[] }, { accessFlags := 26, nameIndex := 677, descriptorIndex := 12, attributes := #[] }, { accessFlags := 10, nameIndex := 11, descriptorIndex := 12, attributes := #[] }, { accessFlags := 74, nameIndex := 175, descriptorIndex := 176, attributes := #[] }, { accessFlags := 10, nameIndex := 491, descriptorIndex := 222, attributes := #[] }, { accessFlags := 74, nameIndex := 29, descriptorIndex := 30, attributes := #[] }, { accessFlags := 74, nameIndex := 154, descriptorIndex := 155, attributes := #[] }, { accessFlags := 10, nameIndex := 217, descriptorIndex := 218, attributes := #[] }, { accessFlags := 10, nameIndex := 221, descriptorIndex := 222, attributes := #[] }, { accessFlags := 8, nameIndex := 562, descriptorIndex := 563, attributes := #[] }])
  fields := #[{ name := "in", type := (.object "java/io/InputStream"), accessFlags := 25, slot := 0, constantValue := 0 }, { name := "out", type := (.object "java/io/PrintStream"), accessFlags := 25, slot := 1, constantValue := 0 }, { name := "err", type := (.object "java/io/PrintStream"), accessFlags := 25, slot := 2, constantValue := 0 }, { name := "initialIn", type := (.object "java/io/InputStream"), accessFlags := 10, slot := 3, constantValue := 0 }, { name := "NEVER", type := .int, accessFlags := 26, slot := 4, constantValue := 0 }, { name := "MAYBE", type := .int, accessFlags := 26, slot := 5, constantValue := 0 }, { name := "allowSecurityManager", type := .int, accessFlags := 10, slot := 6, constantValue := 0 }, { name := "security", type := (.object "java/lang/SecurityManager"), accessFlags := 74, slot := 7, constantValue := 0 }, { name := "notSupportedJnuEncoding", type := (.object "java/lang/String"), accessFlags := 10, slot := 8, constantValue := 0 }, { name := "cons", type := (.object "java/io/Console"), accessFlags := 74, slot := 9, constantValue := 0 }, { name := "initialErrStream", type := (.object "java/io/PrintStream"), accessFlags := 74, slot := 10, constantValue := 0 }, { name := "props", type := (.object "java/util/Properties"), accessFlags := 10, slot := 11, constantValue := 0 }, { name := "lineSeparator", type := (.object "java/lang/String"), accessFlags := 10, slot := 12, constantValue := 0 }, { name := "bootLayer", type := (.object "java/lang/ModuleLayer"), accessFlags := 8, slot := 13, constantValue := 0 }]
  methods := #[k3m0, k3m1]
  instanceTypes := #[]
  staticTypes := #[(.object "java/io/InputStream"), (.object "java/io/PrintStream"), (.object "java/io/PrintStream"), (.object "java/io/InputStream"), .int, .int, .int, (.object "java/lang/SecurityManager"), (.object "java/lang/String"), (.object "java/io/Console"), (.object "java/io/PrintStream"), (.object "java/util/Properties"), (.object "java/lang/String"), (.object "java/lang/ModuleLayer")]
  resolved := Array.replicate 834 none
  statics := none }

def pool4 : Array CpInfo := pool [(2, .class_ 4), (1, u "java/lang/Object"), (0, u "<init>"), (0, u "()V"), (7, .class_ 16), (1, u "java/util/Arrays"), (57, .class_ 76), (1, u "java/util/Arrays$NaturalOrder"), (36, .class_ 115), (1, u "java/util/Arrays$LegacyMergeSort"), (1, u "Z"), (32, .methodref 151 152), (0, .class_ 153), (0, .nameAndType 154 155), (0, u "java/lang/System"), (0, u "arraycopy"), (0, u "(Ljava/lang/Object;ILjava/lang/Object;II)V"), (146, u "copyOf"), (1, .methodref 305 306), (0, .class_ 307), (0, .nameAndType 308 309), (0, u "java/lang/Math"), (0, u "min"), (0, u "(II)I"), (65, .class_ 376), (0, u "java/util/Arrays$ArrayList"), (68, u "$assertionsDisabled"), (269, u "MIN_ARRAY_SORT_GRAN"), (0, u "I"), (2, u "INSERTIONSORT_THRESHOLD"), (149, u "([BI)[B"), (105, .class_ 976), (0, u "java/util/Arrays$ArrayItr")] 52

def k4m0 : Method := { name := "<init>", desc := "()V", sig := { parameters := [], returnType := none }, accessFlags := 2, code := none }
def k4c1 : Code := { maxStack := 6, maxLocals := 3, code := jdk_65_method_121_code, exceptionTable := #[], attributes := #[] }
def k4m1 : Method := { name := "copyOf", desc := "([BI)[B", sig := { parameters := [(.array .byte), .int], returnType := some (.array .byte) }, accessFlags := 9, code := some k4c1 }
/-- java/util/Arrays -/
def k4 : Class := { plain "java/util/Arrays" (some 0) with
  accessFlags := 49
  interfaces := #[]
  cf := some (fileOf pool4 14 #[.nestMembers #[975, 375, 113, 74]] #[{ accessFlags := 2, nameIndex := 5, descriptorIndex := 6, attributes := #[] }, { accessFlags := 9, nameIndex := 302, descriptorIndex := 869, attributes := #[] }] 49 2 #[] #[{ accessFlags := 26, nameIndex := 715, descriptorIndex := 716, attributes := #[] }, { accessFlags := 26, nameIndex := 719, descriptorIndex := 716, attributes := #[] }, { accessFlags := 4120, nameIndex := 445, descriptorIndex := 117, attributes := #[] }])
  fields := #[{ name := "MIN_ARRAY_SORT_GRAN", type := .int, accessFlags := 26, slot := 0, constantValue := 0 }, { name := "INSERTIONSORT_THRESHOLD", type := .int, accessFlags := 26, slot := 1, constantValue := 0 }, { name := "$assertionsDisabled", type := .boolean, accessFlags := 4120, slot := 2, constantValue := 0 }]
  methods := #[k4m0, k4m1]
  instanceTypes := #[]
  staticTypes := #[.int, .int, .boolean]
  resolved := Array.replicate 1029 none
  statics := none }

def pool5 : Array CpInfo := pool [(1, .class_ 2), (0, u "java/lang/Math"), (1, .class_ 6), (1, u "java/lang/Object"), (0, u "<init>"), (0, u "()V"), (89, .class_ 100), (1, u "java/lang/Math$RandomNumberGeneratorHolder"), (20, u "(JJ)J"), (50, u "negativeZeroFloatBits"), (0, u "J"), (2, u "negativeZeroDoubleBits"), (21, u "max"), (2, u "min"), (43, u "$assertionsDisabled"), (0, u "Z"), (88, u "(II)I"), (2, u "twoToTheDoubleScaleDown"), (0, u "D"), (4, u "twoToTheDoubleScaleUp"), (9, u "E"), (3, u "PI"), (2, u "TAU"), (2, u "DEGREES_TO_RADIANS"), (0, u "RADIANS_TO_DEGREES")] 94

def k5m0 : Method := { name := "<init>", desc := "()V", sig := { parameters := [], returnType := none }, accessFlags := 2, code := none }
def k5c1 : Code := { maxStack := 4, maxLocals := 4, code := jdk_29_method_66_code, exceptionTable := #[], attributes := #[] }
def k5m1 : Method := { name := "max", desc := "(JJ)J", sig := { parameters := [.long, .long], returnType := some .long }, accessFlags := 9, code := some k5c1 }
def k5c2 : Code := { maxStack := 2, maxLocals := 2, code := jdk_29_method_69_code, exceptionTable := #[], attributes := #[] }
def k5m2 : Method := { name := "min", desc := "(II)I", sig := { parameters := [.int, .int], returnType := some .int }, accessFlags := 9, code := some k5c2 }
def k5c3 : Code := { maxStack := 4, maxLocals := 4, code := jdk_29_method_70_code, exceptionTable := #[], attributes := #[] }
def k5m3 : Method := { name := "min", desc := "(JJ)J", sig := { parameters := [.long, .long], returnType := some .long }, accessFlags := 9, code := some k5c3 }
/-- java/lang/Math -/
def k5 : Class := { plain "java/lang/Math" (some 0) with
  accessFlags := 49
  interfaces := #[]
  cf := some (fileOf pool5 1 #[.nestMembers #[98]] #[{ accessFlags := 2, nameIndex := 7, descriptorIndex := 8, attributes := #[] }, { accessFlags := 9, nameIndex := 198, descriptorIndex := 121, attributes := #[] }, { accessFlags := 9, nameIndex := 201, descriptorIndex := 335, attributes := #[] }, { accessFlags := 9, nameIndex := 201, descriptorIndex := 121, attributes := #[] }] 49 4 #[] #[{ accessFlags := 25, nameIndex := 354, descriptorIndex := 339, attributes := #[] }, { accessFlags := 25, nameIndex := 358, descriptorIndex := 339, attributes := #[] }, { accessFlags := 25, nameIndex := 361, descriptorIndex := 339, attributes := #[] }, { accessFlags := 26, nameIndex := 364, descriptorIndex := 339, attributes := #[] }, { accessFlags := 26, nameIndex := 365, descriptorIndex := 339, attributes := #[] }, { accessFlags := 26, nameIndex := 172, descriptorIndex := 173, attributes := #[] }, { accessFlags := 26, nameIndex := 176, descriptorIndex := 173, attributes := #[] }, { accessFlags := 8, nameIndex := 344, descriptorIndex := 339, attributes := #[] }, { accessFlags := 8, nameIndex := 338, descriptorIndex := 339, attributes := #[] }, { accessFlags := 4120, nameIndex := 245, descriptorIndex := 246, attributes := #[] }])
  fields := #[{ name := "E", type := .double, accessFlags := 25, slot := 0, constantValue := 0 }, { name := "PI", type := .double, accessFlags := 25, slot := 1, constantValue := 0 }, { name := "TAU", type := .double, accessFlags := 25, slot := 2, constantValue := 0 }, { name := "DEGREES_TO_RADIANS", type := .double, accessFlags := 26, slot := 3, constantValue := 0 }, { name := "RADIANS_TO_DEGREES", type := .double, accessFlags := 26, slot := 4, constantValue := 0 }, { name := "negativeZeroFloatBits", type := .long, accessFlags := 26, slot := 5, constantValue := 0 }, { name := "negativeZeroDoubleBits", type := .long, accessFlags := 26, slot := 6, constantValue := 0 }, { name := "twoToTheDoubleScaleUp", type := .double, accessFlags := 8, slot := 7, constantValue := 0 }, { name := "twoToTheDoubleScaleDown", type := .double, accessFlags := 8, slot := 8, constantValue := 0 }, { name := "$assertionsDisabled", type := .boolean, accessFlags := 4120, slot := 9, constantValue := 0 }]
  methods := #[k5m0, k5m1, k5m2, k5m3]
  instanceTypes := #[]
  staticTypes := #[.double, .double, .double, .double, .double, .long, .long, .double, .double, .boolean]
  resolved := Array.replicate 460 none
  statics := none }

def pool6 : Array CpInfo := pool [(1, u "java/lang/Cloneable"), (0, .class_ 1), (0, u "java/lang/Object"), (0, .class_ 3)] 3

/-- java/lang/Cloneable -/
def k6 : Class := { plain "java/lang/Cloneable" (some 0) with
  accessFlags := 1537
  interfaces := #[]
  cf := some (fileOf pool6 2 #[] #[] 1537 4 #[] #[])
  fields := #[]
  methods := #[]
  instanceTypes := #[]
  staticTypes := #[]
  resolved := Array.replicate 8 none
  statics := none }

def pool7 : Array CpInfo := pool [(1, u "java/io/Serializable"), (0, .class_ 1), (0, u "java/lang/Object"), (0, .class_ 3)] 3

/-- java/io/Serializable -/
def k7 : Class := { plain "java/io/Serializable" (some 0) with
  accessFlags := 1537
  interfaces := #[]
  cf := some (fileOf pool7 2 #[] #[] 1537 4 #[] #[])
  fields := #[]
  methods := #[]
  instanceTypes := #[]
  staticTypes := #[]
  resolved := Array.replicate 8 none
  statics := none }

/-- the primitive byte -/
def k8 : Class := { plain "byte" none with kind := .primitive 'B', accessFlags := 0x411 }
/-- [B -/
def k9 : Class := { plain "[B" (some 0) with kind := .array 8 .byte, interfaces := #[6, 7], accessFlags := 1041 }

/-- the primitive int -/
def k10 : Class := { plain "int" none with kind := .primitive 'I', accessFlags := 0x411 }
/-- [I -/
def k11 : Class := { plain "[I" (some 0) with kind := .array 10 .int, interfaces := #[6, 7], accessFlags := 1041 }

def heap : Heap := #[]
def classes : Array Class := #[k0, k1, k2, k3, k4, k5, k6, k7, k8, k9, k10, k11]
def interned : List (Array UInt16 × Addr) := []
def slotsUsed : Nat := 0
def theMethod : MethodId := ⟨1, 1⟩
def args0 : Array Value := #[.int 5, .long 7]
def aboutOver (below : List Frame) : State where
  vm := { classes := classes, interned := interned.toArray }
  heap := heap
  slotsUsed := slotsUsed
  threads := #[{ frames := .invoking theMethod args0 :: below }]
def below0 : List Frame := [.native { method := ⟨0, 0⟩, args := #[] }]
def about1 : State := aboutOver below0
def p0 : Program := .bare "" "" ""
def e0 : Env := launch0.env 0 0 0
theorem w_frames : about1.frames = Frame.invoking theMethod args0 :: below0 := rfl
set_option maxRecDepth 65536 in
theorem w_args : argsFit about1.vm theMethod args0 = true := by decide +kernel
set_option maxRecDepth 65536 in
theorem w_heap : heapFits about1 = true := by decide +kernel
set_option maxRecDepth 65536 in
theorem w_runnable : about1.curStatus? = some .runnable := by decide +kernel
set_option maxRecDepth 65536 in
theorem w_alone : about1.alone = true := by decide +kernel
set_option maxRecDepth 65536 in
theorem w_named : about1.methodNamed? x = some theMethod := by decide +kernel
set_option maxRecDepth 65536 in
theorem w_hears : about1.hears theMethod below0 = true := by decide +kernel
set_option maxRecDepth 65536 in
theorem w_ripe : about1.ripe theMethod args0 below0 = true := by decide +kernel
theorem w_running : about1.status = .running := rfl
set_option maxRecDepth 65536 in
theorem w_room : about1.hasRoom e0.platform room_1 = true :=
  launch0.hasRoom_least _ room_1 (by decide +kernel) (by decide +kernel) (by decide +kernel) (by decide +kernel) (by decide +kernel) (by decide +kernel)
theorem allAtoms_all (ts : List Jvm.Cond) (a : Array Jvm.Value) (st : Jvm.State) : (allAtoms ts).before a st = ts.all (fun c => c.before a st) := by
  induction ts with
  | nil => rfl
  | cons c t ih =>
    show (Jvm.Cond.and c (allAtoms t)).before a st = _
    rw [Jvm.Cond.before_and, ih, List.all_cons]
def words1 : List Jvm.Cond := Jvm.Cond.code x code maxLocals ret :: tables_1
/-- a 'code' word, met by the world's own term for the bytes: nothing is compared byte by byte -/
theorem code_word {y : MethodName} {bytes : ByteArray} {mx : Nat} {rt : Option FieldType} {a : Array Value} {s : State} {m : MethodId} {meth : Method} {c : Code} (h1 : s.methodNamed? y = some m) (h2 : s.vm.method? m = some meth) (h3 : meth.code = some c) (h4 : c.code = bytes)
    (h5 : (c.maxLocals == mx && c.exceptionTable.isEmpty && decide (c.maxStack ≤ mostOperands) && decide (meth.sig.returnType = rt) && !meth.locks && decide (parseMethodDescriptor y.desc = some meth.sig)) = true) : (Jvm.Cond.code y bytes mx rt).before a s = true := by
  simp only [Bool.and_eq_true, beq_iff_eq, Bool.not_eq_true', decide_eq_true_eq] at h5
  obtain ⟨⟨⟨⟨⟨g1, g2⟩, g3⟩, g4⟩, g5⟩, g6⟩ := h5
  simp [Cond.before, Cond.holds, Cond.value, h1, h2, h3, h4, g1, g2, g3, g4, g5, g6]
def isCode : Jvm.Cond → Bool
  | .code _ _ _ _ => true
  | _ => false
theorem all_split {L : List Jvm.Cond} {P : Jvm.Cond → Bool} (h1 : L.all (fun c => isCode c || P c) = true) (h2 : ∀ c ∈ L.filter isCode, P c = true) : L.all P = true := by
  refine List.all_eq_true.mpr fun c hc => ?_
  have h := List.all_eq_true.mp h1 c hc
  rcases Bool.eq_false_or_eq_true (isCode c) with hi | hi
  · exact h2 c (List.mem_filter.mpr ⟨hc, hi⟩)
  · simpa [hi] using h
set_option maxRecDepth 65536 in
theorem w_c0 : (Jvm.Cond.code x code maxLocals ret).before args0 about1 = true := code_word (m := ⟨1, 1⟩) (meth := k1m1) (c := k1c1) (by decide +kernel) rfl rfl rfl (by decide +kernel)
set_option maxRecDepth 65536 in
theorem w_c1 : (Jvm.Cond.code ({ cls := "com/example/tympan/tympan/BodyLimit$Received", name := "<init>", desc := "(J)V" } : Jvm.MethodName) prog_4_method_1_code (3 : Nat) (Option.none : Option Jvm.ClassFile.FieldType)).before args0 about1 = true := code_word (m := ⟨2, 0⟩) (meth := k2m0) (c := k2c0) (by decide +kernel) rfl rfl rfl (by decide +kernel)
set_option maxRecDepth 65536 in
theorem w_c2 : (Jvm.Cond.code ({ cls := "java/lang/Object", name := "<init>", desc := "()V" } : Jvm.MethodName) object_method_1_code (1 : Nat) (Option.none : Option Jvm.ClassFile.FieldType)).before args0 about1 = true := code_word (m := ⟨0, 0⟩) (meth := k0m0) (c := k0c0) (by decide +kernel) rfl rfl rfl (by decide +kernel)
set_option maxRecDepth 65536 in
theorem w_c3 : (Jvm.Cond.code ({ cls := "com/example/tympan/tympan/BodyLimit$Received", name := "add", desc := "([BI)V" } : Jvm.MethodName) prog_4_method_3_code (4 : Nat) (Option.none : Option Jvm.ClassFile.FieldType)).before args0 about1 = true := code_word (m := ⟨2, 1⟩) (meth := k2m1) (c := k2c1) (by decide +kernel) rfl rfl rfl (by decide +kernel)
set_option maxRecDepth 65536 in
theorem w_c4 : (Jvm.Cond.code ({ cls := "com/example/tympan/tympan/BodyLimit$Received", name := "toByteArray", desc := "()[B" } : Jvm.MethodName) prog_4_method_5_code (1 : Nat) (Option.some (Jvm.ClassFile.FieldType.array Jvm.ClassFile.FieldType.byte))).before args0 about1 = true := code_word (m := ⟨2, 3⟩) (meth := k2m3) (c := k2c3) (by decide +kernel) rfl rfl rfl (by decide +kernel)
set_option maxRecDepth 65536 in
theorem w_c5 : (Jvm.Cond.code ({ cls := "com/example/tympan/tympan/BodyLimit$Received", name := "size", desc := "()I" } : Jvm.MethodName) prog_4_method_4_code (1 : Nat) (Option.some Jvm.ClassFile.FieldType.int)).before args0 about1 = true := code_word (m := ⟨2, 2⟩) (meth := k2m2) (c := k2c2) (by decide +kernel) rfl rfl rfl (by decide +kernel)
set_option maxRecDepth 65536 in
theorem w_c6 : (Jvm.Cond.code ({ cls := "com/example/tympan/tympan/ReceivedToByteArrayPinLaw", name := "at", desc := "([BI[BI[B)Z" } : Jvm.MethodName) method_3_code (6 : Nat) (Option.some Jvm.ClassFile.FieldType.boolean)).before args0 about1 = true := code_word (m := ⟨1, 2⟩) (meth := k1m2) (c := k1c2) (by decide +kernel) rfl rfl rfl (by decide +kernel)
set_option maxRecDepth 65536 in
theorem w_c7 : (Jvm.Cond.code ({ cls := "java/util/Arrays", name := "copyOf", desc := "([BI)[B" } : Jvm.MethodName) jdk_65_method_121_code (3 : Nat) (Option.some (Jvm.ClassFile.FieldType.array Jvm.ClassFile.FieldType.byte))).before args0 about1 = true := code_word (m := ⟨4, 1⟩) (meth := k4m1) (c := k4c1) (by decide +kernel) rfl rfl rfl (by decide +kernel)
set_option maxRecDepth 65536 in
theorem w_c8 : (Jvm.Cond.code ({ cls := "java/lang/Math", name := "min", desc := "(II)I" } : Jvm.MethodName) jdk_29_method_69_code (2 : Nat) (Option.some Jvm.ClassFile.FieldType.int)).before args0 about1 = true := code_word (m := ⟨5, 2⟩) (meth := k5m2) (c := k5c2) (by decide +kernel) rfl rfl rfl (by decide +kernel)
set_option maxRecDepth 65536 in
theorem w_c9 : (Jvm.Cond.code ({ cls := "java/lang/Math", name := "max", desc := "(JJ)J" } : Jvm.MethodName) jdk_29_method_66_code (4 : Nat) (Option.some Jvm.ClassFile.FieldType.long)).before args0 about1 = true := code_word (m := ⟨5, 1⟩) (meth := k5m1) (c := k5c1) (by decide +kernel) rfl rfl rfl (by decide +kernel)
set_option maxRecDepth 65536 in
theorem w_c10 : (Jvm.Cond.code ({ cls := "java/lang/Math", name := "min", desc := "(JJ)J" } : Jvm.MethodName) jdk_29_method_70_code (4 : Nat) (Option.some Jvm.ClassFile.FieldType.long)).before args0 about1 = true := code_word (m := ⟨5, 3⟩) (meth := k5m3) (c := k5c3) (by decide +kernel) rfl rfl rfl (by decide +kernel)
def codes1 : List Jvm.Cond := [Jvm.Cond.code x code maxLocals ret, Jvm.Cond.code ({ cls := "com/example/tympan/tympan/BodyLimit$Received", name := "<init>", desc := "(J)V" } : Jvm.MethodName) prog_4_method_1_code (3 : Nat) (Option.none : Option Jvm.ClassFile.FieldType), Jvm.Cond.code ({ cls := "java/lang/Object", name := "<init>", desc := "()V" } : Jvm.MethodName) object_method_1_code (1 : Nat) (Option.none : Option Jvm.ClassFile.FieldType), Jvm.Cond.code ({ cls := "com/example/tympan/tympan/BodyLimit$Received", name := "add", desc := "([BI)V" } : Jvm.MethodName) prog_4_method_3_code (4 : Nat) (Option.none : Option Jvm.ClassFile.FieldType), Jvm.Cond.code ({ cls := "com/example/tympan/tympan/BodyLimit$Received", name := "toByteArray", desc := "()[B" } : Jvm.MethodName) prog_4_method_5_code (1 : Nat) (Option.some (Jvm.ClassFile.FieldType.array Jvm.ClassFile.FieldType.byte)), Jvm.Cond.code ({ cls := "com/example/tympan/tympan/BodyLimit$Received", name := "size", desc := "()I" } : Jvm.MethodName) prog_4_method_4_code (1 : Nat) (Option.some Jvm.ClassFile.FieldType.int), Jvm.Cond.code ({ cls := "com/example/tympan/tympan/ReceivedToByteArrayPinLaw", name := "at", desc := "([BI[BI[B)Z" } : Jvm.MethodName) method_3_code (6 : Nat) (Option.some Jvm.ClassFile.FieldType.boolean), Jvm.Cond.code ({ cls := "java/util/Arrays", name := "copyOf", desc := "([BI)[B" } : Jvm.MethodName) jdk_65_method_121_code (3 : Nat) (Option.some (Jvm.ClassFile.FieldType.array Jvm.ClassFile.FieldType.byte)), Jvm.Cond.code ({ cls := "java/lang/Math", name := "min", desc := "(II)I" } : Jvm.MethodName) jdk_29_method_69_code (2 : Nat) (Option.some Jvm.ClassFile.FieldType.int), Jvm.Cond.code ({ cls := "java/lang/Math", name := "max", desc := "(JJ)J" } : Jvm.MethodName) jdk_29_method_66_code (4 : Nat) (Option.some Jvm.ClassFile.FieldType.long), Jvm.Cond.code ({ cls := "java/lang/Math", name := "min", desc := "(JJ)J" } : Jvm.MethodName) jdk_29_method_70_code (4 : Nat) (Option.some Jvm.ClassFile.FieldType.long)]
set_option maxRecDepth 65536 in
theorem codes_eq : words1.filter isCode = codes1 := rfl
theorem w_codes : ∀ c ∈ words1.filter isCode, c.before args0 about1 = true := by
  rw [codes_eq]
  intro c hc
  simp only [codes1, List.mem_cons, List.not_mem_nil, or_false] at hc
  rcases hc with rfl | rfl | rfl | rfl | rfl | rfl | rfl | rfl | rfl | rfl | rfl
  · exact w_c0
  · exact w_c1
  · exact w_c2
  · exact w_c3
  · exact w_c4
  · exact w_c5
  · exact w_c6
  · exact w_c7
  · exact w_c8
  · exact w_c9
  · exact w_c10
set_option maxRecDepth 65536 in
theorem w_t1 : (words1.take 24).all (fun c => isCode c || c.before args0 about1) = true := by decide +kernel
set_option maxRecDepth 65536 in
theorem w_t2 : ((words1.drop 24).take 24).all (fun c => isCode c || c.before args0 about1) = true := by decide +kernel
set_option maxRecDepth 65536 in
theorem w_t3 : ((words1.drop 24).drop 24).all (fun c => isCode c || c.before args0 about1) = true := by decide +kernel
theorem w_tables : (allAtoms (Jvm.Cond.code x code maxLocals ret :: tables_1)).before args0 about1 = true := by
  rw [allAtoms_all]
  show words1.all (fun c => c.before args0 about1) = true
  refine all_split ?_ w_codes
  rw [← List.take_append_drop 24 words1, List.all_append, w_t1, ← List.take_append_drop 24 (words1.drop 24), List.all_append, w_t2, w_t3]
  rfl
set_option maxRecDepth 65536 in
theorem w_case : (Jvm.Cond.and given_1 narrow_1).before args0 about1 = true := by decide +kernel
theorem w_applies : (headSpec (Jvm.Cond.code x code maxLocals ret :: tables_1) room_1).applies x e0.platform about1 = true :=
  (Spec.applies_iff w_frames).mpr ⟨w_running, w_runnable, w_alone, w_named, w_hears, w_ripe, w_room, w_tables⟩
theorem atStart : AtStart classFile x code maxLocals ret World_1 tables_1 room_1 Calls_1 rest_1 Pre_1 launch0 p0 e0 about1 theMethod args0 below0 :=
  ⟨lists_1, trivial, launch0.admits_env _ _ _, launch0.least_env, fairChoices_fair.cas, fairChoices_fair.clock, w_frames, w_args, w_heap, w_applies, trivial, trivial, w_case⟩
end start1
theorem witness_1 : WitnessClaimed_1 := ⟨start1.p0, start1.e0, start1.about1, start1.theMethod, start1.args0, start1.below0, start1.atStart⟩
end Jvm.Pilot.@@N@@
