import JvmDerived
import JvmDerived.Pilot.@@N@@Statement
import JvmDerived.Pilot.@@N@@Code
set_option linter.unusedVariables false
set_option linter.unusedSimpArgs false
namespace Jvm.RoadKit
open Sem ClassFile Op Lib Jvm.Stand Jvm.Free Jvm.LawKit
section New
variable {p : Program} {l : Launch} {e : Env} {R : Room} {s : State} {m : MethodId} {args : Array Value} {below : List Frame} {meth : Method} {c : Code} {T : State} {locs : List Loc} {cells slots : Nat}
theorem retI (X : Stand p l e R s m args below meth c T locs cells slots) (hx : p.tables.exec = Jvm.exec) {pc : Nat} {Ls : Array Slot} {z : Int32} {rest : List Value} (hret : meth.sig.returnType = some .int) (hd : decode c.code pc = .ok (.ireturn, 1)) {fs : List Frame}
    (hl : ∀ (f : JFrame) (acts : List Action), f.method = m → f.locked = none → f.entered = [] → (doReturn e (T.setTop f) acts (some (.int z))).1 = T.setFrames fs) : Steps p.tables e below (T.setTop (mkF m pc Ls (.int z :: rest))) (T.setFrames fs) := by
  have hm' : T.vm.method? m = some meth := X.method'
  have hn : narrow .int (.int z) = .int z := rfl
  show Steps p.tables e below (T.setTop { method := m, pc := pc, locals := Ls, stack := _ :: rest, locked := none }) _
  jvm_step X.here [X.here.top, hx, hd, hm', hret, hn]
  first | (intro acts; rw [hl _ acts rfl rfl rfl]) | rw [hl _ _ rfl rfl rfl]
  exact Steps.refl _
end New
end Jvm.RoadKit
namespace Jvm.Pilot.@@N@@
open Jvm Jvm.ClassFile Sem Op Lib Jvm.Free Jvm.Stand Jvm.LawKit Jvm.RoadKit Bundle Jvm.Pilot.@@N@@.Jvm.D
def OwnQ (r : Option Value) (h0 : Heap) (n0 : Nat) (v : Option Value) (h : Heap) (L : List Loc) : Prop := v = r ∧ Fr n0 L ∧ h = h0
theorem own_sz {Z : State} {n0 : Nat} {h : Heap} (O : Old Z n0 h) : n0 ≤ h.size := O.1 ▸ O.2.1
theorem own_new {Z : State} {n0 : Nat} {h : Heap} {b : Addr} (O : Old Z n0 h) (g : b = h.size) : n0 ≤ b := Nat.le_trans (own_sz O) (Nat.le_of_eq g.symm)
def OwnA (Z : State) (h : Heap) (a : Addr) (z : Int32) (f : Nat → Int32) : Prop := ∃ c : Cell, Arr Z h a c .int ∧ c.slots.size = z.toNatClampNeg ∧ ¬ z < 0 ∧ ∀ i, i < c.slots.size → c.slots[i]? = some (.int (f i))
def own_zero : Nat → Int32 := fun _ => 0
def own_put (f : Nat → Int32) (i : Nat) (v : Int32) : Nat → Int32 := fun k => if k = i then v else f k
theorem OwnA.lt {Z : State} {h : Heap} {a : Addr} {z : Int32} {f : Nat → Int32} (F : OwnA Z h a z f) : a < h.size := by obtain ⟨c, A, -⟩ := F; exact A.lt
theorem OwnA.ext {Z : State} {h h' : Heap} {a : Addr} {z : Int32} {f : Nat → Int32} (F : OwnA Z h a z f) (E : Ext h h') : OwnA Z h' a z f := by obtain ⟨c, A, r⟩ := F; exact ⟨c, A.ext E, r⟩
theorem OwnA.other {Z : State} {h h' : Heap} {a b : Addr} {sl : Nat} {v : Value} {z : Int32} {f : Nat → Int32} (F : OwnA Z h b z f) (W : Wr h h' a sl v) (q : b ≠ a) : OwnA Z h' b z f := by obtain ⟨c, A, r⟩ := F; exact ⟨c, A.other W q, r⟩
theorem OwnA.keep {Z : State} {h h' : Heap} {ws : List Addr} {a : Addr} {z : Int32} {f : Nat → Int32} (F : OwnA Z h a z f) (K : Keep h h' ws) (q : a ∉ ws) : OwnA Z h' a z f := by obtain ⟨c, A, r⟩ := F; exact ⟨c, ⟨K.2.1 a c A.1 q, A.2⟩, r⟩
theorem own_newA {Z : State} {h : Heap} {a : Addr} {k : ClassId} {z : Int32} (A : Arr Z h a (newA k .int z) .int) (q : ¬ z < 0) : OwnA Z h a z own_zero := ⟨_, A, sz_new _ _ _, q, fun i hi => by
  rw [sz_new] at hi; simp [newA, hi, own_zero, defaultValue]⟩
theorem own_setA {Z : State} {h h' : Heap} {a : Addr} {c : Cell} {z j x : Int32} {f : Nat → Int32} (A : Arr Z h a c .int) (S : c.slots.size = z.toNatClampNeg) (N : ¬ z < 0) (H : ∀ i, i < c.slots.size → c.slots[i]? = some (.int (f i))) (W : Wr h h' a j.toNatClampNeg (.int x)) : OwnA Z h' a z (own_put f j.toNatClampNeg x) := by
  refine ⟨_, A.same W, by rw [sz_set]; exact S, N, fun i hi => ?_⟩
  rw [sz_set] at hi
  by_cases u : j.toNatClampNeg = i
  · subst u; simp [Cell.setSlot, hi, own_put]
  · have := H i hi
    have u' : ¬ i = j.toNatClampNeg := fun z => u z.symm
    simp only [Cell.setSlot, own_put]
    rw [Array.getElem?_setIfInBounds_ne u, if_neg u']; exact this
/-- the turns of mark's loop and of countBelow's inner loop, as plain functions -/
def own_up (z : Int32) : Nat → Int32 → (Nat → Int32) → (Nat → Int32)
  | 0, _, f => f
  | k + 1, j, f => if j < z then own_up z k (j + (j &&& (-j))) (own_put f j.toNatClampNeg (f j.toNatClampNeg + 1)) else f
def own_upEnd (z : Int32) : Nat → Int32 → Int32
  | 0, j => j
  | k + 1, j => if j < z then own_upEnd z k (j + (j &&& (-j))) else j
def own_upOk (z : Int32) : Nat → Int32 → Bool
  | 0, _ => false
  | k + 1, j => if j < z then !decide (j < 0) && own_upOk z k (j + (j &&& (-j))) else true
def own_dn : Nat → Int32 → (Nat → Int32) → Int64 → Int64
  | 0, _, _, s => s
  | k + 1, j, f, s => if 0 < j then own_dn k (j - (j &&& (-j))) f (s + (f j.toNatClampNeg).toInt64) else s
def own_dnEnd : Nat → Int32 → Int32
  | 0, j => j
  | k + 1, j => if 0 < j then own_dnEnd k (j - (j &&& (-j))) else j
def own_dnOk (z : Int32) : Nat → Int32 → Bool
  | 0, _ => false
  | k + 1, j => if 0 < j then !decide (j < 0) && decide (j < z) && own_dnOk z k (j - (j &&& (-j))) else true
def own_min (a b : Int32) : Int32 := if b < a then b else a
def own_lt (a b : Int32) : Int64 := if a < b then 1 else 0
def own_cb (b x : Int32) (f : Nat → Int32) (s : Int64) : Int64 := if x < b then own_dn 6 b f s else s
def own_x0 (c p x : Int32) : Int32 := if c = 0 then own_min x p else x
def own_x1 (c p x : Int32) : Int32 := if c = 0 then x else own_min x p
def own_f0 (c z p : Int32) (f : Nat → Int32) : Nat → Int32 := if c = 0 then own_up z 6 (p + 1) f else f
def own_f1 (c z p : Int32) (f : Nat → Int32) : Nat → Int32 := if c = 0 then f else own_up z 6 (p + 1) f
theorem own_x0_0 (p x : Int32) : own_x0 0 p x = own_min x p := if_pos rfl
theorem own_x0_1 (p x : Int32) : own_x0 1 p x = x := if_neg (by decide)
theorem own_x1_0 (p x : Int32) : own_x1 0 p x = x := if_pos rfl
theorem own_x1_1 (p x : Int32) : own_x1 1 p x = own_min x p := if_neg (by decide)
theorem own_f0_0 (z p : Int32) (f : Nat → Int32) : own_f0 0 z p f = own_up z 6 (p + 1) f := if_pos rfl
theorem own_f0_1 (z p : Int32) (f : Nat → Int32) : own_f0 1 z p f = f := if_neg (by decide)
theorem own_f1_0 (z p : Int32) (f : Nat → Int32) : own_f1 0 z p f = f := if_pos rfl
theorem own_f1_1 (z p : Int32) (f : Nat → Int32) : own_f1 1 z p f = own_up z 6 (p + 1) f := if_neg (by decide)
theorem own_kmono {h h' : Heap} {ws ws' : List Addr} (K : Keep h h' ws) (q : ∀ x ∈ ws, x ∈ ws') : Keep h h' ws' := ⟨K.1, fun x c hx hn => K.2.1 x c hx fun hm => hn (q x hm), K.2.2⟩
theorem own_d6_12 : decode prog_25_method_2_code 12 = .ok (.iload 4, 2) := by decide +kernel
theorem own_d6_14 : decode prog_25_method_2_code 14 = .ok (.aload_n 3, 1) := by decide +kernel
theorem own_d6_15 : decode prog_25_method_2_code 15 = .ok (.arraylength, 1) := by decide +kernel
theorem own_d6_16 : decode prog_25_method_2_code 16 = .ok (.if_icmp .ge 25, 3) := by decide +kernel
theorem own_d6_19 : decode prog_25_method_2_code 19 = .ok (.aload_n 3, 1) := by decide +kernel
theorem own_d6_20 : decode prog_25_method_2_code 20 = .ok (.iload 4, 2) := by decide +kernel
theorem own_d6_22 : decode prog_25_method_2_code 22 = .ok (.dup2, 1) := by decide +kernel
theorem own_d6_23 : decode prog_25_method_2_code 23 = .ok (.iaload, 1) := by decide +kernel
theorem own_d6_24 : decode prog_25_method_2_code 24 = .ok (.iconst 1, 1) := by decide +kernel
theorem own_d6_25 : decode prog_25_method_2_code 25 = .ok (.iadd, 1) := by decide +kernel
theorem own_d6_26 : decode prog_25_method_2_code 26 = .ok (.iastore, 1) := by decide +kernel
theorem own_d6_27 : decode prog_25_method_2_code 27 = .ok (.iload 4, 2) := by decide +kernel
theorem own_d6_29 : decode prog_25_method_2_code 29 = .ok (.iload 4, 2) := by decide +kernel
theorem own_d6_31 : decode prog_25_method_2_code 31 = .ok (.iload 4, 2) := by decide +kernel
theorem own_d6_33 : decode prog_25_method_2_code 33 = .ok (.ineg, 1) := by decide +kernel
theorem own_d6_34 : decode prog_25_method_2_code 34 = .ok (.iand, 1) := by decide +kernel
theorem own_d6_35 : decode prog_25_method_2_code 35 = .ok (.iadd, 1) := by decide +kernel
theorem own_d6_36 : decode prog_25_method_2_code 36 = .ok (.istore 4, 2) := by decide +kernel
theorem own_d6_38 : decode prog_25_method_2_code 38 = .ok (.goto (-26), 3) := by decide +kernel
set_option maxRecDepth 65536 in
set_option maxHeartbeats 40000000 in
theorem own_mk_turn {p : Program} {l : Launch} {e : Env} {R : Room} {s : State} {m : MethodId} {args : Array Value} {below : List Frame} {meth : Method} {c : Code} {T0 : State} {locs : List Loc} {cells slots : Nat} {Z : State} {a0 : Array Value} {h0 : Heap} {n0 : Nat} (o : Addr) (c0 : Int32) (p0 : Int32) (t : Addr) (j : Int32) (z : Int32) (f : Nat → Int32)
    (X0 : Stand p l e R s m args below meth c T0 locs cells slots) (hx : p.tables.exec = Jvm.exec) (hZ : Z.Warmed39 s.vm) (hw : ∀ d ∈ tables_1, d.before a0 Z = true) (hby : c.code = prog_25_method_2_code) (hml : c.maxLocals = 5) (hown : s.vm.findClass "com/example/sober_broadcast/soberbroadcast/cli/PositionCounts" = some m.cls) (e0 : T0.heap = h0) (N0 : Fr n0 locs) (O0 : Old Z n0 h0) (hj : ¬ (j < (0 : Int32))) (hz : j < z) (ht : n0 ≤ t) (At : OwnA Z h0 t z f) :
    ∃ (T' : State) (h' : Heap) (locs' : List Loc), Stand p l e R s m args below meth c T' locs' cells slots ∧ T'.heap = h' ∧ Fr n0 locs' ∧ Old Z n0 h' ∧ Keep h0 h' [t] ∧ OwnA Z h' t z (own_put f (j).toNatClampNeg ((f (j).toNatClampNeg) + (1 : Int32))) ∧ 
      ∀ target, Steps p.tables e below (T'.setTop (mkF m 12 #[.val (.ref o), .val (.int c0), .val (.int p0), .val (.ref t), .val (.int (j + (j &&& (-j))))] [])) target → Steps p.tables e below (T0.setTop (mkF m 12 #[.val (.ref o), .val (.int c0), .val (.int p0), .val (.ref t), .val (.int j)] [])) target := by
  obtain ⟨cl1, Ar1, Sz1, Nn1, Hs1⟩ := id (At)
  have hin2 : ¬ (j < 0 ∨ cl1.slots.size ≤ (j).toNatClampNeg) := inb_of Sz1 ⟨hj, hz⟩
  have hat2 : cl1.slots[(j).toNatClampNeg]? = some (.int (f (j).toNatClampNeg)) := Hs1 _ (Nat.lt_of_not_le fun q => hin2 (Or.inr q))
  obtain ⟨cl3, Ar3, Sz3, Nn3, Hs3⟩ := id (At)
  have hin3 : ¬ (j < 0 ∨ cl3.slots.size ≤ (j).toNatClampNeg) := inb_of Sz3 ⟨hj, hz⟩
  obtain ⟨T3, h3, X3, e3, W3, st3⟩ := stI X0 hx hZ e0 Ar3 (j := j) hin3 (g := (mkF m 26 #[.val (.ref o), .val (.int c0), .val (.int p0), .val (.ref t), .val (.int j)] [(.int ((f (j).toNatClampNeg) + (1 : Int32))), (.int j), (.ref t)])) rfl rfl (hb hby own_d6_26)
  have V3 : OwnA Z h3 t z (own_put f (j).toNatClampNeg ((f (j).toNatClampNeg) + (1 : Int32))) := own_setA Ar3 Sz3 Nn3 Hs3 W3
  have O3 := O0.wr W3 ht
  have K3 := (Keep.refl h0 [t]).wr W3 (Or.inl (List.mem_of_getElem? (i := 0) rfl))
  have N3 := Fr.snoc X3 N0 ht
  refine ⟨T3, h3, _, X3, e3, N3, O3, K3, V3, fun target kt => ?_⟩
  show Steps p.tables e below (T0.setTop (mkF m 12 #[.val (.ref o), .val (.int c0), .val (.int p0), .val (.ref t), .val (.int j)] [])) _
  refine XS.iload X0.here hx rfl (hb hby own_d6_12) rfl ?_
  show Steps p.tables e below (T0.setTop (mkF m 14 #[.val (.ref o), .val (.int c0), .val (.int p0), .val (.ref t), .val (.int j)] [(.int j)])) _
  refine XS.aloadN X0.here hx rfl (hb hby own_d6_14) rfl rfl ?_
  show Steps p.tables e below (T0.setTop (mkF m 15 #[.val (.ref o), .val (.int c0), .val (.int p0), .val (.ref t), .val (.int j)] [(.ref t), (.int j)])) _
  refine X0.arraylength hx (by rw [e0]; exact Ar1.1) (State.isArrayOf_alike hZ.alike Ar1.2.1) (g := (mkF m 15 #[.val (.ref o), .val (.int c0), .val (.int p0), .val (.ref t), .val (.int j)] [(.ref t), (.int j)])) rfl rfl (hb hby own_d6_15) _ ?_
  rw [len_of Sz1 Nn1]
  show Steps p.tables e below (T0.setTop (mkF m 16 #[.val (.ref o), .val (.int c0), .val (.int p0), .val (.ref t), .val (.int j)] [(.int z), (.int j)])) _
  refine XS.icmpNo X0.here hx rfl (hb hby own_d6_16) rfl (tlt (hz : j < z)).2.1 ?_
  show Steps p.tables e below (T0.setTop (mkF m 19 #[.val (.ref o), .val (.int c0), .val (.int p0), .val (.ref t), .val (.int j)] [])) _
  refine XS.aloadN X0.here hx rfl (hb hby own_d6_19) rfl rfl ?_
  show Steps p.tables e below (T0.setTop (mkF m 20 #[.val (.ref o), .val (.int c0), .val (.int p0), .val (.ref t), .val (.int j)] [(.ref t)])) _
  refine XS.iload X0.here hx rfl (hb hby own_d6_20) rfl ?_
  show Steps p.tables e below (T0.setTop (mkF m 22 #[.val (.ref o), .val (.int c0), .val (.int p0), .val (.ref t), .val (.int j)] [(.int j), (.ref t)])) _
  refine Jvm.Free.XT.dup2 X0.here hx rfl (hb hby own_d6_22) rfl rfl rfl ?_
  show Steps p.tables e below (T0.setTop (mkF m 23 #[.val (.ref o), .val (.int c0), .val (.int p0), .val (.ref t), .val (.int j)] [(.int j), (.ref t), (.int j), (.ref t)])) _
  refine X0.iaload hx (j := j) (v := (.int (f (j).toNatClampNeg))) (by rw [e0]; exact Ar1.1) (State.isArrayOf_alike hZ.alike Ar1.2.1) Ar1.2.2 hin2 hat2 (g := (mkF m 23 #[.val (.ref o), .val (.int c0), .val (.int p0), .val (.ref t), .val (.int j)] [(.int j), (.ref t), (.int j), (.ref t)])) rfl rfl (hb hby own_d6_23) _ ?_
  show Steps p.tables e below (T0.setTop (mkF m 24 #[.val (.ref o), .val (.int c0), .val (.int p0), .val (.ref t), .val (.int j)] [(.int (f (j).toNatClampNeg)), (.int j), (.ref t)])) _
  refine XS.iconst X0.here hx rfl (hb hby own_d6_24) ?_
  show Steps p.tables e below (T0.setTop (mkF m 25 #[.val (.ref o), .val (.int c0), .val (.int p0), .val (.ref t), .val (.int j)] [(.int (1 : Int32)), (.int (f (j).toNatClampNeg)), (.int j), (.ref t)])) _
  refine XS.iadd X0.here hx rfl (hb hby own_d6_25) rfl ?_
  show Steps p.tables e below (T0.setTop (mkF m 26 #[.val (.ref o), .val (.int c0), .val (.int p0), .val (.ref t), .val (.int j)] [(.int ((f (j).toNatClampNeg) + (1 : Int32))), (.int j), (.ref t)])) _
  refine st3 _ ?_
  show Steps p.tables e below (T3.setTop (mkF m 27 #[.val (.ref o), .val (.int c0), .val (.int p0), .val (.ref t), .val (.int j)] [])) _
  refine XS.iload X3.here hx rfl (hb hby own_d6_27) rfl ?_
  show Steps p.tables e below (T3.setTop (mkF m 29 #[.val (.ref o), .val (.int c0), .val (.int p0), .val (.ref t), .val (.int j)] [(.int j)])) _
  refine XS.iload X3.here hx rfl (hb hby own_d6_29) rfl ?_
  show Steps p.tables e below (T3.setTop (mkF m 31 #[.val (.ref o), .val (.int c0), .val (.int p0), .val (.ref t), .val (.int j)] [(.int j), (.int j)])) _
  refine XS.iload X3.here hx rfl (hb hby own_d6_31) rfl ?_
  show Steps p.tables e below (T3.setTop (mkF m 33 #[.val (.ref o), .val (.int c0), .val (.int p0), .val (.ref t), .val (.int j)] [(.int j), (.int j), (.int j)])) _
  refine XS.ineg X3.here hx rfl (hb hby own_d6_33) rfl ?_
  show Steps p.tables e below (T3.setTop (mkF m 34 #[.val (.ref o), .val (.int c0), .val (.int p0), .val (.ref t), .val (.int j)] [(.int (-j)), (.int j), (.int j)])) _
  refine XS.iand X3.here hx rfl (hb hby own_d6_34) rfl ?_
  show Steps p.tables e below (T3.setTop (mkF m 35 #[.val (.ref o), .val (.int c0), .val (.int p0), .val (.ref t), .val (.int j)] [(.int (j &&& (-j))), (.int j)])) _
  refine XS.iadd X3.here hx rfl (hb hby own_d6_35) rfl ?_
  show Steps p.tables e below (T3.setTop (mkF m 36 #[.val (.ref o), .val (.int c0), .val (.int p0), .val (.ref t), .val (.int j)] [(.int (j + (j &&& (-j))))])) _
  refine XS.istore X3.here hx rfl (hb hby own_d6_36) rfl (l' := #[.val (.ref o), .val (.int c0), .val (.int p0), .val (.ref t), .val (.int (j + (j &&& (-j))))]) rfl ?_
  show Steps p.tables e below (T3.setTop (mkF m 38 #[.val (.ref o), .val (.int c0), .val (.int p0), .val (.ref t), .val (.int (j + (j &&& (-j))))] [])) _
  refine XS.goto X3.here hx rfl (pc0 := 38) (pc' := 12) rfl (hb hby own_d6_38) (by decide) (by decide) ?_
  exact kt
set_option maxRecDepth 65536 in
set_option maxHeartbeats 40000000 in
theorem own_mk_exit {p : Program} {l : Launch} {e : Env} {R : Room} {s : State} {m : MethodId} {args : Array Value} {below : List Frame} {meth : Method} {c : Code} {T0 : State} {locs : List Loc} {cells slots : Nat} {Z : State} {a0 : Array Value} {h0 : Heap} {n0 : Nat} (o : Addr) (c0 : Int32) (p0 : Int32) (t : Addr) (j : Int32) (z : Int32) (f : Nat → Int32)
    (X0 : Stand p l e R s m args below meth c T0 locs cells slots) (hx : p.tables.exec = Jvm.exec) (hZ : Z.Warmed39 s.vm) (hw : ∀ d ∈ tables_1, d.before a0 Z = true) (hby : c.code = prog_25_method_2_code) (hml : c.maxLocals = 5) (hown : s.vm.findClass "com/example/sober_broadcast/soberbroadcast/cli/PositionCounts" = some m.cls) (e0 : T0.heap = h0) (N0 : Fr n0 locs) (O0 : Old Z n0 h0) (hz : ¬ (j < z)) (At : OwnA Z h0 t z f) :
    ∃ (T' : State), Stand p l e R s m args below meth c T' locs cells slots ∧ T'.heap = h0 ∧
      ∀ target, Steps p.tables e below (T'.setTop (mkF m 41 #[.val (.ref o), .val (.int c0), .val (.int p0), .val (.ref t), .val (.int j)] [])) target → Steps p.tables e below (T0.setTop (mkF m 12 #[.val (.ref o), .val (.int c0), .val (.int p0), .val (.ref t), .val (.int j)] [])) target := by
  obtain ⟨cl1, Ar1, Sz1, Nn1, Hs1⟩ := id (At)
  refine ⟨T0, X0, e0, fun target kt => ?_⟩
  show Steps p.tables e below (T0.setTop (mkF m 12 #[.val (.ref o), .val (.int c0), .val (.int p0), .val (.ref t), .val (.int j)] [])) _
  refine XS.iload X0.here hx rfl (hb hby own_d6_12) rfl ?_
  show Steps p.tables e below (T0.setTop (mkF m 14 #[.val (.ref o), .val (.int c0), .val (.int p0), .val (.ref t), .val (.int j)] [(.int j)])) _
  refine XS.aloadN X0.here hx rfl (hb hby own_d6_14) rfl rfl ?_
  show Steps p.tables e below (T0.setTop (mkF m 15 #[.val (.ref o), .val (.int c0), .val (.int p0), .val (.ref t), .val (.int j)] [(.ref t), (.int j)])) _
  refine X0.arraylength hx (by rw [e0]; exact Ar1.1) (State.isArrayOf_alike hZ.alike Ar1.2.1) (g := (mkF m 15 #[.val (.ref o), .val (.int c0), .val (.int p0), .val (.ref t), .val (.int j)] [(.ref t), (.int j)])) rfl rfl (hb hby own_d6_15) _ ?_
  rw [len_of Sz1 Nn1]
  show Steps p.tables e below (T0.setTop (mkF m 16 #[.val (.ref o), .val (.int c0), .val (.int p0), .val (.ref t), .val (.int j)] [(.int z), (.int j)])) _
  refine XS.icmpYes X0.here hx rfl (pc0 := 16) (pc' := 41) rfl (hb hby own_d6_16) rfl (flt (hz : ¬ (j < z))).2.1 (by decide) (by decide) ?_
  exact kt
theorem own_mk_loop {p : Program} {l : Launch} {e : Env} {R : Room} {s : State} {m : MethodId} {args : Array Value} {below : List Frame} {meth : Method} {c : Code} {cells slots : Nat} {Z : State} {a0 : Array Value} {n0 : Nat} (o : Addr) (c0 p0 : Int32) (t : Addr) (z : Int32) (ht : n0 ≤ t) (hx : p.tables.exec = Jvm.exec) (hZ : Z.Warmed39 s.vm) (hw : ∀ d ∈ tables_1, d.before a0 Z = true) (hby : c.code = prog_25_method_2_code) (hml : c.maxLocals = 5) (hown : s.vm.findClass "com/example/sober_broadcast/soberbroadcast/cli/PositionCounts" = some m.cls) :
    ∀ (k : Nat) (j : Int32) (f : Nat → Int32) (T0 : State) (h0 : Heap) (locs : List Loc), own_upOk z k j = true → Stand p l e R s m args below meth c T0 locs cells slots → T0.heap = h0 → Fr n0 locs → Old Z n0 h0 → OwnA Z h0 t z f →
      ∃ (T' : State) (h' : Heap) (locs' : List Loc), Stand p l e R s m args below meth c T' locs' cells slots ∧ T'.heap = h' ∧ Fr n0 locs' ∧ Old Z n0 h' ∧ Keep h0 h' [t] ∧ OwnA Z h' t z (own_up z k j f) ∧
        ∀ target, Steps p.tables e below (T'.setTop (mkF m 41 #[.val (.ref o), .val (.int c0), .val (.int p0), .val (.ref t), .val (.int (own_upEnd z k j))] [])) target → Steps p.tables e below (T0.setTop (mkF m 12 #[.val (.ref o), .val (.int c0), .val (.int p0), .val (.ref t), .val (.int j)] [])) target := by
  intro k
  induction k with
  | zero => intro j f T0 h0 locs hok; cases hok
  | succ k ih =>
    intro j f T0 h0 locs hok X0 e0 N0 O0 At
    by_cases hz : j < z
    · have hok' : (!decide (j < 0) && own_upOk z k (j + (j &&& (-j)))) = true := by have := hok; simp only [own_upOk, if_pos hz] at this; exact this
      obtain ⟨h1, h2⟩ := Bool.and_eq_true_iff.mp hok'
      have hj : ¬ (j < 0) := by simpa using h1
      obtain ⟨T1, g1, L1, X1, e1, N1, O1, K1, A1, st1⟩ := own_mk_turn o c0 p0 t j z f X0 hx hZ hw hby hml hown e0 N0 O0 hj hz ht At
      obtain ⟨T2, g2, L2, X2, e2, N2, O2, K2, A2, st2⟩ := ih _ _ T1 g1 L1 h2 X1 e1 N1 O1 A1
      refine ⟨T2, g2, L2, X2, e2, N2, O2, K1.trans K2 (allS (Or.inl (List.mem_of_getElem? (i := 0) rfl)) all0), ?_, fun target kt => st1 target (st2 target ?_)⟩
      · simp only [own_up, if_pos hz]; exact A2
      · simp only [own_upEnd, if_pos hz] at kt; exact kt
    · obtain ⟨T1, X1, e1, st1⟩ := own_mk_exit o c0 p0 t j z f X0 hx hZ hw hby hml hown e0 N0 O0 hz At
      refine ⟨T1, h0, locs, X1, e1, N0, O0, Keep.refl _ _, ?_, fun target kt => st1 target ?_⟩
      · simp only [own_up, if_neg hz]; exact At
      · simp only [own_upEnd, if_neg hz] at kt; exact kt
theorem own_d5_44 : decode prog_25_method_3_code 44 = .ok (.iload 6, 2) := by decide +kernel
theorem own_d5_46 : decode prog_25_method_3_code 46 = .ok (.ifCond .le 26, 3) := by decide +kernel
theorem own_d5_49 : decode prog_25_method_3_code 49 = .ok (.lload_n 2, 1) := by decide +kernel
theorem own_d5_50 : decode prog_25_method_3_code 50 = .ok (.aload 5, 2) := by decide +kernel
theorem own_d5_52 : decode prog_25_method_3_code 52 = .ok (.iload 6, 2) := by decide +kernel
theorem own_d5_54 : decode prog_25_method_3_code 54 = .ok (.iaload, 1) := by decide +kernel
theorem own_d5_55 : decode prog_25_method_3_code 55 = .ok (.i2l, 1) := by decide +kernel
theorem own_d5_56 : decode prog_25_method_3_code 56 = .ok (.ladd, 1) := by decide +kernel
theorem own_d5_57 : decode prog_25_method_3_code 57 = .ok (.lstore_n 2, 1) := by decide +kernel
theorem own_d5_58 : decode prog_25_method_3_code 58 = .ok (.iload 6, 2) := by decide +kernel
theorem own_d5_60 : decode prog_25_method_3_code 60 = .ok (.iload 6, 2) := by decide +kernel
theorem own_d5_62 : decode prog_25_method_3_code 62 = .ok (.iload 6, 2) := by decide +kernel
theorem own_d5_64 : decode prog_25_method_3_code 64 = .ok (.ineg, 1) := by decide +kernel
theorem own_d5_65 : decode prog_25_method_3_code 65 = .ok (.iand, 1) := by decide +kernel
theorem own_d5_66 : decode prog_25_method_3_code 66 = .ok (.isub, 1) := by decide +kernel
theorem own_d5_67 : decode prog_25_method_3_code 67 = .ok (.istore 6, 2) := by decide +kernel
theorem own_d5_69 : decode prog_25_method_3_code 69 = .ok (.goto (-25), 3) := by decide +kernel
set_option maxRecDepth 65536 in
set_option maxHeartbeats 40000000 in
theorem own_cb_turn {p : Program} {l : Launch} {e : Env} {R : Room} {s : State} {m : MethodId} {args : Array Value} {below : List Frame} {meth : Method} {c : Code} {T0 : State} {locs : List Loc} {cells slots : Nat} {Z : State} {a0 : Array Value} {h0 : Heap} {n0 : Nat} (o : Addr) (a : Addr) (s0 : Int64) (c0 : Int32) (t : Addr) (j : Int32) (z : Int32) (f : Nat → Int32)
    (X0 : Stand p l e R s m args below meth c T0 locs cells slots) (hx : p.tables.exec = Jvm.exec) (hZ : Z.Warmed39 s.vm) (hw : ∀ d ∈ tables_1, d.before a0 Z = true) (hby : c.code = prog_25_method_3_code) (hml : c.maxLocals = 7) (hown : s.vm.findClass "com/example/sober_broadcast/soberbroadcast/cli/PositionCounts" = some m.cls) (e0 : T0.heap = h0) (N0 : Fr n0 locs) (O0 : Old Z n0 h0) (hj : ¬ (j < (0 : Int32))) (hp : (0 : Int32) < j) (hz : j < z) (At : OwnA Z h0 t z f) :
    ∃ (T' : State), Stand p l e R s m args below meth c T' locs cells slots ∧ T'.heap = h0 ∧
      ∀ target, Steps p.tables e below (T'.setTop (mkF m 44 #[.val (.ref o), .val (.ref a), .val (.long (s0 + ((f (j).toNatClampNeg).toInt64))), .second, .val (.int c0), .val (.ref t), .val (.int (j - (j &&& (-j))))] [])) target → Steps p.tables e below (T0.setTop (mkF m 44 #[.val (.ref o), .val (.ref a), .val (.long s0), .second, .val (.int c0), .val (.ref t), .val (.int j)] [])) target := by
  obtain ⟨cl1, Ar1, Sz1, Nn1, Hs1⟩ := id (At)
  have hin2 : ¬ (j < 0 ∨ cl1.slots.size ≤ (j).toNatClampNeg) := inb_of Sz1 ⟨hj, hz⟩
  have hat2 : cl1.slots[(j).toNatClampNeg]? = some (.int (f (j).toNatClampNeg)) := Hs1 _ (Nat.lt_of_not_le fun q => hin2 (Or.inr q))
  refine ⟨T0, X0, e0, fun target kt => ?_⟩
  show Steps p.tables e below (T0.setTop (mkF m 44 #[.val (.ref o), .val (.ref a), .val (.long s0), .second, .val (.int c0), .val (.ref t), .val (.int j)] [])) _
  refine XS.iload X0.here hx rfl (hb hby own_d5_44) rfl ?_
  show Steps p.tables e below (T0.setTop (mkF m 46 #[.val (.ref o), .val (.ref a), .val (.long s0), .second, .val (.int c0), .val (.ref t), .val (.int j)] [(.int j)])) _
  refine XS.ifNo X0.here hx rfl (hb hby own_d5_46) rfl ((if0 _ _).trans (tlt (hp : (0 : Int32) < j)).2.2.2) ?_
  show Steps p.tables e below (T0.setTop (mkF m 49 #[.val (.ref o), .val (.ref a), .val (.long s0), .second, .val (.int c0), .val (.ref t), .val (.int j)] [])) _
  refine XS.lloadN X0.here hx rfl (hb hby own_d5_49) rfl ?_
  show Steps p.tables e below (T0.setTop (mkF m 50 #[.val (.ref o), .val (.ref a), .val (.long s0), .second, .val (.int c0), .val (.ref t), .val (.int j)] [(.long s0)])) _
  refine XS.aload X0.here hx rfl (hb hby own_d5_50) rfl rfl ?_
  show Steps p.tables e below (T0.setTop (mkF m 52 #[.val (.ref o), .val (.ref a), .val (.long s0), .second, .val (.int c0), .val (.ref t), .val (.int j)] [(.ref t), (.long s0)])) _
  refine XS.iload X0.here hx rfl (hb hby own_d5_52) rfl ?_
  show Steps p.tables e below (T0.setTop (mkF m 54 #[.val (.ref o), .val (.ref a), .val (.long s0), .second, .val (.int c0), .val (.ref t), .val (.int j)] [(.int j), (.ref t), (.long s0)])) _
  refine X0.iaload hx (j := j) (v := (.int (f (j).toNatClampNeg))) (by rw [e0]; exact Ar1.1) (State.isArrayOf_alike hZ.alike Ar1.2.1) Ar1.2.2 hin2 hat2 (g := (mkF m 54 #[.val (.ref o), .val (.ref a), .val (.long s0), .second, .val (.int c0), .val (.ref t), .val (.int j)] [(.int j), (.ref t), (.long s0)])) rfl rfl (hb hby own_d5_54) _ ?_
  show Steps p.tables e below (T0.setTop (mkF m 55 #[.val (.ref o), .val (.ref a), .val (.long s0), .second, .val (.int c0), .val (.ref t), .val (.int j)] [(.int (f (j).toNatClampNeg)), (.long s0)])) _
  refine XS.i2l X0.here hx rfl (hb hby own_d5_55) rfl ?_
  show Steps p.tables e below (T0.setTop (mkF m 56 #[.val (.ref o), .val (.ref a), .val (.long s0), .second, .val (.int c0), .val (.ref t), .val (.int j)] [(.long ((f (j).toNatClampNeg).toInt64)), (.long s0)])) _
  refine XS.ladd X0.here hx rfl (hb hby own_d5_56) rfl ?_
  show Steps p.tables e below (T0.setTop (mkF m 57 #[.val (.ref o), .val (.ref a), .val (.long s0), .second, .val (.int c0), .val (.ref t), .val (.int j)] [(.long (s0 + ((f (j).toNatClampNeg).toInt64)))])) _
  refine XS.lstoreN X0.here hx rfl (hb hby own_d5_57) rfl (l' := #[.val (.ref o), .val (.ref a), .val (.long (s0 + ((f (j).toNatClampNeg).toInt64))), .second, .val (.int c0), .val (.ref t), .val (.int j)]) rfl ?_
  show Steps p.tables e below (T0.setTop (mkF m 58 #[.val (.ref o), .val (.ref a), .val (.long (s0 + ((f (j).toNatClampNeg).toInt64))), .second, .val (.int c0), .val (.ref t), .val (.int j)] [])) _
  refine XS.iload X0.here hx rfl (hb hby own_d5_58) rfl ?_
  show Steps p.tables e below (T0.setTop (mkF m 60 #[.val (.ref o), .val (.ref a), .val (.long (s0 + ((f (j).toNatClampNeg).toInt64))), .second, .val (.int c0), .val (.ref t), .val (.int j)] [(.int j)])) _
  refine XS.iload X0.here hx rfl (hb hby own_d5_60) rfl ?_
  show Steps p.tables e below (T0.setTop (mkF m 62 #[.val (.ref o), .val (.ref a), .val (.long (s0 + ((f (j).toNatClampNeg).toInt64))), .second, .val (.int c0), .val (.ref t), .val (.int j)] [(.int j), (.int j)])) _
  refine XS.iload X0.here hx rfl (hb hby own_d5_62) rfl ?_
  show Steps p.tables e below (T0.setTop (mkF m 64 #[.val (.ref o), .val (.ref a), .val (.long (s0 + ((f (j).toNatClampNeg).toInt64))), .second, .val (.int c0), .val (.ref t), .val (.int j)] [(.int j), (.int j), (.int j)])) _
  refine XS.ineg X0.here hx rfl (hb hby own_d5_64) rfl ?_
  show Steps p.tables e below (T0.setTop (mkF m 65 #[.val (.ref o), .val (.ref a), .val (.long (s0 + ((f (j).toNatClampNeg).toInt64))), .second, .val (.int c0), .val (.ref t), .val (.int j)] [(.int (-j)), (.int j), (.int j)])) _
  refine XS.iand X0.here hx rfl (hb hby own_d5_65) rfl ?_
  show Steps p.tables e below (T0.setTop (mkF m 66 #[.val (.ref o), .val (.ref a), .val (.long (s0 + ((f (j).toNatClampNeg).toInt64))), .second, .val (.int c0), .val (.ref t), .val (.int j)] [(.int (j &&& (-j))), (.int j)])) _
  refine XS.isub X0.here hx rfl (hb hby own_d5_66) rfl ?_
  show Steps p.tables e below (T0.setTop (mkF m 67 #[.val (.ref o), .val (.ref a), .val (.long (s0 + ((f (j).toNatClampNeg).toInt64))), .second, .val (.int c0), .val (.ref t), .val (.int j)] [(.int (j - (j &&& (-j))))])) _
  refine XS.istore X0.here hx rfl (hb hby own_d5_67) rfl (l' := #[.val (.ref o), .val (.ref a), .val (.long (s0 + ((f (j).toNatClampNeg).toInt64))), .second, .val (.int c0), .val (.ref t), .val (.int (j - (j &&& (-j))))]) rfl ?_
  show Steps p.tables e below (T0.setTop (mkF m 69 #[.val (.ref o), .val (.ref a), .val (.long (s0 + ((f (j).toNatClampNeg).toInt64))), .second, .val (.int c0), .val (.ref t), .val (.int (j - (j &&& (-j))))] [])) _
  refine XS.goto X0.here hx rfl (pc0 := 69) (pc' := 44) rfl (hb hby own_d5_69) (by decide) (by decide) ?_
  exact kt
set_option maxRecDepth 65536 in
set_option maxHeartbeats 40000000 in
theorem own_cb_exit {p : Program} {l : Launch} {e : Env} {R : Room} {s : State} {m : MethodId} {args : Array Value} {below : List Frame} {meth : Method} {c : Code} {T0 : State} {locs : List Loc} {cells slots : Nat} {Z : State} {a0 : Array Value} {h0 : Heap} {n0 : Nat} (o : Addr) (a : Addr) (s0 : Int64) (c0 : Int32) (t : Addr) (j : Int32) (z : Int32) (f : Nat → Int32)
    (X0 : Stand p l e R s m args below meth c T0 locs cells slots) (hx : p.tables.exec = Jvm.exec) (hZ : Z.Warmed39 s.vm) (hw : ∀ d ∈ tables_1, d.before a0 Z = true) (hby : c.code = prog_25_method_3_code) (hml : c.maxLocals = 7) (hown : s.vm.findClass "com/example/sober_broadcast/soberbroadcast/cli/PositionCounts" = some m.cls) (e0 : T0.heap = h0) (N0 : Fr n0 locs) (O0 : Old Z n0 h0) (hp : ¬ ((0 : Int32) < j)) (At : OwnA Z h0 t z f) :
    ∃ (T' : State), Stand p l e R s m args below meth c T' locs cells slots ∧ T'.heap = h0 ∧
      ∀ target, Steps p.tables e below (T'.setTop (mkF m 72 #[.val (.ref o), .val (.ref a), .val (.long s0), .second, .val (.int c0), .val (.ref t), .val (.int j)] [])) target → Steps p.tables e below (T0.setTop (mkF m 44 #[.val (.ref o), .val (.ref a), .val (.long s0), .second, .val (.int c0), .val (.ref t), .val (.int j)] [])) target := by
  refine ⟨T0, X0, e0, fun target kt => ?_⟩
  show Steps p.tables e below (T0.setTop (mkF m 44 #[.val (.ref o), .val (.ref a), .val (.long s0), .second, .val (.int c0), .val (.ref t), .val (.int j)] [])) _
  refine XS.iload X0.here hx rfl (hb hby own_d5_44) rfl ?_
  show Steps p.tables e below (T0.setTop (mkF m 46 #[.val (.ref o), .val (.ref a), .val (.long s0), .second, .val (.int c0), .val (.ref t), .val (.int j)] [(.int j)])) _
  refine XS.ifYes X0.here hx rfl (pc0 := 46) (pc' := 72) rfl (hb hby own_d5_46) rfl ((if0 _ _).trans (flt (hp : ¬ ((0 : Int32) < j))).2.2.2) (by decide) (by decide) ?_
  exact kt
theorem own_cb_loop {p : Program} {l : Launch} {e : Env} {R : Room} {s : State} {m : MethodId} {args : Array Value} {below : List Frame} {meth : Method} {c : Code} {cells slots : Nat} {Z : State} {a0 : Array Value} {n0 : Nat} (o a : Addr) (c0 : Int32) (t : Addr) (z : Int32) (f : Nat → Int32) {h0 : Heap} {locs : List Loc} (hx : p.tables.exec = Jvm.exec) (hZ : Z.Warmed39 s.vm) (hw : ∀ d ∈ tables_1, d.before a0 Z = true) (hby : c.code = prog_25_method_3_code) (hml : c.maxLocals = 7) (hown : s.vm.findClass "com/example/sober_broadcast/soberbroadcast/cli/PositionCounts" = some m.cls) (N0 : Fr n0 locs) (O0 : Old Z n0 h0) (At : OwnA Z h0 t z f) :
    ∀ (k : Nat) (j : Int32) (s0 : Int64) (T0 : State), own_dnOk z k j = true → Stand p l e R s m args below meth c T0 locs cells slots → T0.heap = h0 →
      ∃ (T' : State), Stand p l e R s m args below meth c T' locs cells slots ∧ T'.heap = h0 ∧
        ∀ target, Steps p.tables e below (T'.setTop (mkF m 72 #[.val (.ref o), .val (.ref a), .val (.long (own_dn k j f s0)), .second, .val (.int c0), .val (.ref t), .val (.int (own_dnEnd k j))] [])) target → Steps p.tables e below (T0.setTop (mkF m 44 #[.val (.ref o), .val (.ref a), .val (.long s0), .second, .val (.int c0), .val (.ref t), .val (.int j)] [])) target := by
  intro k
  induction k with
  | zero => intro j s0 T0 hok; cases hok
  | succ k ih =>
    intro j s0 T0 hok X0 e0
    by_cases hp : (0 : Int32) < j
    · have hok' : (!decide (j < 0) && decide (j < z) && own_dnOk z k (j - (j &&& (-j)))) = true := by have := hok; simp only [own_dnOk, if_pos hp] at this; exact this
      obtain ⟨h1, h2⟩ := Bool.and_eq_true_iff.mp hok'
      obtain ⟨h3, h4⟩ := Bool.and_eq_true_iff.mp h1
      have hj : ¬ (j < 0) := by simpa using h3
      obtain ⟨T1, X1, e1, st1⟩ := own_cb_turn o a s0 c0 t j z f X0 hx hZ hw hby hml hown e0 N0 O0 hj hp (of_decide_eq_true h4) At
      obtain ⟨T2, X2, e2, st2⟩ := ih _ _ T1 h2 X1 e1
      refine ⟨T2, X2, e2, fun target kt => st1 target (st2 target ?_)⟩
      simp only [own_dn, own_dnEnd, if_pos hp] at kt; exact kt
    · obtain ⟨T1, X1, e1, st1⟩ := own_cb_exit o a s0 c0 t j z f X0 hx hZ hw hby hml hown e0 N0 O0 hp At
      refine ⟨T1, X1, e1, fun target kt => st1 target ?_⟩
      simp only [own_dn, own_dnEnd, if_neg hp] at kt; exact kt

theorem own_ef_7_II (m : MethodId) (x0 : Int32) (x1 : Int32) : entryFrame m #[(.int x0), (.int x1)] 2 = mkF m 0 #[.val (.int x0), .val (.int x1)] [] := by first | (simp [entryFrame, mkF, argsToLocals, Value.category]; done) | rfl
theorem own_d7_0 : decode jdk_29_method_69_code 0 = .ok (.iload_n 0, 1) := by decide +kernel
theorem own_d7_1 : decode jdk_29_method_69_code 1 = .ok (.iload_n 1, 1) := by decide +kernel
theorem own_d7_2 : decode jdk_29_method_69_code 2 = .ok (.if_icmp .gt 7, 3) := by decide +kernel
theorem own_d7_9 : decode jdk_29_method_69_code 9 = .ok (.iload_n 1, 1) := by decide +kernel
theorem own_d7_10 : decode jdk_29_method_69_code 10 = .ok (.ireturn, 1) := by decide +kernel
set_option maxRecDepth 65536 in
set_option maxHeartbeats 40000000 in
theorem own_min_t (l : Launch) (Z : State) (a0 : Array Value) (hw : ∀ d ∈ tables_1, d.before a0 Z = true) (ws : List Jvm.Cond) (h0 : Heap) (n0 : Nat) (O0 : Old Z n0 h0) (v1 : Int32) (v2 : Int32) (hc : v2 < v1) :
    MetFree l (⟨"java/lang/Math", "min", "(II)I"⟩ : MethodName) (head1 (Jvm.Cond.code (⟨"java/lang/Math", "min", "(II)I"⟩ : MethodName) jdk_29_method_69_code 2 (some .int) :: ws) ({ frames := 0, cells := 0, slots := 0, locals := 0 } : Room)) (fun a U => a = #[(.int v1), (.int v2)] ∧ Z.Warmed39 U.vm ∧ U.heap = h0) (fun _ _ _ _ _ => True) (fun _ U o U' => ∃ v L, o = .returned v ∧ OwnQ (some (.int v2)) h0 n0 v U'.heap L ∧ FrameEnd U o U' L ({ frames := 0, cells := 0, slots := 0, locals := 0 } : Room).cells ({ frames := 0, cells := 0, slots := 0, locals := 0 } : Room).slots) := by
  refine MetFree.of_bodySF (Jvm.Free.JP.mathPlain rfl (by decide +kernel)) hisR ?_
  intro p e s m args below meth c s₁ Bd hml0 hP hK
  obtain ⟨rfl, hZ, hh⟩ := hP
  have hx := Bd.exec
  have hby := Bd.bytes
  have hml : c.maxLocals = 2 := hml0
  have hown : s.vm.findClass "java/lang/Math" = some m.cls := findClass_of_methodNamed Bd.named
  have hnm := (name_of_methodNamed Bd.named Bd.method).1
  have X0 : Stand p l e ({ frames := 0, cells := 0, slots := 0, locals := 0 } : Room) s m #[(.int v1), (.int v2)] below meth c s₁ [] 0 0 := Stand.of_body Bd
  have e0 : s₁.heap = h0 := by rw [← hh, Bd.state]; rfl
  have N0 := Fr.nil n0
  have pre0 : ∀ t, Steps p.tables e below (s₁.setTop (mkF m 0 #[.val (.int v1), .val (.int v2)] [])) t → Steps p.tables e below (s₁.setTop (entryFrame m #[(.int v1), (.int v2)] 2)) t := fun t k => castTop (own_ef_7_II m v1 v2) k
  obtain ⟨fs, hr, hrun, hended, hW, hsame⟩ := X0.leave (v := some (.int v2)) (fun h => by rw [Bd.returns] at h; cases h)
  refine ⟨_, _, pre0 _ ?_, hrun, hended, _, _, rfl, ?_, ⟨_, rfl⟩, hW, hsame.mono (by decide) (by decide)⟩
  · show Steps p.tables e below (s₁.setTop (mkF m 0 #[.val (.int v1), .val (.int v2)] [])) _
    refine XS.iloadN X0.here hx rfl (hb hby own_d7_0) rfl ?_
    show Steps p.tables e below (s₁.setTop (mkF m 1 #[.val (.int v1), .val (.int v2)] [(.int v1)])) _
    refine XS.iloadN X0.here hx rfl (hb hby own_d7_1) rfl ?_
    show Steps p.tables e below (s₁.setTop (mkF m 2 #[.val (.int v1), .val (.int v2)] [(.int v2), (.int v1)])) _
    refine XS.icmpYes X0.here hx rfl (pc0 := 2) (pc' := 9) rfl (hb hby own_d7_2) rfl (tlt (hc : v2 < v1)).2.2.1 (by decide) (by decide) ?_
    show Steps p.tables e below (s₁.setTop (mkF m 9 #[.val (.int v1), .val (.int v2)] [])) _
    refine XS.iloadN X0.here hx rfl (hb hby own_d7_9) rfl ?_
    show Steps p.tables e below (s₁.setTop (mkF m 10 #[.val (.int v1), .val (.int v2)] [(.int v2)])) _
    exact retI X0 hx Bd.returns (hb hby own_d7_10) hr
  · show OwnQ _ h0 n0 _ s₁.heap _
    exact ⟨rfl, N0, e0⟩
theorem own_d7_5 : decode jdk_29_method_69_code 5 = .ok (.iload_n 0, 1) := by decide +kernel
theorem own_d7_6 : decode jdk_29_method_69_code 6 = .ok (.goto 4, 3) := by decide +kernel
set_option maxRecDepth 65536 in
set_option maxHeartbeats 40000000 in
theorem own_min_f (l : Launch) (Z : State) (a0 : Array Value) (hw : ∀ d ∈ tables_1, d.before a0 Z = true) (ws : List Jvm.Cond) (h0 : Heap) (n0 : Nat) (O0 : Old Z n0 h0) (v1 : Int32) (v2 : Int32) (hc : ¬ (v2 < v1)) :
    MetFree l (⟨"java/lang/Math", "min", "(II)I"⟩ : MethodName) (head1 (Jvm.Cond.code (⟨"java/lang/Math", "min", "(II)I"⟩ : MethodName) jdk_29_method_69_code 2 (some .int) :: ws) ({ frames := 0, cells := 0, slots := 0, locals := 0 } : Room)) (fun a U => a = #[(.int v1), (.int v2)] ∧ Z.Warmed39 U.vm ∧ U.heap = h0) (fun _ _ _ _ _ => True) (fun _ U o U' => ∃ v L, o = .returned v ∧ OwnQ (some (.int v1)) h0 n0 v U'.heap L ∧ FrameEnd U o U' L ({ frames := 0, cells := 0, slots := 0, locals := 0 } : Room).cells ({ frames := 0, cells := 0, slots := 0, locals := 0 } : Room).slots) := by
  refine MetFree.of_bodySF (Jvm.Free.JP.mathPlain rfl (by decide +kernel)) hisR ?_
  intro p e s m args below meth c s₁ Bd hml0 hP hK
  obtain ⟨rfl, hZ, hh⟩ := hP
  have hx := Bd.exec
  have hby := Bd.bytes
  have hml : c.maxLocals = 2 := hml0
  have hown : s.vm.findClass "java/lang/Math" = some m.cls := findClass_of_methodNamed Bd.named
  have hnm := (name_of_methodNamed Bd.named Bd.method).1
  have X0 : Stand p l e ({ frames := 0, cells := 0, slots := 0, locals := 0 } : Room) s m #[(.int v1), (.int v2)] below meth c s₁ [] 0 0 := Stand.of_body Bd
  have e0 : s₁.heap = h0 := by rw [← hh, Bd.state]; rfl
  have N0 := Fr.nil n0
  have pre0 : ∀ t, Steps p.tables e below (s₁.setTop (mkF m 0 #[.val (.int v1), .val (.int v2)] [])) t → Steps p.tables e below (s₁.setTop (entryFrame m #[(.int v1), (.int v2)] 2)) t := fun t k => castTop (own_ef_7_II m v1 v2) k
  obtain ⟨fs, hr, hrun, hended, hW, hsame⟩ := X0.leave (v := some (.int v1)) (fun h => by rw [Bd.returns] at h; cases h)
  refine ⟨_, _, pre0 _ ?_, hrun, hended, _, _, rfl, ?_, ⟨_, rfl⟩, hW, hsame.mono (by decide) (by decide)⟩
  · show Steps p.tables e below (s₁.setTop (mkF m 0 #[.val (.int v1), .val (.int v2)] [])) _
    refine XS.iloadN X0.here hx rfl (hb hby own_d7_0) rfl ?_
    show Steps p.tables e below (s₁.setTop (mkF m 1 #[.val (.int v1), .val (.int v2)] [(.int v1)])) _
    refine XS.iloadN X0.here hx rfl (hb hby own_d7_1) rfl ?_
    show Steps p.tables e below (s₁.setTop (mkF m 2 #[.val (.int v1), .val (.int v2)] [(.int v2), (.int v1)])) _
    refine XS.icmpNo X0.here hx rfl (hb hby own_d7_2) rfl (flt (hc : ¬ (v2 < v1))).2.2.1 ?_
    show Steps p.tables e below (s₁.setTop (mkF m 5 #[.val (.int v1), .val (.int v2)] [])) _
    refine XS.iloadN X0.here hx rfl (hb hby own_d7_5) rfl ?_
    show Steps p.tables e below (s₁.setTop (mkF m 6 #[.val (.int v1), .val (.int v2)] [(.int v1)])) _
    refine XS.goto X0.here hx rfl (pc0 := 6) (pc' := 10) rfl (hb hby own_d7_6) (by decide) (by decide) ?_
    show Steps p.tables e below (s₁.setTop (mkF m 10 #[.val (.int v1), .val (.int v2)] [(.int v1)])) _
    exact retI X0 hx Bd.returns (hb hby own_d7_10) hr
  · show OwnQ _ h0 n0 _ s₁.heap _
    exact ⟨rfl, N0, e0⟩
theorem own_minC (l : Launch) (Z : State) (a0 : Array Value) (hw : ∀ d ∈ tables_1, d.before a0 Z = true) (ws : List Jvm.Cond) (h0 : Heap) (n0 : Nat) (O0 : Old Z n0 h0) (v1 : Int32) (v2 : Int32) :
    MetFree l (⟨"java/lang/Math", "min", "(II)I"⟩ : MethodName) (head1 (Jvm.Cond.code (⟨"java/lang/Math", "min", "(II)I"⟩ : MethodName) jdk_29_method_69_code 2 (some .int) :: ws) ({ frames := 0, cells := 0, slots := 0, locals := 0 } : Room)) (fun a U => a = #[(.int v1), (.int v2)] ∧ Z.Warmed39 U.vm ∧ U.heap = h0) (fun _ _ _ _ _ => True) (fun _ U o U' => ∃ v L, o = .returned v ∧ OwnQ (some (.int (own_min v1 v2))) h0 n0 v U'.heap L ∧ FrameEnd U o U' L ({ frames := 0, cells := 0, slots := 0, locals := 0 } : Room).cells ({ frames := 0, cells := 0, slots := 0, locals := 0 } : Room).slots) := by
  by_cases hc : v2 < v1
  · have e : own_min v1 v2 = v2 := if_pos hc
    rw [e]; exact own_min_t l Z a0 hw ws h0 n0 O0 v1 v2 hc
  · have e : own_min v1 v2 = v1 := if_neg hc
    rw [e]; exact own_min_f l Z a0 hw ws h0 n0 O0 v1 v2 hc
theorem own_pn_5 : plainName "com/example/sober_broadcast/soberbroadcast/cli/PositionCounts" = true := by first | (simp [plainName, overriddenIn]; done) | decide +kernel
theorem own_ef_5_RR (m : MethodId) (x0 : Addr) (x1 : Addr) : entryFrame m #[(.ref x0), (.ref x1)] 7 = mkF m 0 #[.val (.ref x0), .val (.ref x1), .unset, .unset, .unset, .unset, .unset] [] := by first | (simp [entryFrame, mkF, argsToLocals, Value.category]; done) | rfl
theorem own_d5_0 : decode prog_25_method_3_code 0 = .ok (.lconst 0, 1) := by decide +kernel
theorem own_d5_1 : decode prog_25_method_3_code 1 = .ok (.lstore_n 2, 1) := by decide +kernel
theorem own_d5_2 : decode prog_25_method_3_code 2 = .ok (.iconst 0, 1) := by decide +kernel
theorem own_d5_3 : decode prog_25_method_3_code 3 = .ok (.istore 4, 2) := by decide +kernel
theorem own_d5_5 : decode prog_25_method_3_code 5 = .ok (.iload 4, 2) := by decide +kernel
theorem own_d5_7 : decode prog_25_method_3_code 7 = .ok (.aload_n 0, 1) := by decide +kernel
theorem own_d5_8 : decode prog_25_method_3_code 8 = .ok (.getfield 9, 3) := by decide +kernel
theorem own_d5_11 : decode prog_25_method_3_code 11 = .ok (.arraylength, 1) := by decide +kernel
theorem own_d5_12 : decode prog_25_method_3_code 12 = .ok (.if_icmp .ge 66, 3) := by decide +kernel
theorem own_d5_15 : decode prog_25_method_3_code 15 = .ok (.aload_n 1, 1) := by decide +kernel
theorem own_d5_16 : decode prog_25_method_3_code 16 = .ok (.iload 4, 2) := by decide +kernel
theorem own_d5_18 : decode prog_25_method_3_code 18 = .ok (.iaload, 1) := by decide +kernel
theorem own_d5_19 : decode prog_25_method_3_code 19 = .ok (.aload_n 0, 1) := by decide +kernel
theorem own_d5_20 : decode prog_25_method_3_code 20 = .ok (.getfield 15, 3) := by decide +kernel
theorem own_d5_23 : decode prog_25_method_3_code 23 = .ok (.iload 4, 2) := by decide +kernel
theorem own_d5_25 : decode prog_25_method_3_code 25 = .ok (.iaload, 1) := by decide +kernel
theorem own_d5_26 : decode prog_25_method_3_code 26 = .ok (.if_icmp .le 46, 3) := by decide +kernel
theorem own_d5_72 : decode prog_25_method_3_code 72 = .ok (.iinc 4 1, 3) := by decide +kernel
theorem own_d5_75 : decode prog_25_method_3_code 75 = .ok (.goto (-70), 3) := by decide +kernel
theorem own_d5_78 : decode prog_25_method_3_code 78 = .ok (.lload_n 2, 1) := by decide +kernel
theorem own_d5_79 : decode prog_25_method_3_code 79 = .ok (.lreturn, 1) := by decide +kernel
set_option maxRecDepth 65536 in
set_option maxHeartbeats 40000000 in
theorem own_cb_00 (l : Launch) (Z : State) (a0 : Array Value) (hw : ∀ d ∈ tables_1, d.before a0 Z = true) (ws : List Jvm.Cond) (h0 : Heap) (n0 : Nat) (O0 : Old Z n0 h0) (ob : Addr) (aB : Addr) (tT : Addr) (tL : Addr) (t0 : Addr) (t1 : Addr) (kT : ClassId) (kL : ClassId) (kB : ClassId) (u0 : Int32) (u1 : Int32) (x0 : Int32) (x1 : Int32) (z0 : Int32) (z1 : Int32) (f0 : Nat → Int32) (f1 : Nat → Int32) (ok0 : own_dnOk z0 6 u0 = true) (ok1 : own_dnOk z1 6 u1 = true) (h0_ : ¬ (x0 < u0)) (h1_ : ¬ (x1 < u1)) (fE : Exa Z h0 ob "com/example/sober_broadcast/soberbroadcast/cli/PositionCounts") (fT : Fld Z h0 ob "com/example/sober_broadcast/soberbroadcast/cli/PositionCounts" "trees" "[[I" (.ref tT)) (fL : Fld Z h0 ob "com/example/sober_broadcast/soberbroadcast/cli/PositionCounts" "lowest" "[I" (.ref tL)) (vT : Arv Z h0 tT kT (.array .int) (2 : Int32) [(.ref t0), (.ref t1)] .null) (vL : Arv Z h0 tL kL .int (2 : Int32) [(.int x0), (.int x1)] (.int (0 : Int32))) (aa0 : OwnA Z h0 t0 z0 f0) (aa1 : OwnA Z h0 t1 z1 f1) (vB : Arv Z h0 aB kB .int (2 : Int32) [(.int u0), (.int u1)] (.int (0 : Int32))) :
    MetFree l (⟨"com/example/sober_broadcast/soberbroadcast/cli/PositionCounts", "countBelow", "([I)J"⟩ : MethodName) (head1 (Jvm.Cond.code (⟨"com/example/sober_broadcast/soberbroadcast/cli/PositionCounts", "countBelow", "([I)J"⟩ : MethodName) prog_25_method_3_code 7 (some .long) :: ws) ({ frames := 0, cells := 0, slots := 0, locals := 0 } : Room)) (fun a U => a = #[(.ref ob), (.ref aB)] ∧ Z.Warmed39 U.vm ∧ U.heap = h0) (fun _ _ _ _ _ => True) (fun _ U o U' => ∃ v L, o = .returned v ∧ OwnQ (some (.long (0 : Int64))) h0 n0 v U'.heap L ∧ FrameEnd U o U' L ({ frames := 0, cells := 0, slots := 0, locals := 0 } : Room).cells ({ frames := 0, cells := 0, slots := 0, locals := 0 } : Room).slots) := by
  refine MetFree.of_bodySF (plainFor_of_name own_pn_5) hisR ?_
  intro p e s m args below meth c s₁ Bd hml0 hP hK
  obtain ⟨rfl, hZ, hh⟩ := hP
  have hx := Bd.exec
  have hby := Bd.bytes
  have hml : c.maxLocals = 7 := hml0
  have hown : s.vm.findClass "com/example/sober_broadcast/soberbroadcast/cli/PositionCounts" = some m.cls := findClass_of_methodNamed Bd.named
  have hnm := (name_of_methodNamed Bd.named Bd.method).1
  have X0 : Stand p l e ({ frames := 0, cells := 0, slots := 0, locals := 0 } : Room) s m #[(.ref ob), (.ref aB)] below meth c s₁ [] 0 0 := Stand.of_body Bd
  have e0 : s₁.heap = h0 := by rw [← hh, Bd.state]; rfl
  have N0 := Fr.nil n0
  have pre0 : ∀ t, Steps p.tables e below (s₁.setTop (mkF m 0 #[.val (.ref ob), .val (.ref aB), .unset, .unset, .unset, .unset, .unset] [])) t → Steps p.tables e below (s₁.setTop (entryFrame m #[(.ref ob), (.ref aB)] 7)) t := fun t k => castTop (own_ef_5_RR m ob aB) k
  obtain ⟨T1, X1, e1, st1⟩ := getF X0 hx hZ hown (host := "") (Or.inl (hw _ (List.mem_of_getElem? (i := 13) rfl))) Via.refl e0 fT (g := (mkF m 8 #[.val (.ref ob), .val (.ref aB), .val (.long (0 : Int64)), .second, .val (.int (0 : Int32)), .unset, .unset] [(.ref ob), (.int (0 : Int32))])) rfl rfl (hb hby own_d5_8)
  obtain ⟨cl2, Ar2, qk2, Sz2, Nn2, Hs2, Gs2⟩ := id (vT)
  obtain ⟨cl3, Ar3, qk3, Sz3, Nn3, Hs3, Gs3⟩ := id (vB)
  have hin4 : ¬ ((0 : Int32) < 0 ∨ cl3.slots.size ≤ ((0 : Int32)).toNatClampNeg) := inb_of Sz3 ⟨by decide, by decide⟩
  have hat4 : cl3.slots[((0 : Int32)).toNatClampNeg]? = some (.int u0) := Hs3.at hin4 rfl
  obtain ⟨T5, X5, e5, st5⟩ := getF X1 hx hZ hown (host := "") (Or.inl (hw _ (List.mem_of_getElem? (i := 16) rfl))) Via.refl e1 fL (g := (mkF m 20 #[.val (.ref ob), .val (.ref aB), .val (.long (0 : Int64)), .second, .val (.int (0 : Int32)), .unset, .unset] [(.ref ob), (.int u0)])) rfl rfl (hb hby own_d5_20)
  obtain ⟨cl6, Ar6, qk6, Sz6, Nn6, Hs6, Gs6⟩ := id (vL)
  have hin7 : ¬ ((0 : Int32) < 0 ∨ cl6.slots.size ≤ ((0 : Int32)).toNatClampNeg) := inb_of Sz6 ⟨by decide, by decide⟩
  have hat7 : cl6.slots[((0 : Int32)).toNatClampNeg]? = some (.int x0) := Hs6.at hin7 rfl
  obtain ⟨T8, X8, e8, st8⟩ := getF X5 hx hZ hown (host := "") (Or.inl (hw _ (List.mem_of_getElem? (i := 13) rfl))) Via.refl e5 fT (g := (mkF m 8 #[.val (.ref ob), .val (.ref aB), .val (.long (0 : Int64)), .second, .val (.int (1 : Int32)), .unset, .unset] [(.ref ob), (.int (1 : Int32))])) rfl rfl (hb hby own_d5_8)
  have hin9 : ¬ ((1 : Int32) < 0 ∨ cl3.slots.size ≤ ((1 : Int32)).toNatClampNeg) := inb_of Sz3 ⟨by decide, by decide⟩
  have hat9 : cl3.slots[((1 : Int32)).toNatClampNeg]? = some (.int u1) := Hs3.at hin9 rfl
  obtain ⟨T10, X10, e10, st10⟩ := getF X8 hx hZ hown (host := "") (Or.inl (hw _ (List.mem_of_getElem? (i := 16) rfl))) Via.refl e8 fL (g := (mkF m 20 #[.val (.ref ob), .val (.ref aB), .val (.long (0 : Int64)), .second, .val (.int (1 : Int32)), .unset, .unset] [(.ref ob), (.int u1)])) rfl rfl (hb hby own_d5_20)
  have hin11 : ¬ ((1 : Int32) < 0 ∨ cl6.slots.size ≤ ((1 : Int32)).toNatClampNeg) := inb_of Sz6 ⟨by decide, by decide⟩
  have hat11 : cl6.slots[((1 : Int32)).toNatClampNeg]? = some (.int x1) := Hs6.at hin11 rfl
  obtain ⟨T12, X12, e12, st12⟩ := getF X10 hx hZ hown (host := "") (Or.inl (hw _ (List.mem_of_getElem? (i := 13) rfl))) Via.refl e10 fT (g := (mkF m 8 #[.val (.ref ob), .val (.ref aB), .val (.long (0 : Int64)), .second, .val (.int (2 : Int32)), .unset, .unset] [(.ref ob), (.int (2 : Int32))])) rfl rfl (hb hby own_d5_8)
  obtain ⟨fs, hr, hrun, hended, hW, hsame⟩ := X12.leave (v := some (.long (0 : Int64))) (fun h => by rw [Bd.returns] at h; cases h)
  refine ⟨_, _, pre0 _ ?_, hrun, hended, _, _, rfl, ?_, ⟨_, rfl⟩, hW, hsame.mono (by decide) (by decide)⟩
  · show Steps p.tables e below (s₁.setTop (mkF m 0 #[.val (.ref ob), .val (.ref aB), .unset, .unset, .unset, .unset, .unset] [])) _
    refine XS.lconst X0.here hx rfl (hb hby own_d5_0) ?_
    show Steps p.tables e below (s₁.setTop (mkF m 1 #[.val (.ref ob), .val (.ref aB), .unset, .unset, .unset, .unset, .unset] [(.long (0 : Int64))])) _
    refine XS.lstoreN X0.here hx rfl (hb hby own_d5_1) rfl (l' := #[.val (.ref ob), .val (.ref aB), .val (.long (0 : Int64)), .second, .unset, .unset, .unset]) rfl ?_
    show Steps p.tables e below (s₁.setTop (mkF m 2 #[.val (.ref ob), .val (.ref aB), .val (.long (0 : Int64)), .second, .unset, .unset, .unset] [])) _
    refine XS.iconst X0.here hx rfl (hb hby own_d5_2) ?_
    show Steps p.tables e below (s₁.setTop (mkF m 3 #[.val (.ref ob), .val (.ref aB), .val (.long (0 : Int64)), .second, .unset, .unset, .unset] [(.int (0 : Int32))])) _
    refine XS.istore X0.here hx rfl (hb hby own_d5_3) rfl (l' := #[.val (.ref ob), .val (.ref aB), .val (.long (0 : Int64)), .second, .val (.int (0 : Int32)), .unset, .unset]) rfl ?_
    show Steps p.tables e below (s₁.setTop (mkF m 5 #[.val (.ref ob), .val (.ref aB), .val (.long (0 : Int64)), .second, .val (.int (0 : Int32)), .unset, .unset] [])) _
    refine XS.iload X0.here hx rfl (hb hby own_d5_5) rfl ?_
    show Steps p.tables e below (s₁.setTop (mkF m 7 #[.val (.ref ob), .val (.ref aB), .val (.long (0 : Int64)), .second, .val (.int (0 : Int32)), .unset, .unset] [(.int (0 : Int32))])) _
    refine XS.aloadN X0.here hx rfl (hb hby own_d5_7) rfl rfl ?_
    show Steps p.tables e below (s₁.setTop (mkF m 8 #[.val (.ref ob), .val (.ref aB), .val (.long (0 : Int64)), .second, .val (.int (0 : Int32)), .unset, .unset] [(.ref ob), (.int (0 : Int32))])) _
    refine st1 _ ?_
    show Steps p.tables e below (T1.setTop (mkF m 11 #[.val (.ref ob), .val (.ref aB), .val (.long (0 : Int64)), .second, .val (.int (0 : Int32)), .unset, .unset] [(.ref tT), (.int (0 : Int32))])) _
    refine X1.arraylength hx (by rw [e1]; exact Ar2.1) (State.isArrayOf_alike hZ.alike Ar2.2.1) (g := (mkF m 11 #[.val (.ref ob), .val (.ref aB), .val (.long (0 : Int64)), .second, .val (.int (0 : Int32)), .unset, .unset] [(.ref tT), (.int (0 : Int32))])) rfl rfl (hb hby own_d5_11) _ ?_
    rw [len_of Sz2 Nn2]
    show Steps p.tables e below (T1.setTop (mkF m 12 #[.val (.ref ob), .val (.ref aB), .val (.long (0 : Int64)), .second, .val (.int (0 : Int32)), .unset, .unset] [(.int (2 : Int32)), (.int (0 : Int32))])) _
    refine XS.icmpNo X1.here hx rfl (hb hby own_d5_12) rfl (by decide) ?_
    show Steps p.tables e below (T1.setTop (mkF m 15 #[.val (.ref ob), .val (.ref aB), .val (.long (0 : Int64)), .second, .val (.int (0 : Int32)), .unset, .unset] [])) _
    refine XS.aloadN X1.here hx rfl (hb hby own_d5_15) rfl rfl ?_
    show Steps p.tables e below (T1.setTop (mkF m 16 #[.val (.ref ob), .val (.ref aB), .val (.long (0 : Int64)), .second, .val (.int (0 : Int32)), .unset, .unset] [(.ref aB)])) _
    refine XS.iload X1.here hx rfl (hb hby own_d5_16) rfl ?_
    show Steps p.tables e below (T1.setTop (mkF m 18 #[.val (.ref ob), .val (.ref aB), .val (.long (0 : Int64)), .second, .val (.int (0 : Int32)), .unset, .unset] [(.int (0 : Int32)), (.ref aB)])) _
    refine X1.iaload hx (j := (0 : Int32)) (v := (.int u0)) (by rw [e1]; exact Ar3.1) (State.isArrayOf_alike hZ.alike Ar3.2.1) Ar3.2.2 hin4 hat4 (g := (mkF m 18 #[.val (.ref ob), .val (.ref aB), .val (.long (0 : Int64)), .second, .val (.int (0 : Int32)), .unset, .unset] [(.int (0 : Int32)), (.ref aB)])) rfl rfl (hb hby own_d5_18) _ ?_
    show Steps p.tables e below (T1.setTop (mkF m 19 #[.val (.ref ob), .val (.ref aB), .val (.long (0 : Int64)), .second, .val (.int (0 : Int32)), .unset, .unset] [(.int u0)])) _
    refine XS.aloadN X1.here hx rfl (hb hby own_d5_19) rfl rfl ?_
    show Steps p.tables e below (T1.setTop (mkF m 20 #[.val (.ref ob), .val (.ref aB), .val (.long (0 : Int64)), .second, .val (.int (0 : Int32)), .unset, .unset] [(.ref ob), (.int u0)])) _
    refine st5 _ ?_
    show Steps p.tables e below (T5.setTop (mkF m 23 #[.val (.ref ob), .val (.ref aB), .val (.long (0 : Int64)), .second, .val (.int (0 : Int32)), .unset, .unset] [(.ref tL), (.int u0)])) _
    refine XS.iload X5.here hx rfl (hb hby own_d5_23) rfl ?_
    show Steps p.tables e below (T5.setTop (mkF m 25 #[.val (.ref ob), .val (.ref aB), .val (.long (0 : Int64)), .second, .val (.int (0 : Int32)), .unset, .unset] [(.int (0 : Int32)), (.ref tL), (.int u0)])) _
    refine X5.iaload hx (j := (0 : Int32)) (v := (.int x0)) (by rw [e5]; exact Ar6.1) (State.isArrayOf_alike hZ.alike Ar6.2.1) Ar6.2.2 hin7 hat7 (g := (mkF m 25 #[.val (.ref ob), .val (.ref aB), .val (.long (0 : Int64)), .second, .val (.int (0 : Int32)), .unset, .unset] [(.int (0 : Int32)), (.ref tL), (.int u0)])) rfl rfl (hb hby own_d5_25) _ ?_
    show Steps p.tables e below (T5.setTop (mkF m 26 #[.val (.ref ob), .val (.ref aB), .val (.long (0 : Int64)), .second, .val (.int (0 : Int32)), .unset, .unset] [(.int x0), (.int u0)])) _
    refine XS.icmpYes X5.here hx rfl (pc0 := 26) (pc' := 72) rfl (hb hby own_d5_26) rfl (flt (h0_ : ¬ (x0 < u0))).2.2.2 (by decide) (by decide) ?_
    show Steps p.tables e below (T5.setTop (mkF m 72 #[.val (.ref ob), .val (.ref aB), .val (.long (0 : Int64)), .second, .val (.int (0 : Int32)), .unset, .unset] [])) _
    refine XS.iinc X5.here hx rfl (hb hby own_d5_72) rfl (l' := #[.val (.ref ob), .val (.ref aB), .val (.long (0 : Int64)), .second, .val (.int (1 : Int32)), .unset, .unset]) rfl ?_
    show Steps p.tables e below (T5.setTop (mkF m 75 #[.val (.ref ob), .val (.ref aB), .val (.long (0 : Int64)), .second, .val (.int (1 : Int32)), .unset, .unset] [])) _
    refine XS.goto X5.here hx rfl (pc0 := 75) (pc' := 5) rfl (hb hby own_d5_75) (by decide) (by decide) ?_
    show Steps p.tables e below (T5.setTop (mkF m 5 #[.val (.ref ob), .val (.ref aB), .val (.long (0 : Int64)), .second, .val (.int (1 : Int32)), .unset, .unset] [])) _
    refine XS.iload X5.here hx rfl (hb hby own_d5_5) rfl ?_
    show Steps p.tables e below (T5.setTop (mkF m 7 #[.val (.ref ob), .val (.ref aB), .val (.long (0 : Int64)), .second, .val (.int (1 : Int32)), .unset, .unset] [(.int (1 : Int32))])) _
    refine XS.aloadN X5.here hx rfl (hb hby own_d5_7) rfl rfl ?_
    show Steps p.tables e below (T5.setTop (mkF m 8 #[.val (.ref ob), .val (.ref aB), .val (.long (0 : Int64)), .second, .val (.int (1 : Int32)), .unset, .unset] [(.ref ob), (.int (1 : Int32))])) _
    refine st8 _ ?_
    show Steps p.tables e below (T8.setTop (mkF m 11 #[.val (.ref ob), .val (.ref aB), .val (.long (0 : Int64)), .second, .val (.int (1 : Int32)), .unset, .unset] [(.ref tT), (.int (1 : Int32))])) _
    refine X8.arraylength hx (by rw [e8]; exact Ar2.1) (State.isArrayOf_alike hZ.alike Ar2.2.1) (g := (mkF m 11 #[.val (.ref ob), .val (.ref aB), .val (.long (0 : Int64)), .second, .val (.int (1 : Int32)), .unset, .unset] [(.ref tT), (.int (1 : Int32))])) rfl rfl (hb hby own_d5_11) _ ?_
    rw [len_of Sz2 Nn2]
    show Steps p.tables e below (T8.setTop (mkF m 12 #[.val (.ref ob), .val (.ref aB), .val (.long (0 : Int64)), .second, .val (.int (1 : Int32)), .unset, .unset] [(.int (2 : Int32)), (.int (1 : Int32))])) _
    refine XS.icmpNo X8.here hx rfl (hb hby own_d5_12) rfl (by decide) ?_
    show Steps p.tables e below (T8.setTop (mkF m 15 #[.val (.ref ob), .val (.ref aB), .val (.long (0 : Int64)), .second, .val (.int (1 : Int32)), .unset, .unset] [])) _
    refine XS.aloadN X8.here hx rfl (hb hby own_d5_15) rfl rfl ?_
    show Steps p.tables e below (T8.setTop (mkF m 16 #[.val (.ref ob), .val (.ref aB), .val (.long (0 : Int64)), .second, .val (.int (1 : Int32)), .unset, .unset] [(.ref aB)])) _
    refine XS.iload X8.here hx rfl (hb hby own_d5_16) rfl ?_
    show Steps p.tables e below (T8.setTop (mkF m 18 #[.val (.ref ob), .val (.ref aB), .val (.long (0 : Int64)), .second, .val (.int (1 : Int32)), .unset, .unset] [(.int (1 : Int32)), (.ref aB)])) _
    refine X8.iaload hx (j := (1 : Int32)) (v := (.int u1)) (by rw [e8]; exact Ar3.1) (State.isArrayOf_alike hZ.alike Ar3.2.1) Ar3.2.2 hin9 hat9 (g := (mkF m 18 #[.val (.ref ob), .val (.ref aB), .val (.long (0 : Int64)), .second, .val (.int (1 : Int32)), .unset, .unset] [(.int (1 : Int32)), (.ref aB)])) rfl rfl (hb hby own_d5_18) _ ?_
    show Steps p.tables e below (T8.setTop (mkF m 19 #[.val (.ref ob), .val (.ref aB), .val (.long (0 : Int64)), .second, .val (.int (1 : Int32)), .unset, .unset] [(.int u1)])) _
    refine XS.aloadN X8.here hx rfl (hb hby own_d5_19) rfl rfl ?_
    show Steps p.tables e below (T8.setTop (mkF m 20 #[.val (.ref ob), .val (.ref aB), .val (.long (0 : Int64)), .second, .val (.int (1 : Int32)), .unset, .unset] [(.ref ob), (.int u1)])) _
    refine st10 _ ?_
    show Steps p.tables e below (T10.setTop (mkF m 23 #[.val (.ref ob), .val (.ref aB), .val (.long (0 : Int64)), .second, .val (.int (1 : Int32)), .unset, .unset] [(.ref tL), (.int u1)])) _
    refine XS.iload X10.here hx rfl (hb hby own_d5_23) rfl ?_
    show Steps p.tables e below (T10.setTop (mkF m 25 #[.val (.ref ob), .val (.ref aB), .val (.long (0 : Int64)), .second, .val (.int (1 : Int32)), .unset, .unset] [(.int (1 : Int32)), (.ref tL), (.int u1)])) _
    refine X10.iaload hx (j := (1 : Int32)) (v := (.int x1)) (by rw [e10]; exact Ar6.1) (State.isArrayOf_alike hZ.alike Ar6.2.1) Ar6.2.2 hin11 hat11 (g := (mkF m 25 #[.val (.ref ob), .val (.ref aB), .val (.long (0 : Int64)), .second, .val (.int (1 : Int32)), .unset, .unset] [(.int (1 : Int32)), (.ref tL), (.int u1)])) rfl rfl (hb hby own_d5_25) _ ?_
    show Steps p.tables e below (T10.setTop (mkF m 26 #[.val (.ref ob), .val (.ref aB), .val (.long (0 : Int64)), .second, .val (.int (1 : Int32)), .unset, .unset] [(.int x1), (.int u1)])) _
    refine XS.icmpYes X10.here hx rfl (pc0 := 26) (pc' := 72) rfl (hb hby own_d5_26) rfl (flt (h1_ : ¬ (x1 < u1))).2.2.2 (by decide) (by decide) ?_
    show Steps p.tables e below (T10.setTop (mkF m 72 #[.val (.ref ob), .val (.ref aB), .val (.long (0 : Int64)), .second, .val (.int (1 : Int32)), .unset, .unset] [])) _
    refine XS.iinc X10.here hx rfl (hb hby own_d5_72) rfl (l' := #[.val (.ref ob), .val (.ref aB), .val (.long (0 : Int64)), .second, .val (.int (2 : Int32)), .unset, .unset]) rfl ?_
    show Steps p.tables e below (T10.setTop (mkF m 75 #[.val (.ref ob), .val (.ref aB), .val (.long (0 : Int64)), .second, .val (.int (2 : Int32)), .unset, .unset] [])) _
    refine XS.goto X10.here hx rfl (pc0 := 75) (pc' := 5) rfl (hb hby own_d5_75) (by decide) (by decide) ?_
    show Steps p.tables e below (T10.setTop (mkF m 5 #[.val (.ref ob), .val (.ref aB), .val (.long (0 : Int64)), .second, .val (.int (2 : Int32)), .unset, .unset] [])) _
    refine XS.iload X10.here hx rfl (hb hby own_d5_5) rfl ?_
    show Steps p.tables e below (T10.setTop (mkF m 7 #[.val (.ref ob), .val (.ref aB), .val (.long (0 : Int64)), .second, .val (.int (2 : Int32)), .unset, .unset] [(.int (2 : Int32))])) _
    refine XS.aloadN X10.here hx rfl (hb hby own_d5_7) rfl rfl ?_
    show Steps p.tables e below (T10.setTop (mkF m 8 #[.val (.ref ob), .val (.ref aB), .val (.long (0 : Int64)), .second, .val (.int (2 : Int32)), .unset, .unset] [(.ref ob), (.int (2 : Int32))])) _
    refine st12 _ ?_
    show Steps p.tables e below (T12.setTop (mkF m 11 #[.val (.ref ob), .val (.ref aB), .val (.long (0 : Int64)), .second, .val (.int (2 : Int32)), .unset, .unset] [(.ref tT), (.int (2 : Int32))])) _
    refine X12.arraylength hx (by rw [e12]; exact Ar2.1) (State.isArrayOf_alike hZ.alike Ar2.2.1) (g := (mkF m 11 #[.val (.ref ob), .val (.ref aB), .val (.long (0 : Int64)), .second, .val (.int (2 : Int32)), .unset, .unset] [(.ref tT), (.int (2 : Int32))])) rfl rfl (hb hby own_d5_11) _ ?_
    rw [len_of Sz2 Nn2]
    show Steps p.tables e below (T12.setTop (mkF m 12 #[.val (.ref ob), .val (.ref aB), .val (.long (0 : Int64)), .second, .val (.int (2 : Int32)), .unset, .unset] [(.int (2 : Int32)), (.int (2 : Int32))])) _
    refine XS.icmpYes X12.here hx rfl (pc0 := 12) (pc' := 78) rfl (hb hby own_d5_12) rfl (by decide) (by decide) (by decide) ?_
    show Steps p.tables e below (T12.setTop (mkF m 78 #[.val (.ref ob), .val (.ref aB), .val (.long (0 : Int64)), .second, .val (.int (2 : Int32)), .unset, .unset] [])) _
    refine XS.lloadN X12.here hx rfl (hb hby own_d5_78) rfl ?_
    show Steps p.tables e below (T12.setTop (mkF m 79 #[.val (.ref ob), .val (.ref aB), .val (.long (0 : Int64)), .second, .val (.int (2 : Int32)), .unset, .unset] [(.long (0 : Int64))])) _
    jvm_step X12.here [X12.here.top, hx, (hb hby own_d5_79), X12.method', Bd.returns, narrow]
    first | (intro acts; rw [hr _ acts rfl rfl rfl]) | rw [hr _ _ rfl rfl rfl]
    exact Steps.refl _
  · show OwnQ _ h0 n0 _ T12.heap _
    exact ⟨rfl, N0, e12⟩
theorem own_d5_29 : decode prog_25_method_3_code 29 = .ok (.aload_n 0, 1) := by decide +kernel
theorem own_d5_30 : decode prog_25_method_3_code 30 = .ok (.getfield 9, 3) := by decide +kernel
theorem own_d5_33 : decode prog_25_method_3_code 33 = .ok (.iload 4, 2) := by decide +kernel
theorem own_d5_35 : decode prog_25_method_3_code 35 = .ok (.aaload, 1) := by decide +kernel
theorem own_d5_36 : decode prog_25_method_3_code 36 = .ok (.astore 5, 2) := by decide +kernel
theorem own_d5_38 : decode prog_25_method_3_code 38 = .ok (.aload_n 1, 1) := by decide +kernel
theorem own_d5_39 : decode prog_25_method_3_code 39 = .ok (.iload 4, 2) := by decide +kernel
theorem own_d5_41 : decode prog_25_method_3_code 41 = .ok (.iaload, 1) := by decide +kernel
theorem own_d5_42 : decode prog_25_method_3_code 42 = .ok (.istore 6, 2) := by decide +kernel
set_option maxRecDepth 65536 in
set_option maxHeartbeats 40000000 in
theorem own_cb_01 (l : Launch) (Z : State) (a0 : Array Value) (hw : ∀ d ∈ tables_1, d.before a0 Z = true) (ws : List Jvm.Cond) (h0 : Heap) (n0 : Nat) (O0 : Old Z n0 h0) (ob : Addr) (aB : Addr) (tT : Addr) (tL : Addr) (t0 : Addr) (t1 : Addr) (kT : ClassId) (kL : ClassId) (kB : ClassId) (u0 : Int32) (u1 : Int32) (x0 : Int32) (x1 : Int32) (z0 : Int32) (z1 : Int32) (f0 : Nat → Int32) (f1 : Nat → Int32) (ok0 : own_dnOk z0 6 u0 = true) (ok1 : own_dnOk z1 6 u1 = true) (h0_ : ¬ (x0 < u0)) (h1_ : x1 < u1) (fE : Exa Z h0 ob "com/example/sober_broadcast/soberbroadcast/cli/PositionCounts") (fT : Fld Z h0 ob "com/example/sober_broadcast/soberbroadcast/cli/PositionCounts" "trees" "[[I" (.ref tT)) (fL : Fld Z h0 ob "com/example/sober_broadcast/soberbroadcast/cli/PositionCounts" "lowest" "[I" (.ref tL)) (vT : Arv Z h0 tT kT (.array .int) (2 : Int32) [(.ref t0), (.ref t1)] .null) (vL : Arv Z h0 tL kL .int (2 : Int32) [(.int x0), (.int x1)] (.int (0 : Int32))) (aa0 : OwnA Z h0 t0 z0 f0) (aa1 : OwnA Z h0 t1 z1 f1) (vB : Arv Z h0 aB kB .int (2 : Int32) [(.int u0), (.int u1)] (.int (0 : Int32))) :
    MetFree l (⟨"com/example/sober_broadcast/soberbroadcast/cli/PositionCounts", "countBelow", "([I)J"⟩ : MethodName) (head1 (Jvm.Cond.code (⟨"com/example/sober_broadcast/soberbroadcast/cli/PositionCounts", "countBelow", "([I)J"⟩ : MethodName) prog_25_method_3_code 7 (some .long) :: ws) ({ frames := 0, cells := 0, slots := 0, locals := 0 } : Room)) (fun a U => a = #[(.ref ob), (.ref aB)] ∧ Z.Warmed39 U.vm ∧ U.heap = h0) (fun _ _ _ _ _ => True) (fun _ U o U' => ∃ v L, o = .returned v ∧ OwnQ (some (.long (own_dn 6 u1 f1 (0 : Int64)))) h0 n0 v U'.heap L ∧ FrameEnd U o U' L ({ frames := 0, cells := 0, slots := 0, locals := 0 } : Room).cells ({ frames := 0, cells := 0, slots := 0, locals := 0 } : Room).slots) := by
  refine MetFree.of_bodySF (plainFor_of_name own_pn_5) hisR ?_
  intro p e s m args below meth c s₁ Bd hml0 hP hK
  obtain ⟨rfl, hZ, hh⟩ := hP
  have hx := Bd.exec
  have hby := Bd.bytes
  have hml : c.maxLocals = 7 := hml0
  have hown : s.vm.findClass "com/example/sober_broadcast/soberbroadcast/cli/PositionCounts" = some m.cls := findClass_of_methodNamed Bd.named
  have hnm := (name_of_methodNamed Bd.named Bd.method).1
  have X0 : Stand p l e ({ frames := 0, cells := 0, slots := 0, locals := 0 } : Room) s m #[(.ref ob), (.ref aB)] below meth c s₁ [] 0 0 := Stand.of_body Bd
  have e0 : s₁.heap = h0 := by rw [← hh, Bd.state]; rfl
  have N0 := Fr.nil n0
  have pre0 : ∀ t, Steps p.tables e below (s₁.setTop (mkF m 0 #[.val (.ref ob), .val (.ref aB), .unset, .unset, .unset, .unset, .unset] [])) t → Steps p.tables e below (s₁.setTop (entryFrame m #[(.ref ob), (.ref aB)] 7)) t := fun t k => castTop (own_ef_5_RR m ob aB) k
  obtain ⟨T1, X1, e1, st1⟩ := getF X0 hx hZ hown (host := "") (Or.inl (hw _ (List.mem_of_getElem? (i := 13) rfl))) Via.refl e0 fT (g := (mkF m 8 #[.val (.ref ob), .val (.ref aB), .val (.long (0 : Int64)), .second, .val (.int (0 : Int32)), .unset, .unset] [(.ref ob), (.int (0 : Int32))])) rfl rfl (hb hby own_d5_8)
  obtain ⟨cl2, Ar2, qk2, Sz2, Nn2, Hs2, Gs2⟩ := id (vT)
  obtain ⟨cl3, Ar3, qk3, Sz3, Nn3, Hs3, Gs3⟩ := id (vB)
  have hin4 : ¬ ((0 : Int32) < 0 ∨ cl3.slots.size ≤ ((0 : Int32)).toNatClampNeg) := inb_of Sz3 ⟨by decide, by decide⟩
  have hat4 : cl3.slots[((0 : Int32)).toNatClampNeg]? = some (.int u0) := Hs3.at hin4 rfl
  obtain ⟨T5, X5, e5, st5⟩ := getF X1 hx hZ hown (host := "") (Or.inl (hw _ (List.mem_of_getElem? (i := 16) rfl))) Via.refl e1 fL (g := (mkF m 20 #[.val (.ref ob), .val (.ref aB), .val (.long (0 : Int64)), .second, .val (.int (0 : Int32)), .unset, .unset] [(.ref ob), (.int u0)])) rfl rfl (hb hby own_d5_20)
  obtain ⟨cl6, Ar6, qk6, Sz6, Nn6, Hs6, Gs6⟩ := id (vL)
  have hin7 : ¬ ((0 : Int32) < 0 ∨ cl6.slots.size ≤ ((0 : Int32)).toNatClampNeg) := inb_of Sz6 ⟨by decide, by decide⟩
  have hat7 : cl6.slots[((0 : Int32)).toNatClampNeg]? = some (.int x0) := Hs6.at hin7 rfl
  obtain ⟨T8, X8, e8, st8⟩ := getF X5 hx hZ hown (host := "") (Or.inl (hw _ (List.mem_of_getElem? (i := 13) rfl))) Via.refl e5 fT (g := (mkF m 8 #[.val (.ref ob), .val (.ref aB), .val (.long (0 : Int64)), .second, .val (.int (1 : Int32)), .unset, .unset] [(.ref ob), (.int (1 : Int32))])) rfl rfl (hb hby own_d5_8)
  have hin9 : ¬ ((1 : Int32) < 0 ∨ cl3.slots.size ≤ ((1 : Int32)).toNatClampNeg) := inb_of Sz3 ⟨by decide, by decide⟩
  have hat9 : cl3.slots[((1 : Int32)).toNatClampNeg]? = some (.int u1) := Hs3.at hin9 rfl
  obtain ⟨T10, X10, e10, st10⟩ := getF X8 hx hZ hown (host := "") (Or.inl (hw _ (List.mem_of_getElem? (i := 16) rfl))) Via.refl e8 fL (g := (mkF m 20 #[.val (.ref ob), .val (.ref aB), .val (.long (0 : Int64)), .second, .val (.int (1 : Int32)), .unset, .unset] [(.ref ob), (.int u1)])) rfl rfl (hb hby own_d5_20)
  have hin11 : ¬ ((1 : Int32) < 0 ∨ cl6.slots.size ≤ ((1 : Int32)).toNatClampNeg) := inb_of Sz6 ⟨by decide, by decide⟩
  have hat11 : cl6.slots[((1 : Int32)).toNatClampNeg]? = some (.int x1) := Hs6.at hin11 rfl
  obtain ⟨T12, X12, e12, st12⟩ := getF X10 hx hZ hown (host := "") (Or.inl (hw _ (List.mem_of_getElem? (i := 13) rfl))) Via.refl e10 fT (g := (mkF m 30 #[.val (.ref ob), .val (.ref aB), .val (.long (0 : Int64)), .second, .val (.int (1 : Int32)), .unset, .unset] [(.ref ob)])) rfl rfl (hb hby own_d5_30)
  have hin13 : ¬ ((1 : Int32) < 0 ∨ cl2.slots.size ≤ ((1 : Int32)).toNatClampNeg) := inb_of Sz2 ⟨by decide, by decide⟩
  have hat13 : cl2.slots[((1 : Int32)).toNatClampNeg]? = some (.ref t1) := Hs2.at hin13 rfl
  have hin14 : ¬ ((1 : Int32) < 0 ∨ cl3.slots.size ≤ ((1 : Int32)).toNatClampNeg) := inb_of Sz3 ⟨by decide, by decide⟩
  have hat14 : cl3.slots[((1 : Int32)).toNatClampNeg]? = some (.int u1) := Hs3.at hin14 rfl
  obtain ⟨T15, X15, e15, st15⟩ := own_cb_loop ob aB (1 : Int32) t1 z1 f1 hx hZ hw hby hml hown N0 O0 aa1 6 u1 (0 : Int64) _ ok1 X12 e12
  obtain ⟨T16, X16, e16, st16⟩ := getF X15 hx hZ hown (host := "") (Or.inl (hw _ (List.mem_of_getElem? (i := 13) rfl))) Via.refl e15 fT (g := (mkF m 8 #[.val (.ref ob), .val (.ref aB), .val (.long (own_dn 6 u1 f1 (0 : Int64))), .second, .val (.int (2 : Int32)), .val (.ref t1), .val (.int (own_dnEnd 6 u1))] [(.ref ob), (.int (2 : Int32))])) rfl rfl (hb hby own_d5_8)
  obtain ⟨fs, hr, hrun, hended, hW, hsame⟩ := X16.leave (v := some (.long (own_dn 6 u1 f1 (0 : Int64)))) (fun h => by rw [Bd.returns] at h; cases h)
  refine ⟨_, _, pre0 _ ?_, hrun, hended, _, _, rfl, ?_, ⟨_, rfl⟩, hW, hsame.mono (by decide) (by decide)⟩
  · show Steps p.tables e below (s₁.setTop (mkF m 0 #[.val (.ref ob), .val (.ref aB), .unset, .unset, .unset, .unset, .unset] [])) _
    refine XS.lconst X0.here hx rfl (hb hby own_d5_0) ?_
    show Steps p.tables e below (s₁.setTop (mkF m 1 #[.val (.ref ob), .val (.ref aB), .unset, .unset, .unset, .unset, .unset] [(.long (0 : Int64))])) _
    refine XS.lstoreN X0.here hx rfl (hb hby own_d5_1) rfl (l' := #[.val (.ref ob), .val (.ref aB), .val (.long (0 : Int64)), .second, .unset, .unset, .unset]) rfl ?_
    show Steps p.tables e below (s₁.setTop (mkF m 2 #[.val (.ref ob), .val (.ref aB), .val (.long (0 : Int64)), .second, .unset, .unset, .unset] [])) _
    refine XS.iconst X0.here hx rfl (hb hby own_d5_2) ?_
    show Steps p.tables e below (s₁.setTop (mkF m 3 #[.val (.ref ob), .val (.ref aB), .val (.long (0 : Int64)), .second, .unset, .unset, .unset] [(.int (0 : Int32))])) _
    refine XS.istore X0.here hx rfl (hb hby own_d5_3) rfl (l' := #[.val (.ref ob), .val (.ref aB), .val (.long (0 : Int64)), .second, .val (.int (0 : Int32)), .unset, .unset]) rfl ?_
    show Steps p.tables e below (s₁.setTop (mkF m 5 #[.val (.ref ob), .val (.ref aB), .val (.long (0 : Int64)), .second, .val (.int (0 : Int32)), .unset, .unset] [])) _
    refine XS.iload X0.here hx rfl (hb hby own_d5_5) rfl ?_
    show Steps p.tables e below (s₁.setTop (mkF m 7 #[.val (.ref ob), .val (.ref aB), .val (.long (0 : Int64)), .second, .val (.int (0 : Int32)), .unset, .unset] [(.int (0 : Int32))])) _
    refine XS.aloadN X0.here hx rfl (hb hby own_d5_7) rfl rfl ?_
    show Steps p.tables e below (s₁.setTop (mkF m 8 #[.val (.ref ob), .val (.ref aB), .val (.long (0 : Int64)), .second, .val (.int (0 : Int32)), .unset, .unset] [(.ref ob), (.int (0 : Int32))])) _
    refine st1 _ ?_
    show Steps p.tables e below (T1.setTop (mkF m 11 #[.val (.ref ob), .val (.ref aB), .val (.long (0 : Int64)), .second, .val (.int (0 : Int32)), .unset, .unset] [(.ref tT), (.int (0 : Int32))])) _
    refine X1.arraylength hx (by rw [e1]; exact Ar2.1) (State.isArrayOf_alike hZ.alike Ar2.2.1) (g := (mkF m 11 #[.val (.ref ob), .val (.ref aB), .val (.long (0 : Int64)), .second, .val (.int (0 : Int32)), .unset, .unset] [(.ref tT), (.int (0 : Int32))])) rfl rfl (hb hby own_d5_11) _ ?_
    rw [len_of Sz2 Nn2]
    show Steps p.tables e below (T1.setTop (mkF m 12 #[.val (.ref ob), .val (.ref aB), .val (.long (0 : Int64)), .second, .val (.int (0 : Int32)), .unset, .unset] [(.int (2 : Int32)), (.int (0 : Int32))])) _
    refine XS.icmpNo X1.here hx rfl (hb hby own_d5_12) rfl (by decide) ?_
    show Steps p.tables e below (T1.setTop (mkF m 15 #[.val (.ref ob), .val (.ref aB), .val (.long (0 : Int64)), .second, .val (.int (0 : Int32)), .unset, .unset] [])) _
    refine XS.aloadN X1.here hx rfl (hb hby own_d5_15) rfl rfl ?_
    show Steps p.tables e below (T1.setTop (mkF m 16 #[.val (.ref ob), .val (.ref aB), .val (.long (0 : Int64)), .second, .val (.int (0 : Int32)), .unset, .unset] [(.ref aB)])) _
    refine XS.iload X1.here hx rfl (hb hby own_d5_16) rfl ?_
    show Steps p.tables e below (T1.setTop (mkF m 18 #[.val (.ref ob), .val (.ref aB), .val (.long (0 : Int64)), .second, .val (.int (0 : Int32)), .unset, .unset] [(.int (0 : Int32)), (.ref aB)])) _
    refine X1.iaload hx (j := (0 : Int32)) (v := (.int u0)) (by rw [e1]; exact Ar3.1) (State.isArrayOf_alike hZ.alike Ar3.2.1) Ar3.2.2 hin4 hat4 (g := (mkF m 18 #[.val (.ref ob), .val (.ref aB), .val (.long (0 : Int64)), .second, .val (.int (0 : Int32)), .unset, .unset] [(.int (0 : Int32)), (.ref aB)])) rfl rfl (hb hby own_d5_18) _ ?_
    show Steps p.tables e below (T1.setTop (mkF m 19 #[.val (.ref ob), .val (.ref aB), .val (.long (0 : Int64)), .second, .val (.int (0 : Int32)), .unset, .unset] [(.int u0)])) _
    refine XS.aloadN X1.here hx rfl (hb hby own_d5_19) rfl rfl ?_
    show Steps p.tables e below (T1.setTop (mkF m 20 #[.val (.ref ob), .val (.ref aB), .val (.long (0 : Int64)), .second, .val (.int (0 : Int32)), .unset, .unset] [(.ref ob), (.int u0)])) _
    refine st5 _ ?_
    show Steps p.tables e below (T5.setTop (mkF m 23 #[.val (.ref ob), .val (.ref aB), .val (.long (0 : Int64)), .second, .val (.int (0 : Int32)), .unset, .unset] [(.ref tL), (.int u0)])) _
    refine XS.iload X5.here hx rfl (hb hby own_d5_23) rfl ?_
    show Steps p.tables e below (T5.setTop (mkF m 25 #[.val (.ref ob), .val (.ref aB), .val (.long (0 : Int64)), .second, .val (.int (0 : Int32)), .unset, .unset] [(.int (0 : Int32)), (.ref tL), (.int u0)])) _
    refine X5.iaload hx (j := (0 : Int32)) (v := (.int x0)) (by rw [e5]; exact Ar6.1) (State.isArrayOf_alike hZ.alike Ar6.2.1) Ar6.2.2 hin7 hat7 (g := (mkF m 25 #[.val (.ref ob), .val (.ref aB), .val (.long (0 : Int64)), .second, .val (.int (0 : Int32)), .unset, .unset] [(.int (0 : Int32)), (.ref tL), (.int u0)])) rfl rfl (hb hby own_d5_25) _ ?_
    show Steps p.tables e below (T5.setTop (mkF m 26 #[.val (.ref ob), .val (.ref aB), .val (.long (0 : Int64)), .second, .val (.int (0 : Int32)), .unset, .unset] [(.int x0), (.int u0)])) _
    refine XS.icmpYes X5.here hx rfl (pc0 := 26) (pc' := 72) rfl (hb hby own_d5_26) rfl (flt (h0_ : ¬ (x0 < u0))).2.2.2 (by decide) (by decide) ?_
    show Steps p.tables e below (T5.setTop (mkF m 72 #[.val (.ref ob), .val (.ref aB), .val (.long (0 : Int64)), .second, .val (.int (0 : Int32)), .unset, .unset] [])) _
    refine XS.iinc X5.here hx rfl (hb hby own_d5_72) rfl (l' := #[.val (.ref ob), .val (.ref aB), .val (.long (0 : Int64)), .second, .val (.int (1 : Int32)), .unset, .unset]) rfl ?_
    show Steps p.tables e below (T5.setTop (mkF m 75 #[.val (.ref ob), .val (.ref aB), .val (.long (0 : Int64)), .second, .val (.int (1 : Int32)), .unset, .unset] [])) _
    refine XS.goto X5.here hx rfl (pc0 := 75) (pc' := 5) rfl (hb hby own_d5_75) (by decide) (by decide) ?_
    show Steps p.tables e below (T5.setTop (mkF m 5 #[.val (.ref ob), .val (.ref aB), .val (.long (0 : Int64)), .second, .val (.int (1 : Int32)), .unset, .unset] [])) _
    refine XS.iload X5.here hx rfl (hb hby own_d5_5) rfl ?_
    show Steps p.tables e below (T5.setTop (mkF m 7 #[.val (.ref ob), .val (.ref aB), .val (.long (0 : Int64)), .second, .val (.int (1 : Int32)), .unset, .unset] [(.int (1 : Int32))])) _
    refine XS.aloadN X5.here hx rfl (hb hby own_d5_7) rfl rfl ?_
    show Steps p.tables e below (T5.setTop (mkF m 8 #[.val (.ref ob), .val (.ref aB), .val (.long (0 : Int64)), .second, .val (.int (1 : Int32)), .unset, .unset] [(.ref ob), (.int (1 : Int32))])) _
    refine st8 _ ?_
    show Steps p.tables e below (T8.setTop (mkF m 11 #[.val (.ref ob), .val (.ref aB), .val (.long (0 : Int64)), .second, .val (.int (1 : Int32)), .unset, .unset] [(.ref tT), (.int (1 : Int32))])) _
    refine X8.arraylength hx (by rw [e8]; exact Ar2.1) (State.isArrayOf_alike hZ.alike Ar2.2.1) (g := (mkF m 11 #[.val (.ref ob), .val (.ref aB), .val (.long (0 : Int64)), .second, .val (.int (1 : Int32)), .unset, .unset] [(.ref tT), (.int (1 : Int32))])) rfl rfl (hb hby own_d5_11) _ ?_
    rw [len_of Sz2 Nn2]
    show Steps p.tables e below (T8.setTop (mkF m 12 #[.val (.ref ob), .val (.ref aB), .val (.long (0 : Int64)), .second, .val (.int (1 : Int32)), .unset, .unset] [(.int (2 : Int32)), (.int (1 : Int32))])) _
    refine XS.icmpNo X8.here hx rfl (hb hby own_d5_12) rfl (by decide) ?_
    show Steps p.tables e below (T8.setTop (mkF m 15 #[.val (.ref ob), .val (.ref aB), .val (.long (0 : Int64)), .second, .val (.int (1 : Int32)), .unset, .unset] [])) _
    refine XS.aloadN X8.here hx rfl (hb hby own_d5_15) rfl rfl ?_
    show Steps p.tables e below (T8.setTop (mkF m 16 #[.val (.ref ob), .val (.ref aB), .val (.long (0 : Int64)), .second, .val (.int (1 : Int32)), .unset, .unset] [(.ref aB)])) _
    refine XS.iload X8.here hx rfl (hb hby own_d5_16) rfl ?_
    show Steps p.tables e below (T8.setTop (mkF m 18 #[.val (.ref ob), .val (.ref aB), .val (.long (0 : Int64)), .second, .val (.int (1 : Int32)), .unset, .unset] [(.int (1 : Int32)), (.ref aB)])) _
    refine X8.iaload hx (j := (1 : Int32)) (v := (.int u1)) (by rw [e8]; exact Ar3.1) (State.isArrayOf_alike hZ.alike Ar3.2.1) Ar3.2.2 hin9 hat9 (g := (mkF m 18 #[.val (.ref ob), .val (.ref aB), .val (.long (0 : Int64)), .second, .val (.int (1 : Int32)), .unset, .unset] [(.int (1 : Int32)), (.ref aB)])) rfl rfl (hb hby own_d5_18) _ ?_
    show Steps p.tables e below (T8.setTop (mkF m 19 #[.val (.ref ob), .val (.ref aB), .val (.long (0 : Int64)), .second, .val (.int (1 : Int32)), .unset, .unset] [(.int u1)])) _
    refine XS.aloadN X8.here hx rfl (hb hby own_d5_19) rfl rfl ?_
    show Steps p.tables e below (T8.setTop (mkF m 20 #[.val (.ref ob), .val (.ref aB), .val (.long (0 : Int64)), .second, .val (.int (1 : Int32)), .unset, .unset] [(.ref ob), (.int u1)])) _
    refine st10 _ ?_
    show Steps p.tables e below (T10.setTop (mkF m 23 #[.val (.ref ob), .val (.ref aB), .val (.long (0 : Int64)), .second, .val (.int (1 : Int32)), .unset, .unset] [(.ref tL), (.int u1)])) _
    refine XS.iload X10.here hx rfl (hb hby own_d5_23) rfl ?_
    show Steps p.tables e below (T10.setTop (mkF m 25 #[.val (.ref ob), .val (.ref aB), .val (.long (0 : Int64)), .second, .val (.int (1 : Int32)), .unset, .unset] [(.int (1 : Int32)), (.ref tL), (.int u1)])) _
    refine X10.iaload hx (j := (1 : Int32)) (v := (.int x1)) (by rw [e10]; exact Ar6.1) (State.isArrayOf_alike hZ.alike Ar6.2.1) Ar6.2.2 hin11 hat11 (g := (mkF m 25 #[.val (.ref ob), .val (.ref aB), .val (.long (0 : Int64)), .second, .val (.int (1 : Int32)), .unset, .unset] [(.int (1 : Int32)), (.ref tL), (.int u1)])) rfl rfl (hb hby own_d5_25) _ ?_
    show Steps p.tables e below (T10.setTop (mkF m 26 #[.val (.ref ob), .val (.ref aB), .val (.long (0 : Int64)), .second, .val (.int (1 : Int32)), .unset, .unset] [(.int x1), (.int u1)])) _
    refine XS.icmpNo X10.here hx rfl (hb hby own_d5_26) rfl (tlt (h1_ : x1 < u1)).2.2.2 ?_
    show Steps p.tables e below (T10.setTop (mkF m 29 #[.val (.ref ob), .val (.ref aB), .val (.long (0 : Int64)), .second, .val (.int (1 : Int32)), .unset, .unset] [])) _
    refine XS.aloadN X10.here hx rfl (hb hby own_d5_29) rfl rfl ?_
    show Steps p.tables e below (T10.setTop (mkF m 30 #[.val (.ref ob), .val (.ref aB), .val (.long (0 : Int64)), .second, .val (.int (1 : Int32)), .unset, .unset] [(.ref ob)])) _
    refine st12 _ ?_
    show Steps p.tables e below (T12.setTop (mkF m 33 #[.val (.ref ob), .val (.ref aB), .val (.long (0 : Int64)), .second, .val (.int (1 : Int32)), .unset, .unset] [(.ref tT)])) _
    refine XS.iload X12.here hx rfl (hb hby own_d5_33) rfl ?_
    show Steps p.tables e below (T12.setTop (mkF m 35 #[.val (.ref ob), .val (.ref aB), .val (.long (0 : Int64)), .second, .val (.int (1 : Int32)), .unset, .unset] [(.int (1 : Int32)), (.ref tT)])) _
    refine X12.aaload hx (j := (1 : Int32)) (v := (.ref t1)) (by rw [e12]; exact Ar2.1) (State.isArrayOf_alike hZ.alike Ar2.2.1) rfl Ar2.2.2 hin13 hat13 (g := (mkF m 35 #[.val (.ref ob), .val (.ref aB), .val (.long (0 : Int64)), .second, .val (.int (1 : Int32)), .unset, .unset] [(.int (1 : Int32)), (.ref tT)])) rfl rfl (hb hby own_d5_35) _ ?_
    show Steps p.tables e below (T12.setTop (mkF m 36 #[.val (.ref ob), .val (.ref aB), .val (.long (0 : Int64)), .second, .val (.int (1 : Int32)), .unset, .unset] [(.ref t1)])) _
    refine XS.astore X12.here hx rfl (hb hby own_d5_36) rfl rfl (l' := #[.val (.ref ob), .val (.ref aB), .val (.long (0 : Int64)), .second, .val (.int (1 : Int32)), .val (.ref t1), .unset]) rfl ?_
    show Steps p.tables e below (T12.setTop (mkF m 38 #[.val (.ref ob), .val (.ref aB), .val (.long (0 : Int64)), .second, .val (.int (1 : Int32)), .val (.ref t1), .unset] [])) _
    refine XS.aloadN X12.here hx rfl (hb hby own_d5_38) rfl rfl ?_
    show Steps p.tables e below (T12.setTop (mkF m 39 #[.val (.ref ob), .val (.ref aB), .val (.long (0 : Int64)), .second, .val (.int (1 : Int32)), .val (.ref t1), .unset] [(.ref aB)])) _
    refine XS.iload X12.here hx rfl (hb hby own_d5_39) rfl ?_
    show Steps p.tables e below (T12.setTop (mkF m 41 #[.val (.ref ob), .val (.ref aB), .val (.long (0 : Int64)), .second, .val (.int (1 : Int32)), .val (.ref t1), .unset] [(.int (1 : Int32)), (.ref aB)])) _
    refine X12.iaload hx (j := (1 : Int32)) (v := (.int u1)) (by rw [e12]; exact Ar3.1) (State.isArrayOf_alike hZ.alike Ar3.2.1) Ar3.2.2 hin14 hat14 (g := (mkF m 41 #[.val (.ref ob), .val (.ref aB), .val (.long (0 : Int64)), .second, .val (.int (1 : Int32)), .val (.ref t1), .unset] [(.int (1 : Int32)), (.ref aB)])) rfl rfl (hb hby own_d5_41) _ ?_
    show Steps p.tables e below (T12.setTop (mkF m 42 #[.val (.ref ob), .val (.ref aB), .val (.long (0 : Int64)), .second, .val (.int (1 : Int32)), .val (.ref t1), .unset] [(.int u1)])) _
    refine XS.istore X12.here hx rfl (hb hby own_d5_42) rfl (l' := #[.val (.ref ob), .val (.ref aB), .val (.long (0 : Int64)), .second, .val (.int (1 : Int32)), .val (.ref t1), .val (.int u1)]) rfl ?_
    show Steps p.tables e below (T12.setTop (mkF m 44 #[.val (.ref ob), .val (.ref aB), .val (.long (0 : Int64)), .second, .val (.int (1 : Int32)), .val (.ref t1), .val (.int u1)] [])) _
    refine st15 _ ?_
    show Steps p.tables e below (T15.setTop (mkF m 72 #[.val (.ref ob), .val (.ref aB), .val (.long (own_dn 6 u1 f1 (0 : Int64))), .second, .val (.int (1 : Int32)), .val (.ref t1), .val (.int (own_dnEnd 6 u1))] [])) _
    refine XS.iinc X15.here hx rfl (hb hby own_d5_72) rfl (l' := #[.val (.ref ob), .val (.ref aB), .val (.long (own_dn 6 u1 f1 (0 : Int64))), .second, .val (.int (2 : Int32)), .val (.ref t1), .val (.int (own_dnEnd 6 u1))]) rfl ?_
    show Steps p.tables e below (T15.setTop (mkF m 75 #[.val (.ref ob), .val (.ref aB), .val (.long (own_dn 6 u1 f1 (0 : Int64))), .second, .val (.int (2 : Int32)), .val (.ref t1), .val (.int (own_dnEnd 6 u1))] [])) _
    refine XS.goto X15.here hx rfl (pc0 := 75) (pc' := 5) rfl (hb hby own_d5_75) (by decide) (by decide) ?_
    show Steps p.tables e below (T15.setTop (mkF m 5 #[.val (.ref ob), .val (.ref aB), .val (.long (own_dn 6 u1 f1 (0 : Int64))), .second, .val (.int (2 : Int32)), .val (.ref t1), .val (.int (own_dnEnd 6 u1))] [])) _
    refine XS.iload X15.here hx rfl (hb hby own_d5_5) rfl ?_
    show Steps p.tables e below (T15.setTop (mkF m 7 #[.val (.ref ob), .val (.ref aB), .val (.long (own_dn 6 u1 f1 (0 : Int64))), .second, .val (.int (2 : Int32)), .val (.ref t1), .val (.int (own_dnEnd 6 u1))] [(.int (2 : Int32))])) _
    refine XS.aloadN X15.here hx rfl (hb hby own_d5_7) rfl rfl ?_
    show Steps p.tables e below (T15.setTop (mkF m 8 #[.val (.ref ob), .val (.ref aB), .val (.long (own_dn 6 u1 f1 (0 : Int64))), .second, .val (.int (2 : Int32)), .val (.ref t1), .val (.int (own_dnEnd 6 u1))] [(.ref ob), (.int (2 : Int32))])) _
    refine st16 _ ?_
    show Steps p.tables e below (T16.setTop (mkF m 11 #[.val (.ref ob), .val (.ref aB), .val (.long (own_dn 6 u1 f1 (0 : Int64))), .second, .val (.int (2 : Int32)), .val (.ref t1), .val (.int (own_dnEnd 6 u1))] [(.ref tT), (.int (2 : Int32))])) _
    refine X16.arraylength hx (by rw [e16]; exact Ar2.1) (State.isArrayOf_alike hZ.alike Ar2.2.1) (g := (mkF m 11 #[.val (.ref ob), .val (.ref aB), .val (.long (own_dn 6 u1 f1 (0 : Int64))), .second, .val (.int (2 : Int32)), .val (.ref t1), .val (.int (own_dnEnd 6 u1))] [(.ref tT), (.int (2 : Int32))])) rfl rfl (hb hby own_d5_11) _ ?_
    rw [len_of Sz2 Nn2]
    show Steps p.tables e below (T16.setTop (mkF m 12 #[.val (.ref ob), .val (.ref aB), .val (.long (own_dn 6 u1 f1 (0 : Int64))), .second, .val (.int (2 : Int32)), .val (.ref t1), .val (.int (own_dnEnd 6 u1))] [(.int (2 : Int32)), (.int (2 : Int32))])) _
    refine XS.icmpYes X16.here hx rfl (pc0 := 12) (pc' := 78) rfl (hb hby own_d5_12) rfl (by decide) (by decide) (by decide) ?_
    show Steps p.tables e below (T16.setTop (mkF m 78 #[.val (.ref ob), .val (.ref aB), .val (.long (own_dn 6 u1 f1 (0 : Int64))), .second, .val (.int (2 : Int32)), .val (.ref t1), .val (.int (own_dnEnd 6 u1))] [])) _
    refine XS.lloadN X16.here hx rfl (hb hby own_d5_78) rfl ?_
    show Steps p.tables e below (T16.setTop (mkF m 79 #[.val (.ref ob), .val (.ref aB), .val (.long (own_dn 6 u1 f1 (0 : Int64))), .second, .val (.int (2 : Int32)), .val (.ref t1), .val (.int (own_dnEnd 6 u1))] [(.long (own_dn 6 u1 f1 (0 : Int64)))])) _
    jvm_step X16.here [X16.here.top, hx, (hb hby own_d5_79), X16.method', Bd.returns, narrow]
    first | (intro acts; rw [hr _ acts rfl rfl rfl]) | rw [hr _ _ rfl rfl rfl]
    exact Steps.refl _
  · show OwnQ _ h0 n0 _ T16.heap _
    exact ⟨rfl, N0, e16⟩
set_option maxRecDepth 65536 in
set_option maxHeartbeats 40000000 in
theorem own_cb_10 (l : Launch) (Z : State) (a0 : Array Value) (hw : ∀ d ∈ tables_1, d.before a0 Z = true) (ws : List Jvm.Cond) (h0 : Heap) (n0 : Nat) (O0 : Old Z n0 h0) (ob : Addr) (aB : Addr) (tT : Addr) (tL : Addr) (t0 : Addr) (t1 : Addr) (kT : ClassId) (kL : ClassId) (kB : ClassId) (u0 : Int32) (u1 : Int32) (x0 : Int32) (x1 : Int32) (z0 : Int32) (z1 : Int32) (f0 : Nat → Int32) (f1 : Nat → Int32) (ok0 : own_dnOk z0 6 u0 = true) (ok1 : own_dnOk z1 6 u1 = true) (h0_ : x0 < u0) (h1_ : ¬ (x1 < u1)) (fE : Exa Z h0 ob "com/example/sober_broadcast/soberbroadcast/cli/PositionCounts") (fT : Fld Z h0 ob "com/example/sober_broadcast/soberbroadcast/cli/PositionCounts" "trees" "[[I" (.ref tT)) (fL : Fld Z h0 ob "com/example/sober_broadcast/soberbroadcast/cli/PositionCounts" "lowest" "[I" (.ref tL)) (vT : Arv Z h0 tT kT (.array .int) (2 : Int32) [(.ref t0), (.ref t1)] .null) (vL : Arv Z h0 tL kL .int (2 : Int32) [(.int x0), (.int x1)] (.int (0 : Int32))) (aa0 : OwnA Z h0 t0 z0 f0) (aa1 : OwnA Z h0 t1 z1 f1) (vB : Arv Z h0 aB kB .int (2 : Int32) [(.int u0), (.int u1)] (.int (0 : Int32))) :
    MetFree l (⟨"com/example/sober_broadcast/soberbroadcast/cli/PositionCounts", "countBelow", "([I)J"⟩ : MethodName) (head1 (Jvm.Cond.code (⟨"com/example/sober_broadcast/soberbroadcast/cli/PositionCounts", "countBelow", "([I)J"⟩ : MethodName) prog_25_method_3_code 7 (some .long) :: ws) ({ frames := 0, cells := 0, slots := 0, locals := 0 } : Room)) (fun a U => a = #[(.ref ob), (.ref aB)] ∧ Z.Warmed39 U.vm ∧ U.heap = h0) (fun _ _ _ _ _ => True) (fun _ U o U' => ∃ v L, o = .returned v ∧ OwnQ (some (.long (own_dn 6 u0 f0 (0 : Int64)))) h0 n0 v U'.heap L ∧ FrameEnd U o U' L ({ frames := 0, cells := 0, slots := 0, locals := 0 } : Room).cells ({ frames := 0, cells := 0, slots := 0, locals := 0 } : Room).slots) := by
  refine MetFree.of_bodySF (plainFor_of_name own_pn_5) hisR ?_
  intro p e s m args below meth c s₁ Bd hml0 hP hK
  obtain ⟨rfl, hZ, hh⟩ := hP
  have hx := Bd.exec
  have hby := Bd.bytes
  have hml : c.maxLocals = 7 := hml0
  have hown : s.vm.findClass "com/example/sober_broadcast/soberbroadcast/cli/PositionCounts" = some m.cls := findClass_of_methodNamed Bd.named
  have hnm := (name_of_methodNamed Bd.named Bd.method).1
  have X0 : Stand p l e ({ frames := 0, cells := 0, slots := 0, locals := 0 } : Room) s m #[(.ref ob), (.ref aB)] below meth c s₁ [] 0 0 := Stand.of_body Bd
  have e0 : s₁.heap = h0 := by rw [← hh, Bd.state]; rfl
  have N0 := Fr.nil n0
  have pre0 : ∀ t, Steps p.tables e below (s₁.setTop (mkF m 0 #[.val (.ref ob), .val (.ref aB), .unset, .unset, .unset, .unset, .unset] [])) t → Steps p.tables e below (s₁.setTop (entryFrame m #[(.ref ob), (.ref aB)] 7)) t := fun t k => castTop (own_ef_5_RR m ob aB) k
  obtain ⟨T1, X1, e1, st1⟩ := getF X0 hx hZ hown (host := "") (Or.inl (hw _ (List.mem_of_getElem? (i := 13) rfl))) Via.refl e0 fT (g := (mkF m 8 #[.val (.ref ob), .val (.ref aB), .val (.long (0 : Int64)), .second, .val (.int (0 : Int32)), .unset, .unset] [(.ref ob), (.int (0 : Int32))])) rfl rfl (hb hby own_d5_8)
  obtain ⟨cl2, Ar2, qk2, Sz2, Nn2, Hs2, Gs2⟩ := id (vT)
  obtain ⟨cl3, Ar3, qk3, Sz3, Nn3, Hs3, Gs3⟩ := id (vB)
  have hin4 : ¬ ((0 : Int32) < 0 ∨ cl3.slots.size ≤ ((0 : Int32)).toNatClampNeg) := inb_of Sz3 ⟨by decide, by decide⟩
  have hat4 : cl3.slots[((0 : Int32)).toNatClampNeg]? = some (.int u0) := Hs3.at hin4 rfl
  obtain ⟨T5, X5, e5, st5⟩ := getF X1 hx hZ hown (host := "") (Or.inl (hw _ (List.mem_of_getElem? (i := 16) rfl))) Via.refl e1 fL (g := (mkF m 20 #[.val (.ref ob), .val (.ref aB), .val (.long (0 : Int64)), .second, .val (.int (0 : Int32)), .unset, .unset] [(.ref ob), (.int u0)])) rfl rfl (hb hby own_d5_20)
  obtain ⟨cl6, Ar6, qk6, Sz6, Nn6, Hs6, Gs6⟩ := id (vL)
  have hin7 : ¬ ((0 : Int32) < 0 ∨ cl6.slots.size ≤ ((0 : Int32)).toNatClampNeg) := inb_of Sz6 ⟨by decide, by decide⟩
  have hat7 : cl6.slots[((0 : Int32)).toNatClampNeg]? = some (.int x0) := Hs6.at hin7 rfl
  obtain ⟨T8, X8, e8, st8⟩ := getF X5 hx hZ hown (host := "") (Or.inl (hw _ (List.mem_of_getElem? (i := 13) rfl))) Via.refl e5 fT (g := (mkF m 30 #[.val (.ref ob), .val (.ref aB), .val (.long (0 : Int64)), .second, .val (.int (0 : Int32)), .unset, .unset] [(.ref ob)])) rfl rfl (hb hby own_d5_30)
  have hin9 : ¬ ((0 : Int32) < 0 ∨ cl2.slots.size ≤ ((0 : Int32)).toNatClampNeg) := inb_of Sz2 ⟨by decide, by decide⟩
  have hat9 : cl2.slots[((0 : Int32)).toNatClampNeg]? = some (.ref t0) := Hs2.at hin9 rfl
  have hin10 : ¬ ((0 : Int32) < 0 ∨ cl3.slots.size ≤ ((0 : Int32)).toNatClampNeg) := inb_of Sz3 ⟨by decide, by decide⟩
  have hat10 : cl3.slots[((0 : Int32)).toNatClampNeg]? = some (.int u0) := Hs3.at hin10 rfl
  obtain ⟨T11, X11, e11, st11⟩ := own_cb_loop ob aB (0 : Int32) t0 z0 f0 hx hZ hw hby hml hown N0 O0 aa0 6 u0 (0 : Int64) _ ok0 X8 e8
  obtain ⟨T12, X12, e12, st12⟩ := getF X11 hx hZ hown (host := "") (Or.inl (hw _ (List.mem_of_getElem? (i := 13) rfl))) Via.refl e11 fT (g := (mkF m 8 #[.val (.ref ob), .val (.ref aB), .val (.long (own_dn 6 u0 f0 (0 : Int64))), .second, .val (.int (1 : Int32)), .val (.ref t0), .val (.int (own_dnEnd 6 u0))] [(.ref ob), (.int (1 : Int32))])) rfl rfl (hb hby own_d5_8)
  have hin13 : ¬ ((1 : Int32) < 0 ∨ cl3.slots.size ≤ ((1 : Int32)).toNatClampNeg) := inb_of Sz3 ⟨by decide, by decide⟩
  have hat13 : cl3.slots[((1 : Int32)).toNatClampNeg]? = some (.int u1) := Hs3.at hin13 rfl
  obtain ⟨T14, X14, e14, st14⟩ := getF X12 hx hZ hown (host := "") (Or.inl (hw _ (List.mem_of_getElem? (i := 16) rfl))) Via.refl e12 fL (g := (mkF m 20 #[.val (.ref ob), .val (.ref aB), .val (.long (own_dn 6 u0 f0 (0 : Int64))), .second, .val (.int (1 : Int32)), .val (.ref t0), .val (.int (own_dnEnd 6 u0))] [(.ref ob), (.int u1)])) rfl rfl (hb hby own_d5_20)
  have hin15 : ¬ ((1 : Int32) < 0 ∨ cl6.slots.size ≤ ((1 : Int32)).toNatClampNeg) := inb_of Sz6 ⟨by decide, by decide⟩
  have hat15 : cl6.slots[((1 : Int32)).toNatClampNeg]? = some (.int x1) := Hs6.at hin15 rfl
  obtain ⟨T16, X16, e16, st16⟩ := getF X14 hx hZ hown (host := "") (Or.inl (hw _ (List.mem_of_getElem? (i := 13) rfl))) Via.refl e14 fT (g := (mkF m 8 #[.val (.ref ob), .val (.ref aB), .val (.long (own_dn 6 u0 f0 (0 : Int64))), .second, .val (.int (2 : Int32)), .val (.ref t0), .val (.int (own_dnEnd 6 u0))] [(.ref ob), (.int (2 : Int32))])) rfl rfl (hb hby own_d5_8)
  obtain ⟨fs, hr, hrun, hended, hW, hsame⟩ := X16.leave (v := some (.long (own_dn 6 u0 f0 (0 : Int64)))) (fun h => by rw [Bd.returns] at h; cases h)
  refine ⟨_, _, pre0 _ ?_, hrun, hended, _, _, rfl, ?_, ⟨_, rfl⟩, hW, hsame.mono (by decide) (by decide)⟩
  · show Steps p.tables e below (s₁.setTop (mkF m 0 #[.val (.ref ob), .val (.ref aB), .unset, .unset, .unset, .unset, .unset] [])) _
    refine XS.lconst X0.here hx rfl (hb hby own_d5_0) ?_
    show Steps p.tables e below (s₁.setTop (mkF m 1 #[.val (.ref ob), .val (.ref aB), .unset, .unset, .unset, .unset, .unset] [(.long (0 : Int64))])) _
    refine XS.lstoreN X0.here hx rfl (hb hby own_d5_1) rfl (l' := #[.val (.ref ob), .val (.ref aB), .val (.long (0 : Int64)), .second, .unset, .unset, .unset]) rfl ?_
    show Steps p.tables e below (s₁.setTop (mkF m 2 #[.val (.ref ob), .val (.ref aB), .val (.long (0 : Int64)), .second, .unset, .unset, .unset] [])) _
    refine XS.iconst X0.here hx rfl (hb hby own_d5_2) ?_
    show Steps p.tables e below (s₁.setTop (mkF m 3 #[.val (.ref ob), .val (.ref aB), .val (.long (0 : Int64)), .second, .unset, .unset, .unset] [(.int (0 : Int32))])) _
    refine XS.istore X0.here hx rfl (hb hby own_d5_3) rfl (l' := #[.val (.ref ob), .val (.ref aB), .val (.long (0 : Int64)), .second, .val (.int (0 : Int32)), .unset, .unset]) rfl ?_
    show Steps p.tables e below (s₁.setTop (mkF m 5 #[.val (.ref ob), .val (.ref aB), .val (.long (0 : Int64)), .second, .val (.int (0 : Int32)), .unset, .unset] [])) _
    refine XS.iload X0.here hx rfl (hb hby own_d5_5) rfl ?_
    show Steps p.tables e below (s₁.setTop (mkF m 7 #[.val (.ref ob), .val (.ref aB), .val (.long (0 : Int64)), .second, .val (.int (0 : Int32)), .unset, .unset] [(.int (0 : Int32))])) _
    refine XS.aloadN X0.here hx rfl (hb hby own_d5_7) rfl rfl ?_
    show Steps p.tables e below (s₁.setTop (mkF m 8 #[.val (.ref ob), .val (.ref aB), .val (.long (0 : Int64)), .second, .val (.int (0 : Int32)), .unset, .unset] [(.ref ob), (.int (0 : Int32))])) _
    refine st1 _ ?_
    show Steps p.tables e below (T1.setTop (mkF m 11 #[.val (.ref ob), .val (.ref aB), .val (.long (0 : Int64)), .second, .val (.int (0 : Int32)), .unset, .unset] [(.ref tT), (.int (0 : Int32))])) _
    refine X1.arraylength hx (by rw [e1]; exact Ar2.1) (State.isArrayOf_alike hZ.alike Ar2.2.1) (g := (mkF m 11 #[.val (.ref ob), .val (.ref aB), .val (.long (0 : Int64)), .second, .val (.int (0 : Int32)), .unset, .unset] [(.ref tT), (.int (0 : Int32))])) rfl rfl (hb hby own_d5_11) _ ?_
    rw [len_of Sz2 Nn2]
    show Steps p.tables e below (T1.setTop (mkF m 12 #[.val (.ref ob), .val (.ref aB), .val (.long (0 : Int64)), .second, .val (.int (0 : Int32)), .unset, .unset] [(.int (2 : Int32)), (.int (0 : Int32))])) _
    refine XS.icmpNo X1.here hx rfl (hb hby own_d5_12) rfl (by decide) ?_
    show Steps p.tables e below (T1.setTop (mkF m 15 #[.val (.ref ob), .val (.ref aB), .val (.long (0 : Int64)), .second, .val (.int (0 : Int32)), .unset, .unset] [])) _
    refine XS.aloadN X1.here hx rfl (hb hby own_d5_15) rfl rfl ?_
    show Steps p.tables e below (T1.setTop (mkF m 16 #[.val (.ref ob), .val (.ref aB), .val (.long (0 : Int64)), .second, .val (.int (0 : Int32)), .unset, .unset] [(.ref aB)])) _
    refine XS.iload X1.here hx rfl (hb hby own_d5_16) rfl ?_
    show Steps p.tables e below (T1.setTop (mkF m 18 #[.val (.ref ob), .val (.ref aB), .val (.long (0 : Int64)), .second, .val (.int (0 : Int32)), .unset, .unset] [(.int (0 : Int32)), (.ref aB)])) _
    refine X1.iaload hx (j := (0 : Int32)) (v := (.int u0)) (by rw [e1]; exact Ar3.1) (State.isArrayOf_alike hZ.alike Ar3.2.1) Ar3.2.2 hin4 hat4 (g := (mkF m 18 #[.val (.ref ob), .val (.ref aB), .val (.long (0 : Int64)), .second, .val (.int (0 : Int32)), .unset, .unset] [(.int (0 : Int32)), (.ref aB)])) rfl rfl (hb hby own_d5_18) _ ?_
    show Steps p.tables e below (T1.setTop (mkF m 19 #[.val (.ref ob), .val (.ref aB), .val (.long (0 : Int64)), .second, .val (.int (0 : Int32)), .unset, .unset] [(.int u0)])) _
    refine XS.aloadN X1.here hx rfl (hb hby own_d5_19) rfl rfl ?_
    show Steps p.tables e below (T1.setTop (mkF m 20 #[.val (.ref ob), .val (.ref aB), .val (.long (0 : Int64)), .second, .val (.int (0 : Int32)), .unset, .unset] [(.ref ob), (.int u0)])) _
    refine st5 _ ?_
    show Steps p.tables e below (T5.setTop (mkF m 23 #[.val (.ref ob), .val (.ref aB), .val (.long (0 : Int64)), .second, .val (.int (0 : Int32)), .unset, .unset] [(.ref tL), (.int u0)])) _
    refine XS.iload X5.here hx rfl (hb hby own_d5_23) rfl ?_
    show Steps p.tables e below (T5.setTop (mkF m 25 #[.val (.ref ob), .val (.ref aB), .val (.long (0 : Int64)), .second, .val (.int (0 : Int32)), .unset, .unset] [(.int (0 : Int32)), (.ref tL), (.int u0)])) _
    refine X5.iaload hx (j := (0 : Int32)) (v := (.int x0)) (by rw [e5]; exact Ar6.1) (State.isArrayOf_alike hZ.alike Ar6.2.1) Ar6.2.2 hin7 hat7 (g := (mkF m 25 #[.val (.ref ob), .val (.ref aB), .val (.long (0 : Int64)), .second, .val (.int (0 : Int32)), .unset, .unset] [(.int (0 : Int32)), (.ref tL), (.int u0)])) rfl rfl (hb hby own_d5_25) _ ?_
    show Steps p.tables e below (T5.setTop (mkF m 26 #[.val (.ref ob), .val (.ref aB), .val (.long (0 : Int64)), .second, .val (.int (0 : Int32)), .unset, .unset] [(.int x0), (.int u0)])) _
    refine XS.icmpNo X5.here hx rfl (hb hby own_d5_26) rfl (tlt (h0_ : x0 < u0)).2.2.2 ?_
    show Steps p.tables e below (T5.setTop (mkF m 29 #[.val (.ref ob), .val (.ref aB), .val (.long (0 : Int64)), .second, .val (.int (0 : Int32)), .unset, .unset] [])) _
    refine XS.aloadN X5.here hx rfl (hb hby own_d5_29) rfl rfl ?_
    show Steps p.tables e below (T5.setTop (mkF m 30 #[.val (.ref ob), .val (.ref aB), .val (.long (0 : Int64)), .second, .val (.int (0 : Int32)), .unset, .unset] [(.ref ob)])) _
    refine st8 _ ?_
    show Steps p.tables e below (T8.setTop (mkF m 33 #[.val (.ref ob), .val (.ref aB), .val (.long (0 : Int64)), .second, .val (.int (0 : Int32)), .unset, .unset] [(.ref tT)])) _
    refine XS.iload X8.here hx rfl (hb hby own_d5_33) rfl ?_
    show Steps p.tables e below (T8.setTop (mkF m 35 #[.val (.ref ob), .val (.ref aB), .val (.long (0 : Int64)), .second, .val (.int (0 : Int32)), .unset, .unset] [(.int (0 : Int32)), (.ref tT)])) _
    refine X8.aaload hx (j := (0 : Int32)) (v := (.ref t0)) (by rw [e8]; exact Ar2.1) (State.isArrayOf_alike hZ.alike Ar2.2.1) rfl Ar2.2.2 hin9 hat9 (g := (mkF m 35 #[.val (.ref ob), .val (.ref aB), .val (.long (0 : Int64)), .second, .val (.int (0 : Int32)), .unset, .unset] [(.int (0 : Int32)), (.ref tT)])) rfl rfl (hb hby own_d5_35) _ ?_
    show Steps p.tables e below (T8.setTop (mkF m 36 #[.val (.ref ob), .val (.ref aB), .val (.long (0 : Int64)), .second, .val (.int (0 : Int32)), .unset, .unset] [(.ref t0)])) _
    refine XS.astore X8.here hx rfl (hb hby own_d5_36) rfl rfl (l' := #[.val (.ref ob), .val (.ref aB), .val (.long (0 : Int64)), .second, .val (.int (0 : Int32)), .val (.ref t0), .unset]) rfl ?_
    show Steps p.tables e below (T8.setTop (mkF m 38 #[.val (.ref ob), .val (.ref aB), .val (.long (0 : Int64)), .second, .val (.int (0 : Int32)), .val (.ref t0), .unset] [])) _
    refine XS.aloadN X8.here hx rfl (hb hby own_d5_38) rfl rfl ?_
    show Steps p.tables e below (T8.setTop (mkF m 39 #[.val (.ref ob), .val (.ref aB), .val (.long (0 : Int64)), .second, .val (.int (0 : Int32)), .val (.ref t0), .unset] [(.ref aB)])) _
    refine XS.iload X8.here hx rfl (hb hby own_d5_39) rfl ?_
    show Steps p.tables e below (T8.setTop (mkF m 41 #[.val (.ref ob), .val (.ref aB), .val (.long (0 : Int64)), .second, .val (.int (0 : Int32)), .val (.ref t0), .unset] [(.int (0 : Int32)), (.ref aB)])) _
    refine X8.iaload hx (j := (0 : Int32)) (v := (.int u0)) (by rw [e8]; exact Ar3.1) (State.isArrayOf_alike hZ.alike Ar3.2.1) Ar3.2.2 hin10 hat10 (g := (mkF m 41 #[.val (.ref ob), .val (.ref aB), .val (.long (0 : Int64)), .second, .val (.int (0 : Int32)), .val (.ref t0), .unset] [(.int (0 : Int32)), (.ref aB)])) rfl rfl (hb hby own_d5_41) _ ?_
    show Steps p.tables e below (T8.setTop (mkF m 42 #[.val (.ref ob), .val (.ref aB), .val (.long (0 : Int64)), .second, .val (.int (0 : Int32)), .val (.ref t0), .unset] [(.int u0)])) _
    refine XS.istore X8.here hx rfl (hb hby own_d5_42) rfl (l' := #[.val (.ref ob), .val (.ref aB), .val (.long (0 : Int64)), .second, .val (.int (0 : Int32)), .val (.ref t0), .val (.int u0)]) rfl ?_
    show Steps p.tables e below (T8.setTop (mkF m 44 #[.val (.ref ob), .val (.ref aB), .val (.long (0 : Int64)), .second, .val (.int (0 : Int32)), .val (.ref t0), .val (.int u0)] [])) _
    refine st11 _ ?_
    show Steps p.tables e below (T11.setTop (mkF m 72 #[.val (.ref ob), .val (.ref aB), .val (.long (own_dn 6 u0 f0 (0 : Int64))), .second, .val (.int (0 : Int32)), .val (.ref t0), .val (.int (own_dnEnd 6 u0))] [])) _
    refine XS.iinc X11.here hx rfl (hb hby own_d5_72) rfl (l' := #[.val (.ref ob), .val (.ref aB), .val (.long (own_dn 6 u0 f0 (0 : Int64))), .second, .val (.int (1 : Int32)), .val (.ref t0), .val (.int (own_dnEnd 6 u0))]) rfl ?_
    show Steps p.tables e below (T11.setTop (mkF m 75 #[.val (.ref ob), .val (.ref aB), .val (.long (own_dn 6 u0 f0 (0 : Int64))), .second, .val (.int (1 : Int32)), .val (.ref t0), .val (.int (own_dnEnd 6 u0))] [])) _
    refine XS.goto X11.here hx rfl (pc0 := 75) (pc' := 5) rfl (hb hby own_d5_75) (by decide) (by decide) ?_
    show Steps p.tables e below (T11.setTop (mkF m 5 #[.val (.ref ob), .val (.ref aB), .val (.long (own_dn 6 u0 f0 (0 : Int64))), .second, .val (.int (1 : Int32)), .val (.ref t0), .val (.int (own_dnEnd 6 u0))] [])) _
    refine XS.iload X11.here hx rfl (hb hby own_d5_5) rfl ?_
    show Steps p.tables e below (T11.setTop (mkF m 7 #[.val (.ref ob), .val (.ref aB), .val (.long (own_dn 6 u0 f0 (0 : Int64))), .second, .val (.int (1 : Int32)), .val (.ref t0), .val (.int (own_dnEnd 6 u0))] [(.int (1 : Int32))])) _
    refine XS.aloadN X11.here hx rfl (hb hby own_d5_7) rfl rfl ?_
    show Steps p.tables e below (T11.setTop (mkF m 8 #[.val (.ref ob), .val (.ref aB), .val (.long (own_dn 6 u0 f0 (0 : Int64))), .second, .val (.int (1 : Int32)), .val (.ref t0), .val (.int (own_dnEnd 6 u0))] [(.ref ob), (.int (1 : Int32))])) _
    refine st12 _ ?_
    show Steps p.tables e below (T12.setTop (mkF m 11 #[.val (.ref ob), .val (.ref aB), .val (.long (own_dn 6 u0 f0 (0 : Int64))), .second, .val (.int (1 : Int32)), .val (.ref t0), .val (.int (own_dnEnd 6 u0))] [(.ref tT), (.int (1 : Int32))])) _
    refine X12.arraylength hx (by rw [e12]; exact Ar2.1) (State.isArrayOf_alike hZ.alike Ar2.2.1) (g := (mkF m 11 #[.val (.ref ob), .val (.ref aB), .val (.long (own_dn 6 u0 f0 (0 : Int64))), .second, .val (.int (1 : Int32)), .val (.ref t0), .val (.int (own_dnEnd 6 u0))] [(.ref tT), (.int (1 : Int32))])) rfl rfl (hb hby own_d5_11) _ ?_
    rw [len_of Sz2 Nn2]
    show Steps p.tables e below (T12.setTop (mkF m 12 #[.val (.ref ob), .val (.ref aB), .val (.long (own_dn 6 u0 f0 (0 : Int64))), .second, .val (.int (1 : Int32)), .val (.ref t0), .val (.int (own_dnEnd 6 u0))] [(.int (2 : Int32)), (.int (1 : Int32))])) _
    refine XS.icmpNo X12.here hx rfl (hb hby own_d5_12) rfl (by decide) ?_
    show Steps p.tables e below (T12.setTop (mkF m 15 #[.val (.ref ob), .val (.ref aB), .val (.long (own_dn 6 u0 f0 (0 : Int64))), .second, .val (.int (1 : Int32)), .val (.ref t0), .val (.int (own_dnEnd 6 u0))] [])) _
    refine XS.aloadN X12.here hx rfl (hb hby own_d5_15) rfl rfl ?_
    show Steps p.tables e below (T12.setTop (mkF m 16 #[.val (.ref ob), .val (.ref aB), .val (.long (own_dn 6 u0 f0 (0 : Int64))), .second, .val (.int (1 : Int32)), .val (.ref t0), .val (.int (own_dnEnd 6 u0))] [(.ref aB)])) _
    refine XS.iload X12.here hx rfl (hb hby own_d5_16) rfl ?_
    show Steps p.tables e below (T12.setTop (mkF m 18 #[.val (.ref ob), .val (.ref aB), .val (.long (own_dn 6 u0 f0 (0 : Int64))), .second, .val (.int (1 : Int32)), .val (.ref t0), .val (.int (own_dnEnd 6 u0))] [(.int (1 : Int32)), (.ref aB)])) _
    refine X12.iaload hx (j := (1 : Int32)) (v := (.int u1)) (by rw [e12]; exact Ar3.1) (State.isArrayOf_alike hZ.alike Ar3.2.1) Ar3.2.2 hin13 hat13 (g := (mkF m 18 #[.val (.ref ob), .val (.ref aB), .val (.long (own_dn 6 u0 f0 (0 : Int64))), .second, .val (.int (1 : Int32)), .val (.ref t0), .val (.int (own_dnEnd 6 u0))] [(.int (1 : Int32)), (.ref aB)])) rfl rfl (hb hby own_d5_18) _ ?_
    show Steps p.tables e below (T12.setTop (mkF m 19 #[.val (.ref ob), .val (.ref aB), .val (.long (own_dn 6 u0 f0 (0 : Int64))), .second, .val (.int (1 : Int32)), .val (.ref t0), .val (.int (own_dnEnd 6 u0))] [(.int u1)])) _
    refine XS.aloadN X12.here hx rfl (hb hby own_d5_19) rfl rfl ?_
    show Steps p.tables e below (T12.setTop (mkF m 20 #[.val (.ref ob), .val (.ref aB), .val (.long (own_dn 6 u0 f0 (0 : Int64))), .second, .val (.int (1 : Int32)), .val (.ref t0), .val (.int (own_dnEnd 6 u0))] [(.ref ob), (.int u1)])) _
    refine st14 _ ?_
    show Steps p.tables e below (T14.setTop (mkF m 23 #[.val (.ref ob), .val (.ref aB), .val (.long (own_dn 6 u0 f0 (0 : Int64))), .second, .val (.int (1 : Int32)), .val (.ref t0), .val (.int (own_dnEnd 6 u0))] [(.ref tL), (.int u1)])) _
    refine XS.iload X14.here hx rfl (hb hby own_d5_23) rfl ?_
    show Steps p.tables e below (T14.setTop (mkF m 25 #[.val (.ref ob), .val (.ref aB), .val (.long (own_dn 6 u0 f0 (0 : Int64))), .second, .val (.int (1 : Int32)), .val (.ref t0), .val (.int (own_dnEnd 6 u0))] [(.int (1 : Int32)), (.ref tL), (.int u1)])) _
    refine X14.iaload hx (j := (1 : Int32)) (v := (.int x1)) (by rw [e14]; exact Ar6.1) (State.isArrayOf_alike hZ.alike Ar6.2.1) Ar6.2.2 hin15 hat15 (g := (mkF m 25 #[.val (.ref ob), .val (.ref aB), .val (.long (own_dn 6 u0 f0 (0 : Int64))), .second, .val (.int (1 : Int32)), .val (.ref t0), .val (.int (own_dnEnd 6 u0))] [(.int (1 : Int32)), (.ref tL), (.int u1)])) rfl rfl (hb hby own_d5_25) _ ?_
    show Steps p.tables e below (T14.setTop (mkF m 26 #[.val (.ref ob), .val (.ref aB), .val (.long (own_dn 6 u0 f0 (0 : Int64))), .second, .val (.int (1 : Int32)), .val (.ref t0), .val (.int (own_dnEnd 6 u0))] [(.int x1), (.int u1)])) _
    refine XS.icmpYes X14.here hx rfl (pc0 := 26) (pc' := 72) rfl (hb hby own_d5_26) rfl (flt (h1_ : ¬ (x1 < u1))).2.2.2 (by decide) (by decide) ?_
    show Steps p.tables e below (T14.setTop (mkF m 72 #[.val (.ref ob), .val (.ref aB), .val (.long (own_dn 6 u0 f0 (0 : Int64))), .second, .val (.int (1 : Int32)), .val (.ref t0), .val (.int (own_dnEnd 6 u0))] [])) _
    refine XS.iinc X14.here hx rfl (hb hby own_d5_72) rfl (l' := #[.val (.ref ob), .val (.ref aB), .val (.long (own_dn 6 u0 f0 (0 : Int64))), .second, .val (.int (2 : Int32)), .val (.ref t0), .val (.int (own_dnEnd 6 u0))]) rfl ?_
    show Steps p.tables e below (T14.setTop (mkF m 75 #[.val (.ref ob), .val (.ref aB), .val (.long (own_dn 6 u0 f0 (0 : Int64))), .second, .val (.int (2 : Int32)), .val (.ref t0), .val (.int (own_dnEnd 6 u0))] [])) _
    refine XS.goto X14.here hx rfl (pc0 := 75) (pc' := 5) rfl (hb hby own_d5_75) (by decide) (by decide) ?_
    show Steps p.tables e below (T14.setTop (mkF m 5 #[.val (.ref ob), .val (.ref aB), .val (.long (own_dn 6 u0 f0 (0 : Int64))), .second, .val (.int (2 : Int32)), .val (.ref t0), .val (.int (own_dnEnd 6 u0))] [])) _
    refine XS.iload X14.here hx rfl (hb hby own_d5_5) rfl ?_
    show Steps p.tables e below (T14.setTop (mkF m 7 #[.val (.ref ob), .val (.ref aB), .val (.long (own_dn 6 u0 f0 (0 : Int64))), .second, .val (.int (2 : Int32)), .val (.ref t0), .val (.int (own_dnEnd 6 u0))] [(.int (2 : Int32))])) _
    refine XS.aloadN X14.here hx rfl (hb hby own_d5_7) rfl rfl ?_
    show Steps p.tables e below (T14.setTop (mkF m 8 #[.val (.ref ob), .val (.ref aB), .val (.long (own_dn 6 u0 f0 (0 : Int64))), .second, .val (.int (2 : Int32)), .val (.ref t0), .val (.int (own_dnEnd 6 u0))] [(.ref ob), (.int (2 : Int32))])) _
    refine st16 _ ?_
    show Steps p.tables e below (T16.setTop (mkF m 11 #[.val (.ref ob), .val (.ref aB), .val (.long (own_dn 6 u0 f0 (0 : Int64))), .second, .val (.int (2 : Int32)), .val (.ref t0), .val (.int (own_dnEnd 6 u0))] [(.ref tT), (.int (2 : Int32))])) _
    refine X16.arraylength hx (by rw [e16]; exact Ar2.1) (State.isArrayOf_alike hZ.alike Ar2.2.1) (g := (mkF m 11 #[.val (.ref ob), .val (.ref aB), .val (.long (own_dn 6 u0 f0 (0 : Int64))), .second, .val (.int (2 : Int32)), .val (.ref t0), .val (.int (own_dnEnd 6 u0))] [(.ref tT), (.int (2 : Int32))])) rfl rfl (hb hby own_d5_11) _ ?_
    rw [len_of Sz2 Nn2]
    show Steps p.tables e below (T16.setTop (mkF m 12 #[.val (.ref ob), .val (.ref aB), .val (.long (own_dn 6 u0 f0 (0 : Int64))), .second, .val (.int (2 : Int32)), .val (.ref t0), .val (.int (own_dnEnd 6 u0))] [(.int (2 : Int32)), (.int (2 : Int32))])) _
    refine XS.icmpYes X16.here hx rfl (pc0 := 12) (pc' := 78) rfl (hb hby own_d5_12) rfl (by decide) (by decide) (by decide) ?_
    show Steps p.tables e below (T16.setTop (mkF m 78 #[.val (.ref ob), .val (.ref aB), .val (.long (own_dn 6 u0 f0 (0 : Int64))), .second, .val (.int (2 : Int32)), .val (.ref t0), .val (.int (own_dnEnd 6 u0))] [])) _
    refine XS.lloadN X16.here hx rfl (hb hby own_d5_78) rfl ?_
    show Steps p.tables e below (T16.setTop (mkF m 79 #[.val (.ref ob), .val (.ref aB), .val (.long (own_dn 6 u0 f0 (0 : Int64))), .second, .val (.int (2 : Int32)), .val (.ref t0), .val (.int (own_dnEnd 6 u0))] [(.long (own_dn 6 u0 f0 (0 : Int64)))])) _
    jvm_step X16.here [X16.here.top, hx, (hb hby own_d5_79), X16.method', Bd.returns, narrow]
    first | (intro acts; rw [hr _ acts rfl rfl rfl]) | rw [hr _ _ rfl rfl rfl]
    exact Steps.refl _
  · show OwnQ _ h0 n0 _ T16.heap _
    exact ⟨rfl, N0, e16⟩
set_option maxRecDepth 65536 in
set_option maxHeartbeats 40000000 in
theorem own_cb_11 (l : Launch) (Z : State) (a0 : Array Value) (hw : ∀ d ∈ tables_1, d.before a0 Z = true) (ws : List Jvm.Cond) (h0 : Heap) (n0 : Nat) (O0 : Old Z n0 h0) (ob : Addr) (aB : Addr) (tT : Addr) (tL : Addr) (t0 : Addr) (t1 : Addr) (kT : ClassId) (kL : ClassId) (kB : ClassId) (u0 : Int32) (u1 : Int32) (x0 : Int32) (x1 : Int32) (z0 : Int32) (z1 : Int32) (f0 : Nat → Int32) (f1 : Nat → Int32) (ok0 : own_dnOk z0 6 u0 = true) (ok1 : own_dnOk z1 6 u1 = true) (h0_ : x0 < u0) (h1_ : x1 < u1) (fE : Exa Z h0 ob "com/example/sober_broadcast/soberbroadcast/cli/PositionCounts") (fT : Fld Z h0 ob "com/example/sober_broadcast/soberbroadcast/cli/PositionCounts" "trees" "[[I" (.ref tT)) (fL : Fld Z h0 ob "com/example/sober_broadcast/soberbroadcast/cli/PositionCounts" "lowest" "[I" (.ref tL)) (vT : Arv Z h0 tT kT (.array .int) (2 : Int32) [(.ref t0), (.ref t1)] .null) (vL : Arv Z h0 tL kL .int (2 : Int32) [(.int x0), (.int x1)] (.int (0 : Int32))) (aa0 : OwnA Z h0 t0 z0 f0) (aa1 : OwnA Z h0 t1 z1 f1) (vB : Arv Z h0 aB kB .int (2 : Int32) [(.int u0), (.int u1)] (.int (0 : Int32))) :
    MetFree l (⟨"com/example/sober_broadcast/soberbroadcast/cli/PositionCounts", "countBelow", "([I)J"⟩ : MethodName) (head1 (Jvm.Cond.code (⟨"com/example/sober_broadcast/soberbroadcast/cli/PositionCounts", "countBelow", "([I)J"⟩ : MethodName) prog_25_method_3_code 7 (some .long) :: ws) ({ frames := 0, cells := 0, slots := 0, locals := 0 } : Room)) (fun a U => a = #[(.ref ob), (.ref aB)] ∧ Z.Warmed39 U.vm ∧ U.heap = h0) (fun _ _ _ _ _ => True) (fun _ U o U' => ∃ v L, o = .returned v ∧ OwnQ (some (.long (own_dn 6 u1 f1 (own_dn 6 u0 f0 (0 : Int64))))) h0 n0 v U'.heap L ∧ FrameEnd U o U' L ({ frames := 0, cells := 0, slots := 0, locals := 0 } : Room).cells ({ frames := 0, cells := 0, slots := 0, locals := 0 } : Room).slots) := by
  refine MetFree.of_bodySF (plainFor_of_name own_pn_5) hisR ?_
  intro p e s m args below meth c s₁ Bd hml0 hP hK
  obtain ⟨rfl, hZ, hh⟩ := hP
  have hx := Bd.exec
  have hby := Bd.bytes
  have hml : c.maxLocals = 7 := hml0
  have hown : s.vm.findClass "com/example/sober_broadcast/soberbroadcast/cli/PositionCounts" = some m.cls := findClass_of_methodNamed Bd.named
  have hnm := (name_of_methodNamed Bd.named Bd.method).1
  have X0 : Stand p l e ({ frames := 0, cells := 0, slots := 0, locals := 0 } : Room) s m #[(.ref ob), (.ref aB)] below meth c s₁ [] 0 0 := Stand.of_body Bd
  have e0 : s₁.heap = h0 := by rw [← hh, Bd.state]; rfl
  have N0 := Fr.nil n0
  have pre0 : ∀ t, Steps p.tables e below (s₁.setTop (mkF m 0 #[.val (.ref ob), .val (.ref aB), .unset, .unset, .unset, .unset, .unset] [])) t → Steps p.tables e below (s₁.setTop (entryFrame m #[(.ref ob), (.ref aB)] 7)) t := fun t k => castTop (own_ef_5_RR m ob aB) k
  obtain ⟨T1, X1, e1, st1⟩ := getF X0 hx hZ hown (host := "") (Or.inl (hw _ (List.mem_of_getElem? (i := 13) rfl))) Via.refl e0 fT (g := (mkF m 8 #[.val (.ref ob), .val (.ref aB), .val (.long (0 : Int64)), .second, .val (.int (0 : Int32)), .unset, .unset] [(.ref ob), (.int (0 : Int32))])) rfl rfl (hb hby own_d5_8)
  obtain ⟨cl2, Ar2, qk2, Sz2, Nn2, Hs2, Gs2⟩ := id (vT)
  obtain ⟨cl3, Ar3, qk3, Sz3, Nn3, Hs3, Gs3⟩ := id (vB)
  have hin4 : ¬ ((0 : Int32) < 0 ∨ cl3.slots.size ≤ ((0 : Int32)).toNatClampNeg) := inb_of Sz3 ⟨by decide, by decide⟩
  have hat4 : cl3.slots[((0 : Int32)).toNatClampNeg]? = some (.int u0) := Hs3.at hin4 rfl
  obtain ⟨T5, X5, e5, st5⟩ := getF X1 hx hZ hown (host := "") (Or.inl (hw _ (List.mem_of_getElem? (i := 16) rfl))) Via.refl e1 fL (g := (mkF m 20 #[.val (.ref ob), .val (.ref aB), .val (.long (0 : Int64)), .second, .val (.int (0 : Int32)), .unset, .unset] [(.ref ob), (.int u0)])) rfl rfl (hb hby own_d5_20)
  obtain ⟨cl6, Ar6, qk6, Sz6, Nn6, Hs6, Gs6⟩ := id (vL)
  have hin7 : ¬ ((0 : Int32) < 0 ∨ cl6.slots.size ≤ ((0 : Int32)).toNatClampNeg) := inb_of Sz6 ⟨by decide, by decide⟩
  have hat7 : cl6.slots[((0 : Int32)).toNatClampNeg]? = some (.int x0) := Hs6.at hin7 rfl
  obtain ⟨T8, X8, e8, st8⟩ := getF X5 hx hZ hown (host := "") (Or.inl (hw _ (List.mem_of_getElem? (i := 13) rfl))) Via.refl e5 fT (g := (mkF m 30 #[.val (.ref ob), .val (.ref aB), .val (.long (0 : Int64)), .second, .val (.int (0 : Int32)), .unset, .unset] [(.ref ob)])) rfl rfl (hb hby own_d5_30)
  have hin9 : ¬ ((0 : Int32) < 0 ∨ cl2.slots.size ≤ ((0 : Int32)).toNatClampNeg) := inb_of Sz2 ⟨by decide, by decide⟩
  have hat9 : cl2.slots[((0 : Int32)).toNatClampNeg]? = some (.ref t0) := Hs2.at hin9 rfl
  have hin10 : ¬ ((0 : Int32) < 0 ∨ cl3.slots.size ≤ ((0 : Int32)).toNatClampNeg) := inb_of Sz3 ⟨by decide, by decide⟩
  have hat10 : cl3.slots[((0 : Int32)).toNatClampNeg]? = some (.int u0) := Hs3.at hin10 rfl
  obtain ⟨T11, X11, e11, st11⟩ := own_cb_loop ob aB (0 : Int32) t0 z0 f0 hx hZ hw hby hml hown N0 O0 aa0 6 u0 (0 : Int64) _ ok0 X8 e8
  obtain ⟨T12, X12, e12, st12⟩ := getF X11 hx hZ hown (host := "") (Or.inl (hw _ (List.mem_of_getElem? (i := 13) rfl))) Via.refl e11 fT (g := (mkF m 8 #[.val (.ref ob), .val (.ref aB), .val (.long (own_dn 6 u0 f0 (0 : Int64))), .second, .val (.int (1 : Int32)), .val (.ref t0), .val (.int (own_dnEnd 6 u0))] [(.ref ob), (.int (1 : Int32))])) rfl rfl (hb hby own_d5_8)
  have hin13 : ¬ ((1 : Int32) < 0 ∨ cl3.slots.size ≤ ((1 : Int32)).toNatClampNeg) := inb_of Sz3 ⟨by decide, by decide⟩
  have hat13 : cl3.slots[((1 : Int32)).toNatClampNeg]? = some (.int u1) := Hs3.at hin13 rfl
  obtain ⟨T14, X14, e14, st14⟩ := getF X12 hx hZ hown (host := "") (Or.inl (hw _ (List.mem_of_getElem? (i := 16) rfl))) Via.refl e12 fL (g := (mkF m 20 #[.val (.ref ob), .val (.ref aB), .val (.long (own_dn 6 u0 f0 (0 : Int64))), .second, .val (.int (1 : Int32)), .val (.ref t0), .val (.int (own_dnEnd 6 u0))] [(.ref ob), (.int u1)])) rfl rfl (hb hby own_d5_20)
  have hin15 : ¬ ((1 : Int32) < 0 ∨ cl6.slots.size ≤ ((1 : Int32)).toNatClampNeg) := inb_of Sz6 ⟨by decide, by decide⟩
  have hat15 : cl6.slots[((1 : Int32)).toNatClampNeg]? = some (.int x1) := Hs6.at hin15 rfl
  obtain ⟨T16, X16, e16, st16⟩ := getF X14 hx hZ hown (host := "") (Or.inl (hw _ (List.mem_of_getElem? (i := 13) rfl))) Via.refl e14 fT (g := (mkF m 30 #[.val (.ref ob), .val (.ref aB), .val (.long (own_dn 6 u0 f0 (0 : Int64))), .second, .val (.int (1 : Int32)), .val (.ref t0), .val (.int (own_dnEnd 6 u0))] [(.ref ob)])) rfl rfl (hb hby own_d5_30)
  have hin17 : ¬ ((1 : Int32) < 0 ∨ cl2.slots.size ≤ ((1 : Int32)).toNatClampNeg) := inb_of Sz2 ⟨by decide, by decide⟩
  have hat17 : cl2.slots[((1 : Int32)).toNatClampNeg]? = some (.ref t1) := Hs2.at hin17 rfl
  have hin18 : ¬ ((1 : Int32) < 0 ∨ cl3.slots.size ≤ ((1 : Int32)).toNatClampNeg) := inb_of Sz3 ⟨by decide, by decide⟩
  have hat18 : cl3.slots[((1 : Int32)).toNatClampNeg]? = some (.int u1) := Hs3.at hin18 rfl
  obtain ⟨T19, X19, e19, st19⟩ := own_cb_loop ob aB (1 : Int32) t1 z1 f1 hx hZ hw hby hml hown N0 O0 aa1 6 u1 (own_dn 6 u0 f0 (0 : Int64)) _ ok1 X16 e16
  obtain ⟨T20, X20, e20, st20⟩ := getF X19 hx hZ hown (host := "") (Or.inl (hw _ (List.mem_of_getElem? (i := 13) rfl))) Via.refl e19 fT (g := (mkF m 8 #[.val (.ref ob), .val (.ref aB), .val (.long (own_dn 6 u1 f1 (own_dn 6 u0 f0 (0 : Int64)))), .second, .val (.int (2 : Int32)), .val (.ref t1), .val (.int (own_dnEnd 6 u1))] [(.ref ob), (.int (2 : Int32))])) rfl rfl (hb hby own_d5_8)
  obtain ⟨fs, hr, hrun, hended, hW, hsame⟩ := X20.leave (v := some (.long (own_dn 6 u1 f1 (own_dn 6 u0 f0 (0 : Int64))))) (fun h => by rw [Bd.returns] at h; cases h)
  refine ⟨_, _, pre0 _ ?_, hrun, hended, _, _, rfl, ?_, ⟨_, rfl⟩, hW, hsame.mono (by decide) (by decide)⟩
  · show Steps p.tables e below (s₁.setTop (mkF m 0 #[.val (.ref ob), .val (.ref aB), .unset, .unset, .unset, .unset, .unset] [])) _
    refine XS.lconst X0.here hx rfl (hb hby own_d5_0) ?_
    show Steps p.tables e below (s₁.setTop (mkF m 1 #[.val (.ref ob), .val (.ref aB), .unset, .unset, .unset, .unset, .unset] [(.long (0 : Int64))])) _
    refine XS.lstoreN X0.here hx rfl (hb hby own_d5_1) rfl (l' := #[.val (.ref ob), .val (.ref aB), .val (.long (0 : Int64)), .second, .unset, .unset, .unset]) rfl ?_
    show Steps p.tables e below (s₁.setTop (mkF m 2 #[.val (.ref ob), .val (.ref aB), .val (.long (0 : Int64)), .second, .unset, .unset, .unset] [])) _
    refine XS.iconst X0.here hx rfl (hb hby own_d5_2) ?_
    show Steps p.tables e below (s₁.setTop (mkF m 3 #[.val (.ref ob), .val (.ref aB), .val (.long (0 : Int64)), .second, .unset, .unset, .unset] [(.int (0 : Int32))])) _
    refine XS.istore X0.here hx rfl (hb hby own_d5_3) rfl (l' := #[.val (.ref ob), .val (.ref aB), .val (.long (0 : Int64)), .second, .val (.int (0 : Int32)), .unset, .unset]) rfl ?_
    show Steps p.tables e below (s₁.setTop (mkF m 5 #[.val (.ref ob), .val (.ref aB), .val (.long (0 : Int64)), .second, .val (.int (0 : Int32)), .unset, .unset] [])) _
    refine XS.iload X0.here hx rfl (hb hby own_d5_5) rfl ?_
    show Steps p.tables e below (s₁.setTop (mkF m 7 #[.val (.ref ob), .val (.ref aB), .val (.long (0 : Int64)), .second, .val (.int (0 : Int32)), .unset, .unset] [(.int (0 : Int32))])) _
    refine XS.aloadN X0.here hx rfl (hb hby own_d5_7) rfl rfl ?_
    show Steps p.tables e below (s₁.setTop (mkF m 8 #[.val (.ref ob), .val (.ref aB), .val (.long (0 : Int64)), .second, .val (.int (0 : Int32)), .unset, .unset] [(.ref ob), (.int (0 : Int32))])) _
    refine st1 _ ?_
    show Steps p.tables e below (T1.setTop (mkF m 11 #[.val (.ref ob), .val (.ref aB), .val (.long (0 : Int64)), .second, .val (.int (0 : Int32)), .unset, .unset] [(.ref tT), (.int (0 : Int32))])) _
    refine X1.arraylength hx (by rw [e1]; exact Ar2.1) (State.isArrayOf_alike hZ.alike Ar2.2.1) (g := (mkF m 11 #[.val (.ref ob), .val (.ref aB), .val (.long (0 : Int64)), .second, .val (.int (0 : Int32)), .unset, .unset] [(.ref tT), (.int (0 : Int32))])) rfl rfl (hb hby own_d5_11) _ ?_
    rw [len_of Sz2 Nn2]
    show Steps p.tables e below (T1.setTop (mkF m 12 #[.val (.ref ob), .val (.ref aB), .val (.long (0 : Int64)), .second, .val (.int (0 : Int32)), .unset, .unset] [(.int (2 : Int32)), (.int (0 : Int32))])) _
    refine XS.icmpNo X1.here hx rfl (hb hby own_d5_12) rfl (by decide) ?_
    show Steps p.tables e below (T1.setTop (mkF m 15 #[.val (.ref ob), .val (.ref aB), .val (.long (0 : Int64)), .second, .val (.int (0 : Int32)), .unset, .unset] [])) _
    refine XS.aloadN X1.here hx rfl (hb hby own_d5_15) rfl rfl ?_
    show Steps p.tables e below (T1.setTop (mkF m 16 #[.val (.ref ob), .val (.ref aB), .val (.long (0 : Int64)), .second, .val (.int (0 : Int32)), .unset, .unset] [(.ref aB)])) _
    refine XS.iload X1.here hx rfl (hb hby own_d5_16) rfl ?_
    show Steps p.tables e below (T1.setTop (mkF m 18 #[.val (.ref ob), .val (.ref aB), .val (.long (0 : Int64)), .second, .val (.int (0 : Int32)), .unset, .unset] [(.int (0 : Int32)), (.ref aB)])) _
    refine X1.iaload hx (j := (0 : Int32)) (v := (.int u0)) (by rw [e1]; exact Ar3.1) (State.isArrayOf_alike hZ.alike Ar3.2.1) Ar3.2.2 hin4 hat4 (g := (mkF m 18 #[.val (.ref ob), .val (.ref aB), .val (.long (0 : Int64)), .second, .val (.int (0 : Int32)), .unset, .unset] [(.int (0 : Int32)), (.ref aB)])) rfl rfl (hb hby own_d5_18) _ ?_
    show Steps p.tables e below (T1.setTop (mkF m 19 #[.val (.ref ob), .val (.ref aB), .val (.long (0 : Int64)), .second, .val (.int (0 : Int32)), .unset, .unset] [(.int u0)])) _
    refine XS.aloadN X1.here hx rfl (hb hby own_d5_19) rfl rfl ?_
    show Steps p.tables e below (T1.setTop (mkF m 20 #[.val (.ref ob), .val (.ref aB), .val (.long (0 : Int64)), .second, .val (.int (0 : Int32)), .unset, .unset] [(.ref ob), (.int u0)])) _
    refine st5 _ ?_
    show Steps p.tables e below (T5.setTop (mkF m 23 #[.val (.ref ob), .val (.ref aB), .val (.long (0 : Int64)), .second, .val (.int (0 : Int32)), .unset, .unset] [(.ref tL), (.int u0)])) _
    refine XS.iload X5.here hx rfl (hb hby own_d5_23) rfl ?_
    show Steps p.tables e below (T5.setTop (mkF m 25 #[.val (.ref ob), .val (.ref aB), .val (.long (0 : Int64)), .second, .val (.int (0 : Int32)), .unset, .unset] [(.int (0 : Int32)), (.ref tL), (.int u0)])) _
    refine X5.iaload hx (j := (0 : Int32)) (v := (.int x0)) (by rw [e5]; exact Ar6.1) (State.isArrayOf_alike hZ.alike Ar6.2.1) Ar6.2.2 hin7 hat7 (g := (mkF m 25 #[.val (.ref ob), .val (.ref aB), .val (.long (0 : Int64)), .second, .val (.int (0 : Int32)), .unset, .unset] [(.int (0 : Int32)), (.ref tL), (.int u0)])) rfl rfl (hb hby own_d5_25) _ ?_
    show Steps p.tables e below (T5.setTop (mkF m 26 #[.val (.ref ob), .val (.ref aB), .val (.long (0 : Int64)), .second, .val (.int (0 : Int32)), .unset, .unset] [(.int x0), (.int u0)])) _
    refine XS.icmpNo X5.here hx rfl (hb hby own_d5_26) rfl (tlt (h0_ : x0 < u0)).2.2.2 ?_
    show Steps p.tables e below (T5.setTop (mkF m 29 #[.val (.ref ob), .val (.ref aB), .val (.long (0 : Int64)), .second, .val (.int (0 : Int32)), .unset, .unset] [])) _
    refine XS.aloadN X5.here hx rfl (hb hby own_d5_29) rfl rfl ?_
    show Steps p.tables e below (T5.setTop (mkF m 30 #[.val (.ref ob), .val (.ref aB), .val (.long (0 : Int64)), .second, .val (.int (0 : Int32)), .unset, .unset] [(.ref ob)])) _
    refine st8 _ ?_
    show Steps p.tables e below (T8.setTop (mkF m 33 #[.val (.ref ob), .val (.ref aB), .val (.long (0 : Int64)), .second, .val (.int (0 : Int32)), .unset, .unset] [(.ref tT)])) _
    refine XS.iload X8.here hx rfl (hb hby own_d5_33) rfl ?_
    show Steps p.tables e below (T8.setTop (mkF m 35 #[.val (.ref ob), .val (.ref aB), .val (.long (0 : Int64)), .second, .val (.int (0 : Int32)), .unset, .unset] [(.int (0 : Int32)), (.ref tT)])) _
    refine X8.aaload hx (j := (0 : Int32)) (v := (.ref t0)) (by rw [e8]; exact Ar2.1) (State.isArrayOf_alike hZ.alike Ar2.2.1) rfl Ar2.2.2 hin9 hat9 (g := (mkF m 35 #[.val (.ref ob), .val (.ref aB), .val (.long (0 : Int64)), .second, .val (.int (0 : Int32)), .unset, .unset] [(.int (0 : Int32)), (.ref tT)])) rfl rfl (hb hby own_d5_35) _ ?_
    show Steps p.tables e below (T8.setTop (mkF m 36 #[.val (.ref ob), .val (.ref aB), .val (.long (0 : Int64)), .second, .val (.int (0 : Int32)), .unset, .unset] [(.ref t0)])) _
    refine XS.astore X8.here hx rfl (hb hby own_d5_36) rfl rfl (l' := #[.val (.ref ob), .val (.ref aB), .val (.long (0 : Int64)), .second, .val (.int (0 : Int32)), .val (.ref t0), .unset]) rfl ?_
    show Steps p.tables e below (T8.setTop (mkF m 38 #[.val (.ref ob), .val (.ref aB), .val (.long (0 : Int64)), .second, .val (.int (0 : Int32)), .val (.ref t0), .unset] [])) _
    refine XS.aloadN X8.here hx rfl (hb hby own_d5_38) rfl rfl ?_
    show Steps p.tables e below (T8.setTop (mkF m 39 #[.val (.ref ob), .val (.ref aB), .val (.long (0 : Int64)), .second, .val (.int (0 : Int32)), .val (.ref t0), .unset] [(.ref aB)])) _
    refine XS.iload X8.here hx rfl (hb hby own_d5_39) rfl ?_
    show Steps p.tables e below (T8.setTop (mkF m 41 #[.val (.ref ob), .val (.ref aB), .val (.long (0 : Int64)), .second, .val (.int (0 : Int32)), .val (.ref t0), .unset] [(.int (0 : Int32)), (.ref aB)])) _
    refine X8.iaload hx (j := (0 : Int32)) (v := (.int u0)) (by rw [e8]; exact Ar3.1) (State.isArrayOf_alike hZ.alike Ar3.2.1) Ar3.2.2 hin10 hat10 (g := (mkF m 41 #[.val (.ref ob), .val (.ref aB), .val (.long (0 : Int64)), .second, .val (.int (0 : Int32)), .val (.ref t0), .unset] [(.int (0 : Int32)), (.ref aB)])) rfl rfl (hb hby own_d5_41) _ ?_
    show Steps p.tables e below (T8.setTop (mkF m 42 #[.val (.ref ob), .val (.ref aB), .val (.long (0 : Int64)), .second, .val (.int (0 : Int32)), .val (.ref t0), .unset] [(.int u0)])) _
    refine XS.istore X8.here hx rfl (hb hby own_d5_42) rfl (l' := #[.val (.ref ob), .val (.ref aB), .val (.long (0 : Int64)), .second, .val (.int (0 : Int32)), .val (.ref t0), .val (.int u0)]) rfl ?_
    show Steps p.tables e below (T8.setTop (mkF m 44 #[.val (.ref ob), .val (.ref aB), .val (.long (0 : Int64)), .second, .val (.int (0 : Int32)), .val (.ref t0), .val (.int u0)] [])) _
    refine st11 _ ?_
    show Steps p.tables e below (T11.setTop (mkF m 72 #[.val (.ref ob), .val (.ref aB), .val (.long (own_dn 6 u0 f0 (0 : Int64))), .second, .val (.int (0 : Int32)), .val (.ref t0), .val (.int (own_dnEnd 6 u0))] [])) _
    refine XS.iinc X11.here hx rfl (hb hby own_d5_72) rfl (l' := #[.val (.ref ob), .val (.ref aB), .val (.long (own_dn 6 u0 f0 (0 : Int64))), .second, .val (.int (1 : Int32)), .val (.ref t0), .val (.int (own_dnEnd 6 u0))]) rfl ?_
    show Steps p.tables e below (T11.setTop (mkF m 75 #[.val (.ref ob), .val (.ref aB), .val (.long (own_dn 6 u0 f0 (0 : Int64))), .second, .val (.int (1 : Int32)), .val (.ref t0), .val (.int (own_dnEnd 6 u0))] [])) _
    refine XS.goto X11.here hx rfl (pc0 := 75) (pc' := 5) rfl (hb hby own_d5_75) (by decide) (by decide) ?_
    show Steps p.tables e below (T11.setTop (mkF m 5 #[.val (.ref ob), .val (.ref aB), .val (.long (own_dn 6 u0 f0 (0 : Int64))), .second, .val (.int (1 : Int32)), .val (.ref t0), .val (.int (own_dnEnd 6 u0))] [])) _
    refine XS.iload X11.here hx rfl (hb hby own_d5_5) rfl ?_
    show Steps p.tables e below (T11.setTop (mkF m 7 #[.val (.ref ob), .val (.ref aB), .val (.long (own_dn 6 u0 f0 (0 : Int64))), .second, .val (.int (1 : Int32)), .val (.ref t0), .val (.int (own_dnEnd 6 u0))] [(.int (1 : Int32))])) _
    refine XS.aloadN X11.here hx rfl (hb hby own_d5_7) rfl rfl ?_
    show Steps p.tables e below (T11.setTop (mkF m 8 #[.val (.ref ob), .val (.ref aB), .val (.long (own_dn 6 u0 f0 (0 : Int64))), .second, .val (.int (1 : Int32)), .val (.ref t0), .val (.int (own_dnEnd 6 u0))] [(.ref ob), (.int (1 : Int32))])) _
    refine st12 _ ?_
    show Steps p.tables e below (T12.setTop (mkF m 11 #[.val (.ref ob), .val (.ref aB), .val (.long (own_dn 6 u0 f0 (0 : Int64))), .second, .val (.int (1 : Int32)), .val (.ref t0), .val (.int (own_dnEnd 6 u0))] [(.ref tT), (.int (1 : Int32))])) _
    refine X12.arraylength hx (by rw [e12]; exact Ar2.1) (State.isArrayOf_alike hZ.alike Ar2.2.1) (g := (mkF m 11 #[.val (.ref ob), .val (.ref aB), .val (.long (own_dn 6 u0 f0 (0 : Int64))), .second, .val (.int (1 : Int32)), .val (.ref t0), .val (.int (own_dnEnd 6 u0))] [(.ref tT), (.int (1 : Int32))])) rfl rfl (hb hby own_d5_11) _ ?_
    rw [len_of Sz2 Nn2]
    show Steps p.tables e below (T12.setTop (mkF m 12 #[.val (.ref ob), .val (.ref aB), .val (.long (own_dn 6 u0 f0 (0 : Int64))), .second, .val (.int (1 : Int32)), .val (.ref t0), .val (.int (own_dnEnd 6 u0))] [(.int (2 : Int32)), (.int (1 : Int32))])) _
    refine XS.icmpNo X12.here hx rfl (hb hby own_d5_12) rfl (by decide) ?_
    show Steps p.tables e below (T12.setTop (mkF m 15 #[.val (.ref ob), .val (.ref aB), .val (.long (own_dn 6 u0 f0 (0 : Int64))), .second, .val (.int (1 : Int32)), .val (.ref t0), .val (.int (own_dnEnd 6 u0))] [])) _
    refine XS.aloadN X12.here hx rfl (hb hby own_d5_15) rfl rfl ?_
    show Steps p.tables e below (T12.setTop (mkF m 16 #[.val (.ref ob), .val (.ref aB), .val (.long (own_dn 6 u0 f0 (0 : Int64))), .second, .val (.int (1 : Int32)), .val (.ref t0), .val (.int (own_dnEnd 6 u0))] [(.ref aB)])) _
    refine XS.iload X12.here hx rfl (hb hby own_d5_16) rfl ?_
    show Steps p.tables e below (T12.setTop (mkF m 18 #[.val (.ref ob), .val (.ref aB), .val (.long (own_dn 6 u0 f0 (0 : Int64))), .second, .val (.int (1 : Int32)), .val (.ref t0), .val (.int (own_dnEnd 6 u0))] [(.int (1 : Int32)), (.ref aB)])) _
    refine X12.iaload hx (j := (1 : Int32)) (v := (.int u1)) (by rw [e12]; exact Ar3.1) (State.isArrayOf_alike hZ.alike Ar3.2.1) Ar3.2.2 hin13 hat13 (g := (mkF m 18 #[.val (.ref ob), .val (.ref aB), .val (.long (own_dn 6 u0 f0 (0 : Int64))), .second, .val (.int (1 : Int32)), .val (.ref t0), .val (.int (own_dnEnd 6 u0))] [(.int (1 : Int32)), (.ref aB)])) rfl rfl (hb hby own_d5_18) _ ?_
    show Steps p.tables e below (T12.setTop (mkF m 19 #[.val (.ref ob), .val (.ref aB), .val (.long (own_dn 6 u0 f0 (0 : Int64))), .second, .val (.int (1 : Int32)), .val (.ref t0), .val (.int (own_dnEnd 6 u0))] [(.int u1)])) _
    refine XS.aloadN X12.here hx rfl (hb hby own_d5_19) rfl rfl ?_
    show Steps p.tables e below (T12.setTop (mkF m 20 #[.val (.ref ob), .val (.ref aB), .val (.long (own_dn 6 u0 f0 (0 : Int64))), .second, .val (.int (1 : Int32)), .val (.ref t0), .val (.int (own_dnEnd 6 u0))] [(.ref ob), (.int u1)])) _
    refine st14 _ ?_
    show Steps p.tables e below (T14.setTop (mkF m 23 #[.val (.ref ob), .val (.ref aB), .val (.long (own_dn 6 u0 f0 (0 : Int64))), .second, .val (.int (1 : Int32)), .val (.ref t0), .val (.int (own_dnEnd 6 u0))] [(.ref tL), (.int u1)])) _
    refine XS.iload X14.here hx rfl (hb hby own_d5_23) rfl ?_
    show Steps p.tables e below (T14.setTop (mkF m 25 #[.val (.ref ob), .val (.ref aB), .val (.long (own_dn 6 u0 f0 (0 : Int64))), .second, .val (.int (1 : Int32)), .val (.ref t0), .val (.int (own_dnEnd 6 u0))] [(.int (1 : Int32)), (.ref tL), (.int u1)])) _
    refine X14.iaload hx (j := (1 : Int32)) (v := (.int x1)) (by rw [e14]; exact Ar6.1) (State.isArrayOf_alike hZ.alike Ar6.2.1) Ar6.2.2 hin15 hat15 (g := (mkF m 25 #[.val (.ref ob), .val (.ref aB), .val (.long (own_dn 6 u0 f0 (0 : Int64))), .second, .val (.int (1 : Int32)), .val (.ref t0), .val (.int (own_dnEnd 6 u0))] [(.int (1 : Int32)), (.ref tL), (.int u1)])) rfl rfl (hb hby own_d5_25) _ ?_
    show Steps p.tables e below (T14.setTop (mkF m 26 #[.val (.ref ob), .val (.ref aB), .val (.long (own_dn 6 u0 f0 (0 : Int64))), .second, .val (.int (1 : Int32)), .val (.ref t0), .val (.int (own_dnEnd 6 u0))] [(.int x1), (.int u1)])) _
    refine XS.icmpNo X14.here hx rfl (hb hby own_d5_26) rfl (tlt (h1_ : x1 < u1)).2.2.2 ?_
    show Steps p.tables e below (T14.setTop (mkF m 29 #[.val (.ref ob), .val (.ref aB), .val (.long (own_dn 6 u0 f0 (0 : Int64))), .second, .val (.int (1 : Int32)), .val (.ref t0), .val (.int (own_dnEnd 6 u0))] [])) _
    refine XS.aloadN X14.here hx rfl (hb hby own_d5_29) rfl rfl ?_
    show Steps p.tables e below (T14.setTop (mkF m 30 #[.val (.ref ob), .val (.ref aB), .val (.long (own_dn 6 u0 f0 (0 : Int64))), .second, .val (.int (1 : Int32)), .val (.ref t0), .val (.int (own_dnEnd 6 u0))] [(.ref ob)])) _
    refine st16 _ ?_
    show Steps p.tables e below (T16.setTop (mkF m 33 #[.val (.ref ob), .val (.ref aB), .val (.long (own_dn 6 u0 f0 (0 : Int64))), .second, .val (.int (1 : Int32)), .val (.ref t0), .val (.int (own_dnEnd 6 u0))] [(.ref tT)])) _
    refine XS.iload X16.here hx rfl (hb hby own_d5_33) rfl ?_
    show Steps p.tables e below (T16.setTop (mkF m 35 #[.val (.ref ob), .val (.ref aB), .val (.long (own_dn 6 u0 f0 (0 : Int64))), .second, .val (.int (1 : Int32)), .val (.ref t0), .val (.int (own_dnEnd 6 u0))] [(.int (1 : Int32)), (.ref tT)])) _
    refine X16.aaload hx (j := (1 : Int32)) (v := (.ref t1)) (by rw [e16]; exact Ar2.1) (State.isArrayOf_alike hZ.alike Ar2.2.1) rfl Ar2.2.2 hin17 hat17 (g := (mkF m 35 #[.val (.ref ob), .val (.ref aB), .val (.long (own_dn 6 u0 f0 (0 : Int64))), .second, .val (.int (1 : Int32)), .val (.ref t0), .val (.int (own_dnEnd 6 u0))] [(.int (1 : Int32)), (.ref tT)])) rfl rfl (hb hby own_d5_35) _ ?_
    show Steps p.tables e below (T16.setTop (mkF m 36 #[.val (.ref ob), .val (.ref aB), .val (.long (own_dn 6 u0 f0 (0 : Int64))), .second, .val (.int (1 : Int32)), .val (.ref t0), .val (.int (own_dnEnd 6 u0))] [(.ref t1)])) _
    refine XS.astore X16.here hx rfl (hb hby own_d5_36) rfl rfl (l' := #[.val (.ref ob), .val (.ref aB), .val (.long (own_dn 6 u0 f0 (0 : Int64))), .second, .val (.int (1 : Int32)), .val (.ref t1), .val (.int (own_dnEnd 6 u0))]) rfl ?_
    show Steps p.tables e below (T16.setTop (mkF m 38 #[.val (.ref ob), .val (.ref aB), .val (.long (own_dn 6 u0 f0 (0 : Int64))), .second, .val (.int (1 : Int32)), .val (.ref t1), .val (.int (own_dnEnd 6 u0))] [])) _
    refine XS.aloadN X16.here hx rfl (hb hby own_d5_38) rfl rfl ?_
    show Steps p.tables e below (T16.setTop (mkF m 39 #[.val (.ref ob), .val (.ref aB), .val (.long (own_dn 6 u0 f0 (0 : Int64))), .second, .val (.int (1 : Int32)), .val (.ref t1), .val (.int (own_dnEnd 6 u0))] [(.ref aB)])) _
    refine XS.iload X16.here hx rfl (hb hby own_d5_39) rfl ?_
    show Steps p.tables e below (T16.setTop (mkF m 41 #[.val (.ref ob), .val (.ref aB), .val (.long (own_dn 6 u0 f0 (0 : Int64))), .second, .val (.int (1 : Int32)), .val (.ref t1), .val (.int (own_dnEnd 6 u0))] [(.int (1 : Int32)), (.ref aB)])) _
    refine X16.iaload hx (j := (1 : Int32)) (v := (.int u1)) (by rw [e16]; exact Ar3.1) (State.isArrayOf_alike hZ.alike Ar3.2.1) Ar3.2.2 hin18 hat18 (g := (mkF m 41 #[.val (.ref ob), .val (.ref aB), .val (.long (own_dn 6 u0 f0 (0 : Int64))), .second, .val (.int (1 : Int32)), .val (.ref t1), .val (.int (own_dnEnd 6 u0))] [(.int (1 : Int32)), (.ref aB)])) rfl rfl (hb hby own_d5_41) _ ?_
    show Steps p.tables e below (T16.setTop (mkF m 42 #[.val (.ref ob), .val (.ref aB), .val (.long (own_dn 6 u0 f0 (0 : Int64))), .second, .val (.int (1 : Int32)), .val (.ref t1), .val (.int (own_dnEnd 6 u0))] [(.int u1)])) _
    refine XS.istore X16.here hx rfl (hb hby own_d5_42) rfl (l' := #[.val (.ref ob), .val (.ref aB), .val (.long (own_dn 6 u0 f0 (0 : Int64))), .second, .val (.int (1 : Int32)), .val (.ref t1), .val (.int u1)]) rfl ?_
    show Steps p.tables e below (T16.setTop (mkF m 44 #[.val (.ref ob), .val (.ref aB), .val (.long (own_dn 6 u0 f0 (0 : Int64))), .second, .val (.int (1 : Int32)), .val (.ref t1), .val (.int u1)] [])) _
    refine st19 _ ?_
    show Steps p.tables e below (T19.setTop (mkF m 72 #[.val (.ref ob), .val (.ref aB), .val (.long (own_dn 6 u1 f1 (own_dn 6 u0 f0 (0 : Int64)))), .second, .val (.int (1 : Int32)), .val (.ref t1), .val (.int (own_dnEnd 6 u1))] [])) _
    refine XS.iinc X19.here hx rfl (hb hby own_d5_72) rfl (l' := #[.val (.ref ob), .val (.ref aB), .val (.long (own_dn 6 u1 f1 (own_dn 6 u0 f0 (0 : Int64)))), .second, .val (.int (2 : Int32)), .val (.ref t1), .val (.int (own_dnEnd 6 u1))]) rfl ?_
    show Steps p.tables e below (T19.setTop (mkF m 75 #[.val (.ref ob), .val (.ref aB), .val (.long (own_dn 6 u1 f1 (own_dn 6 u0 f0 (0 : Int64)))), .second, .val (.int (2 : Int32)), .val (.ref t1), .val (.int (own_dnEnd 6 u1))] [])) _
    refine XS.goto X19.here hx rfl (pc0 := 75) (pc' := 5) rfl (hb hby own_d5_75) (by decide) (by decide) ?_
    show Steps p.tables e below (T19.setTop (mkF m 5 #[.val (.ref ob), .val (.ref aB), .val (.long (own_dn 6 u1 f1 (own_dn 6 u0 f0 (0 : Int64)))), .second, .val (.int (2 : Int32)), .val (.ref t1), .val (.int (own_dnEnd 6 u1))] [])) _
    refine XS.iload X19.here hx rfl (hb hby own_d5_5) rfl ?_
    show Steps p.tables e below (T19.setTop (mkF m 7 #[.val (.ref ob), .val (.ref aB), .val (.long (own_dn 6 u1 f1 (own_dn 6 u0 f0 (0 : Int64)))), .second, .val (.int (2 : Int32)), .val (.ref t1), .val (.int (own_dnEnd 6 u1))] [(.int (2 : Int32))])) _
    refine XS.aloadN X19.here hx rfl (hb hby own_d5_7) rfl rfl ?_
    show Steps p.tables e below (T19.setTop (mkF m 8 #[.val (.ref ob), .val (.ref aB), .val (.long (own_dn 6 u1 f1 (own_dn 6 u0 f0 (0 : Int64)))), .second, .val (.int (2 : Int32)), .val (.ref t1), .val (.int (own_dnEnd 6 u1))] [(.ref ob), (.int (2 : Int32))])) _
    refine st20 _ ?_
    show Steps p.tables e below (T20.setTop (mkF m 11 #[.val (.ref ob), .val (.ref aB), .val (.long (own_dn 6 u1 f1 (own_dn 6 u0 f0 (0 : Int64)))), .second, .val (.int (2 : Int32)), .val (.ref t1), .val (.int (own_dnEnd 6 u1))] [(.ref tT), (.int (2 : Int32))])) _
    refine X20.arraylength hx (by rw [e20]; exact Ar2.1) (State.isArrayOf_alike hZ.alike Ar2.2.1) (g := (mkF m 11 #[.val (.ref ob), .val (.ref aB), .val (.long (own_dn 6 u1 f1 (own_dn 6 u0 f0 (0 : Int64)))), .second, .val (.int (2 : Int32)), .val (.ref t1), .val (.int (own_dnEnd 6 u1))] [(.ref tT), (.int (2 : Int32))])) rfl rfl (hb hby own_d5_11) _ ?_
    rw [len_of Sz2 Nn2]
    show Steps p.tables e below (T20.setTop (mkF m 12 #[.val (.ref ob), .val (.ref aB), .val (.long (own_dn 6 u1 f1 (own_dn 6 u0 f0 (0 : Int64)))), .second, .val (.int (2 : Int32)), .val (.ref t1), .val (.int (own_dnEnd 6 u1))] [(.int (2 : Int32)), (.int (2 : Int32))])) _
    refine XS.icmpYes X20.here hx rfl (pc0 := 12) (pc' := 78) rfl (hb hby own_d5_12) rfl (by decide) (by decide) (by decide) ?_
    show Steps p.tables e below (T20.setTop (mkF m 78 #[.val (.ref ob), .val (.ref aB), .val (.long (own_dn 6 u1 f1 (own_dn 6 u0 f0 (0 : Int64)))), .second, .val (.int (2 : Int32)), .val (.ref t1), .val (.int (own_dnEnd 6 u1))] [])) _
    refine XS.lloadN X20.here hx rfl (hb hby own_d5_78) rfl ?_
    show Steps p.tables e below (T20.setTop (mkF m 79 #[.val (.ref ob), .val (.ref aB), .val (.long (own_dn 6 u1 f1 (own_dn 6 u0 f0 (0 : Int64)))), .second, .val (.int (2 : Int32)), .val (.ref t1), .val (.int (own_dnEnd 6 u1))] [(.long (own_dn 6 u1 f1 (own_dn 6 u0 f0 (0 : Int64))))])) _
    jvm_step X20.here [X20.here.top, hx, (hb hby own_d5_79), X20.method', Bd.returns, narrow]
    first | (intro acts; rw [hr _ acts rfl rfl rfl]) | rw [hr _ _ rfl rfl rfl]
    exact Steps.refl _
  · show OwnQ _ h0 n0 _ T20.heap _
    exact ⟨rfl, N0, e20⟩
theorem own_cbC (l : Launch) (Z : State) (a0 : Array Value) (hw : ∀ d ∈ tables_1, d.before a0 Z = true) (ws : List Jvm.Cond) (h0 : Heap) (n0 : Nat) (O0 : Old Z n0 h0) (ob : Addr) (aB : Addr) (tT : Addr) (tL : Addr) (t0 : Addr) (t1 : Addr) (kT : ClassId) (kL : ClassId) (kB : ClassId) (u0 : Int32) (u1 : Int32) (x0 : Int32) (x1 : Int32) (z0 : Int32) (z1 : Int32) (f0 : Nat → Int32) (f1 : Nat → Int32) (ok0 : own_dnOk z0 6 u0 = true) (ok1 : own_dnOk z1 6 u1 = true) (fE : Exa Z h0 ob "com/example/sober_broadcast/soberbroadcast/cli/PositionCounts") (fT : Fld Z h0 ob "com/example/sober_broadcast/soberbroadcast/cli/PositionCounts" "trees" "[[I" (.ref tT)) (fL : Fld Z h0 ob "com/example/sober_broadcast/soberbroadcast/cli/PositionCounts" "lowest" "[I" (.ref tL)) (vT : Arv Z h0 tT kT (.array .int) (2 : Int32) [(.ref t0), (.ref t1)] .null) (vL : Arv Z h0 tL kL .int (2 : Int32) [(.int x0), (.int x1)] (.int (0 : Int32))) (aa0 : OwnA Z h0 t0 z0 f0) (aa1 : OwnA Z h0 t1 z1 f1) (vB : Arv Z h0 aB kB .int (2 : Int32) [(.int u0), (.int u1)] (.int (0 : Int32))) :
    MetFree l (⟨"com/example/sober_broadcast/soberbroadcast/cli/PositionCounts", "countBelow", "([I)J"⟩ : MethodName) (head1 (Jvm.Cond.code (⟨"com/example/sober_broadcast/soberbroadcast/cli/PositionCounts", "countBelow", "([I)J"⟩ : MethodName) prog_25_method_3_code 7 (some .long) :: ws) ({ frames := 0, cells := 0, slots := 0, locals := 0 } : Room)) (fun a U => a = #[(.ref ob), (.ref aB)] ∧ Z.Warmed39 U.vm ∧ U.heap = h0) (fun _ _ _ _ _ => True) (fun _ U o U' => ∃ v L, o = .returned v ∧ OwnQ (some (.long (own_cb u1 x1 f1 (own_cb u0 x0 f0 (0 : Int64))))) h0 n0 v U'.heap L ∧ FrameEnd U o U' L ({ frames := 0, cells := 0, slots := 0, locals := 0 } : Room).cells ({ frames := 0, cells := 0, slots := 0, locals := 0 } : Room).slots) := by
  by_cases h0_ : x0 < u0 <;> by_cases h1_ : x1 < u1
  · have e : (own_cb u1 x1 f1 (own_cb u0 x0 f0 (0 : Int64))) = (own_dn 6 u1 f1 (own_dn 6 u0 f0 (0 : Int64))) := by simp only [own_cb, if_pos h0_, if_pos h1_]
    rw [e]; exact own_cb_11 l Z a0 hw ws h0 n0 O0 ob aB tT tL t0 t1 kT kL kB u0 u1 x0 x1 z0 z1 f0 f1 ok0 ok1 h0_ h1_ fE fT fL vT vL aa0 aa1 vB
  · have e : (own_cb u1 x1 f1 (own_cb u0 x0 f0 (0 : Int64))) = (own_dn 6 u0 f0 (0 : Int64)) := by simp only [own_cb, if_pos h0_, if_neg h1_]
    rw [e]; exact own_cb_10 l Z a0 hw ws h0 n0 O0 ob aB tT tL t0 t1 kT kL kB u0 u1 x0 x1 z0 z1 f0 f1 ok0 ok1 h0_ h1_ fE fT fL vT vL aa0 aa1 vB
  · have e : (own_cb u1 x1 f1 (own_cb u0 x0 f0 (0 : Int64))) = (own_dn 6 u1 f1 (0 : Int64)) := by simp only [own_cb, if_neg h0_, if_pos h1_]
    rw [e]; exact own_cb_01 l Z a0 hw ws h0 n0 O0 ob aB tT tL t0 t1 kT kL kB u0 u1 x0 x1 z0 z1 f0 f1 ok0 ok1 h0_ h1_ fE fT fL vT vL aa0 aa1 vB
  · have e : (own_cb u1 x1 f1 (own_cb u0 x0 f0 (0 : Int64))) = (0 : Int64) := by simp only [own_cb, if_neg h0_, if_neg h1_]
    rw [e]; exact own_cb_00 l Z a0 hw ws h0 n0 O0 ob aB tT tL t0 t1 kT kL kB u0 u1 x0 x1 z0 z1 f0 f1 ok0 ok1 h0_ h1_ fE fT fL vT vL aa0 aa1 vB
theorem own_ef_6_RII (m : MethodId) (x0 : Addr) (x1 : Int32) (x2 : Int32) : entryFrame m #[(.ref x0), (.int x1), (.int x2)] 5 = mkF m 0 #[.val (.ref x0), .val (.int x1), .val (.int x2), .unset, .unset] [] := by first | (simp [entryFrame, mkF, argsToLocals, Value.category]; done) | rfl
theorem own_pd_0 : parseMethodDescriptor "(II)I" = some ⟨[.int, .int], some .int⟩ := by decide +kernel
theorem own_d6_0 : decode prog_25_method_2_code 0 = .ok (.aload_n 0, 1) := by decide +kernel
theorem own_d6_1 : decode prog_25_method_2_code 1 = .ok (.getfield 9, 3) := by decide +kernel
theorem own_d6_4 : decode prog_25_method_2_code 4 = .ok (.iload_n 1, 1) := by decide +kernel
theorem own_d6_5 : decode prog_25_method_2_code 5 = .ok (.aaload, 1) := by decide +kernel
theorem own_d6_6 : decode prog_25_method_2_code 6 = .ok (.astore_n 3, 1) := by decide +kernel
theorem own_d6_7 : decode prog_25_method_2_code 7 = .ok (.iload_n 2, 1) := by decide +kernel
theorem own_d6_8 : decode prog_25_method_2_code 8 = .ok (.iconst 1, 1) := by decide +kernel
theorem own_d6_9 : decode prog_25_method_2_code 9 = .ok (.iadd, 1) := by decide +kernel
theorem own_d6_10 : decode prog_25_method_2_code 10 = .ok (.istore 4, 2) := by decide +kernel
theorem own_d6_41 : decode prog_25_method_2_code 41 = .ok (.aload_n 0, 1) := by decide +kernel
theorem own_d6_42 : decode prog_25_method_2_code 42 = .ok (.getfield 15, 3) := by decide +kernel
theorem own_d6_45 : decode prog_25_method_2_code 45 = .ok (.iload_n 1, 1) := by decide +kernel
theorem own_d6_46 : decode prog_25_method_2_code 46 = .ok (.aload_n 0, 1) := by decide +kernel
theorem own_d6_47 : decode prog_25_method_2_code 47 = .ok (.getfield 15, 3) := by decide +kernel
theorem own_d6_50 : decode prog_25_method_2_code 50 = .ok (.iload_n 1, 1) := by decide +kernel
theorem own_d6_51 : decode prog_25_method_2_code 51 = .ok (.iaload, 1) := by decide +kernel
theorem own_d6_52 : decode prog_25_method_2_code 52 = .ok (.iload_n 2, 1) := by decide +kernel
theorem own_d6_53 : decode prog_25_method_2_code 53 = .ok (.invokestatic 27, 3) := by decide +kernel
theorem own_d6_56 : decode prog_25_method_2_code 56 = .ok (.iastore, 1) := by decide +kernel
theorem own_d6_57 : decode prog_25_method_2_code 57 = .ok (.return_, 1) := by decide +kernel
def OwnQ_own_mark_0 (Z : State) (ob : Addr) (tT : Addr) (tL : Addr) (t0 : Addr) (t1 : Addr) (kT : ClassId) (kL : ClassId) (x0 : Int32) (x1 : Int32) (z0 : Int32) (z1 : Int32) (f0 : Nat → Int32) (f1 : Nat → Int32) (p0 : Int32) (h0 : Heap) (n0 : Nat) (v : Option Value) (h : Heap) (L : List Loc) : Prop :=
  v = none ∧ Fr n0 L ∧ Keep h0 h [t0, tL] ∧ OwnA Z h t0 z0 (own_up z0 6 (p0 + (1 : Int32)) f0) ∧ Arv Z h tL kL .int (2 : Int32) [(.int (own_min x0 p0)), (.int x1)] (.int (0 : Int32))
set_option maxRecDepth 65536 in
set_option maxHeartbeats 40000000 in
theorem own_mark_0 (l : Launch) (Z : State) (a0 : Array Value) (hw : ∀ d ∈ tables_1, d.before a0 Z = true) (ws : List Jvm.Cond) (h0 : Heap) (n0 : Nat) (O0 : Old Z n0 h0) (ob : Addr) (tT : Addr) (tL : Addr) (t0 : Addr) (t1 : Addr) (kT : ClassId) (kL : ClassId) (x0 : Int32) (x1 : Int32) (z0 : Int32) (z1 : Int32) (f0 : Nat → Int32) (f1 : Nat → Int32) (p0 : Int32) (ne_ob_tT : ob ≠ tT) (ne_ob_tL : ob ≠ tL) (ne_ob_t0 : ob ≠ t0) (ne_ob_t1 : ob ≠ t1) (ne_tT_tL : tT ≠ tL) (ne_tT_t0 : tT ≠ t0) (ne_tT_t1 : tT ≠ t1) (ne_tL_t0 : tL ≠ t0) (ne_tL_t1 : tL ≠ t1) (ne_t0_t1 : t0 ≠ t1) (ge_tL : n0 ≤ tL) (ge_t0 : n0 ≤ t0) (ge_t1 : n0 ≤ t1) (uk : own_upOk z0 6 (p0 + (1 : Int32)) = true) (fE : Exa Z h0 ob "com/example/sober_broadcast/soberbroadcast/cli/PositionCounts") (fT : Fld Z h0 ob "com/example/sober_broadcast/soberbroadcast/cli/PositionCounts" "trees" "[[I" (.ref tT)) (fL : Fld Z h0 ob "com/example/sober_broadcast/soberbroadcast/cli/PositionCounts" "lowest" "[I" (.ref tL)) (vT : Arv Z h0 tT kT (.array .int) (2 : Int32) [(.ref t0), (.ref t1)] .null) (vL : Arv Z h0 tL kL .int (2 : Int32) [(.int x0), (.int x1)] (.int (0 : Int32))) (aa0 : OwnA Z h0 t0 z0 f0) (aa1 : OwnA Z h0 t1 z1 f1) :
    MetFree l (⟨"com/example/sober_broadcast/soberbroadcast/cli/PositionCounts", "mark", "(II)V"⟩ : MethodName) (head1 (Jvm.Cond.code (⟨"com/example/sober_broadcast/soberbroadcast/cli/PositionCounts", "mark", "(II)V"⟩ : MethodName) prog_25_method_2_code 5 none :: ws) ({ frames := 1, cells := 0, slots := 0, locals := 15 } : Room)) (fun a U => a = #[(.ref ob), (.int (0 : Int32)), (.int p0)] ∧ Z.Warmed39 U.vm ∧ U.heap = h0) (fun _ _ _ _ _ => True) (fun _ U o U' => ∃ v L, o = .returned v ∧ OwnQ_own_mark_0 Z ob tT tL t0 t1 kT kL x0 x1 z0 z1 f0 f1 p0 h0 n0 v U'.heap L ∧ FrameEnd U o U' L ({ frames := 1, cells := 0, slots := 0, locals := 15 } : Room).cells ({ frames := 1, cells := 0, slots := 0, locals := 15 } : Room).slots) := by
  refine MetFree.of_bodySF (plainFor_of_name own_pn_5) hisR ?_
  intro p e s m args below meth c s₁ Bd hml0 hP hK
  obtain ⟨rfl, hZ, hh⟩ := hP
  have hx := Bd.exec
  have hby := Bd.bytes
  have hml : c.maxLocals = 5 := hml0
  have hown : s.vm.findClass "com/example/sober_broadcast/soberbroadcast/cli/PositionCounts" = some m.cls := findClass_of_methodNamed Bd.named
  have hnm := (name_of_methodNamed Bd.named Bd.method).1
  have X0 : Stand p l e ({ frames := 1, cells := 0, slots := 0, locals := 15 } : Room) s m #[(.ref ob), (.int (0 : Int32)), (.int p0)] below meth c s₁ [] 0 0 := Stand.of_body Bd
  have e0 : s₁.heap = h0 := by rw [← hh, Bd.state]; rfl
  have N0 := Fr.nil n0
  have pre0 : ∀ t, Steps p.tables e below (s₁.setTop (mkF m 0 #[.val (.ref ob), .val (.int (0 : Int32)), .val (.int p0), .unset, .unset] [])) t → Steps p.tables e below (s₁.setTop (entryFrame m #[(.ref ob), (.int (0 : Int32)), (.int p0)] 5)) t := fun t k => castTop (own_ef_6_RII m ob (0 : Int32) p0) k
  obtain ⟨T1, X1, e1, st1⟩ := getF X0 hx hZ hown (host := "") (Or.inl (hw _ (List.mem_of_getElem? (i := 13) rfl))) Via.refl e0 fT (g := (mkF m 1 #[.val (.ref ob), .val (.int (0 : Int32)), .val (.int p0), .unset, .unset] [(.ref ob)])) rfl rfl (hb hby own_d6_1)
  obtain ⟨cl2, Ar2, qk2, Sz2, Nn2, Hs2, Gs2⟩ := id (vT)
  have hin3 : ¬ ((0 : Int32) < 0 ∨ cl2.slots.size ≤ ((0 : Int32)).toNatClampNeg) := inb_of Sz2 ⟨by decide, by decide⟩
  have hat3 : cl2.slots[((0 : Int32)).toNatClampNeg]? = some (.ref t0) := Hs2.at hin3 rfl
  obtain ⟨T4, h4, L4, X4, e4, N4, O4, Kq4, V4, st4⟩ := own_mk_loop ob (0 : Int32) p0 t0 z0 ge_t0 hx hZ hw hby hml hown 6 (p0 + (1 : Int32)) f0 _ _ _ uk X1 e1 N0 O0 aa0
  have f4_E_ob := fE.keep Kq4
  have f4_F_ob_trees := fT.keep Kq4 (ninS ne_ob_t0 nin0)
  have f4_F_ob_lowest := fL.keep Kq4 (ninS ne_ob_t0 nin0)
  have f4_V_tT := vT.keep Kq4 (ninS ne_tT_t0 nin0)
  have f4_V_tL := vL.keep Kq4 (ninS ne_tL_t0 nin0)
  have f4_A_t1 := aa1.keep Kq4 (ninS (Ne.symm ne_t0_t1) nin0)
  have K4 := (Keep.refl h0 [t0, tL]).trans Kq4 (allS (Or.inl (List.mem_of_getElem? (i := 0) rfl)) all0)
  obtain ⟨T5, X5, e5, st5⟩ := getF X4 hx hZ hown (host := "") (Or.inl (hw _ (List.mem_of_getElem? (i := 16) rfl))) Via.refl e4 f4_F_ob_lowest (g := (mkF m 42 #[.val (.ref ob), .val (.int (0 : Int32)), .val (.int p0), .val (.ref t0), .val (.int (own_upEnd z0 6 (p0 + (1 : Int32))))] [(.ref ob)])) rfl rfl (hb hby own_d6_42)
  obtain ⟨T6, X6, e6, st6⟩ := getF X5 hx hZ hown (host := "") (Or.inl (hw _ (List.mem_of_getElem? (i := 16) rfl))) Via.refl e5 f4_F_ob_lowest (g := (mkF m 47 #[.val (.ref ob), .val (.int (0 : Int32)), .val (.int p0), .val (.ref t0), .val (.int (own_upEnd z0 6 (p0 + (1 : Int32))))] [(.ref ob), (.int (0 : Int32)), (.ref tL)])) rfl rfl (hb hby own_d6_47)
  obtain ⟨cl7, Ar7, qk7, Sz7, Nn7, Hs7, Gs7⟩ := id (f4_V_tL)
  have hin8 : ¬ ((0 : Int32) < 0 ∨ cl7.slots.size ≤ ((0 : Int32)).toNatClampNeg) := inb_of Sz7 ⟨by decide, by decide⟩
  have hat8 : cl7.slots[((0 : Int32)).toNatClampNeg]? = some (.int x0) := Hs7.at hin8 rfl
  obtain ⟨_, _, ⟨T9, L9, k9, n9⟩, -, X9, ⟨Lc9, hQ9, l9, y9, z9⟩, st9⟩ := Jvm.LawKit.callS X6 hx (y := (⟨"java/lang/Math", "min", "(II)I"⟩ : MethodName)) hown (mvT hZ (hw _ (List.mem_of_getElem? (i := 38) rfl))) (mvT hZ (hw _ (List.mem_of_getElem? (i := 39) rfl))) (mvT hZ (hw _ (List.mem_of_getElem? (i := 40) rfl))) (mvT hZ (hw _ (List.mem_of_getElem? (i := 41) rfl))) (by decide) (backOf (W := 2) (own_minC l Z a0 hw [] h4 n0 O4 x0 p0) hZ (hw _ (List.mem_of_getElem? (i := 41) rfl)) (hw _ (List.mem_of_getElem? (i := 40) rfl)) (by decide) (by decide)) (g := (mkF m 53 #[.val (.ref ob), .val (.int (0 : Int32)), .val (.int p0), .val (.ref t0), .val (.int (own_upEnd z0 6 (p0 + (1 : Int32))))] [(.int p0), (.int x0), (.int (0 : Int32)), (.ref tL)])) rfl (by rw [hml]; rfl) (argsL := [(.int x0), (.int p0)]) (rest := [(.int (0 : Int32)), (.ref tL)]) (lenOf own_pd_0 rfl) rfl (by show 2 * 0 + _ ≤ _; exact Nat.le_of_eq rfl) (hb hby own_d6_53) (fun _ _ => ⟨rfl, e6, (by decide : 0 + 0 ≤ _), (by decide : 0 + 0 ≤ _)⟩)
  dsimp only [Pt.U, Pt.locs, Pt.cells, Pt.slots] at X9 l9 y9 z9 st9 hQ9
  subst l9 y9 z9
  obtain ⟨rfl, N9q, e9⟩ := hQ9
  have N9 := Fr.app N4 N9q
  obtain ⟨cl10, Ar10, qk10, Sz10, Nn10, Hs10, Gs10⟩ := id (f4_V_tL)
  have hin10 : ¬ ((0 : Int32) < 0 ∨ cl10.slots.size ≤ ((0 : Int32)).toNatClampNeg) := inb_of Sz10 ⟨by decide, by decide⟩
  obtain ⟨T10, h10, X10, e10, W10, st10⟩ := stI X9 hx hZ e9 Ar10 (j := (0 : Int32)) hin10 (g := (mkF m 56 #[.val (.ref ob), .val (.int (0 : Int32)), .val (.int p0), .val (.ref t0), .val (.int (own_upEnd z0 6 (p0 + (1 : Int32))))] [(.int (own_min x0 p0)), (.int (0 : Int32)), (.ref tL)])) rfl rfl (hb hby own_d6_56)
  have V10 := Arv.set Ar10 qk10 Sz10 Nn10 Hs10 Gs10 rfl W10 0 rfl (Nat.le_of_ble_eq_true rfl)
  have f10_E_ob := f4_E_ob.wr W10
  have f10_F_ob_trees := f4_F_ob_trees.other W10 (Or.inl ne_ob_tL)
  have f10_F_ob_lowest := f4_F_ob_lowest.other W10 (Or.inl ne_ob_tL)
  have f10_V_tT := f4_V_tT.other W10 ne_tT_tL
  have f10_A_t1 := f4_A_t1.other W10 (Ne.symm ne_tL_t1)
  have f10_A_t0 := V4.other W10 (Ne.symm ne_tL_t0)
  have O10 := O4.wr W10 ge_tL
  have K10 := K4.wr W10 (Or.inl (List.mem_of_getElem? (i := 1) rfl))
  have N10 := Fr.snoc X10 N9 ge_tL
  obtain ⟨fs, hr, hrun, hended, hW, hsame⟩ := X10.leave (v := none) (fun _ => rfl)
  refine ⟨_, _, pre0 _ ?_, hrun, hended, _, _, rfl, ?_, ⟨_, rfl⟩, hW, hsame.mono (by decide) (by decide)⟩
  · show Steps p.tables e below (s₁.setTop (mkF m 0 #[.val (.ref ob), .val (.int (0 : Int32)), .val (.int p0), .unset, .unset] [])) _
    refine XS.aloadN X0.here hx rfl (hb hby own_d6_0) rfl rfl ?_
    show Steps p.tables e below (s₁.setTop (mkF m 1 #[.val (.ref ob), .val (.int (0 : Int32)), .val (.int p0), .unset, .unset] [(.ref ob)])) _
    refine st1 _ ?_
    show Steps p.tables e below (T1.setTop (mkF m 4 #[.val (.ref ob), .val (.int (0 : Int32)), .val (.int p0), .unset, .unset] [(.ref tT)])) _
    refine XS.iloadN X1.here hx rfl (hb hby own_d6_4) rfl ?_
    show Steps p.tables e below (T1.setTop (mkF m 5 #[.val (.ref ob), .val (.int (0 : Int32)), .val (.int p0), .unset, .unset] [(.int (0 : Int32)), (.ref tT)])) _
    refine X1.aaload hx (j := (0 : Int32)) (v := (.ref t0)) (by rw [e1]; exact Ar2.1) (State.isArrayOf_alike hZ.alike Ar2.2.1) rfl Ar2.2.2 hin3 hat3 (g := (mkF m 5 #[.val (.ref ob), .val (.int (0 : Int32)), .val (.int p0), .unset, .unset] [(.int (0 : Int32)), (.ref tT)])) rfl rfl (hb hby own_d6_5) _ ?_
    show Steps p.tables e below (T1.setTop (mkF m 6 #[.val (.ref ob), .val (.int (0 : Int32)), .val (.int p0), .unset, .unset] [(.ref t0)])) _
    refine XS.astoreN X1.here hx rfl (hb hby own_d6_6) rfl rfl (l' := #[.val (.ref ob), .val (.int (0 : Int32)), .val (.int p0), .val (.ref t0), .unset]) rfl ?_
    show Steps p.tables e below (T1.setTop (mkF m 7 #[.val (.ref ob), .val (.int (0 : Int32)), .val (.int p0), .val (.ref t0), .unset] [])) _
    refine XS.iloadN X1.here hx rfl (hb hby own_d6_7) rfl ?_
    show Steps p.tables e below (T1.setTop (mkF m 8 #[.val (.ref ob), .val (.int (0 : Int32)), .val (.int p0), .val (.ref t0), .unset] [(.int p0)])) _
    refine XS.iconst X1.here hx rfl (hb hby own_d6_8) ?_
    show Steps p.tables e below (T1.setTop (mkF m 9 #[.val (.ref ob), .val (.int (0 : Int32)), .val (.int p0), .val (.ref t0), .unset] [(.int (1 : Int32)), (.int p0)])) _
    refine XS.iadd X1.here hx rfl (hb hby own_d6_9) rfl ?_
    show Steps p.tables e below (T1.setTop (mkF m 10 #[.val (.ref ob), .val (.int (0 : Int32)), .val (.int p0), .val (.ref t0), .unset] [(.int (p0 + (1 : Int32)))])) _
    refine XS.istore X1.here hx rfl (hb hby own_d6_10) rfl (l' := #[.val (.ref ob), .val (.int (0 : Int32)), .val (.int p0), .val (.ref t0), .val (.int (p0 + (1 : Int32)))]) rfl ?_
    show Steps p.tables e below (T1.setTop (mkF m 12 #[.val (.ref ob), .val (.int (0 : Int32)), .val (.int p0), .val (.ref t0), .val (.int (p0 + (1 : Int32)))] [])) _
    refine st4 _ ?_
    show Steps p.tables e below (T4.setTop (mkF m 41 #[.val (.ref ob), .val (.int (0 : Int32)), .val (.int p0), .val (.ref t0), .val (.int (own_upEnd z0 6 (p0 + (1 : Int32))))] [])) _
    refine XS.aloadN X4.here hx rfl (hb hby own_d6_41) rfl rfl ?_
    show Steps p.tables e below (T4.setTop (mkF m 42 #[.val (.ref ob), .val (.int (0 : Int32)), .val (.int p0), .val (.ref t0), .val (.int (own_upEnd z0 6 (p0 + (1 : Int32))))] [(.ref ob)])) _
    refine st5 _ ?_
    show Steps p.tables e below (T5.setTop (mkF m 45 #[.val (.ref ob), .val (.int (0 : Int32)), .val (.int p0), .val (.ref t0), .val (.int (own_upEnd z0 6 (p0 + (1 : Int32))))] [(.ref tL)])) _
    refine XS.iloadN X5.here hx rfl (hb hby own_d6_45) rfl ?_
    show Steps p.tables e below (T5.setTop (mkF m 46 #[.val (.ref ob), .val (.int (0 : Int32)), .val (.int p0), .val (.ref t0), .val (.int (own_upEnd z0 6 (p0 + (1 : Int32))))] [(.int (0 : Int32)), (.ref tL)])) _
    refine XS.aloadN X5.here hx rfl (hb hby own_d6_46) rfl rfl ?_
    show Steps p.tables e below (T5.setTop (mkF m 47 #[.val (.ref ob), .val (.int (0 : Int32)), .val (.int p0), .val (.ref t0), .val (.int (own_upEnd z0 6 (p0 + (1 : Int32))))] [(.ref ob), (.int (0 : Int32)), (.ref tL)])) _
    refine st6 _ ?_
    show Steps p.tables e below (T6.setTop (mkF m 50 #[.val (.ref ob), .val (.int (0 : Int32)), .val (.int p0), .val (.ref t0), .val (.int (own_upEnd z0 6 (p0 + (1 : Int32))))] [(.ref tL), (.int (0 : Int32)), (.ref tL)])) _
    refine XS.iloadN X6.here hx rfl (hb hby own_d6_50) rfl ?_
    show Steps p.tables e below (T6.setTop (mkF m 51 #[.val (.ref ob), .val (.int (0 : Int32)), .val (.int p0), .val (.ref t0), .val (.int (own_upEnd z0 6 (p0 + (1 : Int32))))] [(.int (0 : Int32)), (.ref tL), (.int (0 : Int32)), (.ref tL)])) _
    refine X6.iaload hx (j := (0 : Int32)) (v := (.int x0)) (by rw [e6]; exact Ar7.1) (State.isArrayOf_alike hZ.alike Ar7.2.1) Ar7.2.2 hin8 hat8 (g := (mkF m 51 #[.val (.ref ob), .val (.int (0 : Int32)), .val (.int p0), .val (.ref t0), .val (.int (own_upEnd z0 6 (p0 + (1 : Int32))))] [(.int (0 : Int32)), (.ref tL), (.int (0 : Int32)), (.ref tL)])) rfl rfl (hb hby own_d6_51) _ ?_
    show Steps p.tables e below (T6.setTop (mkF m 52 #[.val (.ref ob), .val (.int (0 : Int32)), .val (.int p0), .val (.ref t0), .val (.int (own_upEnd z0 6 (p0 + (1 : Int32))))] [(.int x0), (.int (0 : Int32)), (.ref tL)])) _
    refine XS.iloadN X6.here hx rfl (hb hby own_d6_52) rfl ?_
    show Steps p.tables e below (T6.setTop (mkF m 53 #[.val (.ref ob), .val (.int (0 : Int32)), .val (.int p0), .val (.ref t0), .val (.int (own_upEnd z0 6 (p0 + (1 : Int32))))] [(.int p0), (.int x0), (.int (0 : Int32)), (.ref tL)])) _
    refine st9 _ ?_
    show Steps p.tables e below (T9.setTop (mkF m 56 #[.val (.ref ob), .val (.int (0 : Int32)), .val (.int p0), .val (.ref t0), .val (.int (own_upEnd z0 6 (p0 + (1 : Int32))))] [(.int (own_min x0 p0)), (.int (0 : Int32)), (.ref tL)])) _
    refine st10 _ ?_
    show Steps p.tables e below (T10.setTop (mkF m 57 #[.val (.ref ob), .val (.int (0 : Int32)), .val (.int p0), .val (.ref t0), .val (.int (own_upEnd z0 6 (p0 + (1 : Int32))))] [])) _
    exact X10.returnOut hx Bd.returns (hb hby own_d6_57) hr
  · show OwnQ_own_mark_0 Z ob tT tL t0 t1 kT kL x0 x1 z0 z1 f0 f1 p0 h0 n0 _ T10.heap _
    rw [e10]
    exact ⟨rfl, N10, K10, f10_A_t0, V10⟩
def OwnQ_own_mark_1 (Z : State) (ob : Addr) (tT : Addr) (tL : Addr) (t0 : Addr) (t1 : Addr) (kT : ClassId) (kL : ClassId) (x0 : Int32) (x1 : Int32) (z0 : Int32) (z1 : Int32) (f0 : Nat → Int32) (f1 : Nat → Int32) (p0 : Int32) (h0 : Heap) (n0 : Nat) (v : Option Value) (h : Heap) (L : List Loc) : Prop :=
  v = none ∧ Fr n0 L ∧ Keep h0 h [t1, tL] ∧ OwnA Z h t1 z1 (own_up z1 6 (p0 + (1 : Int32)) f1) ∧ Arv Z h tL kL .int (2 : Int32) [(.int x0), (.int (own_min x1 p0))] (.int (0 : Int32))
set_option maxRecDepth 65536 in
set_option maxHeartbeats 40000000 in
theorem own_mark_1 (l : Launch) (Z : State) (a0 : Array Value) (hw : ∀ d ∈ tables_1, d.before a0 Z = true) (ws : List Jvm.Cond) (h0 : Heap) (n0 : Nat) (O0 : Old Z n0 h0) (ob : Addr) (tT : Addr) (tL : Addr) (t0 : Addr) (t1 : Addr) (kT : ClassId) (kL : ClassId) (x0 : Int32) (x1 : Int32) (z0 : Int32) (z1 : Int32) (f0 : Nat → Int32) (f1 : Nat → Int32) (p0 : Int32) (ne_ob_tT : ob ≠ tT) (ne_ob_tL : ob ≠ tL) (ne_ob_t0 : ob ≠ t0) (ne_ob_t1 : ob ≠ t1) (ne_tT_tL : tT ≠ tL) (ne_tT_t0 : tT ≠ t0) (ne_tT_t1 : tT ≠ t1) (ne_tL_t0 : tL ≠ t0) (ne_tL_t1 : tL ≠ t1) (ne_t0_t1 : t0 ≠ t1) (ge_tL : n0 ≤ tL) (ge_t0 : n0 ≤ t0) (ge_t1 : n0 ≤ t1) (uk : own_upOk z1 6 (p0 + (1 : Int32)) = true) (fE : Exa Z h0 ob "com/example/sober_broadcast/soberbroadcast/cli/PositionCounts") (fT : Fld Z h0 ob "com/example/sober_broadcast/soberbroadcast/cli/PositionCounts" "trees" "[[I" (.ref tT)) (fL : Fld Z h0 ob "com/example/sober_broadcast/soberbroadcast/cli/PositionCounts" "lowest" "[I" (.ref tL)) (vT : Arv Z h0 tT kT (.array .int) (2 : Int32) [(.ref t0), (.ref t1)] .null) (vL : Arv Z h0 tL kL .int (2 : Int32) [(.int x0), (.int x1)] (.int (0 : Int32))) (aa0 : OwnA Z h0 t0 z0 f0) (aa1 : OwnA Z h0 t1 z1 f1) :
    MetFree l (⟨"com/example/sober_broadcast/soberbroadcast/cli/PositionCounts", "mark", "(II)V"⟩ : MethodName) (head1 (Jvm.Cond.code (⟨"com/example/sober_broadcast/soberbroadcast/cli/PositionCounts", "mark", "(II)V"⟩ : MethodName) prog_25_method_2_code 5 none :: ws) ({ frames := 1, cells := 0, slots := 0, locals := 15 } : Room)) (fun a U => a = #[(.ref ob), (.int (1 : Int32)), (.int p0)] ∧ Z.Warmed39 U.vm ∧ U.heap = h0) (fun _ _ _ _ _ => True) (fun _ U o U' => ∃ v L, o = .returned v ∧ OwnQ_own_mark_1 Z ob tT tL t0 t1 kT kL x0 x1 z0 z1 f0 f1 p0 h0 n0 v U'.heap L ∧ FrameEnd U o U' L ({ frames := 1, cells := 0, slots := 0, locals := 15 } : Room).cells ({ frames := 1, cells := 0, slots := 0, locals := 15 } : Room).slots) := by
  refine MetFree.of_bodySF (plainFor_of_name own_pn_5) hisR ?_
  intro p e s m args below meth c s₁ Bd hml0 hP hK
  obtain ⟨rfl, hZ, hh⟩ := hP
  have hx := Bd.exec
  have hby := Bd.bytes
  have hml : c.maxLocals = 5 := hml0
  have hown : s.vm.findClass "com/example/sober_broadcast/soberbroadcast/cli/PositionCounts" = some m.cls := findClass_of_methodNamed Bd.named
  have hnm := (name_of_methodNamed Bd.named Bd.method).1
  have X0 : Stand p l e ({ frames := 1, cells := 0, slots := 0, locals := 15 } : Room) s m #[(.ref ob), (.int (1 : Int32)), (.int p0)] below meth c s₁ [] 0 0 := Stand.of_body Bd
  have e0 : s₁.heap = h0 := by rw [← hh, Bd.state]; rfl
  have N0 := Fr.nil n0
  have pre0 : ∀ t, Steps p.tables e below (s₁.setTop (mkF m 0 #[.val (.ref ob), .val (.int (1 : Int32)), .val (.int p0), .unset, .unset] [])) t → Steps p.tables e below (s₁.setTop (entryFrame m #[(.ref ob), (.int (1 : Int32)), (.int p0)] 5)) t := fun t k => castTop (own_ef_6_RII m ob (1 : Int32) p0) k
  obtain ⟨T1, X1, e1, st1⟩ := getF X0 hx hZ hown (host := "") (Or.inl (hw _ (List.mem_of_getElem? (i := 13) rfl))) Via.refl e0 fT (g := (mkF m 1 #[.val (.ref ob), .val (.int (1 : Int32)), .val (.int p0), .unset, .unset] [(.ref ob)])) rfl rfl (hb hby own_d6_1)
  obtain ⟨cl2, Ar2, qk2, Sz2, Nn2, Hs2, Gs2⟩ := id (vT)
  have hin3 : ¬ ((1 : Int32) < 0 ∨ cl2.slots.size ≤ ((1 : Int32)).toNatClampNeg) := inb_of Sz2 ⟨by decide, by decide⟩
  have hat3 : cl2.slots[((1 : Int32)).toNatClampNeg]? = some (.ref t1) := Hs2.at hin3 rfl
  obtain ⟨T4, h4, L4, X4, e4, N4, O4, Kq4, V4, st4⟩ := own_mk_loop ob (1 : Int32) p0 t1 z1 ge_t1 hx hZ hw hby hml hown 6 (p0 + (1 : Int32)) f1 _ _ _ uk X1 e1 N0 O0 aa1
  have f4_E_ob := fE.keep Kq4
  have f4_F_ob_trees := fT.keep Kq4 (ninS ne_ob_t1 nin0)
  have f4_F_ob_lowest := fL.keep Kq4 (ninS ne_ob_t1 nin0)
  have f4_V_tT := vT.keep Kq4 (ninS ne_tT_t1 nin0)
  have f4_V_tL := vL.keep Kq4 (ninS ne_tL_t1 nin0)
  have f4_A_t0 := aa0.keep Kq4 (ninS ne_t0_t1 nin0)
  have K4 := (Keep.refl h0 [t1, tL]).trans Kq4 (allS (Or.inl (List.mem_of_getElem? (i := 0) rfl)) all0)
  obtain ⟨T5, X5, e5, st5⟩ := getF X4 hx hZ hown (host := "") (Or.inl (hw _ (List.mem_of_getElem? (i := 16) rfl))) Via.refl e4 f4_F_ob_lowest (g := (mkF m 42 #[.val (.ref ob), .val (.int (1 : Int32)), .val (.int p0), .val (.ref t1), .val (.int (own_upEnd z1 6 (p0 + (1 : Int32))))] [(.ref ob)])) rfl rfl (hb hby own_d6_42)
  obtain ⟨T6, X6, e6, st6⟩ := getF X5 hx hZ hown (host := "") (Or.inl (hw _ (List.mem_of_getElem? (i := 16) rfl))) Via.refl e5 f4_F_ob_lowest (g := (mkF m 47 #[.val (.ref ob), .val (.int (1 : Int32)), .val (.int p0), .val (.ref t1), .val (.int (own_upEnd z1 6 (p0 + (1 : Int32))))] [(.ref ob), (.int (1 : Int32)), (.ref tL)])) rfl rfl (hb hby own_d6_47)
  obtain ⟨cl7, Ar7, qk7, Sz7, Nn7, Hs7, Gs7⟩ := id (f4_V_tL)
  have hin8 : ¬ ((1 : Int32) < 0 ∨ cl7.slots.size ≤ ((1 : Int32)).toNatClampNeg) := inb_of Sz7 ⟨by decide, by decide⟩
  have hat8 : cl7.slots[((1 : Int32)).toNatClampNeg]? = some (.int x1) := Hs7.at hin8 rfl
  obtain ⟨_, _, ⟨T9, L9, k9, n9⟩, -, X9, ⟨Lc9, hQ9, l9, y9, z9⟩, st9⟩ := Jvm.LawKit.callS X6 hx (y := (⟨"java/lang/Math", "min", "(II)I"⟩ : MethodName)) hown (mvT hZ (hw _ (List.mem_of_getElem? (i := 38) rfl))) (mvT hZ (hw _ (List.mem_of_getElem? (i := 39) rfl))) (mvT hZ (hw _ (List.mem_of_getElem? (i := 40) rfl))) (mvT hZ (hw _ (List.mem_of_getElem? (i := 41) rfl))) (by decide) (backOf (W := 2) (own_minC l Z a0 hw [] h4 n0 O4 x1 p0) hZ (hw _ (List.mem_of_getElem? (i := 41) rfl)) (hw _ (List.mem_of_getElem? (i := 40) rfl)) (by decide) (by decide)) (g := (mkF m 53 #[.val (.ref ob), .val (.int (1 : Int32)), .val (.int p0), .val (.ref t1), .val (.int (own_upEnd z1 6 (p0 + (1 : Int32))))] [(.int p0), (.int x1), (.int (1 : Int32)), (.ref tL)])) rfl (by rw [hml]; rfl) (argsL := [(.int x1), (.int p0)]) (rest := [(.int (1 : Int32)), (.ref tL)]) (lenOf own_pd_0 rfl) rfl (by show 2 * 0 + _ ≤ _; exact Nat.le_of_eq rfl) (hb hby own_d6_53) (fun _ _ => ⟨rfl, e6, (by decide : 0 + 0 ≤ _), (by decide : 0 + 0 ≤ _)⟩)
  dsimp only [Pt.U, Pt.locs, Pt.cells, Pt.slots] at X9 l9 y9 z9 st9 hQ9
  subst l9 y9 z9
  obtain ⟨rfl, N9q, e9⟩ := hQ9
  have N9 := Fr.app N4 N9q
  obtain ⟨cl10, Ar10, qk10, Sz10, Nn10, Hs10, Gs10⟩ := id (f4_V_tL)
  have hin10 : ¬ ((1 : Int32) < 0 ∨ cl10.slots.size ≤ ((1 : Int32)).toNatClampNeg) := inb_of Sz10 ⟨by decide, by decide⟩
  obtain ⟨T10, h10, X10, e10, W10, st10⟩ := stI X9 hx hZ e9 Ar10 (j := (1 : Int32)) hin10 (g := (mkF m 56 #[.val (.ref ob), .val (.int (1 : Int32)), .val (.int p0), .val (.ref t1), .val (.int (own_upEnd z1 6 (p0 + (1 : Int32))))] [(.int (own_min x1 p0)), (.int (1 : Int32)), (.ref tL)])) rfl rfl (hb hby own_d6_56)
  have V10 := Arv.set Ar10 qk10 Sz10 Nn10 Hs10 Gs10 rfl W10 1 rfl (Nat.le_of_ble_eq_true rfl)
  have f10_E_ob := f4_E_ob.wr W10
  have f10_F_ob_trees := f4_F_ob_trees.other W10 (Or.inl ne_ob_tL)
  have f10_F_ob_lowest := f4_F_ob_lowest.other W10 (Or.inl ne_ob_tL)
  have f10_V_tT := f4_V_tT.other W10 ne_tT_tL
  have f10_A_t0 := f4_A_t0.other W10 (Ne.symm ne_tL_t0)
  have f10_A_t1 := V4.other W10 (Ne.symm ne_tL_t1)
  have O10 := O4.wr W10 ge_tL
  have K10 := K4.wr W10 (Or.inl (List.mem_of_getElem? (i := 1) rfl))
  have N10 := Fr.snoc X10 N9 ge_tL
  obtain ⟨fs, hr, hrun, hended, hW, hsame⟩ := X10.leave (v := none) (fun _ => rfl)
  refine ⟨_, _, pre0 _ ?_, hrun, hended, _, _, rfl, ?_, ⟨_, rfl⟩, hW, hsame.mono (by decide) (by decide)⟩
  · show Steps p.tables e below (s₁.setTop (mkF m 0 #[.val (.ref ob), .val (.int (1 : Int32)), .val (.int p0), .unset, .unset] [])) _
    refine XS.aloadN X0.here hx rfl (hb hby own_d6_0) rfl rfl ?_
    show Steps p.tables e below (s₁.setTop (mkF m 1 #[.val (.ref ob), .val (.int (1 : Int32)), .val (.int p0), .unset, .unset] [(.ref ob)])) _
    refine st1 _ ?_
    show Steps p.tables e below (T1.setTop (mkF m 4 #[.val (.ref ob), .val (.int (1 : Int32)), .val (.int p0), .unset, .unset] [(.ref tT)])) _
    refine XS.iloadN X1.here hx rfl (hb hby own_d6_4) rfl ?_
    show Steps p.tables e below (T1.setTop (mkF m 5 #[.val (.ref ob), .val (.int (1 : Int32)), .val (.int p0), .unset, .unset] [(.int (1 : Int32)), (.ref tT)])) _
    refine X1.aaload hx (j := (1 : Int32)) (v := (.ref t1)) (by rw [e1]; exact Ar2.1) (State.isArrayOf_alike hZ.alike Ar2.2.1) rfl Ar2.2.2 hin3 hat3 (g := (mkF m 5 #[.val (.ref ob), .val (.int (1 : Int32)), .val (.int p0), .unset, .unset] [(.int (1 : Int32)), (.ref tT)])) rfl rfl (hb hby own_d6_5) _ ?_
    show Steps p.tables e below (T1.setTop (mkF m 6 #[.val (.ref ob), .val (.int (1 : Int32)), .val (.int p0), .unset, .unset] [(.ref t1)])) _
    refine XS.astoreN X1.here hx rfl (hb hby own_d6_6) rfl rfl (l' := #[.val (.ref ob), .val (.int (1 : Int32)), .val (.int p0), .val (.ref t1), .unset]) rfl ?_
    show Steps p.tables e below (T1.setTop (mkF m 7 #[.val (.ref ob), .val (.int (1 : Int32)), .val (.int p0), .val (.ref t1), .unset] [])) _
    refine XS.iloadN X1.here hx rfl (hb hby own_d6_7) rfl ?_
    show Steps p.tables e below (T1.setTop (mkF m 8 #[.val (.ref ob), .val (.int (1 : Int32)), .val (.int p0), .val (.ref t1), .unset] [(.int p0)])) _
    refine XS.iconst X1.here hx rfl (hb hby own_d6_8) ?_
    show Steps p.tables e below (T1.setTop (mkF m 9 #[.val (.ref ob), .val (.int (1 : Int32)), .val (.int p0), .val (.ref t1), .unset] [(.int (1 : Int32)), (.int p0)])) _
    refine XS.iadd X1.here hx rfl (hb hby own_d6_9) rfl ?_
    show Steps p.tables e below (T1.setTop (mkF m 10 #[.val (.ref ob), .val (.int (1 : Int32)), .val (.int p0), .val (.ref t1), .unset] [(.int (p0 + (1 : Int32)))])) _
    refine XS.istore X1.here hx rfl (hb hby own_d6_10) rfl (l' := #[.val (.ref ob), .val (.int (1 : Int32)), .val (.int p0), .val (.ref t1), .val (.int (p0 + (1 : Int32)))]) rfl ?_
    show Steps p.tables e below (T1.setTop (mkF m 12 #[.val (.ref ob), .val (.int (1 : Int32)), .val (.int p0), .val (.ref t1), .val (.int (p0 + (1 : Int32)))] [])) _
    refine st4 _ ?_
    show Steps p.tables e below (T4.setTop (mkF m 41 #[.val (.ref ob), .val (.int (1 : Int32)), .val (.int p0), .val (.ref t1), .val (.int (own_upEnd z1 6 (p0 + (1 : Int32))))] [])) _
    refine XS.aloadN X4.here hx rfl (hb hby own_d6_41) rfl rfl ?_
    show Steps p.tables e below (T4.setTop (mkF m 42 #[.val (.ref ob), .val (.int (1 : Int32)), .val (.int p0), .val (.ref t1), .val (.int (own_upEnd z1 6 (p0 + (1 : Int32))))] [(.ref ob)])) _
    refine st5 _ ?_
    show Steps p.tables e below (T5.setTop (mkF m 45 #[.val (.ref ob), .val (.int (1 : Int32)), .val (.int p0), .val (.ref t1), .val (.int (own_upEnd z1 6 (p0 + (1 : Int32))))] [(.ref tL)])) _
    refine XS.iloadN X5.here hx rfl (hb hby own_d6_45) rfl ?_
    show Steps p.tables e below (T5.setTop (mkF m 46 #[.val (.ref ob), .val (.int (1 : Int32)), .val (.int p0), .val (.ref t1), .val (.int (own_upEnd z1 6 (p0 + (1 : Int32))))] [(.int (1 : Int32)), (.ref tL)])) _
    refine XS.aloadN X5.here hx rfl (hb hby own_d6_46) rfl rfl ?_
    show Steps p.tables e below (T5.setTop (mkF m 47 #[.val (.ref ob), .val (.int (1 : Int32)), .val (.int p0), .val (.ref t1), .val (.int (own_upEnd z1 6 (p0 + (1 : Int32))))] [(.ref ob), (.int (1 : Int32)), (.ref tL)])) _
    refine st6 _ ?_
    show Steps p.tables e below (T6.setTop (mkF m 50 #[.val (.ref ob), .val (.int (1 : Int32)), .val (.int p0), .val (.ref t1), .val (.int (own_upEnd z1 6 (p0 + (1 : Int32))))] [(.ref tL), (.int (1 : Int32)), (.ref tL)])) _
    refine XS.iloadN X6.here hx rfl (hb hby own_d6_50) rfl ?_
    show Steps p.tables e below (T6.setTop (mkF m 51 #[.val (.ref ob), .val (.int (1 : Int32)), .val (.int p0), .val (.ref t1), .val (.int (own_upEnd z1 6 (p0 + (1 : Int32))))] [(.int (1 : Int32)), (.ref tL), (.int (1 : Int32)), (.ref tL)])) _
    refine X6.iaload hx (j := (1 : Int32)) (v := (.int x1)) (by rw [e6]; exact Ar7.1) (State.isArrayOf_alike hZ.alike Ar7.2.1) Ar7.2.2 hin8 hat8 (g := (mkF m 51 #[.val (.ref ob), .val (.int (1 : Int32)), .val (.int p0), .val (.ref t1), .val (.int (own_upEnd z1 6 (p0 + (1 : Int32))))] [(.int (1 : Int32)), (.ref tL), (.int (1 : Int32)), (.ref tL)])) rfl rfl (hb hby own_d6_51) _ ?_
    show Steps p.tables e below (T6.setTop (mkF m 52 #[.val (.ref ob), .val (.int (1 : Int32)), .val (.int p0), .val (.ref t1), .val (.int (own_upEnd z1 6 (p0 + (1 : Int32))))] [(.int x1), (.int (1 : Int32)), (.ref tL)])) _
    refine XS.iloadN X6.here hx rfl (hb hby own_d6_52) rfl ?_
    show Steps p.tables e below (T6.setTop (mkF m 53 #[.val (.ref ob), .val (.int (1 : Int32)), .val (.int p0), .val (.ref t1), .val (.int (own_upEnd z1 6 (p0 + (1 : Int32))))] [(.int p0), (.int x1), (.int (1 : Int32)), (.ref tL)])) _
    refine st9 _ ?_
    show Steps p.tables e below (T9.setTop (mkF m 56 #[.val (.ref ob), .val (.int (1 : Int32)), .val (.int p0), .val (.ref t1), .val (.int (own_upEnd z1 6 (p0 + (1 : Int32))))] [(.int (own_min x1 p0)), (.int (1 : Int32)), (.ref tL)])) _
    refine st10 _ ?_
    show Steps p.tables e below (T10.setTop (mkF m 57 #[.val (.ref ob), .val (.int (1 : Int32)), .val (.int p0), .val (.ref t1), .val (.int (own_upEnd z1 6 (p0 + (1 : Int32))))] [])) _
    exact X10.returnOut hx Bd.returns (hb hby own_d6_57) hr
  · show OwnQ_own_mark_1 Z ob tT tL t0 t1 kT kL x0 x1 z0 z1 f0 f1 p0 h0 n0 _ T10.heap _
    rw [e10]
    exact ⟨rfl, N10, K10, f10_A_t1, V10⟩
def own_01 (c : Int32) : Prop := c = 0 ∨ c = 1
def own_sel (c a b : Int32) : Int32 := if c = 0 then a else b
def OwnQmark (Z : State) (tL t0 t1 : Addr) (kL : ClassId) (x0 x1 z0 z1 : Int32) (f0 f1 : Nat → Int32) (p0 c0 : Int32) (h0 : Heap) (n0 : Nat) (v : Option Value) (h : Heap) (L : List Loc) : Prop := v = none ∧ Fr n0 L ∧ Keep h0 h [tL, t0, t1] ∧ Arv Z h tL kL .int (2 : Int32) [(.int (own_x0 c0 p0 x0)), (.int (own_x1 c0 p0 x1))] (.int (0 : Int32)) ∧ OwnA Z h t0 z0 (own_f0 c0 z0 p0 f0) ∧ OwnA Z h t1 z1 (own_f1 c0 z1 p0 f1)
theorem own_markC (l : Launch) (Z : State) (a0 : Array Value) (hw : ∀ d ∈ tables_1, d.before a0 Z = true) (ws : List Jvm.Cond) (h0 : Heap) (n0 : Nat) (O0 : Old Z n0 h0) (ob : Addr) (tT : Addr) (tL : Addr) (t0 : Addr) (t1 : Addr) (kT : ClassId) (kL : ClassId) (x0 : Int32) (x1 : Int32) (z0 : Int32) (z1 : Int32) (f0 : Nat → Int32) (f1 : Nat → Int32) (p0 : Int32) (c0 : Int32) (ne_ob_tT : ob ≠ tT) (ne_ob_tL : ob ≠ tL) (ne_ob_t0 : ob ≠ t0) (ne_ob_t1 : ob ≠ t1) (ne_tT_tL : tT ≠ tL) (ne_tT_t0 : tT ≠ t0) (ne_tT_t1 : tT ≠ t1) (ne_tL_t0 : tL ≠ t0) (ne_tL_t1 : tL ≠ t1) (ne_t0_t1 : t0 ≠ t1) (ge_tL : n0 ≤ tL) (ge_t0 : n0 ≤ t0) (ge_t1 : n0 ≤ t1) (hc : own_01 c0) (uk : own_upOk (own_sel c0 z0 z1) 6 (p0 + (1 : Int32)) = true) (fE : Exa Z h0 ob "com/example/sober_broadcast/soberbroadcast/cli/PositionCounts") (fT : Fld Z h0 ob "com/example/sober_broadcast/soberbroadcast/cli/PositionCounts" "trees" "[[I" (.ref tT)) (fL : Fld Z h0 ob "com/example/sober_broadcast/soberbroadcast/cli/PositionCounts" "lowest" "[I" (.ref tL)) (vT : Arv Z h0 tT kT (.array .int) (2 : Int32) [(.ref t0), (.ref t1)] .null) (vL : Arv Z h0 tL kL .int (2 : Int32) [(.int x0), (.int x1)] (.int (0 : Int32))) (aa0 : OwnA Z h0 t0 z0 f0) (aa1 : OwnA Z h0 t1 z1 f1) :
    MetFree l (⟨"com/example/sober_broadcast/soberbroadcast/cli/PositionCounts", "mark", "(II)V"⟩ : MethodName) (head1 (Jvm.Cond.code (⟨"com/example/sober_broadcast/soberbroadcast/cli/PositionCounts", "mark", "(II)V"⟩ : MethodName) prog_25_method_2_code 5 none :: ws) ({ frames := 1, cells := 0, slots := 0, locals := 15 } : Room)) (fun a U => a = #[(.ref ob), (.int c0), (.int p0)] ∧ Z.Warmed39 U.vm ∧ U.heap = h0) (fun _ _ _ _ _ => True) (fun _ U o U' => ∃ v L, o = .returned v ∧ OwnQmark Z tL t0 t1 kL x0 x1 z0 z1 f0 f1 p0 c0 h0 n0 v U'.heap L ∧ FrameEnd U o U' L ({ frames := 1, cells := 0, slots := 0, locals := 15 } : Room).cells ({ frames := 1, cells := 0, slots := 0, locals := 15 } : Room).slots) := by
  rcases hc with rfl | rfl
  · refine MetFree.mono (own_mark_0 l Z a0 hw ws h0 n0 O0 ob tT tL t0 t1 kT kL x0 x1 z0 z1 f0 f1 p0 ne_ob_tT ne_ob_tL ne_ob_t0 ne_ob_t1 ne_tT_tL ne_tT_t0 ne_tT_t1 ne_tL_t0 ne_tL_t1 ne_t0_t1 ge_tL ge_t0 ge_t1 (by rw [own_sel, if_pos rfl] at uk; exact uk) fE fT fL vT vL aa0 aa1) (fun _ _ q => q) (fun _ _ _ _ _ q => q) ?_
    rintro a U o U' hP ⟨v, L, ho, hQ, hF⟩
    obtain ⟨rfl, N, K, q0, q1⟩ := hQ
    refine ⟨_, L, ho, ⟨rfl, N, own_kmono K (allS (List.mem_of_getElem? (i := 1) rfl) (allS (List.mem_of_getElem? (i := 0) rfl) all0)), ?_, ?_, ?_⟩, hF⟩
    · rw [own_x0_0, own_x1_0]; exact q1
    · rw [own_f0_0]; exact q0
    · rw [own_f1_0]; exact aa1.keep K (ninS (Ne.symm ne_t0_t1) (ninS (Ne.symm ne_tL_t1) nin0))
  · refine MetFree.mono (own_mark_1 l Z a0 hw ws h0 n0 O0 ob tT tL t0 t1 kT kL x0 x1 z0 z1 f0 f1 p0 ne_ob_tT ne_ob_tL ne_ob_t0 ne_ob_t1 ne_tT_tL ne_tT_t0 ne_tT_t1 ne_tL_t0 ne_tL_t1 ne_t0_t1 ge_tL ge_t0 ge_t1 (by rw [own_sel, if_neg (by decide)] at uk; exact uk) fE fT fL vT vL aa0 aa1) (fun _ _ q => q) (fun _ _ _ _ _ q => q) ?_
    rintro a U o U' hP ⟨v, L, ho, hQ, hF⟩
    obtain ⟨rfl, N, K, q0, q1⟩ := hQ
    refine ⟨_, L, ho, ⟨rfl, N, own_kmono K (allS (List.mem_of_getElem? (i := 2) rfl) (allS (List.mem_of_getElem? (i := 0) rfl) all0)), ?_, ?_, ?_⟩, hF⟩
    · rw [own_x0_1, own_x1_1]; exact q1
    · rw [own_f0_1]; exact aa0.keep K (ninS ne_t0_t1 (ninS (Ne.symm ne_tL_t0) nin0))
    · rw [own_f1_1]; exact q0
def own_gx0 (g c p x : Int32) : Int32 := if g = 0 then x else own_x0 c p x
def own_gx1 (g c p x : Int32) : Int32 := if g = 0 then x else own_x1 c p x
def own_gf0 (g c z p : Int32) (f : Nat → Int32) : Nat → Int32 := if g = 0 then f else own_f0 c z p f
def own_gf1 (g c z p : Int32) (f : Nat → Int32) : Nat → Int32 := if g = 0 then f else own_f1 c z p f
def own_glt (g a b : Int32) : Int64 := if g = 0 then 0 else own_lt a b
theorem own_pn_4 : plainName "com/example/sober_broadcast/soberbroadcast/cli/PositionCountsCountBelowPinLaw" = true := by first | (simp [plainName, overriddenIn]; done) | decide +kernel
theorem own_ef_4_RRRIII (m : MethodId) (x0 : Addr) (x1 : Addr) (x2 : Addr) (x3 : Int32) (x4 : Int32) (x5 : Int32) : entryFrame m #[(.ref x0), (.ref x1), (.ref x2), (.int x3), (.int x4), (.int x5)] 7 = mkF m 0 #[.val (.ref x0), .val (.ref x1), .val (.ref x2), .val (.int x3), .val (.int x4), .val (.int x5), .unset] [] := by first | (simp [entryFrame, mkF, argsToLocals, Value.category]; done) | rfl
theorem own_pd_1 : parseMethodDescriptor "(II)V" = some ⟨[.int, .int], none⟩ := by decide +kernel
theorem own_d4_0 : decode method_3_code 0 = .ok (.iload_n 3, 1) := by decide +kernel
theorem own_d4_1 : decode method_3_code 1 = .ok (.ifCond .eq 10, 3) := by decide +kernel
theorem own_d4_4 : decode method_3_code 4 = .ok (.aload_n 1, 1) := by decide +kernel
theorem own_d4_5 : decode method_3_code 5 = .ok (.iload 4, 2) := by decide +kernel
theorem own_d4_7 : decode method_3_code 7 = .ok (.iaload, 1) := by decide +kernel
theorem own_d4_8 : decode method_3_code 8 = .ok (.ifCond .ne 5, 3) := by decide +kernel
theorem own_d4_13 : decode method_3_code 13 = .ok (.iload 5, 2) := by decide +kernel
theorem own_d4_15 : decode method_3_code 15 = .ok (.ldc 23, 2) := by decide +kernel
theorem own_d4_17 : decode method_3_code 17 = .ok (.iand, 1) := by decide +kernel
theorem own_d4_18 : decode method_3_code 18 = .ok (.aload_n 1, 1) := by decide +kernel
theorem own_d4_19 : decode method_3_code 19 = .ok (.iload 4, 2) := by decide +kernel
theorem own_d4_21 : decode method_3_code 21 = .ok (.iaload, 1) := by decide +kernel
theorem own_d4_22 : decode method_3_code 22 = .ok (.irem, 1) := by decide +kernel
theorem own_d4_23 : decode method_3_code 23 = .ok (.istore 6, 2) := by decide +kernel
theorem own_d4_25 : decode method_3_code 25 = .ok (.aload_n 0, 1) := by decide +kernel
theorem own_d4_26 : decode method_3_code 26 = .ok (.iload 4, 2) := by decide +kernel
theorem own_d4_28 : decode method_3_code 28 = .ok (.iload 6, 2) := by decide +kernel
theorem own_d4_30 : decode method_3_code 30 = .ok (.invokevirtual 24, 3) := by decide +kernel
theorem own_d4_33 : decode method_3_code 33 = .ok (.iload 6, 2) := by decide +kernel
theorem own_d4_35 : decode method_3_code 35 = .ok (.aload_n 2, 1) := by decide +kernel
theorem own_d4_36 : decode method_3_code 36 = .ok (.iload 4, 2) := by decide +kernel
theorem own_d4_38 : decode method_3_code 38 = .ok (.iaload, 1) := by decide +kernel
theorem own_d4_39 : decode method_3_code 39 = .ok (.if_icmp .ge 7, 3) := by decide +kernel
theorem own_d4_42 : decode method_3_code 42 = .ok (.lconst 1, 1) := by decide +kernel
theorem own_d4_43 : decode method_3_code 43 = .ok (.goto 4, 3) := by decide +kernel
theorem own_d4_47 : decode method_3_code 47 = .ok (.lreturn, 1) := by decide +kernel
def OwnQ_own_mo_01 (Z : State) (ob : Addr) (tT : Addr) (tL : Addr) (t0 : Addr) (t1 : Addr) (kT : ClassId) (kL : ClassId) (x0 : Int32) (x1 : Int32) (z0 : Int32) (z1 : Int32) (f0 : Nat → Int32) (f1 : Nat → Int32) (aL : Addr) (aB : Addr) (kA : ClassId) (kB : ClassId) (l0 : Int32) (l1 : Int32) (u0 : Int32) (u1 : Int32) (x : Int32) (r : Int32) (h0 : Heap) (n0 : Nat) (v : Option Value) (h : Heap) (L : List Loc) : Prop :=
  v = some (.long (1 : Int64)) ∧ Fr n0 L ∧ Keep h0 h [t0, tL] ∧ OwnA Z h t0 z0 (own_up z0 6 (r + (1 : Int32)) f0) ∧ Arv Z h tL kL .int (2 : Int32) [(.int (own_min x0 r)), (.int x1)] (.int (0 : Int32))
set_option maxRecDepth 65536 in
set_option maxHeartbeats 40000000 in
theorem own_mo_01 (l : Launch) (Z : State) (a0 : Array Value) (hw : ∀ d ∈ tables_1, d.before a0 Z = true) (ws : List Jvm.Cond) (h0 : Heap) (n0 : Nat) (O0 : Old Z n0 h0) (ob : Addr) (tT : Addr) (tL : Addr) (t0 : Addr) (t1 : Addr) (kT : ClassId) (kL : ClassId) (x0 : Int32) (x1 : Int32) (z0 : Int32) (z1 : Int32) (f0 : Nat → Int32) (f1 : Nat → Int32) (aL : Addr) (aB : Addr) (kA : ClassId) (kB : ClassId) (l0 : Int32) (l1 : Int32) (u0 : Int32) (u1 : Int32) (x : Int32) (r : Int32) (ne_ob_tT : ob ≠ tT) (ne_ob_tL : ob ≠ tL) (ne_ob_t0 : ob ≠ t0) (ne_ob_t1 : ob ≠ t1) (ne_tT_tL : tT ≠ tL) (ne_tT_t0 : tT ≠ t0) (ne_tT_t1 : tT ≠ t1) (ne_tL_t0 : tL ≠ t0) (ne_tL_t1 : tL ≠ t1) (ne_t0_t1 : t0 ≠ t1) (ne_aL_tL : aL ≠ tL) (ne_aL_t0 : aL ≠ t0) (ne_aL_t1 : aL ≠ t1) (ne_aB_tL : aB ≠ tL) (ne_aB_t0 : aB ≠ t0) (ne_aB_t1 : aB ≠ t1) (ge_tL : n0 ≤ tL) (ge_t0 : n0 ≤ t0) (ge_t1 : n0 ≤ t1) (hl : ¬ (l0 = (0 : Int32))) (hre : ((x &&& (2147483647 : Int32)) % l0) = r) (uk : own_upOk z0 6 (r + (1 : Int32)) = true) (hbb : r < u0) (fE : Exa Z h0 ob "com/example/sober_broadcast/soberbroadcast/cli/PositionCounts") (fT : Fld Z h0 ob "com/example/sober_broadcast/soberbroadcast/cli/PositionCounts" "trees" "[[I" (.ref tT)) (fL : Fld Z h0 ob "com/example/sober_broadcast/soberbroadcast/cli/PositionCounts" "lowest" "[I" (.ref tL)) (vT : Arv Z h0 tT kT (.array .int) (2 : Int32) [(.ref t0), (.ref t1)] .null) (vL : Arv Z h0 tL kL .int (2 : Int32) [(.int x0), (.int x1)] (.int (0 : Int32))) (aa0 : OwnA Z h0 t0 z0 f0) (aa1 : OwnA Z h0 t1 z1 f1) (vA : Arv Z h0 aL kA .int (2 : Int32) [(.int l0), (.int l1)] (.int (0 : Int32))) (vB : Arv Z h0 aB kB .int (2 : Int32) [(.int u0), (.int u1)] (.int (0 : Int32))) :
    MetFree l (⟨"com/example/sober_broadcast/soberbroadcast/cli/PositionCountsCountBelowPinLaw", "markOne", "(Lcom/example/sober_broadcast/soberbroadcast/cli/PositionCounts;[I[IZII)J"⟩ : MethodName) (head1 (Jvm.Cond.code (⟨"com/example/sober_broadcast/soberbroadcast/cli/PositionCountsCountBelowPinLaw", "markOne", "(Lcom/example/sober_broadcast/soberbroadcast/cli/PositionCounts;[I[IZII)J"⟩ : MethodName) method_3_code 7 (some .long) :: ws) ({ frames := 2, cells := 0, slots := 0, locals := 31 } : Room)) (fun a U => a = #[(.ref ob), (.ref aL), (.ref aB), (.int (1 : Int32)), (.int (0 : Int32)), (.int x)] ∧ Z.Warmed39 U.vm ∧ U.heap = h0) (fun _ _ _ _ _ => True) (fun _ U o U' => ∃ v L, o = .returned v ∧ OwnQ_own_mo_01 Z ob tT tL t0 t1 kT kL x0 x1 z0 z1 f0 f1 aL aB kA kB l0 l1 u0 u1 x r h0 n0 v U'.heap L ∧ FrameEnd U o U' L ({ frames := 2, cells := 0, slots := 0, locals := 31 } : Room).cells ({ frames := 2, cells := 0, slots := 0, locals := 31 } : Room).slots) := by
  refine MetFree.of_bodySF (plainFor_of_name own_pn_4) hisR ?_
  intro p e s m args below meth c s₁ Bd hml0 hP hK
  obtain ⟨rfl, hZ, hh⟩ := hP
  have hx := Bd.exec
  have hby := Bd.bytes
  have hml : c.maxLocals = 7 := hml0
  have hown : s.vm.findClass "com/example/sober_broadcast/soberbroadcast/cli/PositionCountsCountBelowPinLaw" = some m.cls := findClass_of_methodNamed Bd.named
  have hnm := (name_of_methodNamed Bd.named Bd.method).1
  have X0 : Stand p l e ({ frames := 2, cells := 0, slots := 0, locals := 31 } : Room) s m #[(.ref ob), (.ref aL), (.ref aB), (.int (1 : Int32)), (.int (0 : Int32)), (.int x)] below meth c s₁ [] 0 0 := Stand.of_body Bd
  have e0 : s₁.heap = h0 := by rw [← hh, Bd.state]; rfl
  have N0 := Fr.nil n0
  have pre0 : ∀ t, Steps p.tables e below (s₁.setTop (mkF m 0 #[.val (.ref ob), .val (.ref aL), .val (.ref aB), .val (.int (1 : Int32)), .val (.int (0 : Int32)), .val (.int x), .unset] [])) t → Steps p.tables e below (s₁.setTop (entryFrame m #[(.ref ob), (.ref aL), (.ref aB), (.int (1 : Int32)), (.int (0 : Int32)), (.int x)] 7)) t := fun t k => castTop (own_ef_4_RRRIII m ob aL aB (1 : Int32) (0 : Int32) x) k
  obtain ⟨cl1, Ar1, qk1, Sz1, Nn1, Hs1, Gs1⟩ := id (vA)
  have hin2 : ¬ ((0 : Int32) < 0 ∨ cl1.slots.size ≤ ((0 : Int32)).toNatClampNeg) := inb_of Sz1 ⟨by decide, by decide⟩
  have hat2 : cl1.slots[((0 : Int32)).toNatClampNeg]? = some (.int l0) := Hs1.at hin2 rfl
  have hin3 : ¬ ((0 : Int32) < 0 ∨ cl1.slots.size ≤ ((0 : Int32)).toNatClampNeg) := inb_of Sz1 ⟨by decide, by decide⟩
  have hat3 : cl1.slots[((0 : Int32)).toNatClampNeg]? = some (.int l0) := Hs1.at hin3 rfl
  obtain ⟨cq4, kq4, q4a, q4b, q4c⟩ := isOf hZ e0 fE
  obtain ⟨_, _, ⟨T4, L4, k4, n4⟩, -, X4, ⟨Lc4, hQ4, l4, y4, z4⟩, st4⟩ := X0.virtualBack hx (y := (⟨"com/example/sober_broadcast/soberbroadcast/cli/PositionCounts", "mark", "(II)V"⟩ : MethodName)) (z := (⟨"com/example/sober_broadcast/soberbroadcast/cli/PositionCounts", "mark", "(II)V"⟩ : MethodName)) hown (mvT hZ (hw _ (List.mem_of_getElem? (i := 33) rfl))) (mvT hZ (hw _ (List.mem_of_getElem? (i := 34) rfl))) (notFace_of_selects (args := #[]) (mvT hZ (hw _ (List.mem_of_getElem? (i := 36) rfl)))) (mvT hZ (hw _ (List.mem_of_getElem? (i := 36) rfl))) (mvT hZ (hw _ (List.mem_of_getElem? (i := 35) rfl))) (by decide) (backOf (W := 0) (own_mark_0 l Z a0 hw [] h0 n0 O0 ob tT tL t0 t1 kT kL x0 x1 z0 z1 f0 f1 r ne_ob_tT ne_ob_tL ne_ob_t0 ne_ob_t1 ne_tT_tL ne_tT_t0 ne_tT_t1 ne_tL_t0 ne_tL_t1 ne_t0_t1 ge_tL ge_t0 ge_t1 uk fE fT fL vT vL aa0 aa1) hZ (hw _ (List.mem_of_getElem? (i := 37) rfl)) (hw _ (List.mem_of_getElem? (i := 4) rfl)) (by decide) (by decide)) q4a q4c (g := (mkF m 30 #[.val (.ref ob), .val (.ref aL), .val (.ref aB), .val (.int (1 : Int32)), .val (.int (0 : Int32)), .val (.int x), .val (.int r)] [(.int r), (.int (0 : Int32)), (.ref ob)])) rfl (by rw [hml]; rfl) (Steps.refl _) (argsL := [(.int (0 : Int32)), (.int r)]) (rest := []) (lenOf own_pd_1 rfl) rfl (by show 2 * 0 + _ ≤ _; exact Nat.le_of_eq rfl) (hb hby own_d4_30) (fun _ _ => ⟨rfl, e0, (by decide : 0 + 0 ≤ _), (by decide : 0 + 0 ≤ _)⟩)
  dsimp only [Pt.U, Pt.locs, Pt.cells, Pt.slots] at X4 l4 y4 z4 st4 hQ4
  subst l4 y4 z4
  obtain ⟨rfl, N4q, Kq4, q4_A_t0, q4_V_tL⟩ := hQ4
  have N4 := Fr.app N0 N4q
  have f4_E_ob := fE.keep Kq4
  have f4_F_ob_trees := fT.keep Kq4 (ninS ne_ob_t0 (ninS ne_ob_tL nin0))
  have f4_F_ob_lowest := fL.keep Kq4 (ninS ne_ob_t0 (ninS ne_ob_tL nin0))
  have f4_V_tT := vT.keep Kq4 (ninS ne_tT_t0 (ninS ne_tT_tL nin0))
  have f4_A_t1 := aa1.keep Kq4 (ninS (Ne.symm ne_t0_t1) (ninS (Ne.symm ne_tL_t1) nin0))
  have f4_V_aL := vA.keep Kq4 (ninS ne_aL_t0 (ninS ne_aL_tL nin0))
  have f4_V_aB := vB.keep Kq4 (ninS ne_aB_t0 (ninS ne_aB_tL nin0))
  have O4 := O0.keep Kq4 (allS ge_t0 (allS ge_tL all0))
  have K4 := (Keep.refl h0 [t0, tL]).trans Kq4 (allS (Or.inl (List.mem_of_getElem? (i := 0) rfl)) (allS (Or.inl (List.mem_of_getElem? (i := 1) rfl)) all0))
  obtain ⟨cl5, Ar5, qk5, Sz5, Nn5, Hs5, Gs5⟩ := id (f4_V_aB)
  have hin6 : ¬ ((0 : Int32) < 0 ∨ cl5.slots.size ≤ ((0 : Int32)).toNatClampNeg) := inb_of Sz5 ⟨by decide, by decide⟩
  have hat6 : cl5.slots[((0 : Int32)).toNatClampNeg]? = some (.int u0) := Hs5.at hin6 rfl
  obtain ⟨fs, hr, hrun, hended, hW, hsame⟩ := X4.leave (v := some (.long (1 : Int64))) (fun h => by rw [Bd.returns] at h; cases h)
  refine ⟨_, _, pre0 _ ?_, hrun, hended, _, _, rfl, ?_, ⟨_, rfl⟩, hW, hsame.mono (by decide) (by decide)⟩
  · show Steps p.tables e below (s₁.setTop (mkF m 0 #[.val (.ref ob), .val (.ref aL), .val (.ref aB), .val (.int (1 : Int32)), .val (.int (0 : Int32)), .val (.int x), .unset] [])) _
    refine XS.iloadN X0.here hx rfl (hb hby own_d4_0) rfl ?_
    show Steps p.tables e below (s₁.setTop (mkF m 1 #[.val (.ref ob), .val (.ref aL), .val (.ref aB), .val (.int (1 : Int32)), .val (.int (0 : Int32)), .val (.int x), .unset] [(.int (1 : Int32))])) _
    refine XS.ifNo X0.here hx rfl (hb hby own_d4_1) rfl (by decide) ?_
    show Steps p.tables e below (s₁.setTop (mkF m 4 #[.val (.ref ob), .val (.ref aL), .val (.ref aB), .val (.int (1 : Int32)), .val (.int (0 : Int32)), .val (.int x), .unset] [])) _
    refine XS.aloadN X0.here hx rfl (hb hby own_d4_4) rfl rfl ?_
    show Steps p.tables e below (s₁.setTop (mkF m 5 #[.val (.ref ob), .val (.ref aL), .val (.ref aB), .val (.int (1 : Int32)), .val (.int (0 : Int32)), .val (.int x), .unset] [(.ref aL)])) _
    refine XS.iload X0.here hx rfl (hb hby own_d4_5) rfl ?_
    show Steps p.tables e below (s₁.setTop (mkF m 7 #[.val (.ref ob), .val (.ref aL), .val (.ref aB), .val (.int (1 : Int32)), .val (.int (0 : Int32)), .val (.int x), .unset] [(.int (0 : Int32)), (.ref aL)])) _
    refine X0.iaload hx (j := (0 : Int32)) (v := (.int l0)) (by rw [e0]; exact Ar1.1) (State.isArrayOf_alike hZ.alike Ar1.2.1) Ar1.2.2 hin2 hat2 (g := (mkF m 7 #[.val (.ref ob), .val (.ref aL), .val (.ref aB), .val (.int (1 : Int32)), .val (.int (0 : Int32)), .val (.int x), .unset] [(.int (0 : Int32)), (.ref aL)])) rfl rfl (hb hby own_d4_7) _ ?_
    show Steps p.tables e below (s₁.setTop (mkF m 8 #[.val (.ref ob), .val (.ref aL), .val (.ref aB), .val (.int (1 : Int32)), .val (.int (0 : Int32)), .val (.int x), .unset] [(.int l0)])) _
    refine XS.ifYes X0.here hx rfl (pc0 := 8) (pc' := 13) rfl (hb hby own_d4_8) rfl ((if0 _ _).trans (feq (hl : ¬ (l0 = (0 : Int32)))).2) (by decide) (by decide) ?_
    show Steps p.tables e below (s₁.setTop (mkF m 13 #[.val (.ref ob), .val (.ref aL), .val (.ref aB), .val (.int (1 : Int32)), .val (.int (0 : Int32)), .val (.int x), .unset] [])) _
    refine XS.iload X0.here hx rfl (hb hby own_d4_13) rfl ?_
    show Steps p.tables e below (s₁.setTop (mkF m 15 #[.val (.ref ob), .val (.ref aL), .val (.ref aB), .val (.int (1 : Int32)), .val (.int (0 : Int32)), .val (.int x), .unset] [(.int x)])) _
    refine Jvm.Stand.ldcI X0 hx hown (mvT hZ (hw _ (List.mem_of_getElem? (i := 32) rfl))) rfl (hb hby own_d4_15) ?_
    show Steps p.tables e below (s₁.setTop (mkF m 17 #[.val (.ref ob), .val (.ref aL), .val (.ref aB), .val (.int (1 : Int32)), .val (.int (0 : Int32)), .val (.int x), .unset] [(.int (2147483647 : Int32)), (.int x)])) _
    refine XS.iand X0.here hx rfl (hb hby own_d4_17) rfl ?_
    show Steps p.tables e below (s₁.setTop (mkF m 18 #[.val (.ref ob), .val (.ref aL), .val (.ref aB), .val (.int (1 : Int32)), .val (.int (0 : Int32)), .val (.int x), .unset] [(.int (x &&& (2147483647 : Int32)))])) _
    refine XS.aloadN X0.here hx rfl (hb hby own_d4_18) rfl rfl ?_
    show Steps p.tables e below (s₁.setTop (mkF m 19 #[.val (.ref ob), .val (.ref aL), .val (.ref aB), .val (.int (1 : Int32)), .val (.int (0 : Int32)), .val (.int x), .unset] [(.ref aL), (.int (x &&& (2147483647 : Int32)))])) _
    refine XS.iload X0.here hx rfl (hb hby own_d4_19) rfl ?_
    show Steps p.tables e below (s₁.setTop (mkF m 21 #[.val (.ref ob), .val (.ref aL), .val (.ref aB), .val (.int (1 : Int32)), .val (.int (0 : Int32)), .val (.int x), .unset] [(.int (0 : Int32)), (.ref aL), (.int (x &&& (2147483647 : Int32)))])) _
    refine X0.iaload hx (j := (0 : Int32)) (v := (.int l0)) (by rw [e0]; exact Ar1.1) (State.isArrayOf_alike hZ.alike Ar1.2.1) Ar1.2.2 hin3 hat3 (g := (mkF m 21 #[.val (.ref ob), .val (.ref aL), .val (.ref aB), .val (.int (1 : Int32)), .val (.int (0 : Int32)), .val (.int x), .unset] [(.int (0 : Int32)), (.ref aL), (.int (x &&& (2147483647 : Int32)))])) rfl rfl (hb hby own_d4_21) _ ?_
    show Steps p.tables e below (s₁.setTop (mkF m 22 #[.val (.ref ob), .val (.ref aL), .val (.ref aB), .val (.int (1 : Int32)), .val (.int (0 : Int32)), .val (.int x), .unset] [(.int l0), (.int (x &&& (2147483647 : Int32)))])) _
    refine iremM X0 hx rfl (hb hby own_d4_22) rfl hl ?_
    show Steps p.tables e below (s₁.setTop (mkF m 23 #[.val (.ref ob), .val (.ref aL), .val (.ref aB), .val (.int (1 : Int32)), .val (.int (0 : Int32)), .val (.int x), .unset] [(.int ((x &&& (2147483647 : Int32)) % l0))])) _
    refine castTop (g' := (mkF m 23 #[.val (.ref ob), .val (.ref aL), .val (.ref aB), .val (.int (1 : Int32)), .val (.int (0 : Int32)), .val (.int x), .unset] [(.int r)])) (by rw [hre]) ?_
    show Steps p.tables e below (s₁.setTop (mkF m 23 #[.val (.ref ob), .val (.ref aL), .val (.ref aB), .val (.int (1 : Int32)), .val (.int (0 : Int32)), .val (.int x), .unset] [(.int r)])) _
    refine XS.istore X0.here hx rfl (hb hby own_d4_23) rfl (l' := #[.val (.ref ob), .val (.ref aL), .val (.ref aB), .val (.int (1 : Int32)), .val (.int (0 : Int32)), .val (.int x), .val (.int r)]) rfl ?_
    show Steps p.tables e below (s₁.setTop (mkF m 25 #[.val (.ref ob), .val (.ref aL), .val (.ref aB), .val (.int (1 : Int32)), .val (.int (0 : Int32)), .val (.int x), .val (.int r)] [])) _
    refine XS.aloadN X0.here hx rfl (hb hby own_d4_25) rfl rfl ?_
    show Steps p.tables e below (s₁.setTop (mkF m 26 #[.val (.ref ob), .val (.ref aL), .val (.ref aB), .val (.int (1 : Int32)), .val (.int (0 : Int32)), .val (.int x), .val (.int r)] [(.ref ob)])) _
    refine XS.iload X0.here hx rfl (hb hby own_d4_26) rfl ?_
    show Steps p.tables e below (s₁.setTop (mkF m 28 #[.val (.ref ob), .val (.ref aL), .val (.ref aB), .val (.int (1 : Int32)), .val (.int (0 : Int32)), .val (.int x), .val (.int r)] [(.int (0 : Int32)), (.ref ob)])) _
    refine XS.iload X0.here hx rfl (hb hby own_d4_28) rfl ?_
    show Steps p.tables e below (s₁.setTop (mkF m 30 #[.val (.ref ob), .val (.ref aL), .val (.ref aB), .val (.int (1 : Int32)), .val (.int (0 : Int32)), .val (.int x), .val (.int r)] [(.int r), (.int (0 : Int32)), (.ref ob)])) _
    refine st4.trans ?_
    show Steps p.tables e below (T4.setTop (mkF m 33 #[.val (.ref ob), .val (.ref aL), .val (.ref aB), .val (.int (1 : Int32)), .val (.int (0 : Int32)), .val (.int x), .val (.int r)] [])) _
    refine XS.iload X4.here hx rfl (hb hby own_d4_33) rfl ?_
    show Steps p.tables e below (T4.setTop (mkF m 35 #[.val (.ref ob), .val (.ref aL), .val (.ref aB), .val (.int (1 : Int32)), .val (.int (0 : Int32)), .val (.int x), .val (.int r)] [(.int r)])) _
    refine XS.aloadN X4.here hx rfl (hb hby own_d4_35) rfl rfl ?_
    show Steps p.tables e below (T4.setTop (mkF m 36 #[.val (.ref ob), .val (.ref aL), .val (.ref aB), .val (.int (1 : Int32)), .val (.int (0 : Int32)), .val (.int x), .val (.int r)] [(.ref aB), (.int r)])) _
    refine XS.iload X4.here hx rfl (hb hby own_d4_36) rfl ?_
    show Steps p.tables e below (T4.setTop (mkF m 38 #[.val (.ref ob), .val (.ref aL), .val (.ref aB), .val (.int (1 : Int32)), .val (.int (0 : Int32)), .val (.int x), .val (.int r)] [(.int (0 : Int32)), (.ref aB), (.int r)])) _
    refine X4.iaload hx (j := (0 : Int32)) (v := (.int u0)) Ar5.1 (State.isArrayOf_alike hZ.alike Ar5.2.1) Ar5.2.2 hin6 hat6 (g := (mkF m 38 #[.val (.ref ob), .val (.ref aL), .val (.ref aB), .val (.int (1 : Int32)), .val (.int (0 : Int32)), .val (.int x), .val (.int r)] [(.int (0 : Int32)), (.ref aB), (.int r)])) rfl rfl (hb hby own_d4_38) _ ?_
    show Steps p.tables e below (T4.setTop (mkF m 39 #[.val (.ref ob), .val (.ref aL), .val (.ref aB), .val (.int (1 : Int32)), .val (.int (0 : Int32)), .val (.int x), .val (.int r)] [(.int u0), (.int r)])) _
    refine XS.icmpNo X4.here hx rfl (hb hby own_d4_39) rfl (tlt (hbb : r < u0)).2.1 ?_
    show Steps p.tables e below (T4.setTop (mkF m 42 #[.val (.ref ob), .val (.ref aL), .val (.ref aB), .val (.int (1 : Int32)), .val (.int (0 : Int32)), .val (.int x), .val (.int r)] [])) _
    refine XS.lconst X4.here hx rfl (hb hby own_d4_42) ?_
    show Steps p.tables e below (T4.setTop (mkF m 43 #[.val (.ref ob), .val (.ref aL), .val (.ref aB), .val (.int (1 : Int32)), .val (.int (0 : Int32)), .val (.int x), .val (.int r)] [(.long (1 : Int64))])) _
    refine XS.goto X4.here hx rfl (pc0 := 43) (pc' := 47) rfl (hb hby own_d4_43) (by decide) (by decide) ?_
    show Steps p.tables e below (T4.setTop (mkF m 47 #[.val (.ref ob), .val (.ref aL), .val (.ref aB), .val (.int (1 : Int32)), .val (.int (0 : Int32)), .val (.int x), .val (.int r)] [(.long (1 : Int64))])) _
    jvm_step X4.here [X4.here.top, hx, (hb hby own_d4_47), X4.method', Bd.returns, narrow]
    first | (intro acts; rw [hr _ acts rfl rfl rfl]) | rw [hr _ _ rfl rfl rfl]
    exact Steps.refl _
  · show OwnQ_own_mo_01 Z ob tT tL t0 t1 kT kL x0 x1 z0 z1 f0 f1 aL aB kA kB l0 l1 u0 u1 x r h0 n0 _ T4.heap _
    exact ⟨rfl, N4, K4, q4_A_t0, q4_V_tL⟩
theorem own_d4_46 : decode method_3_code 46 = .ok (.lconst 0, 1) := by decide +kernel
def OwnQ_own_mo_00 (Z : State) (ob : Addr) (tT : Addr) (tL : Addr) (t0 : Addr) (t1 : Addr) (kT : ClassId) (kL : ClassId) (x0 : Int32) (x1 : Int32) (z0 : Int32) (z1 : Int32) (f0 : Nat → Int32) (f1 : Nat → Int32) (aL : Addr) (aB : Addr) (kA : ClassId) (kB : ClassId) (l0 : Int32) (l1 : Int32) (u0 : Int32) (u1 : Int32) (x : Int32) (r : Int32) (h0 : Heap) (n0 : Nat) (v : Option Value) (h : Heap) (L : List Loc) : Prop :=
  v = some (.long (0 : Int64)) ∧ Fr n0 L ∧ Keep h0 h [t0, tL] ∧ OwnA Z h t0 z0 (own_up z0 6 (r + (1 : Int32)) f0) ∧ Arv Z h tL kL .int (2 : Int32) [(.int (own_min x0 r)), (.int x1)] (.int (0 : Int32))
set_option maxRecDepth 65536 in
set_option maxHeartbeats 40000000 in
theorem own_mo_00 (l : Launch) (Z : State) (a0 : Array Value) (hw : ∀ d ∈ tables_1, d.before a0 Z = true) (ws : List Jvm.Cond) (h0 : Heap) (n0 : Nat) (O0 : Old Z n0 h0) (ob : Addr) (tT : Addr) (tL : Addr) (t0 : Addr) (t1 : Addr) (kT : ClassId) (kL : ClassId) (x0 : Int32) (x1 : Int32) (z0 : Int32) (z1 : Int32) (f0 : Nat → Int32) (f1 : Nat → Int32) (aL : Addr) (aB : Addr) (kA : ClassId) (kB : ClassId) (l0 : Int32) (l1 : Int32) (u0 : Int32) (u1 : Int32) (x : Int32) (r : Int32) (ne_ob_tT : ob ≠ tT) (ne_ob_tL : ob ≠ tL) (ne_ob_t0 : ob ≠ t0) (ne_ob_t1 : ob ≠ t1) (ne_tT_tL : tT ≠ tL) (ne_tT_t0 : tT ≠ t0) (ne_tT_t1 : tT ≠ t1) (ne_tL_t0 : tL ≠ t0) (ne_tL_t1 : tL ≠ t1) (ne_t0_t1 : t0 ≠ t1) (ne_aL_tL : aL ≠ tL) (ne_aL_t0 : aL ≠ t0) (ne_aL_t1 : aL ≠ t1) (ne_aB_tL : aB ≠ tL) (ne_aB_t0 : aB ≠ t0) (ne_aB_t1 : aB ≠ t1) (ge_tL : n0 ≤ tL) (ge_t0 : n0 ≤ t0) (ge_t1 : n0 ≤ t1) (hl : ¬ (l0 = (0 : Int32))) (hre : ((x &&& (2147483647 : Int32)) % l0) = r) (uk : own_upOk z0 6 (r + (1 : Int32)) = true) (hbb : ¬ (r < u0)) (fE : Exa Z h0 ob "com/example/sober_broadcast/soberbroadcast/cli/PositionCounts") (fT : Fld Z h0 ob "com/example/sober_broadcast/soberbroadcast/cli/PositionCounts" "trees" "[[I" (.ref tT)) (fL : Fld Z h0 ob "com/example/sober_broadcast/soberbroadcast/cli/PositionCounts" "lowest" "[I" (.ref tL)) (vT : Arv Z h0 tT kT (.array .int) (2 : Int32) [(.ref t0), (.ref t1)] .null) (vL : Arv Z h0 tL kL .int (2 : Int32) [(.int x0), (.int x1)] (.int (0 : Int32))) (aa0 : OwnA Z h0 t0 z0 f0) (aa1 : OwnA Z h0 t1 z1 f1) (vA : Arv Z h0 aL kA .int (2 : Int32) [(.int l0), (.int l1)] (.int (0 : Int32))) (vB : Arv Z h0 aB kB .int (2 : Int32) [(.int u0), (.int u1)] (.int (0 : Int32))) :
    MetFree l (⟨"com/example/sober_broadcast/soberbroadcast/cli/PositionCountsCountBelowPinLaw", "markOne", "(Lcom/example/sober_broadcast/soberbroadcast/cli/PositionCounts;[I[IZII)J"⟩ : MethodName) (head1 (Jvm.Cond.code (⟨"com/example/sober_broadcast/soberbroadcast/cli/PositionCountsCountBelowPinLaw", "markOne", "(Lcom/example/sober_broadcast/soberbroadcast/cli/PositionCounts;[I[IZII)J"⟩ : MethodName) method_3_code 7 (some .long) :: ws) ({ frames := 2, cells := 0, slots := 0, locals := 31 } : Room)) (fun a U => a = #[(.ref ob), (.ref aL), (.ref aB), (.int (1 : Int32)), (.int (0 : Int32)), (.int x)] ∧ Z.Warmed39 U.vm ∧ U.heap = h0) (fun _ _ _ _ _ => True) (fun _ U o U' => ∃ v L, o = .returned v ∧ OwnQ_own_mo_00 Z ob tT tL t0 t1 kT kL x0 x1 z0 z1 f0 f1 aL aB kA kB l0 l1 u0 u1 x r h0 n0 v U'.heap L ∧ FrameEnd U o U' L ({ frames := 2, cells := 0, slots := 0, locals := 31 } : Room).cells ({ frames := 2, cells := 0, slots := 0, locals := 31 } : Room).slots) := by
  refine MetFree.of_bodySF (plainFor_of_name own_pn_4) hisR ?_
  intro p e s m args below meth c s₁ Bd hml0 hP hK
  obtain ⟨rfl, hZ, hh⟩ := hP
  have hx := Bd.exec
  have hby := Bd.bytes
  have hml : c.maxLocals = 7 := hml0
  have hown : s.vm.findClass "com/example/sober_broadcast/soberbroadcast/cli/PositionCountsCountBelowPinLaw" = some m.cls := findClass_of_methodNamed Bd.named
  have hnm := (name_of_methodNamed Bd.named Bd.method).1
  have X0 : Stand p l e ({ frames := 2, cells := 0, slots := 0, locals := 31 } : Room) s m #[(.ref ob), (.ref aL), (.ref aB), (.int (1 : Int32)), (.int (0 : Int32)), (.int x)] below meth c s₁ [] 0 0 := Stand.of_body Bd
  have e0 : s₁.heap = h0 := by rw [← hh, Bd.state]; rfl
  have N0 := Fr.nil n0
  have pre0 : ∀ t, Steps p.tables e below (s₁.setTop (mkF m 0 #[.val (.ref ob), .val (.ref aL), .val (.ref aB), .val (.int (1 : Int32)), .val (.int (0 : Int32)), .val (.int x), .unset] [])) t → Steps p.tables e below (s₁.setTop (entryFrame m #[(.ref ob), (.ref aL), (.ref aB), (.int (1 : Int32)), (.int (0 : Int32)), (.int x)] 7)) t := fun t k => castTop (own_ef_4_RRRIII m ob aL aB (1 : Int32) (0 : Int32) x) k
  obtain ⟨cl1, Ar1, qk1, Sz1, Nn1, Hs1, Gs1⟩ := id (vA)
  have hin2 : ¬ ((0 : Int32) < 0 ∨ cl1.slots.size ≤ ((0 : Int32)).toNatClampNeg) := inb_of Sz1 ⟨by decide, by decide⟩
  have hat2 : cl1.slots[((0 : Int32)).toNatClampNeg]? = some (.int l0) := Hs1.at hin2 rfl
  have hin3 : ¬ ((0 : Int32) < 0 ∨ cl1.slots.size ≤ ((0 : Int32)).toNatClampNeg) := inb_of Sz1 ⟨by decide, by decide⟩
  have hat3 : cl1.slots[((0 : Int32)).toNatClampNeg]? = some (.int l0) := Hs1.at hin3 rfl
  obtain ⟨cq4, kq4, q4a, q4b, q4c⟩ := isOf hZ e0 fE
  obtain ⟨_, _, ⟨T4, L4, k4, n4⟩, -, X4, ⟨Lc4, hQ4, l4, y4, z4⟩, st4⟩ := X0.virtualBack hx (y := (⟨"com/example/sober_broadcast/soberbroadcast/cli/PositionCounts", "mark", "(II)V"⟩ : MethodName)) (z := (⟨"com/example/sober_broadcast/soberbroadcast/cli/PositionCounts", "mark", "(II)V"⟩ : MethodName)) hown (mvT hZ (hw _ (List.mem_of_getElem? (i := 33) rfl))) (mvT hZ (hw _ (List.mem_of_getElem? (i := 34) rfl))) (notFace_of_selects (args := #[]) (mvT hZ (hw _ (List.mem_of_getElem? (i := 36) rfl)))) (mvT hZ (hw _ (List.mem_of_getElem? (i := 36) rfl))) (mvT hZ (hw _ (List.mem_of_getElem? (i := 35) rfl))) (by decide) (backOf (W := 0) (own_mark_0 l Z a0 hw [] h0 n0 O0 ob tT tL t0 t1 kT kL x0 x1 z0 z1 f0 f1 r ne_ob_tT ne_ob_tL ne_ob_t0 ne_ob_t1 ne_tT_tL ne_tT_t0 ne_tT_t1 ne_tL_t0 ne_tL_t1 ne_t0_t1 ge_tL ge_t0 ge_t1 uk fE fT fL vT vL aa0 aa1) hZ (hw _ (List.mem_of_getElem? (i := 37) rfl)) (hw _ (List.mem_of_getElem? (i := 4) rfl)) (by decide) (by decide)) q4a q4c (g := (mkF m 30 #[.val (.ref ob), .val (.ref aL), .val (.ref aB), .val (.int (1 : Int32)), .val (.int (0 : Int32)), .val (.int x), .val (.int r)] [(.int r), (.int (0 : Int32)), (.ref ob)])) rfl (by rw [hml]; rfl) (Steps.refl _) (argsL := [(.int (0 : Int32)), (.int r)]) (rest := []) (lenOf own_pd_1 rfl) rfl (by show 2 * 0 + _ ≤ _; exact Nat.le_of_eq rfl) (hb hby own_d4_30) (fun _ _ => ⟨rfl, e0, (by decide : 0 + 0 ≤ _), (by decide : 0 + 0 ≤ _)⟩)
  dsimp only [Pt.U, Pt.locs, Pt.cells, Pt.slots] at X4 l4 y4 z4 st4 hQ4
  subst l4 y4 z4
  obtain ⟨rfl, N4q, Kq4, q4_A_t0, q4_V_tL⟩ := hQ4
  have N4 := Fr.app N0 N4q
  have f4_E_ob := fE.keep Kq4
  have f4_F_ob_trees := fT.keep Kq4 (ninS ne_ob_t0 (ninS ne_ob_tL nin0))
  have f4_F_ob_lowest := fL.keep Kq4 (ninS ne_ob_t0 (ninS ne_ob_tL nin0))
  have f4_V_tT := vT.keep Kq4 (ninS ne_tT_t0 (ninS ne_tT_tL nin0))
  have f4_A_t1 := aa1.keep Kq4 (ninS (Ne.symm ne_t0_t1) (ninS (Ne.symm ne_tL_t1) nin0))
  have f4_V_aL := vA.keep Kq4 (ninS ne_aL_t0 (ninS ne_aL_tL nin0))
  have f4_V_aB := vB.keep Kq4 (ninS ne_aB_t0 (ninS ne_aB_tL nin0))
  have O4 := O0.keep Kq4 (allS ge_t0 (allS ge_tL all0))
  have K4 := (Keep.refl h0 [t0, tL]).trans Kq4 (allS (Or.inl (List.mem_of_getElem? (i := 0) rfl)) (allS (Or.inl (List.mem_of_getElem? (i := 1) rfl)) all0))
  obtain ⟨cl5, Ar5, qk5, Sz5, Nn5, Hs5, Gs5⟩ := id (f4_V_aB)
  have hin6 : ¬ ((0 : Int32) < 0 ∨ cl5.slots.size ≤ ((0 : Int32)).toNatClampNeg) := inb_of Sz5 ⟨by decide, by decide⟩
  have hat6 : cl5.slots[((0 : Int32)).toNatClampNeg]? = some (.int u0) := Hs5.at hin6 rfl
  obtain ⟨fs, hr, hrun, hended, hW, hsame⟩ := X4.leave (v := some (.long (0 : Int64))) (fun h => by rw [Bd.returns] at h; cases h)
  refine ⟨_, _, pre0 _ ?_, hrun, hended, _, _, rfl, ?_, ⟨_, rfl⟩, hW, hsame.mono (by decide) (by decide)⟩
  · show Steps p.tables e below (s₁.setTop (mkF m 0 #[.val (.ref ob), .val (.ref aL), .val (.ref aB), .val (.int (1 : Int32)), .val (.int (0 : Int32)), .val (.int x), .unset] [])) _
    refine XS.iloadN X0.here hx rfl (hb hby own_d4_0) rfl ?_
    show Steps p.tables e below (s₁.setTop (mkF m 1 #[.val (.ref ob), .val (.ref aL), .val (.ref aB), .val (.int (1 : Int32)), .val (.int (0 : Int32)), .val (.int x), .unset] [(.int (1 : Int32))])) _
    refine XS.ifNo X0.here hx rfl (hb hby own_d4_1) rfl (by decide) ?_
    show Steps p.tables e below (s₁.setTop (mkF m 4 #[.val (.ref ob), .val (.ref aL), .val (.ref aB), .val (.int (1 : Int32)), .val (.int (0 : Int32)), .val (.int x), .unset] [])) _
    refine XS.aloadN X0.here hx rfl (hb hby own_d4_4) rfl rfl ?_
    show Steps p.tables e below (s₁.setTop (mkF m 5 #[.val (.ref ob), .val (.ref aL), .val (.ref aB), .val (.int (1 : Int32)), .val (.int (0 : Int32)), .val (.int x), .unset] [(.ref aL)])) _
    refine XS.iload X0.here hx rfl (hb hby own_d4_5) rfl ?_
    show Steps p.tables e below (s₁.setTop (mkF m 7 #[.val (.ref ob), .val (.ref aL), .val (.ref aB), .val (.int (1 : Int32)), .val (.int (0 : Int32)), .val (.int x), .unset] [(.int (0 : Int32)), (.ref aL)])) _
    refine X0.iaload hx (j := (0 : Int32)) (v := (.int l0)) (by rw [e0]; exact Ar1.1) (State.isArrayOf_alike hZ.alike Ar1.2.1) Ar1.2.2 hin2 hat2 (g := (mkF m 7 #[.val (.ref ob), .val (.ref aL), .val (.ref aB), .val (.int (1 : Int32)), .val (.int (0 : Int32)), .val (.int x), .unset] [(.int (0 : Int32)), (.ref aL)])) rfl rfl (hb hby own_d4_7) _ ?_
    show Steps p.tables e below (s₁.setTop (mkF m 8 #[.val (.ref ob), .val (.ref aL), .val (.ref aB), .val (.int (1 : Int32)), .val (.int (0 : Int32)), .val (.int x), .unset] [(.int l0)])) _
    refine XS.ifYes X0.here hx rfl (pc0 := 8) (pc' := 13) rfl (hb hby own_d4_8) rfl ((if0 _ _).trans (feq (hl : ¬ (l0 = (0 : Int32)))).2) (by decide) (by decide) ?_
    show Steps p.tables e below (s₁.setTop (mkF m 13 #[.val (.ref ob), .val (.ref aL), .val (.ref aB), .val (.int (1 : Int32)), .val (.int (0 : Int32)), .val (.int x), .unset] [])) _
    refine XS.iload X0.here hx rfl (hb hby own_d4_13) rfl ?_
    show Steps p.tables e below (s₁.setTop (mkF m 15 #[.val (.ref ob), .val (.ref aL), .val (.ref aB), .val (.int (1 : Int32)), .val (.int (0 : Int32)), .val (.int x), .unset] [(.int x)])) _
    refine Jvm.Stand.ldcI X0 hx hown (mvT hZ (hw _ (List.mem_of_getElem? (i := 32) rfl))) rfl (hb hby own_d4_15) ?_
    show Steps p.tables e below (s₁.setTop (mkF m 17 #[.val (.ref ob), .val (.ref aL), .val (.ref aB), .val (.int (1 : Int32)), .val (.int (0 : Int32)), .val (.int x), .unset] [(.int (2147483647 : Int32)), (.int x)])) _
    refine XS.iand X0.here hx rfl (hb hby own_d4_17) rfl ?_
    show Steps p.tables e below (s₁.setTop (mkF m 18 #[.val (.ref ob), .val (.ref aL), .val (.ref aB), .val (.int (1 : Int32)), .val (.int (0 : Int32)), .val (.int x), .unset] [(.int (x &&& (2147483647 : Int32)))])) _
    refine XS.aloadN X0.here hx rfl (hb hby own_d4_18) rfl rfl ?_
    show Steps p.tables e below (s₁.setTop (mkF m 19 #[.val (.ref ob), .val (.ref aL), .val (.ref aB), .val (.int (1 : Int32)), .val (.int (0 : Int32)), .val (.int x), .unset] [(.ref aL), (.int (x &&& (2147483647 : Int32)))])) _
    refine XS.iload X0.here hx rfl (hb hby own_d4_19) rfl ?_
    show Steps p.tables e below (s₁.setTop (mkF m 21 #[.val (.ref ob), .val (.ref aL), .val (.ref aB), .val (.int (1 : Int32)), .val (.int (0 : Int32)), .val (.int x), .unset] [(.int (0 : Int32)), (.ref aL), (.int (x &&& (2147483647 : Int32)))])) _
    refine X0.iaload hx (j := (0 : Int32)) (v := (.int l0)) (by rw [e0]; exact Ar1.1) (State.isArrayOf_alike hZ.alike Ar1.2.1) Ar1.2.2 hin3 hat3 (g := (mkF m 21 #[.val (.ref ob), .val (.ref aL), .val (.ref aB), .val (.int (1 : Int32)), .val (.int (0 : Int32)), .val (.int x), .unset] [(.int (0 : Int32)), (.ref aL), (.int (x &&& (2147483647 : Int32)))])) rfl rfl (hb hby own_d4_21) _ ?_
    show Steps p.tables e below (s₁.setTop (mkF m 22 #[.val (.ref ob), .val (.ref aL), .val (.ref aB), .val (.int (1 : Int32)), .val (.int (0 : Int32)), .val (.int x), .unset] [(.int l0), (.int (x &&& (2147483647 : Int32)))])) _
    refine iremM X0 hx rfl (hb hby own_d4_22) rfl hl ?_
    show Steps p.tables e below (s₁.setTop (mkF m 23 #[.val (.ref ob), .val (.ref aL), .val (.ref aB), .val (.int (1 : Int32)), .val (.int (0 : Int32)), .val (.int x), .unset] [(.int ((x &&& (2147483647 : Int32)) % l0))])) _
    refine castTop (g' := (mkF m 23 #[.val (.ref ob), .val (.ref aL), .val (.ref aB), .val (.int (1 : Int32)), .val (.int (0 : Int32)), .val (.int x), .unset] [(.int r)])) (by rw [hre]) ?_
    show Steps p.tables e below (s₁.setTop (mkF m 23 #[.val (.ref ob), .val (.ref aL), .val (.ref aB), .val (.int (1 : Int32)), .val (.int (0 : Int32)), .val (.int x), .unset] [(.int r)])) _
    refine XS.istore X0.here hx rfl (hb hby own_d4_23) rfl (l' := #[.val (.ref ob), .val (.ref aL), .val (.ref aB), .val (.int (1 : Int32)), .val (.int (0 : Int32)), .val (.int x), .val (.int r)]) rfl ?_
    show Steps p.tables e below (s₁.setTop (mkF m 25 #[.val (.ref ob), .val (.ref aL), .val (.ref aB), .val (.int (1 : Int32)), .val (.int (0 : Int32)), .val (.int x), .val (.int r)] [])) _
    refine XS.aloadN X0.here hx rfl (hb hby own_d4_25) rfl rfl ?_
    show Steps p.tables e below (s₁.setTop (mkF m 26 #[.val (.ref ob), .val (.ref aL), .val (.ref aB), .val (.int (1 : Int32)), .val (.int (0 : Int32)), .val (.int x), .val (.int r)] [(.ref ob)])) _
    refine XS.iload X0.here hx rfl (hb hby own_d4_26) rfl ?_
    show Steps p.tables e below (s₁.setTop (mkF m 28 #[.val (.ref ob), .val (.ref aL), .val (.ref aB), .val (.int (1 : Int32)), .val (.int (0 : Int32)), .val (.int x), .val (.int r)] [(.int (0 : Int32)), (.ref ob)])) _
    refine XS.iload X0.here hx rfl (hb hby own_d4_28) rfl ?_
    show Steps p.tables e below (s₁.setTop (mkF m 30 #[.val (.ref ob), .val (.ref aL), .val (.ref aB), .val (.int (1 : Int32)), .val (.int (0 : Int32)), .val (.int x), .val (.int r)] [(.int r), (.int (0 : Int32)), (.ref ob)])) _
    refine st4.trans ?_
    show Steps p.tables e below (T4.setTop (mkF m 33 #[.val (.ref ob), .val (.ref aL), .val (.ref aB), .val (.int (1 : Int32)), .val (.int (0 : Int32)), .val (.int x), .val (.int r)] [])) _
    refine XS.iload X4.here hx rfl (hb hby own_d4_33) rfl ?_
    show Steps p.tables e below (T4.setTop (mkF m 35 #[.val (.ref ob), .val (.ref aL), .val (.ref aB), .val (.int (1 : Int32)), .val (.int (0 : Int32)), .val (.int x), .val (.int r)] [(.int r)])) _
    refine XS.aloadN X4.here hx rfl (hb hby own_d4_35) rfl rfl ?_
    show Steps p.tables e below (T4.setTop (mkF m 36 #[.val (.ref ob), .val (.ref aL), .val (.ref aB), .val (.int (1 : Int32)), .val (.int (0 : Int32)), .val (.int x), .val (.int r)] [(.ref aB), (.int r)])) _
    refine XS.iload X4.here hx rfl (hb hby own_d4_36) rfl ?_
    show Steps p.tables e below (T4.setTop (mkF m 38 #[.val (.ref ob), .val (.ref aL), .val (.ref aB), .val (.int (1 : Int32)), .val (.int (0 : Int32)), .val (.int x), .val (.int r)] [(.int (0 : Int32)), (.ref aB), (.int r)])) _
    refine X4.iaload hx (j := (0 : Int32)) (v := (.int u0)) Ar5.1 (State.isArrayOf_alike hZ.alike Ar5.2.1) Ar5.2.2 hin6 hat6 (g := (mkF m 38 #[.val (.ref ob), .val (.ref aL), .val (.ref aB), .val (.int (1 : Int32)), .val (.int (0 : Int32)), .val (.int x), .val (.int r)] [(.int (0 : Int32)), (.ref aB), (.int r)])) rfl rfl (hb hby own_d4_38) _ ?_
    show Steps p.tables e below (T4.setTop (mkF m 39 #[.val (.ref ob), .val (.ref aL), .val (.ref aB), .val (.int (1 : Int32)), .val (.int (0 : Int32)), .val (.int x), .val (.int r)] [(.int u0), (.int r)])) _
    refine XS.icmpYes X4.here hx rfl (pc0 := 39) (pc' := 46) rfl (hb hby own_d4_39) rfl (flt (hbb : ¬ (r < u0))).2.1 (by decide) (by decide) ?_
    show Steps p.tables e below (T4.setTop (mkF m 46 #[.val (.ref ob), .val (.ref aL), .val (.ref aB), .val (.int (1 : Int32)), .val (.int (0 : Int32)), .val (.int x), .val (.int r)] [])) _
    refine XS.lconst X4.here hx rfl (hb hby own_d4_46) ?_
    show Steps p.tables e below (T4.setTop (mkF m 47 #[.val (.ref ob), .val (.ref aL), .val (.ref aB), .val (.int (1 : Int32)), .val (.int (0 : Int32)), .val (.int x), .val (.int r)] [(.long (0 : Int64))])) _
    jvm_step X4.here [X4.here.top, hx, (hb hby own_d4_47), X4.method', Bd.returns, narrow]
    first | (intro acts; rw [hr _ acts rfl rfl rfl]) | rw [hr _ _ rfl rfl rfl]
    exact Steps.refl _
  · show OwnQ_own_mo_00 Z ob tT tL t0 t1 kT kL x0 x1 z0 z1 f0 f1 aL aB kA kB l0 l1 u0 u1 x r h0 n0 _ T4.heap _
    exact ⟨rfl, N4, K4, q4_A_t0, q4_V_tL⟩
def OwnQ_own_mo_11 (Z : State) (ob : Addr) (tT : Addr) (tL : Addr) (t0 : Addr) (t1 : Addr) (kT : ClassId) (kL : ClassId) (x0 : Int32) (x1 : Int32) (z0 : Int32) (z1 : Int32) (f0 : Nat → Int32) (f1 : Nat → Int32) (aL : Addr) (aB : Addr) (kA : ClassId) (kB : ClassId) (l0 : Int32) (l1 : Int32) (u0 : Int32) (u1 : Int32) (x : Int32) (r : Int32) (h0 : Heap) (n0 : Nat) (v : Option Value) (h : Heap) (L : List Loc) : Prop :=
  v = some (.long (1 : Int64)) ∧ Fr n0 L ∧ Keep h0 h [t1, tL] ∧ OwnA Z h t1 z1 (own_up z1 6 (r + (1 : Int32)) f1) ∧ Arv Z h tL kL .int (2 : Int32) [(.int x0), (.int (own_min x1 r))] (.int (0 : Int32))
set_option maxRecDepth 65536 in
set_option maxHeartbeats 40000000 in
theorem own_mo_11 (l : Launch) (Z : State) (a0 : Array Value) (hw : ∀ d ∈ tables_1, d.before a0 Z = true) (ws : List Jvm.Cond) (h0 : Heap) (n0 : Nat) (O0 : Old Z n0 h0) (ob : Addr) (tT : Addr) (tL : Addr) (t0 : Addr) (t1 : Addr) (kT : ClassId) (kL : ClassId) (x0 : Int32) (x1 : Int32) (z0 : Int32) (z1 : Int32) (f0 : Nat → Int32) (f1 : Nat → Int32) (aL : Addr) (aB : Addr) (kA : ClassId) (kB : ClassId) (l0 : Int32) (l1 : Int32) (u0 : Int32) (u1 : Int32) (x : Int32) (r : Int32) (ne_ob_tT : ob ≠ tT) (ne_ob_tL : ob ≠ tL) (ne_ob_t0 : ob ≠ t0) (ne_ob_t1 : ob ≠ t1) (ne_tT_tL : tT ≠ tL) (ne_tT_t0 : tT ≠ t0) (ne_tT_t1 : tT ≠ t1) (ne_tL_t0 : tL ≠ t0) (ne_tL_t1 : tL ≠ t1) (ne_t0_t1 : t0 ≠ t1) (ne_aL_tL : aL ≠ tL) (ne_aL_t0 : aL ≠ t0) (ne_aL_t1 : aL ≠ t1) (ne_aB_tL : aB ≠ tL) (ne_aB_t0 : aB ≠ t0) (ne_aB_t1 : aB ≠ t1) (ge_tL : n0 ≤ tL) (ge_t0 : n0 ≤ t0) (ge_t1 : n0 ≤ t1) (hl : ¬ (l1 = (0 : Int32))) (hre : ((x &&& (2147483647 : Int32)) % l1) = r) (uk : own_upOk z1 6 (r + (1 : Int32)) = true) (hbb : r < u1) (fE : Exa Z h0 ob "com/example/sober_broadcast/soberbroadcast/cli/PositionCounts") (fT : Fld Z h0 ob "com/example/sober_broadcast/soberbroadcast/cli/PositionCounts" "trees" "[[I" (.ref tT)) (fL : Fld Z h0 ob "com/example/sober_broadcast/soberbroadcast/cli/PositionCounts" "lowest" "[I" (.ref tL)) (vT : Arv Z h0 tT kT (.array .int) (2 : Int32) [(.ref t0), (.ref t1)] .null) (vL : Arv Z h0 tL kL .int (2 : Int32) [(.int x0), (.int x1)] (.int (0 : Int32))) (aa0 : OwnA Z h0 t0 z0 f0) (aa1 : OwnA Z h0 t1 z1 f1) (vA : Arv Z h0 aL kA .int (2 : Int32) [(.int l0), (.int l1)] (.int (0 : Int32))) (vB : Arv Z h0 aB kB .int (2 : Int32) [(.int u0), (.int u1)] (.int (0 : Int32))) :
    MetFree l (⟨"com/example/sober_broadcast/soberbroadcast/cli/PositionCountsCountBelowPinLaw", "markOne", "(Lcom/example/sober_broadcast/soberbroadcast/cli/PositionCounts;[I[IZII)J"⟩ : MethodName) (head1 (Jvm.Cond.code (⟨"com/example/sober_broadcast/soberbroadcast/cli/PositionCountsCountBelowPinLaw", "markOne", "(Lcom/example/sober_broadcast/soberbroadcast/cli/PositionCounts;[I[IZII)J"⟩ : MethodName) method_3_code 7 (some .long) :: ws) ({ frames := 2, cells := 0, slots := 0, locals := 31 } : Room)) (fun a U => a = #[(.ref ob), (.ref aL), (.ref aB), (.int (1 : Int32)), (.int (1 : Int32)), (.int x)] ∧ Z.Warmed39 U.vm ∧ U.heap = h0) (fun _ _ _ _ _ => True) (fun _ U o U' => ∃ v L, o = .returned v ∧ OwnQ_own_mo_11 Z ob tT tL t0 t1 kT kL x0 x1 z0 z1 f0 f1 aL aB kA kB l0 l1 u0 u1 x r h0 n0 v U'.heap L ∧ FrameEnd U o U' L ({ frames := 2, cells := 0, slots := 0, locals := 31 } : Room).cells ({ frames := 2, cells := 0, slots := 0, locals := 31 } : Room).slots) := by
  refine MetFree.of_bodySF (plainFor_of_name own_pn_4) hisR ?_
  intro p e s m args below meth c s₁ Bd hml0 hP hK
  obtain ⟨rfl, hZ, hh⟩ := hP
  have hx := Bd.exec
  have hby := Bd.bytes
  have hml : c.maxLocals = 7 := hml0
  have hown : s.vm.findClass "com/example/sober_broadcast/soberbroadcast/cli/PositionCountsCountBelowPinLaw" = some m.cls := findClass_of_methodNamed Bd.named
  have hnm := (name_of_methodNamed Bd.named Bd.method).1
  have X0 : Stand p l e ({ frames := 2, cells := 0, slots := 0, locals := 31 } : Room) s m #[(.ref ob), (.ref aL), (.ref aB), (.int (1 : Int32)), (.int (1 : Int32)), (.int x)] below meth c s₁ [] 0 0 := Stand.of_body Bd
  have e0 : s₁.heap = h0 := by rw [← hh, Bd.state]; rfl
  have N0 := Fr.nil n0
  have pre0 : ∀ t, Steps p.tables e below (s₁.setTop (mkF m 0 #[.val (.ref ob), .val (.ref aL), .val (.ref aB), .val (.int (1 : Int32)), .val (.int (1 : Int32)), .val (.int x), .unset] [])) t → Steps p.tables e below (s₁.setTop (entryFrame m #[(.ref ob), (.ref aL), (.ref aB), (.int (1 : Int32)), (.int (1 : Int32)), (.int x)] 7)) t := fun t k => castTop (own_ef_4_RRRIII m ob aL aB (1 : Int32) (1 : Int32) x) k
  obtain ⟨cl1, Ar1, qk1, Sz1, Nn1, Hs1, Gs1⟩ := id (vA)
  have hin2 : ¬ ((1 : Int32) < 0 ∨ cl1.slots.size ≤ ((1 : Int32)).toNatClampNeg) := inb_of Sz1 ⟨by decide, by decide⟩
  have hat2 : cl1.slots[((1 : Int32)).toNatClampNeg]? = some (.int l1) := Hs1.at hin2 rfl
  have hin3 : ¬ ((1 : Int32) < 0 ∨ cl1.slots.size ≤ ((1 : Int32)).toNatClampNeg) := inb_of Sz1 ⟨by decide, by decide⟩
  have hat3 : cl1.slots[((1 : Int32)).toNatClampNeg]? = some (.int l1) := Hs1.at hin3 rfl
  obtain ⟨cq4, kq4, q4a, q4b, q4c⟩ := isOf hZ e0 fE
  obtain ⟨_, _, ⟨T4, L4, k4, n4⟩, -, X4, ⟨Lc4, hQ4, l4, y4, z4⟩, st4⟩ := X0.virtualBack hx (y := (⟨"com/example/sober_broadcast/soberbroadcast/cli/PositionCounts", "mark", "(II)V"⟩ : MethodName)) (z := (⟨"com/example/sober_broadcast/soberbroadcast/cli/PositionCounts", "mark", "(II)V"⟩ : MethodName)) hown (mvT hZ (hw _ (List.mem_of_getElem? (i := 33) rfl))) (mvT hZ (hw _ (List.mem_of_getElem? (i := 34) rfl))) (notFace_of_selects (args := #[]) (mvT hZ (hw _ (List.mem_of_getElem? (i := 36) rfl)))) (mvT hZ (hw _ (List.mem_of_getElem? (i := 36) rfl))) (mvT hZ (hw _ (List.mem_of_getElem? (i := 35) rfl))) (by decide) (backOf (W := 0) (own_mark_1 l Z a0 hw [] h0 n0 O0 ob tT tL t0 t1 kT kL x0 x1 z0 z1 f0 f1 r ne_ob_tT ne_ob_tL ne_ob_t0 ne_ob_t1 ne_tT_tL ne_tT_t0 ne_tT_t1 ne_tL_t0 ne_tL_t1 ne_t0_t1 ge_tL ge_t0 ge_t1 uk fE fT fL vT vL aa0 aa1) hZ (hw _ (List.mem_of_getElem? (i := 37) rfl)) (hw _ (List.mem_of_getElem? (i := 4) rfl)) (by decide) (by decide)) q4a q4c (g := (mkF m 30 #[.val (.ref ob), .val (.ref aL), .val (.ref aB), .val (.int (1 : Int32)), .val (.int (1 : Int32)), .val (.int x), .val (.int r)] [(.int r), (.int (1 : Int32)), (.ref ob)])) rfl (by rw [hml]; rfl) (Steps.refl _) (argsL := [(.int (1 : Int32)), (.int r)]) (rest := []) (lenOf own_pd_1 rfl) rfl (by show 2 * 0 + _ ≤ _; exact Nat.le_of_eq rfl) (hb hby own_d4_30) (fun _ _ => ⟨rfl, e0, (by decide : 0 + 0 ≤ _), (by decide : 0 + 0 ≤ _)⟩)
  dsimp only [Pt.U, Pt.locs, Pt.cells, Pt.slots] at X4 l4 y4 z4 st4 hQ4
  subst l4 y4 z4
  obtain ⟨rfl, N4q, Kq4, q4_A_t1, q4_V_tL⟩ := hQ4
  have N4 := Fr.app N0 N4q
  have f4_E_ob := fE.keep Kq4
  have f4_F_ob_trees := fT.keep Kq4 (ninS ne_ob_t1 (ninS ne_ob_tL nin0))
  have f4_F_ob_lowest := fL.keep Kq4 (ninS ne_ob_t1 (ninS ne_ob_tL nin0))
  have f4_V_tT := vT.keep Kq4 (ninS ne_tT_t1 (ninS ne_tT_tL nin0))
  have f4_A_t0 := aa0.keep Kq4 (ninS ne_t0_t1 (ninS (Ne.symm ne_tL_t0) nin0))
  have f4_V_aL := vA.keep Kq4 (ninS ne_aL_t1 (ninS ne_aL_tL nin0))
  have f4_V_aB := vB.keep Kq4 (ninS ne_aB_t1 (ninS ne_aB_tL nin0))
  have O4 := O0.keep Kq4 (allS ge_t1 (allS ge_tL all0))
  have K4 := (Keep.refl h0 [t1, tL]).trans Kq4 (allS (Or.inl (List.mem_of_getElem? (i := 0) rfl)) (allS (Or.inl (List.mem_of_getElem? (i := 1) rfl)) all0))
  obtain ⟨cl5, Ar5, qk5, Sz5, Nn5, Hs5, Gs5⟩ := id (f4_V_aB)
  have hin6 : ¬ ((1 : Int32) < 0 ∨ cl5.slots.size ≤ ((1 : Int32)).toNatClampNeg) := inb_of Sz5 ⟨by decide, by decide⟩
  have hat6 : cl5.slots[((1 : Int32)).toNatClampNeg]? = some (.int u1) := Hs5.at hin6 rfl
  obtain ⟨fs, hr, hrun, hended, hW, hsame⟩ := X4.leave (v := some (.long (1 : Int64))) (fun h => by rw [Bd.returns] at h; cases h)
  refine ⟨_, _, pre0 _ ?_, hrun, hended, _, _, rfl, ?_, ⟨_, rfl⟩, hW, hsame.mono (by decide) (by decide)⟩
  · show Steps p.tables e below (s₁.setTop (mkF m 0 #[.val (.ref ob), .val (.ref aL), .val (.ref aB), .val (.int (1 : Int32)), .val (.int (1 : Int32)), .val (.int x), .unset] [])) _
    refine XS.iloadN X0.here hx rfl (hb hby own_d4_0) rfl ?_
    show Steps p.tables e below (s₁.setTop (mkF m 1 #[.val (.ref ob), .val (.ref aL), .val (.ref aB), .val (.int (1 : Int32)), .val (.int (1 : Int32)), .val (.int x), .unset] [(.int (1 : Int32))])) _
    refine XS.ifNo X0.here hx rfl (hb hby own_d4_1) rfl (by decide) ?_
    show Steps p.tables e below (s₁.setTop (mkF m 4 #[.val (.ref ob), .val (.ref aL), .val (.ref aB), .val (.int (1 : Int32)), .val (.int (1 : Int32)), .val (.int x), .unset] [])) _
    refine XS.aloadN X0.here hx rfl (hb hby own_d4_4) rfl rfl ?_
    show Steps p.tables e below (s₁.setTop (mkF m 5 #[.val (.ref ob), .val (.ref aL), .val (.ref aB), .val (.int (1 : Int32)), .val (.int (1 : Int32)), .val (.int x), .unset] [(.ref aL)])) _
    refine XS.iload X0.here hx rfl (hb hby own_d4_5) rfl ?_
    show Steps p.tables e below (s₁.setTop (mkF m 7 #[.val (.ref ob), .val (.ref aL), .val (.ref aB), .val (.int (1 : Int32)), .val (.int (1 : Int32)), .val (.int x), .unset] [(.int (1 : Int32)), (.ref aL)])) _
    refine X0.iaload hx (j := (1 : Int32)) (v := (.int l1)) (by rw [e0]; exact Ar1.1) (State.isArrayOf_alike hZ.alike Ar1.2.1) Ar1.2.2 hin2 hat2 (g := (mkF m 7 #[.val (.ref ob), .val (.ref aL), .val (.ref aB), .val (.int (1 : Int32)), .val (.int (1 : Int32)), .val (.int x), .unset] [(.int (1 : Int32)), (.ref aL)])) rfl rfl (hb hby own_d4_7) _ ?_
    show Steps p.tables e below (s₁.setTop (mkF m 8 #[.val (.ref ob), .val (.ref aL), .val (.ref aB), .val (.int (1 : Int32)), .val (.int (1 : Int32)), .val (.int x), .unset] [(.int l1)])) _
    refine XS.ifYes X0.here hx rfl (pc0 := 8) (pc' := 13) rfl (hb hby own_d4_8) rfl ((if0 _ _).trans (feq (hl : ¬ (l1 = (0 : Int32)))).2) (by decide) (by decide) ?_
    show Steps p.tables e below (s₁.setTop (mkF m 13 #[.val (.ref ob), .val (.ref aL), .val (.ref aB), .val (.int (1 : Int32)), .val (.int (1 : Int32)), .val (.int x), .unset] [])) _
    refine XS.iload X0.here hx rfl (hb hby own_d4_13) rfl ?_
    show Steps p.tables e below (s₁.setTop (mkF m 15 #[.val (.ref ob), .val (.ref aL), .val (.ref aB), .val (.int (1 : Int32)), .val (.int (1 : Int32)), .val (.int x), .unset] [(.int x)])) _
    refine Jvm.Stand.ldcI X0 hx hown (mvT hZ (hw _ (List.mem_of_getElem? (i := 32) rfl))) rfl (hb hby own_d4_15) ?_
    show Steps p.tables e below (s₁.setTop (mkF m 17 #[.val (.ref ob), .val (.ref aL), .val (.ref aB), .val (.int (1 : Int32)), .val (.int (1 : Int32)), .val (.int x), .unset] [(.int (2147483647 : Int32)), (.int x)])) _
    refine XS.iand X0.here hx rfl (hb hby own_d4_17) rfl ?_
    show Steps p.tables e below (s₁.setTop (mkF m 18 #[.val (.ref ob), .val (.ref aL), .val (.ref aB), .val (.int (1 : Int32)), .val (.int (1 : Int32)), .val (.int x), .unset] [(.int (x &&& (2147483647 : Int32)))])) _
    refine XS.aloadN X0.here hx rfl (hb hby own_d4_18) rfl rfl ?_
    show Steps p.tables e below (s₁.setTop (mkF m 19 #[.val (.ref ob), .val (.ref aL), .val (.ref aB), .val (.int (1 : Int32)), .val (.int (1 : Int32)), .val (.int x), .unset] [(.ref aL), (.int (x &&& (2147483647 : Int32)))])) _
    refine XS.iload X0.here hx rfl (hb hby own_d4_19) rfl ?_
    show Steps p.tables e below (s₁.setTop (mkF m 21 #[.val (.ref ob), .val (.ref aL), .val (.ref aB), .val (.int (1 : Int32)), .val (.int (1 : Int32)), .val (.int x), .unset] [(.int (1 : Int32)), (.ref aL), (.int (x &&& (2147483647 : Int32)))])) _
    refine X0.iaload hx (j := (1 : Int32)) (v := (.int l1)) (by rw [e0]; exact Ar1.1) (State.isArrayOf_alike hZ.alike Ar1.2.1) Ar1.2.2 hin3 hat3 (g := (mkF m 21 #[.val (.ref ob), .val (.ref aL), .val (.ref aB), .val (.int (1 : Int32)), .val (.int (1 : Int32)), .val (.int x), .unset] [(.int (1 : Int32)), (.ref aL), (.int (x &&& (2147483647 : Int32)))])) rfl rfl (hb hby own_d4_21) _ ?_
    show Steps p.tables e below (s₁.setTop (mkF m 22 #[.val (.ref ob), .val (.ref aL), .val (.ref aB), .val (.int (1 : Int32)), .val (.int (1 : Int32)), .val (.int x), .unset] [(.int l1), (.int (x &&& (2147483647 : Int32)))])) _
    refine iremM X0 hx rfl (hb hby own_d4_22) rfl hl ?_
    show Steps p.tables e below (s₁.setTop (mkF m 23 #[.val (.ref ob), .val (.ref aL), .val (.ref aB), .val (.int (1 : Int32)), .val (.int (1 : Int32)), .val (.int x), .unset] [(.int ((x &&& (2147483647 : Int32)) % l1))])) _
    refine castTop (g' := (mkF m 23 #[.val (.ref ob), .val (.ref aL), .val (.ref aB), .val (.int (1 : Int32)), .val (.int (1 : Int32)), .val (.int x), .unset] [(.int r)])) (by rw [hre]) ?_
    show Steps p.tables e below (s₁.setTop (mkF m 23 #[.val (.ref ob), .val (.ref aL), .val (.ref aB), .val (.int (1 : Int32)), .val (.int (1 : Int32)), .val (.int x), .unset] [(.int r)])) _
    refine XS.istore X0.here hx rfl (hb hby own_d4_23) rfl (l' := #[.val (.ref ob), .val (.ref aL), .val (.ref aB), .val (.int (1 : Int32)), .val (.int (1 : Int32)), .val (.int x), .val (.int r)]) rfl ?_
    show Steps p.tables e below (s₁.setTop (mkF m 25 #[.val (.ref ob), .val (.ref aL), .val (.ref aB), .val (.int (1 : Int32)), .val (.int (1 : Int32)), .val (.int x), .val (.int r)] [])) _
    refine XS.aloadN X0.here hx rfl (hb hby own_d4_25) rfl rfl ?_
    show Steps p.tables e below (s₁.setTop (mkF m 26 #[.val (.ref ob), .val (.ref aL), .val (.ref aB), .val (.int (1 : Int32)), .val (.int (1 : Int32)), .val (.int x), .val (.int r)] [(.ref ob)])) _
    refine XS.iload X0.here hx rfl (hb hby own_d4_26) rfl ?_
    show Steps p.tables e below (s₁.setTop (mkF m 28 #[.val (.ref ob), .val (.ref aL), .val (.ref aB), .val (.int (1 : Int32)), .val (.int (1 : Int32)), .val (.int x), .val (.int r)] [(.int (1 : Int32)), (.ref ob)])) _
    refine XS.iload X0.here hx rfl (hb hby own_d4_28) rfl ?_
    show Steps p.tables e below (s₁.setTop (mkF m 30 #[.val (.ref ob), .val (.ref aL), .val (.ref aB), .val (.int (1 : Int32)), .val (.int (1 : Int32)), .val (.int x), .val (.int r)] [(.int r), (.int (1 : Int32)), (.ref ob)])) _
    refine st4.trans ?_
    show Steps p.tables e below (T4.setTop (mkF m 33 #[.val (.ref ob), .val (.ref aL), .val (.ref aB), .val (.int (1 : Int32)), .val (.int (1 : Int32)), .val (.int x), .val (.int r)] [])) _
    refine XS.iload X4.here hx rfl (hb hby own_d4_33) rfl ?_
    show Steps p.tables e below (T4.setTop (mkF m 35 #[.val (.ref ob), .val (.ref aL), .val (.ref aB), .val (.int (1 : Int32)), .val (.int (1 : Int32)), .val (.int x), .val (.int r)] [(.int r)])) _
    refine XS.aloadN X4.here hx rfl (hb hby own_d4_35) rfl rfl ?_
    show Steps p.tables e below (T4.setTop (mkF m 36 #[.val (.ref ob), .val (.ref aL), .val (.ref aB), .val (.int (1 : Int32)), .val (.int (1 : Int32)), .val (.int x), .val (.int r)] [(.ref aB), (.int r)])) _
    refine XS.iload X4.here hx rfl (hb hby own_d4_36) rfl ?_
    show Steps p.tables e below (T4.setTop (mkF m 38 #[.val (.ref ob), .val (.ref aL), .val (.ref aB), .val (.int (1 : Int32)), .val (.int (1 : Int32)), .val (.int x), .val (.int r)] [(.int (1 : Int32)), (.ref aB), (.int r)])) _
    refine X4.iaload hx (j := (1 : Int32)) (v := (.int u1)) Ar5.1 (State.isArrayOf_alike hZ.alike Ar5.2.1) Ar5.2.2 hin6 hat6 (g := (mkF m 38 #[.val (.ref ob), .val (.ref aL), .val (.ref aB), .val (.int (1 : Int32)), .val (.int (1 : Int32)), .val (.int x), .val (.int r)] [(.int (1 : Int32)), (.ref aB), (.int r)])) rfl rfl (hb hby own_d4_38) _ ?_
    show Steps p.tables e below (T4.setTop (mkF m 39 #[.val (.ref ob), .val (.ref aL), .val (.ref aB), .val (.int (1 : Int32)), .val (.int (1 : Int32)), .val (.int x), .val (.int r)] [(.int u1), (.int r)])) _
    refine XS.icmpNo X4.here hx rfl (hb hby own_d4_39) rfl (tlt (hbb : r < u1)).2.1 ?_
    show Steps p.tables e below (T4.setTop (mkF m 42 #[.val (.ref ob), .val (.ref aL), .val (.ref aB), .val (.int (1 : Int32)), .val (.int (1 : Int32)), .val (.int x), .val (.int r)] [])) _
    refine XS.lconst X4.here hx rfl (hb hby own_d4_42) ?_
    show Steps p.tables e below (T4.setTop (mkF m 43 #[.val (.ref ob), .val (.ref aL), .val (.ref aB), .val (.int (1 : Int32)), .val (.int (1 : Int32)), .val (.int x), .val (.int r)] [(.long (1 : Int64))])) _
    refine XS.goto X4.here hx rfl (pc0 := 43) (pc' := 47) rfl (hb hby own_d4_43) (by decide) (by decide) ?_
    show Steps p.tables e below (T4.setTop (mkF m 47 #[.val (.ref ob), .val (.ref aL), .val (.ref aB), .val (.int (1 : Int32)), .val (.int (1 : Int32)), .val (.int x), .val (.int r)] [(.long (1 : Int64))])) _
    jvm_step X4.here [X4.here.top, hx, (hb hby own_d4_47), X4.method', Bd.returns, narrow]
    first | (intro acts; rw [hr _ acts rfl rfl rfl]) | rw [hr _ _ rfl rfl rfl]
    exact Steps.refl _
  · show OwnQ_own_mo_11 Z ob tT tL t0 t1 kT kL x0 x1 z0 z1 f0 f1 aL aB kA kB l0 l1 u0 u1 x r h0 n0 _ T4.heap _
    exact ⟨rfl, N4, K4, q4_A_t1, q4_V_tL⟩
def OwnQ_own_mo_10 (Z : State) (ob : Addr) (tT : Addr) (tL : Addr) (t0 : Addr) (t1 : Addr) (kT : ClassId) (kL : ClassId) (x0 : Int32) (x1 : Int32) (z0 : Int32) (z1 : Int32) (f0 : Nat → Int32) (f1 : Nat → Int32) (aL : Addr) (aB : Addr) (kA : ClassId) (kB : ClassId) (l0 : Int32) (l1 : Int32) (u0 : Int32) (u1 : Int32) (x : Int32) (r : Int32) (h0 : Heap) (n0 : Nat) (v : Option Value) (h : Heap) (L : List Loc) : Prop :=
  v = some (.long (0 : Int64)) ∧ Fr n0 L ∧ Keep h0 h [t1, tL] ∧ OwnA Z h t1 z1 (own_up z1 6 (r + (1 : Int32)) f1) ∧ Arv Z h tL kL .int (2 : Int32) [(.int x0), (.int (own_min x1 r))] (.int (0 : Int32))
set_option maxRecDepth 65536 in
set_option maxHeartbeats 40000000 in
theorem own_mo_10 (l : Launch) (Z : State) (a0 : Array Value) (hw : ∀ d ∈ tables_1, d.before a0 Z = true) (ws : List Jvm.Cond) (h0 : Heap) (n0 : Nat) (O0 : Old Z n0 h0) (ob : Addr) (tT : Addr) (tL : Addr) (t0 : Addr) (t1 : Addr) (kT : ClassId) (kL : ClassId) (x0 : Int32) (x1 : Int32) (z0 : Int32) (z1 : Int32) (f0 : Nat → Int32) (f1 : Nat → Int32) (aL : Addr) (aB : Addr) (kA : ClassId) (kB : ClassId) (l0 : Int32) (l1 : Int32) (u0 : Int32) (u1 : Int32) (x : Int32) (r : Int32) (ne_ob_tT : ob ≠ tT) (ne_ob_tL : ob ≠ tL) (ne_ob_t0 : ob ≠ t0) (ne_ob_t1 : ob ≠ t1) (ne_tT_tL : tT ≠ tL) (ne_tT_t0 : tT ≠ t0) (ne_tT_t1 : tT ≠ t1) (ne_tL_t0 : tL ≠ t0) (ne_tL_t1 : tL ≠ t1) (ne_t0_t1 : t0 ≠ t1) (ne_aL_tL : aL ≠ tL) (ne_aL_t0 : aL ≠ t0) (ne_aL_t1 : aL ≠ t1) (ne_aB_tL : aB ≠ tL) (ne_aB_t0 : aB ≠ t0) (ne_aB_t1 : aB ≠ t1) (ge_tL : n0 ≤ tL) (ge_t0 : n0 ≤ t0) (ge_t1 : n0 ≤ t1) (hl : ¬ (l1 = (0 : Int32))) (hre : ((x &&& (2147483647 : Int32)) % l1) = r) (uk : own_upOk z1 6 (r + (1 : Int32)) = true) (hbb : ¬ (r < u1)) (fE : Exa Z h0 ob "com/example/sober_broadcast/soberbroadcast/cli/PositionCounts") (fT : Fld Z h0 ob "com/example/sober_broadcast/soberbroadcast/cli/PositionCounts" "trees" "[[I" (.ref tT)) (fL : Fld Z h0 ob "com/example/sober_broadcast/soberbroadcast/cli/PositionCounts" "lowest" "[I" (.ref tL)) (vT : Arv Z h0 tT kT (.array .int) (2 : Int32) [(.ref t0), (.ref t1)] .null) (vL : Arv Z h0 tL kL .int (2 : Int32) [(.int x0), (.int x1)] (.int (0 : Int32))) (aa0 : OwnA Z h0 t0 z0 f0) (aa1 : OwnA Z h0 t1 z1 f1) (vA : Arv Z h0 aL kA .int (2 : Int32) [(.int l0), (.int l1)] (.int (0 : Int32))) (vB : Arv Z h0 aB kB .int (2 : Int32) [(.int u0), (.int u1)] (.int (0 : Int32))) :
    MetFree l (⟨"com/example/sober_broadcast/soberbroadcast/cli/PositionCountsCountBelowPinLaw", "markOne", "(Lcom/example/sober_broadcast/soberbroadcast/cli/PositionCounts;[I[IZII)J"⟩ : MethodName) (head1 (Jvm.Cond.code (⟨"com/example/sober_broadcast/soberbroadcast/cli/PositionCountsCountBelowPinLaw", "markOne", "(Lcom/example/sober_broadcast/soberbroadcast/cli/PositionCounts;[I[IZII)J"⟩ : MethodName) method_3_code 7 (some .long) :: ws) ({ frames := 2, cells := 0, slots := 0, locals := 31 } : Room)) (fun a U => a = #[(.ref ob), (.ref aL), (.ref aB), (.int (1 : Int32)), (.int (1 : Int32)), (.int x)] ∧ Z.Warmed39 U.vm ∧ U.heap = h0) (fun _ _ _ _ _ => True) (fun _ U o U' => ∃ v L, o = .returned v ∧ OwnQ_own_mo_10 Z ob tT tL t0 t1 kT kL x0 x1 z0 z1 f0 f1 aL aB kA kB l0 l1 u0 u1 x r h0 n0 v U'.heap L ∧ FrameEnd U o U' L ({ frames := 2, cells := 0, slots := 0, locals := 31 } : Room).cells ({ frames := 2, cells := 0, slots := 0, locals := 31 } : Room).slots) := by
  refine MetFree.of_bodySF (plainFor_of_name own_pn_4) hisR ?_
  intro p e s m args below meth c s₁ Bd hml0 hP hK
  obtain ⟨rfl, hZ, hh⟩ := hP
  have hx := Bd.exec
  have hby := Bd.bytes
  have hml : c.maxLocals = 7 := hml0
  have hown : s.vm.findClass "com/example/sober_broadcast/soberbroadcast/cli/PositionCountsCountBelowPinLaw" = some m.cls := findClass_of_methodNamed Bd.named
  have hnm := (name_of_methodNamed Bd.named Bd.method).1
  have X0 : Stand p l e ({ frames := 2, cells := 0, slots := 0, locals := 31 } : Room) s m #[(.ref ob), (.ref aL), (.ref aB), (.int (1 : Int32)), (.int (1 : Int32)), (.int x)] below meth c s₁ [] 0 0 := Stand.of_body Bd
  have e0 : s₁.heap = h0 := by rw [← hh, Bd.state]; rfl
  have N0 := Fr.nil n0
  have pre0 : ∀ t, Steps p.tables e below (s₁.setTop (mkF m 0 #[.val (.ref ob), .val (.ref aL), .val (.ref aB), .val (.int (1 : Int32)), .val (.int (1 : Int32)), .val (.int x), .unset] [])) t → Steps p.tables e below (s₁.setTop (entryFrame m #[(.ref ob), (.ref aL), (.ref aB), (.int (1 : Int32)), (.int (1 : Int32)), (.int x)] 7)) t := fun t k => castTop (own_ef_4_RRRIII m ob aL aB (1 : Int32) (1 : Int32) x) k
  obtain ⟨cl1, Ar1, qk1, Sz1, Nn1, Hs1, Gs1⟩ := id (vA)
  have hin2 : ¬ ((1 : Int32) < 0 ∨ cl1.slots.size ≤ ((1 : Int32)).toNatClampNeg) := inb_of Sz1 ⟨by decide, by decide⟩
  have hat2 : cl1.slots[((1 : Int32)).toNatClampNeg]? = some (.int l1) := Hs1.at hin2 rfl
  have hin3 : ¬ ((1 : Int32) < 0 ∨ cl1.slots.size ≤ ((1 : Int32)).toNatClampNeg) := inb_of Sz1 ⟨by decide, by decide⟩
  have hat3 : cl1.slots[((1 : Int32)).toNatClampNeg]? = some (.int l1) := Hs1.at hin3 rfl
  obtain ⟨cq4, kq4, q4a, q4b, q4c⟩ := isOf hZ e0 fE
  obtain ⟨_, _, ⟨T4, L4, k4, n4⟩, -, X4, ⟨Lc4, hQ4, l4, y4, z4⟩, st4⟩ := X0.virtualBack hx (y := (⟨"com/example/sober_broadcast/soberbroadcast/cli/PositionCounts", "mark", "(II)V"⟩ : MethodName)) (z := (⟨"com/example/sober_broadcast/soberbroadcast/cli/PositionCounts", "mark", "(II)V"⟩ : MethodName)) hown (mvT hZ (hw _ (List.mem_of_getElem? (i := 33) rfl))) (mvT hZ (hw _ (List.mem_of_getElem? (i := 34) rfl))) (notFace_of_selects (args := #[]) (mvT hZ (hw _ (List.mem_of_getElem? (i := 36) rfl)))) (mvT hZ (hw _ (List.mem_of_getElem? (i := 36) rfl))) (mvT hZ (hw _ (List.mem_of_getElem? (i := 35) rfl))) (by decide) (backOf (W := 0) (own_mark_1 l Z a0 hw [] h0 n0 O0 ob tT tL t0 t1 kT kL x0 x1 z0 z1 f0 f1 r ne_ob_tT ne_ob_tL ne_ob_t0 ne_ob_t1 ne_tT_tL ne_tT_t0 ne_tT_t1 ne_tL_t0 ne_tL_t1 ne_t0_t1 ge_tL ge_t0 ge_t1 uk fE fT fL vT vL aa0 aa1) hZ (hw _ (List.mem_of_getElem? (i := 37) rfl)) (hw _ (List.mem_of_getElem? (i := 4) rfl)) (by decide) (by decide)) q4a q4c (g := (mkF m 30 #[.val (.ref ob), .val (.ref aL), .val (.ref aB), .val (.int (1 : Int32)), .val (.int (1 : Int32)), .val (.int x), .val (.int r)] [(.int r), (.int (1 : Int32)), (.ref ob)])) rfl (by rw [hml]; rfl) (Steps.refl _) (argsL := [(.int (1 : Int32)), (.int r)]) (rest := []) (lenOf own_pd_1 rfl) rfl (by show 2 * 0 + _ ≤ _; exact Nat.le_of_eq rfl) (hb hby own_d4_30) (fun _ _ => ⟨rfl, e0, (by decide : 0 + 0 ≤ _), (by decide : 0 + 0 ≤ _)⟩)
  dsimp only [Pt.U, Pt.locs, Pt.cells, Pt.slots] at X4 l4 y4 z4 st4 hQ4
  subst l4 y4 z4
  obtain ⟨rfl, N4q, Kq4, q4_A_t1, q4_V_tL⟩ := hQ4
  have N4 := Fr.app N0 N4q
  have f4_E_ob := fE.keep Kq4
  have f4_F_ob_trees := fT.keep Kq4 (ninS ne_ob_t1 (ninS ne_ob_tL nin0))
  have f4_F_ob_lowest := fL.keep Kq4 (ninS ne_ob_t1 (ninS ne_ob_tL nin0))
  have f4_V_tT := vT.keep Kq4 (ninS ne_tT_t1 (ninS ne_tT_tL nin0))
  have f4_A_t0 := aa0.keep Kq4 (ninS ne_t0_t1 (ninS (Ne.symm ne_tL_t0) nin0))
  have f4_V_aL := vA.keep Kq4 (ninS ne_aL_t1 (ninS ne_aL_tL nin0))
  have f4_V_aB := vB.keep Kq4 (ninS ne_aB_t1 (ninS ne_aB_tL nin0))
  have O4 := O0.keep Kq4 (allS ge_t1 (allS ge_tL all0))
  have K4 := (Keep.refl h0 [t1, tL]).trans Kq4 (allS (Or.inl (List.mem_of_getElem? (i := 0) rfl)) (allS (Or.inl (List.mem_of_getElem? (i := 1) rfl)) all0))
  obtain ⟨cl5, Ar5, qk5, Sz5, Nn5, Hs5, Gs5⟩ := id (f4_V_aB)
  have hin6 : ¬ ((1 : Int32) < 0 ∨ cl5.slots.size ≤ ((1 : Int32)).toNatClampNeg) := inb_of Sz5 ⟨by decide, by decide⟩
  have hat6 : cl5.slots[((1 : Int32)).toNatClampNeg]? = some (.int u1) := Hs5.at hin6 rfl
  obtain ⟨fs, hr, hrun, hended, hW, hsame⟩ := X4.leave (v := some (.long (0 : Int64))) (fun h => by rw [Bd.returns] at h; cases h)
  refine ⟨_, _, pre0 _ ?_, hrun, hended, _, _, rfl, ?_, ⟨_, rfl⟩, hW, hsame.mono (by decide) (by decide)⟩
  · show Steps p.tables e below (s₁.setTop (mkF m 0 #[.val (.ref ob), .val (.ref aL), .val (.ref aB), .val (.int (1 : Int32)), .val (.int (1 : Int32)), .val (.int x), .unset] [])) _
    refine XS.iloadN X0.here hx rfl (hb hby own_d4_0) rfl ?_
    show Steps p.tables e below (s₁.setTop (mkF m 1 #[.val (.ref ob), .val (.ref aL), .val (.ref aB), .val (.int (1 : Int32)), .val (.int (1 : Int32)), .val (.int x), .unset] [(.int (1 : Int32))])) _
    refine XS.ifNo X0.here hx rfl (hb hby own_d4_1) rfl (by decide) ?_
    show Steps p.tables e below (s₁.setTop (mkF m 4 #[.val (.ref ob), .val (.ref aL), .val (.ref aB), .val (.int (1 : Int32)), .val (.int (1 : Int32)), .val (.int x), .unset] [])) _
    refine XS.aloadN X0.here hx rfl (hb hby own_d4_4) rfl rfl ?_
    show Steps p.tables e below (s₁.setTop (mkF m 5 #[.val (.ref ob), .val (.ref aL), .val (.ref aB), .val (.int (1 : Int32)), .val (.int (1 : Int32)), .val (.int x), .unset] [(.ref aL)])) _
    refine XS.iload X0.here hx rfl (hb hby own_d4_5) rfl ?_
    show Steps p.tables e below (s₁.setTop (mkF m 7 #[.val (.ref ob), .val (.ref aL), .val (.ref aB), .val (.int (1 : Int32)), .val (.int (1 : Int32)), .val (.int x), .unset] [(.int (1 : Int32)), (.ref aL)])) _
    refine X0.iaload hx (j := (1 : Int32)) (v := (.int l1)) (by rw [e0]; exact Ar1.1) (State.isArrayOf_alike hZ.alike Ar1.2.1) Ar1.2.2 hin2 hat2 (g := (mkF m 7 #[.val (.ref ob), .val (.ref aL), .val (.ref aB), .val (.int (1 : Int32)), .val (.int (1 : Int32)), .val (.int x), .unset] [(.int (1 : Int32)), (.ref aL)])) rfl rfl (hb hby own_d4_7) _ ?_
    show Steps p.tables e below (s₁.setTop (mkF m 8 #[.val (.ref ob), .val (.ref aL), .val (.ref aB), .val (.int (1 : Int32)), .val (.int (1 : Int32)), .val (.int x), .unset] [(.int l1)])) _
    refine XS.ifYes X0.here hx rfl (pc0 := 8) (pc' := 13) rfl (hb hby own_d4_8) rfl ((if0 _ _).trans (feq (hl : ¬ (l1 = (0 : Int32)))).2) (by decide) (by decide) ?_
    show Steps p.tables e below (s₁.setTop (mkF m 13 #[.val (.ref ob), .val (.ref aL), .val (.ref aB), .val (.int (1 : Int32)), .val (.int (1 : Int32)), .val (.int x), .unset] [])) _
    refine XS.iload X0.here hx rfl (hb hby own_d4_13) rfl ?_
    show Steps p.tables e below (s₁.setTop (mkF m 15 #[.val (.ref ob), .val (.ref aL), .val (.ref aB), .val (.int (1 : Int32)), .val (.int (1 : Int32)), .val (.int x), .unset] [(.int x)])) _
    refine Jvm.Stand.ldcI X0 hx hown (mvT hZ (hw _ (List.mem_of_getElem? (i := 32) rfl))) rfl (hb hby own_d4_15) ?_
    show Steps p.tables e below (s₁.setTop (mkF m 17 #[.val (.ref ob), .val (.ref aL), .val (.ref aB), .val (.int (1 : Int32)), .val (.int (1 : Int32)), .val (.int x), .unset] [(.int (2147483647 : Int32)), (.int x)])) _
    refine XS.iand X0.here hx rfl (hb hby own_d4_17) rfl ?_
    show Steps p.tables e below (s₁.setTop (mkF m 18 #[.val (.ref ob), .val (.ref aL), .val (.ref aB), .val (.int (1 : Int32)), .val (.int (1 : Int32)), .val (.int x), .unset] [(.int (x &&& (2147483647 : Int32)))])) _
    refine XS.aloadN X0.here hx rfl (hb hby own_d4_18) rfl rfl ?_
    show Steps p.tables e below (s₁.setTop (mkF m 19 #[.val (.ref ob), .val (.ref aL), .val (.ref aB), .val (.int (1 : Int32)), .val (.int (1 : Int32)), .val (.int x), .unset] [(.ref aL), (.int (x &&& (2147483647 : Int32)))])) _
    refine XS.iload X0.here hx rfl (hb hby own_d4_19) rfl ?_
    show Steps p.tables e below (s₁.setTop (mkF m 21 #[.val (.ref ob), .val (.ref aL), .val (.ref aB), .val (.int (1 : Int32)), .val (.int (1 : Int32)), .val (.int x), .unset] [(.int (1 : Int32)), (.ref aL), (.int (x &&& (2147483647 : Int32)))])) _
    refine X0.iaload hx (j := (1 : Int32)) (v := (.int l1)) (by rw [e0]; exact Ar1.1) (State.isArrayOf_alike hZ.alike Ar1.2.1) Ar1.2.2 hin3 hat3 (g := (mkF m 21 #[.val (.ref ob), .val (.ref aL), .val (.ref aB), .val (.int (1 : Int32)), .val (.int (1 : Int32)), .val (.int x), .unset] [(.int (1 : Int32)), (.ref aL), (.int (x &&& (2147483647 : Int32)))])) rfl rfl (hb hby own_d4_21) _ ?_
    show Steps p.tables e below (s₁.setTop (mkF m 22 #[.val (.ref ob), .val (.ref aL), .val (.ref aB), .val (.int (1 : Int32)), .val (.int (1 : Int32)), .val (.int x), .unset] [(.int l1), (.int (x &&& (2147483647 : Int32)))])) _
    refine iremM X0 hx rfl (hb hby own_d4_22) rfl hl ?_
    show Steps p.tables e below (s₁.setTop (mkF m 23 #[.val (.ref ob), .val (.ref aL), .val (.ref aB), .val (.int (1 : Int32)), .val (.int (1 : Int32)), .val (.int x), .unset] [(.int ((x &&& (2147483647 : Int32)) % l1))])) _
    refine castTop (g' := (mkF m 23 #[.val (.ref ob), .val (.ref aL), .val (.ref aB), .val (.int (1 : Int32)), .val (.int (1 : Int32)), .val (.int x), .unset] [(.int r)])) (by rw [hre]) ?_
    show Steps p.tables e below (s₁.setTop (mkF m 23 #[.val (.ref ob), .val (.ref aL), .val (.ref aB), .val (.int (1 : Int32)), .val (.int (1 : Int32)), .val (.int x), .unset] [(.int r)])) _
    refine XS.istore X0.here hx rfl (hb hby own_d4_23) rfl (l' := #[.val (.ref ob), .val (.ref aL), .val (.ref aB), .val (.int (1 : Int32)), .val (.int (1 : Int32)), .val (.int x), .val (.int r)]) rfl ?_
    show Steps p.tables e below (s₁.setTop (mkF m 25 #[.val (.ref ob), .val (.ref aL), .val (.ref aB), .val (.int (1 : Int32)), .val (.int (1 : Int32)), .val (.int x), .val (.int r)] [])) _
    refine XS.aloadN X0.here hx rfl (hb hby own_d4_25) rfl rfl ?_
    show Steps p.tables e below (s₁.setTop (mkF m 26 #[.val (.ref ob), .val (.ref aL), .val (.ref aB), .val (.int (1 : Int32)), .val (.int (1 : Int32)), .val (.int x), .val (.int r)] [(.ref ob)])) _
    refine XS.iload X0.here hx rfl (hb hby own_d4_26) rfl ?_
    show Steps p.tables e below (s₁.setTop (mkF m 28 #[.val (.ref ob), .val (.ref aL), .val (.ref aB), .val (.int (1 : Int32)), .val (.int (1 : Int32)), .val (.int x), .val (.int r)] [(.int (1 : Int32)), (.ref ob)])) _
    refine XS.iload X0.here hx rfl (hb hby own_d4_28) rfl ?_
    show Steps p.tables e below (s₁.setTop (mkF m 30 #[.val (.ref ob), .val (.ref aL), .val (.ref aB), .val (.int (1 : Int32)), .val (.int (1 : Int32)), .val (.int x), .val (.int r)] [(.int r), (.int (1 : Int32)), (.ref ob)])) _
    refine st4.trans ?_
    show Steps p.tables e below (T4.setTop (mkF m 33 #[.val (.ref ob), .val (.ref aL), .val (.ref aB), .val (.int (1 : Int32)), .val (.int (1 : Int32)), .val (.int x), .val (.int r)] [])) _
    refine XS.iload X4.here hx rfl (hb hby own_d4_33) rfl ?_
    show Steps p.tables e below (T4.setTop (mkF m 35 #[.val (.ref ob), .val (.ref aL), .val (.ref aB), .val (.int (1 : Int32)), .val (.int (1 : Int32)), .val (.int x), .val (.int r)] [(.int r)])) _
    refine XS.aloadN X4.here hx rfl (hb hby own_d4_35) rfl rfl ?_
    show Steps p.tables e below (T4.setTop (mkF m 36 #[.val (.ref ob), .val (.ref aL), .val (.ref aB), .val (.int (1 : Int32)), .val (.int (1 : Int32)), .val (.int x), .val (.int r)] [(.ref aB), (.int r)])) _
    refine XS.iload X4.here hx rfl (hb hby own_d4_36) rfl ?_
    show Steps p.tables e below (T4.setTop (mkF m 38 #[.val (.ref ob), .val (.ref aL), .val (.ref aB), .val (.int (1 : Int32)), .val (.int (1 : Int32)), .val (.int x), .val (.int r)] [(.int (1 : Int32)), (.ref aB), (.int r)])) _
    refine X4.iaload hx (j := (1 : Int32)) (v := (.int u1)) Ar5.1 (State.isArrayOf_alike hZ.alike Ar5.2.1) Ar5.2.2 hin6 hat6 (g := (mkF m 38 #[.val (.ref ob), .val (.ref aL), .val (.ref aB), .val (.int (1 : Int32)), .val (.int (1 : Int32)), .val (.int x), .val (.int r)] [(.int (1 : Int32)), (.ref aB), (.int r)])) rfl rfl (hb hby own_d4_38) _ ?_
    show Steps p.tables e below (T4.setTop (mkF m 39 #[.val (.ref ob), .val (.ref aL), .val (.ref aB), .val (.int (1 : Int32)), .val (.int (1 : Int32)), .val (.int x), .val (.int r)] [(.int u1), (.int r)])) _
    refine XS.icmpYes X4.here hx rfl (pc0 := 39) (pc' := 46) rfl (hb hby own_d4_39) rfl (flt (hbb : ¬ (r < u1))).2.1 (by decide) (by decide) ?_
    show Steps p.tables e below (T4.setTop (mkF m 46 #[.val (.ref ob), .val (.ref aL), .val (.ref aB), .val (.int (1 : Int32)), .val (.int (1 : Int32)), .val (.int x), .val (.int r)] [])) _
    refine XS.lconst X4.here hx rfl (hb hby own_d4_46) ?_
    show Steps p.tables e below (T4.setTop (mkF m 47 #[.val (.ref ob), .val (.ref aL), .val (.ref aB), .val (.int (1 : Int32)), .val (.int (1 : Int32)), .val (.int x), .val (.int r)] [(.long (0 : Int64))])) _
    jvm_step X4.here [X4.here.top, hx, (hb hby own_d4_47), X4.method', Bd.returns, narrow]
    first | (intro acts; rw [hr _ acts rfl rfl rfl]) | rw [hr _ _ rfl rfl rfl]
    exact Steps.refl _
  · show OwnQ_own_mo_10 Z ob tT tL t0 t1 kT kL x0 x1 z0 z1 f0 f1 aL aB kA kB l0 l1 u0 u1 x r h0 n0 _ T4.heap _
    exact ⟨rfl, N4, K4, q4_A_t1, q4_V_tL⟩
theorem own_d4_11 : decode method_3_code 11 = .ok (.lconst 0, 1) := by decide +kernel
theorem own_d4_12 : decode method_3_code 12 = .ok (.lreturn, 1) := by decide +kernel
set_option maxRecDepth 65536 in
set_option maxHeartbeats 40000000 in
theorem own_mo_0z (l : Launch) (Z : State) (a0 : Array Value) (hw : ∀ d ∈ tables_1, d.before a0 Z = true) (ws : List Jvm.Cond) (h0 : Heap) (n0 : Nat) (O0 : Old Z n0 h0) (ob : Addr) (tT : Addr) (tL : Addr) (t0 : Addr) (t1 : Addr) (kT : ClassId) (kL : ClassId) (x0 : Int32) (x1 : Int32) (z0 : Int32) (z1 : Int32) (f0 : Nat → Int32) (f1 : Nat → Int32) (aL : Addr) (aB : Addr) (kA : ClassId) (kB : ClassId) (l0 : Int32) (l1 : Int32) (u0 : Int32) (u1 : Int32) (x : Int32) (r : Int32) (ne_ob_tT : ob ≠ tT) (ne_ob_tL : ob ≠ tL) (ne_ob_t0 : ob ≠ t0) (ne_ob_t1 : ob ≠ t1) (ne_tT_tL : tT ≠ tL) (ne_tT_t0 : tT ≠ t0) (ne_tT_t1 : tT ≠ t1) (ne_tL_t0 : tL ≠ t0) (ne_tL_t1 : tL ≠ t1) (ne_t0_t1 : t0 ≠ t1) (ne_aL_tL : aL ≠ tL) (ne_aL_t0 : aL ≠ t0) (ne_aL_t1 : aL ≠ t1) (ne_aB_tL : aB ≠ tL) (ne_aB_t0 : aB ≠ t0) (ne_aB_t1 : aB ≠ t1) (ge_tL : n0 ≤ tL) (ge_t0 : n0 ≤ t0) (ge_t1 : n0 ≤ t1) (hl : l0 = (0 : Int32)) (fE : Exa Z h0 ob "com/example/sober_broadcast/soberbroadcast/cli/PositionCounts") (fT : Fld Z h0 ob "com/example/sober_broadcast/soberbroadcast/cli/PositionCounts" "trees" "[[I" (.ref tT)) (fL : Fld Z h0 ob "com/example/sober_broadcast/soberbroadcast/cli/PositionCounts" "lowest" "[I" (.ref tL)) (vT : Arv Z h0 tT kT (.array .int) (2 : Int32) [(.ref t0), (.ref t1)] .null) (vL : Arv Z h0 tL kL .int (2 : Int32) [(.int x0), (.int x1)] (.int (0 : Int32))) (aa0 : OwnA Z h0 t0 z0 f0) (aa1 : OwnA Z h0 t1 z1 f1) (vA : Arv Z h0 aL kA .int (2 : Int32) [(.int l0), (.int l1)] (.int (0 : Int32))) (vB : Arv Z h0 aB kB .int (2 : Int32) [(.int u0), (.int u1)] (.int (0 : Int32))) :
    MetFree l (⟨"com/example/sober_broadcast/soberbroadcast/cli/PositionCountsCountBelowPinLaw", "markOne", "(Lcom/example/sober_broadcast/soberbroadcast/cli/PositionCounts;[I[IZII)J"⟩ : MethodName) (head1 (Jvm.Cond.code (⟨"com/example/sober_broadcast/soberbroadcast/cli/PositionCountsCountBelowPinLaw", "markOne", "(Lcom/example/sober_broadcast/soberbroadcast/cli/PositionCounts;[I[IZII)J"⟩ : MethodName) method_3_code 7 (some .long) :: ws) ({ frames := 2, cells := 0, slots := 0, locals := 31 } : Room)) (fun a U => a = #[(.ref ob), (.ref aL), (.ref aB), (.int (1 : Int32)), (.int (0 : Int32)), (.int x)] ∧ Z.Warmed39 U.vm ∧ U.heap = h0) (fun _ _ _ _ _ => True) (fun _ U o U' => ∃ v L, o = .returned v ∧ OwnQ (some (.long (0 : Int64))) h0 n0 v U'.heap L ∧ FrameEnd U o U' L ({ frames := 2, cells := 0, slots := 0, locals := 31 } : Room).cells ({ frames := 2, cells := 0, slots := 0, locals := 31 } : Room).slots) := by
  refine MetFree.of_bodySF (plainFor_of_name own_pn_4) hisR ?_
  intro p e s m args below meth c s₁ Bd hml0 hP hK
  obtain ⟨rfl, hZ, hh⟩ := hP
  have hx := Bd.exec
  have hby := Bd.bytes
  have hml : c.maxLocals = 7 := hml0
  have hown : s.vm.findClass "com/example/sober_broadcast/soberbroadcast/cli/PositionCountsCountBelowPinLaw" = some m.cls := findClass_of_methodNamed Bd.named
  have hnm := (name_of_methodNamed Bd.named Bd.method).1
  have X0 : Stand p l e ({ frames := 2, cells := 0, slots := 0, locals := 31 } : Room) s m #[(.ref ob), (.ref aL), (.ref aB), (.int (1 : Int32)), (.int (0 : Int32)), (.int x)] below meth c s₁ [] 0 0 := Stand.of_body Bd
  have e0 : s₁.heap = h0 := by rw [← hh, Bd.state]; rfl
  have N0 := Fr.nil n0
  have pre0 : ∀ t, Steps p.tables e below (s₁.setTop (mkF m 0 #[.val (.ref ob), .val (.ref aL), .val (.ref aB), .val (.int (1 : Int32)), .val (.int (0 : Int32)), .val (.int x), .unset] [])) t → Steps p.tables e below (s₁.setTop (entryFrame m #[(.ref ob), (.ref aL), (.ref aB), (.int (1 : Int32)), (.int (0 : Int32)), (.int x)] 7)) t := fun t k => castTop (own_ef_4_RRRIII m ob aL aB (1 : Int32) (0 : Int32) x) k
  obtain ⟨cl1, Ar1, qk1, Sz1, Nn1, Hs1, Gs1⟩ := id (vA)
  have hin2 : ¬ ((0 : Int32) < 0 ∨ cl1.slots.size ≤ ((0 : Int32)).toNatClampNeg) := inb_of Sz1 ⟨by decide, by decide⟩
  have hat2 : cl1.slots[((0 : Int32)).toNatClampNeg]? = some (.int l0) := Hs1.at hin2 rfl
  obtain ⟨fs, hr, hrun, hended, hW, hsame⟩ := X0.leave (v := some (.long (0 : Int64))) (fun h => by rw [Bd.returns] at h; cases h)
  refine ⟨_, _, pre0 _ ?_, hrun, hended, _, _, rfl, ?_, ⟨_, rfl⟩, hW, hsame.mono (by decide) (by decide)⟩
  · show Steps p.tables e below (s₁.setTop (mkF m 0 #[.val (.ref ob), .val (.ref aL), .val (.ref aB), .val (.int (1 : Int32)), .val (.int (0 : Int32)), .val (.int x), .unset] [])) _
    refine XS.iloadN X0.here hx rfl (hb hby own_d4_0) rfl ?_
    show Steps p.tables e below (s₁.setTop (mkF m 1 #[.val (.ref ob), .val (.ref aL), .val (.ref aB), .val (.int (1 : Int32)), .val (.int (0 : Int32)), .val (.int x), .unset] [(.int (1 : Int32))])) _
    refine XS.ifNo X0.here hx rfl (hb hby own_d4_1) rfl (by decide) ?_
    show Steps p.tables e below (s₁.setTop (mkF m 4 #[.val (.ref ob), .val (.ref aL), .val (.ref aB), .val (.int (1 : Int32)), .val (.int (0 : Int32)), .val (.int x), .unset] [])) _
    refine XS.aloadN X0.here hx rfl (hb hby own_d4_4) rfl rfl ?_
    show Steps p.tables e below (s₁.setTop (mkF m 5 #[.val (.ref ob), .val (.ref aL), .val (.ref aB), .val (.int (1 : Int32)), .val (.int (0 : Int32)), .val (.int x), .unset] [(.ref aL)])) _
    refine XS.iload X0.here hx rfl (hb hby own_d4_5) rfl ?_
    show Steps p.tables e below (s₁.setTop (mkF m 7 #[.val (.ref ob), .val (.ref aL), .val (.ref aB), .val (.int (1 : Int32)), .val (.int (0 : Int32)), .val (.int x), .unset] [(.int (0 : Int32)), (.ref aL)])) _
    refine X0.iaload hx (j := (0 : Int32)) (v := (.int l0)) (by rw [e0]; exact Ar1.1) (State.isArrayOf_alike hZ.alike Ar1.2.1) Ar1.2.2 hin2 hat2 (g := (mkF m 7 #[.val (.ref ob), .val (.ref aL), .val (.ref aB), .val (.int (1 : Int32)), .val (.int (0 : Int32)), .val (.int x), .unset] [(.int (0 : Int32)), (.ref aL)])) rfl rfl (hb hby own_d4_7) _ ?_
    show Steps p.tables e below (s₁.setTop (mkF m 8 #[.val (.ref ob), .val (.ref aL), .val (.ref aB), .val (.int (1 : Int32)), .val (.int (0 : Int32)), .val (.int x), .unset] [(.int l0)])) _
    refine XS.ifNo X0.here hx rfl (hb hby own_d4_8) rfl ((if0 _ _).trans (teq (hl : l0 = (0 : Int32))).2) ?_
    show Steps p.tables e below (s₁.setTop (mkF m 11 #[.val (.ref ob), .val (.ref aL), .val (.ref aB), .val (.int (1 : Int32)), .val (.int (0 : Int32)), .val (.int x), .unset] [])) _
    refine XS.lconst X0.here hx rfl (hb hby own_d4_11) ?_
    show Steps p.tables e below (s₁.setTop (mkF m 12 #[.val (.ref ob), .val (.ref aL), .val (.ref aB), .val (.int (1 : Int32)), .val (.int (0 : Int32)), .val (.int x), .unset] [(.long (0 : Int64))])) _
    jvm_step X0.here [X0.here.top, hx, (hb hby own_d4_12), X0.method', Bd.returns, narrow]
    first | (intro acts; rw [hr _ acts rfl rfl rfl]) | rw [hr _ _ rfl rfl rfl]
    exact Steps.refl _
  · show OwnQ _ h0 n0 _ s₁.heap _
    exact ⟨rfl, N0, e0⟩
set_option maxRecDepth 65536 in
set_option maxHeartbeats 40000000 in
theorem own_mo_1z (l : Launch) (Z : State) (a0 : Array Value) (hw : ∀ d ∈ tables_1, d.before a0 Z = true) (ws : List Jvm.Cond) (h0 : Heap) (n0 : Nat) (O0 : Old Z n0 h0) (ob : Addr) (tT : Addr) (tL : Addr) (t0 : Addr) (t1 : Addr) (kT : ClassId) (kL : ClassId) (x0 : Int32) (x1 : Int32) (z0 : Int32) (z1 : Int32) (f0 : Nat → Int32) (f1 : Nat → Int32) (aL : Addr) (aB : Addr) (kA : ClassId) (kB : ClassId) (l0 : Int32) (l1 : Int32) (u0 : Int32) (u1 : Int32) (x : Int32) (r : Int32) (ne_ob_tT : ob ≠ tT) (ne_ob_tL : ob ≠ tL) (ne_ob_t0 : ob ≠ t0) (ne_ob_t1 : ob ≠ t1) (ne_tT_tL : tT ≠ tL) (ne_tT_t0 : tT ≠ t0) (ne_tT_t1 : tT ≠ t1) (ne_tL_t0 : tL ≠ t0) (ne_tL_t1 : tL ≠ t1) (ne_t0_t1 : t0 ≠ t1) (ne_aL_tL : aL ≠ tL) (ne_aL_t0 : aL ≠ t0) (ne_aL_t1 : aL ≠ t1) (ne_aB_tL : aB ≠ tL) (ne_aB_t0 : aB ≠ t0) (ne_aB_t1 : aB ≠ t1) (ge_tL : n0 ≤ tL) (ge_t0 : n0 ≤ t0) (ge_t1 : n0 ≤ t1) (hl : l1 = (0 : Int32)) (fE : Exa Z h0 ob "com/example/sober_broadcast/soberbroadcast/cli/PositionCounts") (fT : Fld Z h0 ob "com/example/sober_broadcast/soberbroadcast/cli/PositionCounts" "trees" "[[I" (.ref tT)) (fL : Fld Z h0 ob "com/example/sober_broadcast/soberbroadcast/cli/PositionCounts" "lowest" "[I" (.ref tL)) (vT : Arv Z h0 tT kT (.array .int) (2 : Int32) [(.ref t0), (.ref t1)] .null) (vL : Arv Z h0 tL kL .int (2 : Int32) [(.int x0), (.int x1)] (.int (0 : Int32))) (aa0 : OwnA Z h0 t0 z0 f0) (aa1 : OwnA Z h0 t1 z1 f1) (vA : Arv Z h0 aL kA .int (2 : Int32) [(.int l0), (.int l1)] (.int (0 : Int32))) (vB : Arv Z h0 aB kB .int (2 : Int32) [(.int u0), (.int u1)] (.int (0 : Int32))) :
    MetFree l (⟨"com/example/sober_broadcast/soberbroadcast/cli/PositionCountsCountBelowPinLaw", "markOne", "(Lcom/example/sober_broadcast/soberbroadcast/cli/PositionCounts;[I[IZII)J"⟩ : MethodName) (head1 (Jvm.Cond.code (⟨"com/example/sober_broadcast/soberbroadcast/cli/PositionCountsCountBelowPinLaw", "markOne", "(Lcom/example/sober_broadcast/soberbroadcast/cli/PositionCounts;[I[IZII)J"⟩ : MethodName) method_3_code 7 (some .long) :: ws) ({ frames := 2, cells := 0, slots := 0, locals := 31 } : Room)) (fun a U => a = #[(.ref ob), (.ref aL), (.ref aB), (.int (1 : Int32)), (.int (1 : Int32)), (.int x)] ∧ Z.Warmed39 U.vm ∧ U.heap = h0) (fun _ _ _ _ _ => True) (fun _ U o U' => ∃ v L, o = .returned v ∧ OwnQ (some (.long (0 : Int64))) h0 n0 v U'.heap L ∧ FrameEnd U o U' L ({ frames := 2, cells := 0, slots := 0, locals := 31 } : Room).cells ({ frames := 2, cells := 0, slots := 0, locals := 31 } : Room).slots) := by
  refine MetFree.of_bodySF (plainFor_of_name own_pn_4) hisR ?_
  intro p e s m args below meth c s₁ Bd hml0 hP hK
  obtain ⟨rfl, hZ, hh⟩ := hP
  have hx := Bd.exec
  have hby := Bd.bytes
  have hml : c.maxLocals = 7 := hml0
  have hown : s.vm.findClass "com/example/sober_broadcast/soberbroadcast/cli/PositionCountsCountBelowPinLaw" = some m.cls := findClass_of_methodNamed Bd.named
  have hnm := (name_of_methodNamed Bd.named Bd.method).1
  have X0 : Stand p l e ({ frames := 2, cells := 0, slots := 0, locals := 31 } : Room) s m #[(.ref ob), (.ref aL), (.ref aB), (.int (1 : Int32)), (.int (1 : Int32)), (.int x)] below meth c s₁ [] 0 0 := Stand.of_body Bd
  have e0 : s₁.heap = h0 := by rw [← hh, Bd.state]; rfl
  have N0 := Fr.nil n0
  have pre0 : ∀ t, Steps p.tables e below (s₁.setTop (mkF m 0 #[.val (.ref ob), .val (.ref aL), .val (.ref aB), .val (.int (1 : Int32)), .val (.int (1 : Int32)), .val (.int x), .unset] [])) t → Steps p.tables e below (s₁.setTop (entryFrame m #[(.ref ob), (.ref aL), (.ref aB), (.int (1 : Int32)), (.int (1 : Int32)), (.int x)] 7)) t := fun t k => castTop (own_ef_4_RRRIII m ob aL aB (1 : Int32) (1 : Int32) x) k
  obtain ⟨cl1, Ar1, qk1, Sz1, Nn1, Hs1, Gs1⟩ := id (vA)
  have hin2 : ¬ ((1 : Int32) < 0 ∨ cl1.slots.size ≤ ((1 : Int32)).toNatClampNeg) := inb_of Sz1 ⟨by decide, by decide⟩
  have hat2 : cl1.slots[((1 : Int32)).toNatClampNeg]? = some (.int l1) := Hs1.at hin2 rfl
  obtain ⟨fs, hr, hrun, hended, hW, hsame⟩ := X0.leave (v := some (.long (0 : Int64))) (fun h => by rw [Bd.returns] at h; cases h)
  refine ⟨_, _, pre0 _ ?_, hrun, hended, _, _, rfl, ?_, ⟨_, rfl⟩, hW, hsame.mono (by decide) (by decide)⟩
  · show Steps p.tables e below (s₁.setTop (mkF m 0 #[.val (.ref ob), .val (.ref aL), .val (.ref aB), .val (.int (1 : Int32)), .val (.int (1 : Int32)), .val (.int x), .unset] [])) _
    refine XS.iloadN X0.here hx rfl (hb hby own_d4_0) rfl ?_
    show Steps p.tables e below (s₁.setTop (mkF m 1 #[.val (.ref ob), .val (.ref aL), .val (.ref aB), .val (.int (1 : Int32)), .val (.int (1 : Int32)), .val (.int x), .unset] [(.int (1 : Int32))])) _
    refine XS.ifNo X0.here hx rfl (hb hby own_d4_1) rfl (by decide) ?_
    show Steps p.tables e below (s₁.setTop (mkF m 4 #[.val (.ref ob), .val (.ref aL), .val (.ref aB), .val (.int (1 : Int32)), .val (.int (1 : Int32)), .val (.int x), .unset] [])) _
    refine XS.aloadN X0.here hx rfl (hb hby own_d4_4) rfl rfl ?_
    show Steps p.tables e below (s₁.setTop (mkF m 5 #[.val (.ref ob), .val (.ref aL), .val (.ref aB), .val (.int (1 : Int32)), .val (.int (1 : Int32)), .val (.int x), .unset] [(.ref aL)])) _
    refine XS.iload X0.here hx rfl (hb hby own_d4_5) rfl ?_
    show Steps p.tables e below (s₁.setTop (mkF m 7 #[.val (.ref ob), .val (.ref aL), .val (.ref aB), .val (.int (1 : Int32)), .val (.int (1 : Int32)), .val (.int x), .unset] [(.int (1 : Int32)), (.ref aL)])) _
    refine X0.iaload hx (j := (1 : Int32)) (v := (.int l1)) (by rw [e0]; exact Ar1.1) (State.isArrayOf_alike hZ.alike Ar1.2.1) Ar1.2.2 hin2 hat2 (g := (mkF m 7 #[.val (.ref ob), .val (.ref aL), .val (.ref aB), .val (.int (1 : Int32)), .val (.int (1 : Int32)), .val (.int x), .unset] [(.int (1 : Int32)), (.ref aL)])) rfl rfl (hb hby own_d4_7) _ ?_
    show Steps p.tables e below (s₁.setTop (mkF m 8 #[.val (.ref ob), .val (.ref aL), .val (.ref aB), .val (.int (1 : Int32)), .val (.int (1 : Int32)), .val (.int x), .unset] [(.int l1)])) _
    refine XS.ifNo X0.here hx rfl (hb hby own_d4_8) rfl ((if0 _ _).trans (teq (hl : l1 = (0 : Int32))).2) ?_
    show Steps p.tables e below (s₁.setTop (mkF m 11 #[.val (.ref ob), .val (.ref aL), .val (.ref aB), .val (.int (1 : Int32)), .val (.int (1 : Int32)), .val (.int x), .unset] [])) _
    refine XS.lconst X0.here hx rfl (hb hby own_d4_11) ?_
    show Steps p.tables e below (s₁.setTop (mkF m 12 #[.val (.ref ob), .val (.ref aL), .val (.ref aB), .val (.int (1 : Int32)), .val (.int (1 : Int32)), .val (.int x), .unset] [(.long (0 : Int64))])) _
    jvm_step X0.here [X0.here.top, hx, (hb hby own_d4_12), X0.method', Bd.returns, narrow]
    first | (intro acts; rw [hr _ acts rfl rfl rfl]) | rw [hr _ _ rfl rfl rfl]
    exact Steps.refl _
  · show OwnQ _ h0 n0 _ s₁.heap _
    exact ⟨rfl, N0, e0⟩
set_option maxRecDepth 65536 in
set_option maxHeartbeats 40000000 in
theorem own_mo_off (l : Launch) (Z : State) (a0 : Array Value) (hw : ∀ d ∈ tables_1, d.before a0 Z = true) (ws : List Jvm.Cond) (h0 : Heap) (n0 : Nat) (O0 : Old Z n0 h0) (ob : Addr) (aL : Addr) (aB : Addr) (c0 : Int32) (x : Int32) :
    MetFree l (⟨"com/example/sober_broadcast/soberbroadcast/cli/PositionCountsCountBelowPinLaw", "markOne", "(Lcom/example/sober_broadcast/soberbroadcast/cli/PositionCounts;[I[IZII)J"⟩ : MethodName) (head1 (Jvm.Cond.code (⟨"com/example/sober_broadcast/soberbroadcast/cli/PositionCountsCountBelowPinLaw", "markOne", "(Lcom/example/sober_broadcast/soberbroadcast/cli/PositionCounts;[I[IZII)J"⟩ : MethodName) method_3_code 7 (some .long) :: ws) ({ frames := 0, cells := 0, slots := 0, locals := 0 } : Room)) (fun a U => a = #[(.ref ob), (.ref aL), (.ref aB), (.int (0 : Int32)), (.int c0), (.int x)] ∧ Z.Warmed39 U.vm ∧ U.heap = h0) (fun _ _ _ _ _ => True) (fun _ U o U' => ∃ v L, o = .returned v ∧ OwnQ (some (.long (0 : Int64))) h0 n0 v U'.heap L ∧ FrameEnd U o U' L ({ frames := 0, cells := 0, slots := 0, locals := 0 } : Room).cells ({ frames := 0, cells := 0, slots := 0, locals := 0 } : Room).slots) := by
  refine MetFree.of_bodySF (plainFor_of_name own_pn_4) hisR ?_
  intro p e s m args below meth c s₁ Bd hml0 hP hK
  obtain ⟨rfl, hZ, hh⟩ := hP
  have hx := Bd.exec
  have hby := Bd.bytes
  have hml : c.maxLocals = 7 := hml0
  have hown : s.vm.findClass "com/example/sober_broadcast/soberbroadcast/cli/PositionCountsCountBelowPinLaw" = some m.cls := findClass_of_methodNamed Bd.named
  have hnm := (name_of_methodNamed Bd.named Bd.method).1
  have X0 : Stand p l e ({ frames := 0, cells := 0, slots := 0, locals := 0 } : Room) s m #[(.ref ob), (.ref aL), (.ref aB), (.int (0 : Int32)), (.int c0), (.int x)] below meth c s₁ [] 0 0 := Stand.of_body Bd
  have e0 : s₁.heap = h0 := by rw [← hh, Bd.state]; rfl
  have N0 := Fr.nil n0
  have pre0 : ∀ t, Steps p.tables e below (s₁.setTop (mkF m 0 #[.val (.ref ob), .val (.ref aL), .val (.ref aB), .val (.int (0 : Int32)), .val (.int c0), .val (.int x), .unset] [])) t → Steps p.tables e below (s₁.setTop (entryFrame m #[(.ref ob), (.ref aL), (.ref aB), (.int (0 : Int32)), (.int c0), (.int x)] 7)) t := fun t k => castTop (own_ef_4_RRRIII m ob aL aB (0 : Int32) c0 x) k
  obtain ⟨fs, hr, hrun, hended, hW, hsame⟩ := X0.leave (v := some (.long (0 : Int64))) (fun h => by rw [Bd.returns] at h; cases h)
  refine ⟨_, _, pre0 _ ?_, hrun, hended, _, _, rfl, ?_, ⟨_, rfl⟩, hW, hsame.mono (by decide) (by decide)⟩
  · show Steps p.tables e below (s₁.setTop (mkF m 0 #[.val (.ref ob), .val (.ref aL), .val (.ref aB), .val (.int (0 : Int32)), .val (.int c0), .val (.int x), .unset] [])) _
    refine XS.iloadN X0.here hx rfl (hb hby own_d4_0) rfl ?_
    show Steps p.tables e below (s₁.setTop (mkF m 1 #[.val (.ref ob), .val (.ref aL), .val (.ref aB), .val (.int (0 : Int32)), .val (.int c0), .val (.int x), .unset] [(.int (0 : Int32))])) _
    refine XS.ifYes X0.here hx rfl (pc0 := 1) (pc' := 11) rfl (hb hby own_d4_1) rfl (by decide) (by decide) (by decide) ?_
    show Steps p.tables e below (s₁.setTop (mkF m 11 #[.val (.ref ob), .val (.ref aL), .val (.ref aB), .val (.int (0 : Int32)), .val (.int c0), .val (.int x), .unset] [])) _
    refine XS.lconst X0.here hx rfl (hb hby own_d4_11) ?_
    show Steps p.tables e below (s₁.setTop (mkF m 12 #[.val (.ref ob), .val (.ref aL), .val (.ref aB), .val (.int (0 : Int32)), .val (.int c0), .val (.int x), .unset] [(.long (0 : Int64))])) _
    jvm_step X0.here [X0.here.top, hx, (hb hby own_d4_12), X0.method', Bd.returns, narrow]
    first | (intro acts; rw [hr _ acts rfl rfl rfl]) | rw [hr _ _ rfl rfl rfl]
    exact Steps.refl _
  · show OwnQ _ h0 n0 _ s₁.heap _
    exact ⟨rfl, N0, e0⟩
def OwnQmo (Z : State) (tL t0 t1 : Addr) (kL : ClassId) (x0 x1 z0 z1 : Int32) (f0 f1 : Nat → Int32) (l0 l1 u0 u1 r c0 : Int32) (h0 : Heap) (n0 : Nat) (v : Option Value) (h : Heap) (L : List Loc) : Prop := v = some (.long (own_glt (own_sel c0 l0 l1) r (own_sel c0 u0 u1))) ∧ Fr n0 L ∧ Keep h0 h [tL, t0, t1] ∧ Arv Z h tL kL .int (2 : Int32) [(.int (own_gx0 (own_sel c0 l0 l1) c0 r x0)), (.int (own_gx1 (own_sel c0 l0 l1) c0 r x1))] (.int (0 : Int32)) ∧ OwnA Z h t0 z0 (own_gf0 (own_sel c0 l0 l1) c0 z0 r f0) ∧ OwnA Z h t1 z1 (own_gf1 (own_sel c0 l0 l1) c0 z1 r f1)
theorem own_moC (l : Launch) (Z : State) (a0 : Array Value) (hw : ∀ d ∈ tables_1, d.before a0 Z = true) (ws : List Jvm.Cond) (h0 : Heap) (n0 : Nat) (O0 : Old Z n0 h0) (ob : Addr) (tT : Addr) (tL : Addr) (t0 : Addr) (t1 : Addr) (kT : ClassId) (kL : ClassId) (x0 : Int32) (x1 : Int32) (z0 : Int32) (z1 : Int32) (f0 : Nat → Int32) (f1 : Nat → Int32) (aL : Addr) (aB : Addr) (kA : ClassId) (kB : ClassId) (l0 : Int32) (l1 : Int32) (u0 : Int32) (u1 : Int32) (x : Int32) (r : Int32) (c0 : Int32) (ne_ob_tT : ob ≠ tT) (ne_ob_tL : ob ≠ tL) (ne_ob_t0 : ob ≠ t0) (ne_ob_t1 : ob ≠ t1) (ne_tT_tL : tT ≠ tL) (ne_tT_t0 : tT ≠ t0) (ne_tT_t1 : tT ≠ t1) (ne_tL_t0 : tL ≠ t0) (ne_tL_t1 : tL ≠ t1) (ne_t0_t1 : t0 ≠ t1) (ne_aL_tL : aL ≠ tL) (ne_aL_t0 : aL ≠ t0) (ne_aL_t1 : aL ≠ t1) (ne_aB_tL : aB ≠ tL) (ne_aB_t0 : aB ≠ t0) (ne_aB_t1 : aB ≠ t1) (ge_tL : n0 ≤ tL) (ge_t0 : n0 ≤ t0) (ge_t1 : n0 ≤ t1) (hc : own_01 c0) (hr : (own_sel c0 l0 l1) = (0 : Int32) ∨ ((x &&& (2147483647 : Int32)) % (own_sel c0 l0 l1)) = r) (uk : (own_sel c0 l0 l1) = (0 : Int32) ∨ own_upOk (own_sel c0 z0 z1) 6 (r + (1 : Int32)) = true) (fE : Exa Z h0 ob "com/example/sober_broadcast/soberbroadcast/cli/PositionCounts") (fT : Fld Z h0 ob "com/example/sober_broadcast/soberbroadcast/cli/PositionCounts" "trees" "[[I" (.ref tT)) (fL : Fld Z h0 ob "com/example/sober_broadcast/soberbroadcast/cli/PositionCounts" "lowest" "[I" (.ref tL)) (vT : Arv Z h0 tT kT (.array .int) (2 : Int32) [(.ref t0), (.ref t1)] .null) (vL : Arv Z h0 tL kL .int (2 : Int32) [(.int x0), (.int x1)] (.int (0 : Int32))) (aa0 : OwnA Z h0 t0 z0 f0) (aa1 : OwnA Z h0 t1 z1 f1) (vA : Arv Z h0 aL kA .int (2 : Int32) [(.int l0), (.int l1)] (.int (0 : Int32))) (vB : Arv Z h0 aB kB .int (2 : Int32) [(.int u0), (.int u1)] (.int (0 : Int32))) :
    MetFree l (⟨"com/example/sober_broadcast/soberbroadcast/cli/PositionCountsCountBelowPinLaw", "markOne", "(Lcom/example/sober_broadcast/soberbroadcast/cli/PositionCounts;[I[IZII)J"⟩ : MethodName) (head1 (Jvm.Cond.code (⟨"com/example/sober_broadcast/soberbroadcast/cli/PositionCountsCountBelowPinLaw", "markOne", "(Lcom/example/sober_broadcast/soberbroadcast/cli/PositionCounts;[I[IZII)J"⟩ : MethodName) method_3_code 7 (some .long) :: ws) ({ frames := 2, cells := 0, slots := 0, locals := 31 } : Room)) (fun a U => a = #[(.ref ob), (.ref aL), (.ref aB), (.int (1 : Int32)), (.int c0), (.int x)] ∧ Z.Warmed39 U.vm ∧ U.heap = h0) (fun _ _ _ _ _ => True) (fun _ U o U' => ∃ v L, o = .returned v ∧ OwnQmo Z tL t0 t1 kL x0 x1 z0 z1 f0 f1 l0 l1 u0 u1 r c0 h0 n0 v U'.heap L ∧ FrameEnd U o U' L ({ frames := 2, cells := 0, slots := 0, locals := 31 } : Room).cells ({ frames := 2, cells := 0, slots := 0, locals := 31 } : Room).slots) := by
  rcases hc with rfl | rfl
  · have es : ∀ a b : Int32, own_sel 0 a b = a := fun a b => if_pos rfl
    rw [es] at hr uk
    rw [es] at uk
    by_cases hl : l0 = (0 : Int32)
    · refine MetFree.mono (own_mo_0z l Z a0 hw ws h0 n0 O0 ob tT tL t0 t1 kT kL x0 x1 z0 z1 f0 f1 aL aB kA kB l0 l1 u0 u1 x r ne_ob_tT ne_ob_tL ne_ob_t0 ne_ob_t1 ne_tT_tL ne_tT_t0 ne_tT_t1 ne_tL_t0 ne_tL_t1 ne_t0_t1 ne_aL_tL ne_aL_t0 ne_aL_t1 ne_aB_tL ne_aB_t0 ne_aB_t1 ge_tL ge_t0 ge_t1 hl fE fT fL vT vL aa0 aa1 vA vB) (fun _ _ q => q) (fun _ _ _ _ _ q => q) ?_
      rintro a U o' U' hP ⟨v, L, ho, hQ, hF⟩
      obtain ⟨rfl, N, e⟩ := hQ
      refine ⟨_, L, ho, ?_, hF⟩
      rw [e]
      refine ⟨?_, N, Keep.refl _ _, ?_, ?_, ?_⟩
      · rw [es, es, own_glt, if_pos hl]
      · rw [es, own_gx0, own_gx1, if_pos hl, if_pos hl]; exact vL
      · rw [es, own_gf0, if_pos hl]; exact aa0
      · rw [es, own_gf1, if_pos hl]; exact aa1
    · have hr' := hr.resolve_left hl
      have uk' := uk.resolve_left hl
      by_cases hb : r < u0
      · refine MetFree.mono (own_mo_01 l Z a0 hw ws h0 n0 O0 ob tT tL t0 t1 kT kL x0 x1 z0 z1 f0 f1 aL aB kA kB l0 l1 u0 u1 x r ne_ob_tT ne_ob_tL ne_ob_t0 ne_ob_t1 ne_tT_tL ne_tT_t0 ne_tT_t1 ne_tL_t0 ne_tL_t1 ne_t0_t1 ne_aL_tL ne_aL_t0 ne_aL_t1 ne_aB_tL ne_aB_t0 ne_aB_t1 ge_tL ge_t0 ge_t1 hl hr' uk' hb fE fT fL vT vL aa0 aa1 vA vB) (fun _ _ q => q) (fun _ _ _ _ _ q => q) ?_
        rintro a U o' U' hP ⟨v, L, ho, hQ, hF⟩
        obtain ⟨rfl, N, K, q0, q1⟩ := hQ
        refine ⟨_, L, ho, ⟨?_, N, own_kmono K (allS (List.mem_of_getElem? (i := 1) rfl) (allS (List.mem_of_getElem? (i := 0) rfl) all0)), ?_, ?_, ?_⟩, hF⟩
        · rw [es, es, own_glt, if_neg hl, own_lt, if_pos hb]
        · rw [es, own_gx0, own_gx1, if_neg hl, if_neg hl, own_x0_0, own_x1_0]; exact q1
        · rw [es, own_gf0, if_neg hl, own_f0_0]; exact q0
        · rw [es, own_gf1, if_neg hl, own_f1_0]; exact aa1.keep K (ninS (Ne.symm ne_t0_t1) (ninS (Ne.symm ne_tL_t1) nin0))
      · refine MetFree.mono (own_mo_00 l Z a0 hw ws h0 n0 O0 ob tT tL t0 t1 kT kL x0 x1 z0 z1 f0 f1 aL aB kA kB l0 l1 u0 u1 x r ne_ob_tT ne_ob_tL ne_ob_t0 ne_ob_t1 ne_tT_tL ne_tT_t0 ne_tT_t1 ne_tL_t0 ne_tL_t1 ne_t0_t1 ne_aL_tL ne_aL_t0 ne_aL_t1 ne_aB_tL ne_aB_t0 ne_aB_t1 ge_tL ge_t0 ge_t1 hl hr' uk' hb fE fT fL vT vL aa0 aa1 vA vB) (fun _ _ q => q) (fun _ _ _ _ _ q => q) ?_
        rintro a U o' U' hP ⟨v, L, ho, hQ, hF⟩
        obtain ⟨rfl, N, K, q0, q1⟩ := hQ
        refine ⟨_, L, ho, ⟨?_, N, own_kmono K (allS (List.mem_of_getElem? (i := 1) rfl) (allS (List.mem_of_getElem? (i := 0) rfl) all0)), ?_, ?_, ?_⟩, hF⟩
        · rw [es, es, own_glt, if_neg hl, own_lt, if_neg hb]
        · rw [es, own_gx0, own_gx1, if_neg hl, if_neg hl, own_x0_0, own_x1_0]; exact q1
        · rw [es, own_gf0, if_neg hl, own_f0_0]; exact q0
        · rw [es, own_gf1, if_neg hl, own_f1_0]; exact aa1.keep K (ninS (Ne.symm ne_t0_t1) (ninS (Ne.symm ne_tL_t1) nin0))
  · have es : ∀ a b : Int32, own_sel 1 a b = b := fun a b => if_neg (by decide)
    rw [es] at hr uk
    rw [es] at uk
    by_cases hl : l1 = (0 : Int32)
    · refine MetFree.mono (own_mo_1z l Z a0 hw ws h0 n0 O0 ob tT tL t0 t1 kT kL x0 x1 z0 z1 f0 f1 aL aB kA kB l0 l1 u0 u1 x r ne_ob_tT ne_ob_tL ne_ob_t0 ne_ob_t1 ne_tT_tL ne_tT_t0 ne_tT_t1 ne_tL_t0 ne_tL_t1 ne_t0_t1 ne_aL_tL ne_aL_t0 ne_aL_t1 ne_aB_tL ne_aB_t0 ne_aB_t1 ge_tL ge_t0 ge_t1 hl fE fT fL vT vL aa0 aa1 vA vB) (fun _ _ q => q) (fun _ _ _ _ _ q => q) ?_
      rintro a U o' U' hP ⟨v, L, ho, hQ, hF⟩
      obtain ⟨rfl, N, e⟩ := hQ
      refine ⟨_, L, ho, ?_, hF⟩
      rw [e]
      refine ⟨?_, N, Keep.refl _ _, ?_, ?_, ?_⟩
      · rw [es, es, own_glt, if_pos hl]
      · rw [es, own_gx0, own_gx1, if_pos hl, if_pos hl]; exact vL
      · rw [es, own_gf0, if_pos hl]; exact aa0
      · rw [es, own_gf1, if_pos hl]; exact aa1
    · have hr' := hr.resolve_left hl
      have uk' := uk.resolve_left hl
      by_cases hb : r < u1
      · refine MetFree.mono (own_mo_11 l Z a0 hw ws h0 n0 O0 ob tT tL t0 t1 kT kL x0 x1 z0 z1 f0 f1 aL aB kA kB l0 l1 u0 u1 x r ne_ob_tT ne_ob_tL ne_ob_t0 ne_ob_t1 ne_tT_tL ne_tT_t0 ne_tT_t1 ne_tL_t0 ne_tL_t1 ne_t0_t1 ne_aL_tL ne_aL_t0 ne_aL_t1 ne_aB_tL ne_aB_t0 ne_aB_t1 ge_tL ge_t0 ge_t1 hl hr' uk' hb fE fT fL vT vL aa0 aa1 vA vB) (fun _ _ q => q) (fun _ _ _ _ _ q => q) ?_
        rintro a U o' U' hP ⟨v, L, ho, hQ, hF⟩
        obtain ⟨rfl, N, K, q0, q1⟩ := hQ
        refine ⟨_, L, ho, ⟨?_, N, own_kmono K (allS (List.mem_of_getElem? (i := 2) rfl) (allS (List.mem_of_getElem? (i := 0) rfl) all0)), ?_, ?_, ?_⟩, hF⟩
        · rw [es, es, own_glt, if_neg hl, own_lt, if_pos hb]
        · rw [es, own_gx0, own_gx1, if_neg hl, if_neg hl, own_x0_1, own_x1_1]; exact q1
        · rw [es, own_gf0, if_neg hl, own_f0_1]; exact aa0.keep K (ninS ne_t0_t1 (ninS (Ne.symm ne_tL_t0) nin0))
        · rw [es, own_gf1, if_neg hl, own_f1_1]; exact q0
      · refine MetFree.mono (own_mo_10 l Z a0 hw ws h0 n0 O0 ob tT tL t0 t1 kT kL x0 x1 z0 z1 f0 f1 aL aB kA kB l0 l1 u0 u1 x r ne_ob_tT ne_ob_tL ne_ob_t0 ne_ob_t1 ne_tT_tL ne_tT_t0 ne_tT_t1 ne_tL_t0 ne_tL_t1 ne_t0_t1 ne_aL_tL ne_aL_t0 ne_aL_t1 ne_aB_tL ne_aB_t0 ne_aB_t1 ge_tL ge_t0 ge_t1 hl hr' uk' hb fE fT fL vT vL aa0 aa1 vA vB) (fun _ _ q => q) (fun _ _ _ _ _ q => q) ?_
        rintro a U o' U' hP ⟨v, L, ho, hQ, hF⟩
        obtain ⟨rfl, N, K, q0, q1⟩ := hQ
        refine ⟨_, L, ho, ⟨?_, N, own_kmono K (allS (List.mem_of_getElem? (i := 2) rfl) (allS (List.mem_of_getElem? (i := 0) rfl) all0)), ?_, ?_, ?_⟩, hF⟩
        · rw [es, es, own_glt, if_neg hl, own_lt, if_neg hb]
        · rw [es, own_gx0, own_gx1, if_neg hl, if_neg hl, own_x0_1, own_x1_1]; exact q1
        · rw [es, own_gf0, if_neg hl, own_f0_1]; exact aa0.keep K (ninS ne_t0_t1 (ninS (Ne.symm ne_tL_t0) nin0))
        · rw [es, own_gf1, if_neg hl, own_f1_1]; exact q0
theorem own_ef_0_IIIIII (m : MethodId) (x0 : Int32) (x1 : Int32) (x2 : Int32) (x3 : Int32) (x4 : Int32) (x5 : Int32) : entryFrame m #[(.int x0), (.int x1), (.int x2), (.int x3), (.int x4), (.int x5)] maxLocals = mkF m 0 #[.val (.int x0), .val (.int x1), .val (.int x2), .val (.int x3), .val (.int x4), .val (.int x5), .unset, .unset, .unset, .unset, .unset, .unset] [] := by first | (simp [entryFrame, mkF, argsToLocals, Value.category, maxLocals]; done) | rfl
theorem own_ef_1_RR (m : MethodId) (x0 : Addr) (x1 : Addr) : entryFrame m #[(.ref x0), (.ref x1)] 3 = mkF m 0 #[.val (.ref x0), .val (.ref x1), .unset] [] := by first | (simp [entryFrame, mkF, argsToLocals, Value.category]; done) | rfl
theorem own_pn_3 : plainName "java/util/Arrays" = true := by first | (simp [plainName, overriddenIn]; done) | decide +kernel
theorem own_ef_3_RI (m : MethodId) (x0 : Addr) (x1 : Int32) : entryFrame m #[(.ref x0), (.int x1)] 4 = mkF m 0 #[.val (.ref x0), .val (.int x1), .unset, .unset] [] := by first | (simp [entryFrame, mkF, argsToLocals, Value.category]; done) | rfl
theorem own_d3_0 : decode jdk_65_method_103_code 0 = .ok (.iconst 0, 1) := by decide +kernel
theorem own_d3_1 : decode jdk_65_method_103_code 1 = .ok (.istore_n 2, 1) := by decide +kernel
theorem own_d3_2 : decode jdk_65_method_103_code 2 = .ok (.aload_n 0, 1) := by decide +kernel
theorem own_d3_3 : decode jdk_65_method_103_code 3 = .ok (.arraylength, 1) := by decide +kernel
theorem own_d3_4 : decode jdk_65_method_103_code 4 = .ok (.istore_n 3, 1) := by decide +kernel
theorem own_d3_5 : decode jdk_65_method_103_code 5 = .ok (.iload_n 2, 1) := by decide +kernel
theorem own_d3_6 : decode jdk_65_method_103_code 6 = .ok (.iload_n 3, 1) := by decide +kernel
theorem own_d3_7 : decode jdk_65_method_103_code 7 = .ok (.if_icmp .ge 13, 3) := by decide +kernel
theorem own_d3_10 : decode jdk_65_method_103_code 10 = .ok (.aload_n 0, 1) := by decide +kernel
theorem own_d3_11 : decode jdk_65_method_103_code 11 = .ok (.iload_n 2, 1) := by decide +kernel
theorem own_d3_12 : decode jdk_65_method_103_code 12 = .ok (.iload_n 1, 1) := by decide +kernel
theorem own_d3_13 : decode jdk_65_method_103_code 13 = .ok (.iastore, 1) := by decide +kernel
theorem own_d3_14 : decode jdk_65_method_103_code 14 = .ok (.iinc 2 1, 3) := by decide +kernel
theorem own_d3_17 : decode jdk_65_method_103_code 17 = .ok (.goto (-12), 3) := by decide +kernel
theorem own_d3_20 : decode jdk_65_method_103_code 20 = .ok (.return_, 1) := by decide +kernel
def OwnQ_own_fill_1 (Z : State) (o1 : Addr) (kc2 : ClassId) (h0 : Heap) (n0 : Nat) (v : Option Value) (h : Heap) (L : List Loc) : Prop :=
  v = none ∧ Fr n0 L ∧ Keep h0 h [o1] ∧ Exa Z h o1 "[I" ∧ Arv Z h o1 kc2 .int (2 : Int32) [(.int (2147483647 : Int32)), (.int (2147483647 : Int32))] (.int (0 : Int32))
set_option maxRecDepth 65536 in
set_option maxHeartbeats 40000000 in
theorem own_fill_1 (l : Launch) (Z : State) (a0 : Array Value) (hw : ∀ d ∈ tables_1, d.before a0 Z = true) (ws : List Jvm.Cond) (h0 : Heap) (n0 : Nat) (O0 : Old Z n0 h0) (o1 : Addr) (kc2 : ClassId) (ge_o1 : n0 ≤ o1) (f0_E_o1 : Exa Z h0 o1 "[I") (f0_V_o1 : Arv Z h0 o1 kc2 .int (2 : Int32) [(.int (0 : Int32)), (.int (0 : Int32))] (.int (0 : Int32))) :
    MetFree l (⟨"java/util/Arrays", "fill", "([II)V"⟩ : MethodName) (head1 (Jvm.Cond.code (⟨"java/util/Arrays", "fill", "([II)V"⟩ : MethodName) jdk_65_method_103_code 4 none :: ws) ({ frames := 0, cells := 0, slots := 0, locals := 0 } : Room)) (fun a U => a = #[(.ref o1), (.int (2147483647 : Int32))] ∧ Z.Warmed39 U.vm ∧ U.heap = h0) (fun _ _ _ _ _ => True) (fun _ U o U' => ∃ v L, o = .returned v ∧ OwnQ_own_fill_1 Z o1 kc2 h0 n0 v U'.heap L ∧ FrameEnd U o U' L ({ frames := 0, cells := 0, slots := 0, locals := 0 } : Room).cells ({ frames := 0, cells := 0, slots := 0, locals := 0 } : Room).slots) := by
  refine MetFree.of_bodySF (plainFor_of_name own_pn_3) hisR ?_
  intro p e s m args below meth c s₁ Bd hml0 hP hK
  obtain ⟨rfl, hZ, hh⟩ := hP
  have hx := Bd.exec
  have hby := Bd.bytes
  have hml : c.maxLocals = 4 := hml0
  have hown : s.vm.findClass "java/util/Arrays" = some m.cls := findClass_of_methodNamed Bd.named
  have hnm := (name_of_methodNamed Bd.named Bd.method).1
  have X0 : Stand p l e ({ frames := 0, cells := 0, slots := 0, locals := 0 } : Room) s m #[(.ref o1), (.int (2147483647 : Int32))] below meth c s₁ [] 0 0 := Stand.of_body Bd
  have e0 : s₁.heap = h0 := by rw [← hh, Bd.state]; rfl
  have N0 := Fr.nil n0
  have pre0 : ∀ t, Steps p.tables e below (s₁.setTop (mkF m 0 #[.val (.ref o1), .val (.int (2147483647 : Int32)), .unset, .unset] [])) t → Steps p.tables e below (s₁.setTop (entryFrame m #[(.ref o1), (.int (2147483647 : Int32))] 4)) t := fun t k => castTop (own_ef_3_RI m o1 (2147483647 : Int32)) k
  obtain ⟨cl1, Ar1, qk1, Sz1, Nn1, Hs1, Gs1⟩ := id (f0_V_o1)
  obtain ⟨cl2, Ar2, qk2, Sz2, Nn2, Hs2, Gs2⟩ := id (f0_V_o1)
  have hin2 : ¬ ((0 : Int32) < 0 ∨ cl2.slots.size ≤ ((0 : Int32)).toNatClampNeg) := inb_of Sz2 ⟨by decide, by decide⟩
  obtain ⟨T2, h2, X2, e2, W2, st2⟩ := stI X0 hx hZ e0 Ar2 (j := (0 : Int32)) hin2 (g := (mkF m 13 #[.val (.ref o1), .val (.int (2147483647 : Int32)), .val (.int (0 : Int32)), .val (.int (2 : Int32))] [(.int (2147483647 : Int32)), (.int (0 : Int32)), (.ref o1)])) rfl rfl (hb hby own_d3_13)
  have V2 := Arv.set Ar2 qk2 Sz2 Nn2 Hs2 Gs2 rfl W2 0 rfl (Nat.le_of_ble_eq_true rfl)
  have f2_E_o1 := f0_E_o1.wr W2
  have O2 := O0.wr W2 ge_o1
  have K2 := (Keep.refl h0 [o1]).wr W2 (Or.inl (List.mem_of_getElem? (i := 0) rfl))
  have N2 := Fr.snoc X2 N0 ge_o1
  obtain ⟨cl3, Ar3, qk3, Sz3, Nn3, Hs3, Gs3⟩ := id (V2)
  have hin3 : ¬ ((1 : Int32) < 0 ∨ cl3.slots.size ≤ ((1 : Int32)).toNatClampNeg) := inb_of Sz3 ⟨by decide, by decide⟩
  obtain ⟨T3, h3, X3, e3, W3, st3⟩ := stI X2 hx hZ e2 Ar3 (j := (1 : Int32)) hin3 (g := (mkF m 13 #[.val (.ref o1), .val (.int (2147483647 : Int32)), .val (.int (1 : Int32)), .val (.int (2 : Int32))] [(.int (2147483647 : Int32)), (.int (1 : Int32)), (.ref o1)])) rfl rfl (hb hby own_d3_13)
  have V3 := Arv.set Ar3 qk3 Sz3 Nn3 Hs3 Gs3 rfl W3 1 rfl (Nat.le_of_ble_eq_true rfl)
  have f3_E_o1 := f2_E_o1.wr W3
  have O3 := O2.wr W3 ge_o1
  have K3 := K2.wr W3 (Or.inl (List.mem_of_getElem? (i := 0) rfl))
  have N3 := Fr.snoc X3 N2 ge_o1
  obtain ⟨fs, hr, hrun, hended, hW, hsame⟩ := X3.leave (v := none) (fun _ => rfl)
  refine ⟨_, _, pre0 _ ?_, hrun, hended, _, _, rfl, ?_, ⟨_, rfl⟩, hW, hsame.mono (by decide) (by decide)⟩
  · show Steps p.tables e below (s₁.setTop (mkF m 0 #[.val (.ref o1), .val (.int (2147483647 : Int32)), .unset, .unset] [])) _
    refine XS.iconst X0.here hx rfl (hb hby own_d3_0) ?_
    show Steps p.tables e below (s₁.setTop (mkF m 1 #[.val (.ref o1), .val (.int (2147483647 : Int32)), .unset, .unset] [(.int (0 : Int32))])) _
    refine XS.istoreN X0.here hx rfl (hb hby own_d3_1) rfl (l' := #[.val (.ref o1), .val (.int (2147483647 : Int32)), .val (.int (0 : Int32)), .unset]) rfl ?_
    show Steps p.tables e below (s₁.setTop (mkF m 2 #[.val (.ref o1), .val (.int (2147483647 : Int32)), .val (.int (0 : Int32)), .unset] [])) _
    refine XS.aloadN X0.here hx rfl (hb hby own_d3_2) rfl rfl ?_
    show Steps p.tables e below (s₁.setTop (mkF m 3 #[.val (.ref o1), .val (.int (2147483647 : Int32)), .val (.int (0 : Int32)), .unset] [(.ref o1)])) _
    refine X0.arraylength hx (by rw [e0]; exact Ar1.1) (State.isArrayOf_alike hZ.alike Ar1.2.1) (g := (mkF m 3 #[.val (.ref o1), .val (.int (2147483647 : Int32)), .val (.int (0 : Int32)), .unset] [(.ref o1)])) rfl rfl (hb hby own_d3_3) _ ?_
    rw [len_of Sz1 Nn1]
    show Steps p.tables e below (s₁.setTop (mkF m 4 #[.val (.ref o1), .val (.int (2147483647 : Int32)), .val (.int (0 : Int32)), .unset] [(.int (2 : Int32))])) _
    refine XS.istoreN X0.here hx rfl (hb hby own_d3_4) rfl (l' := #[.val (.ref o1), .val (.int (2147483647 : Int32)), .val (.int (0 : Int32)), .val (.int (2 : Int32))]) rfl ?_
    show Steps p.tables e below (s₁.setTop (mkF m 5 #[.val (.ref o1), .val (.int (2147483647 : Int32)), .val (.int (0 : Int32)), .val (.int (2 : Int32))] [])) _
    refine XS.iloadN X0.here hx rfl (hb hby own_d3_5) rfl ?_
    show Steps p.tables e below (s₁.setTop (mkF m 6 #[.val (.ref o1), .val (.int (2147483647 : Int32)), .val (.int (0 : Int32)), .val (.int (2 : Int32))] [(.int (0 : Int32))])) _
    refine XS.iloadN X0.here hx rfl (hb hby own_d3_6) rfl ?_
    show Steps p.tables e below (s₁.setTop (mkF m 7 #[.val (.ref o1), .val (.int (2147483647 : Int32)), .val (.int (0 : Int32)), .val (.int (2 : Int32))] [(.int (2 : Int32)), (.int (0 : Int32))])) _
    refine XS.icmpNo X0.here hx rfl (hb hby own_d3_7) rfl (by decide) ?_
    show Steps p.tables e below (s₁.setTop (mkF m 10 #[.val (.ref o1), .val (.int (2147483647 : Int32)), .val (.int (0 : Int32)), .val (.int (2 : Int32))] [])) _
    refine XS.aloadN X0.here hx rfl (hb hby own_d3_10) rfl rfl ?_
    show Steps p.tables e below (s₁.setTop (mkF m 11 #[.val (.ref o1), .val (.int (2147483647 : Int32)), .val (.int (0 : Int32)), .val (.int (2 : Int32))] [(.ref o1)])) _
    refine XS.iloadN X0.here hx rfl (hb hby own_d3_11) rfl ?_
    show Steps p.tables e below (s₁.setTop (mkF m 12 #[.val (.ref o1), .val (.int (2147483647 : Int32)), .val (.int (0 : Int32)), .val (.int (2 : Int32))] [(.int (0 : Int32)), (.ref o1)])) _
    refine XS.iloadN X0.here hx rfl (hb hby own_d3_12) rfl ?_
    show Steps p.tables e below (s₁.setTop (mkF m 13 #[.val (.ref o1), .val (.int (2147483647 : Int32)), .val (.int (0 : Int32)), .val (.int (2 : Int32))] [(.int (2147483647 : Int32)), (.int (0 : Int32)), (.ref o1)])) _
    refine st2 _ ?_
    show Steps p.tables e below (T2.setTop (mkF m 14 #[.val (.ref o1), .val (.int (2147483647 : Int32)), .val (.int (0 : Int32)), .val (.int (2 : Int32))] [])) _
    refine XS.iinc X2.here hx rfl (hb hby own_d3_14) rfl (l' := #[.val (.ref o1), .val (.int (2147483647 : Int32)), .val (.int (1 : Int32)), .val (.int (2 : Int32))]) rfl ?_
    show Steps p.tables e below (T2.setTop (mkF m 17 #[.val (.ref o1), .val (.int (2147483647 : Int32)), .val (.int (1 : Int32)), .val (.int (2 : Int32))] [])) _
    refine XS.goto X2.here hx rfl (pc0 := 17) (pc' := 5) rfl (hb hby own_d3_17) (by decide) (by decide) ?_
    show Steps p.tables e below (T2.setTop (mkF m 5 #[.val (.ref o1), .val (.int (2147483647 : Int32)), .val (.int (1 : Int32)), .val (.int (2 : Int32))] [])) _
    refine XS.iloadN X2.here hx rfl (hb hby own_d3_5) rfl ?_
    show Steps p.tables e below (T2.setTop (mkF m 6 #[.val (.ref o1), .val (.int (2147483647 : Int32)), .val (.int (1 : Int32)), .val (.int (2 : Int32))] [(.int (1 : Int32))])) _
    refine XS.iloadN X2.here hx rfl (hb hby own_d3_6) rfl ?_
    show Steps p.tables e below (T2.setTop (mkF m 7 #[.val (.ref o1), .val (.int (2147483647 : Int32)), .val (.int (1 : Int32)), .val (.int (2 : Int32))] [(.int (2 : Int32)), (.int (1 : Int32))])) _
    refine XS.icmpNo X2.here hx rfl (hb hby own_d3_7) rfl (by decide) ?_
    show Steps p.tables e below (T2.setTop (mkF m 10 #[.val (.ref o1), .val (.int (2147483647 : Int32)), .val (.int (1 : Int32)), .val (.int (2 : Int32))] [])) _
    refine XS.aloadN X2.here hx rfl (hb hby own_d3_10) rfl rfl ?_
    show Steps p.tables e below (T2.setTop (mkF m 11 #[.val (.ref o1), .val (.int (2147483647 : Int32)), .val (.int (1 : Int32)), .val (.int (2 : Int32))] [(.ref o1)])) _
    refine XS.iloadN X2.here hx rfl (hb hby own_d3_11) rfl ?_
    show Steps p.tables e below (T2.setTop (mkF m 12 #[.val (.ref o1), .val (.int (2147483647 : Int32)), .val (.int (1 : Int32)), .val (.int (2 : Int32))] [(.int (1 : Int32)), (.ref o1)])) _
    refine XS.iloadN X2.here hx rfl (hb hby own_d3_12) rfl ?_
    show Steps p.tables e below (T2.setTop (mkF m 13 #[.val (.ref o1), .val (.int (2147483647 : Int32)), .val (.int (1 : Int32)), .val (.int (2 : Int32))] [(.int (2147483647 : Int32)), (.int (1 : Int32)), (.ref o1)])) _
    refine st3 _ ?_
    show Steps p.tables e below (T3.setTop (mkF m 14 #[.val (.ref o1), .val (.int (2147483647 : Int32)), .val (.int (1 : Int32)), .val (.int (2 : Int32))] [])) _
    refine XS.iinc X3.here hx rfl (hb hby own_d3_14) rfl (l' := #[.val (.ref o1), .val (.int (2147483647 : Int32)), .val (.int (2 : Int32)), .val (.int (2 : Int32))]) rfl ?_
    show Steps p.tables e below (T3.setTop (mkF m 17 #[.val (.ref o1), .val (.int (2147483647 : Int32)), .val (.int (2 : Int32)), .val (.int (2 : Int32))] [])) _
    refine XS.goto X3.here hx rfl (pc0 := 17) (pc' := 5) rfl (hb hby own_d3_17) (by decide) (by decide) ?_
    show Steps p.tables e below (T3.setTop (mkF m 5 #[.val (.ref o1), .val (.int (2147483647 : Int32)), .val (.int (2 : Int32)), .val (.int (2 : Int32))] [])) _
    refine XS.iloadN X3.here hx rfl (hb hby own_d3_5) rfl ?_
    show Steps p.tables e below (T3.setTop (mkF m 6 #[.val (.ref o1), .val (.int (2147483647 : Int32)), .val (.int (2 : Int32)), .val (.int (2 : Int32))] [(.int (2 : Int32))])) _
    refine XS.iloadN X3.here hx rfl (hb hby own_d3_6) rfl ?_
    show Steps p.tables e below (T3.setTop (mkF m 7 #[.val (.ref o1), .val (.int (2147483647 : Int32)), .val (.int (2 : Int32)), .val (.int (2 : Int32))] [(.int (2 : Int32)), (.int (2 : Int32))])) _
    refine XS.icmpYes X3.here hx rfl (pc0 := 7) (pc' := 20) rfl (hb hby own_d3_7) rfl (by decide) (by decide) (by decide) ?_
    show Steps p.tables e below (T3.setTop (mkF m 20 #[.val (.ref o1), .val (.int (2147483647 : Int32)), .val (.int (2 : Int32)), .val (.int (2 : Int32))] [])) _
    exact X3.returnOut hx Bd.returns (hb hby own_d3_20) hr
  · show OwnQ_own_fill_1 Z o1 kc2 h0 n0 _ T3.heap _
    rw [e3]
    exact ⟨rfl, N3, K3, f3_E_o1, V3⟩
theorem own_pd_2 : parseMethodDescriptor "([II)V" = some ⟨[(.array .int), .int], none⟩ := by decide +kernel
theorem own_d1_0 : decode prog_25_method_1_code 0 = .ok (.aload_n 0, 1) := by decide +kernel
theorem own_d1_1 : decode prog_25_method_1_code 1 = .ok (.invokespecial 1, 3) := by decide +kernel
theorem own_d1_4 : decode prog_25_method_1_code 4 = .ok (.aload_n 0, 1) := by decide +kernel
theorem own_d1_5 : decode prog_25_method_1_code 5 = .ok (.aload_n 1, 1) := by decide +kernel
theorem own_d1_6 : decode prog_25_method_1_code 6 = .ok (.arraylength, 1) := by decide +kernel
theorem own_d1_7 : decode prog_25_method_1_code 7 = .ok (.anewarray 7, 3) := by decide +kernel
theorem own_d1_10 : decode prog_25_method_1_code 10 = .ok (.putfield 9, 3) := by decide +kernel
theorem own_d1_13 : decode prog_25_method_1_code 13 = .ok (.iconst 0, 1) := by decide +kernel
theorem own_d1_14 : decode prog_25_method_1_code 14 = .ok (.istore_n 2, 1) := by decide +kernel
theorem own_d1_15 : decode prog_25_method_1_code 15 = .ok (.iload_n 2, 1) := by decide +kernel
theorem own_d1_16 : decode prog_25_method_1_code 16 = .ok (.aload_n 1, 1) := by decide +kernel
theorem own_d1_17 : decode prog_25_method_1_code 17 = .ok (.arraylength, 1) := by decide +kernel
theorem own_d1_18 : decode prog_25_method_1_code 18 = .ok (.if_icmp .ge 22, 3) := by decide +kernel
theorem own_d1_21 : decode prog_25_method_1_code 21 = .ok (.aload_n 0, 1) := by decide +kernel
theorem own_d1_22 : decode prog_25_method_1_code 22 = .ok (.getfield 9, 3) := by decide +kernel
theorem own_d1_25 : decode prog_25_method_1_code 25 = .ok (.iload_n 2, 1) := by decide +kernel
theorem own_d1_26 : decode prog_25_method_1_code 26 = .ok (.aload_n 1, 1) := by decide +kernel
theorem own_d1_27 : decode prog_25_method_1_code 27 = .ok (.iload_n 2, 1) := by decide +kernel
theorem own_d1_28 : decode prog_25_method_1_code 28 = .ok (.iaload, 1) := by decide +kernel
theorem own_d1_29 : decode prog_25_method_1_code 29 = .ok (.iconst 1, 1) := by decide +kernel
theorem own_d1_30 : decode prog_25_method_1_code 30 = .ok (.iadd, 1) := by decide +kernel
theorem own_d1_31 : decode prog_25_method_1_code 31 = .ok (.newarray .int, 2) := by decide +kernel
theorem own_d1_33 : decode prog_25_method_1_code 33 = .ok (.aastore, 1) := by decide +kernel
theorem own_d1_34 : decode prog_25_method_1_code 34 = .ok (.iinc 2 1, 3) := by decide +kernel
theorem own_d1_37 : decode prog_25_method_1_code 37 = .ok (.goto (-22), 3) := by decide +kernel
theorem own_d1_40 : decode prog_25_method_1_code 40 = .ok (.aload_n 0, 1) := by decide +kernel
theorem own_d1_41 : decode prog_25_method_1_code 41 = .ok (.aload_n 1, 1) := by decide +kernel
theorem own_d1_42 : decode prog_25_method_1_code 42 = .ok (.arraylength, 1) := by decide +kernel
theorem own_d1_43 : decode prog_25_method_1_code 43 = .ok (.newarray .int, 2) := by decide +kernel
theorem own_d1_45 : decode prog_25_method_1_code 45 = .ok (.putfield 15, 3) := by decide +kernel
theorem own_d1_48 : decode prog_25_method_1_code 48 = .ok (.aload_n 0, 1) := by decide +kernel
theorem own_d1_49 : decode prog_25_method_1_code 49 = .ok (.getfield 15, 3) := by decide +kernel
theorem own_d1_52 : decode prog_25_method_1_code 52 = .ok (.ldc 20, 2) := by decide +kernel
theorem own_d1_54 : decode prog_25_method_1_code 54 = .ok (.invokestatic 21, 3) := by decide +kernel
theorem own_d1_57 : decode prog_25_method_1_code 57 = .ok (.return_, 1) := by decide +kernel
def OwnQ_own_init_0 (Z : State) (o1 : Addr) (o2 : Addr) (kc3 : ClassId) (v4 : Int32) (v5 : Int32) (h0 : Heap) (n0 : Nat) (v : Option Value) (h : Heap) (L : List Loc) : Prop :=
  ∃ (b3 : Addr) (b16 : Addr) (b8 : Addr) (b13 : Addr) (k3 : ClassId) (k16 : ClassId), v = none ∧ Fr n0 L ∧ Keep h0 h [o1] ∧ n0 ≤ b3 ∧ n0 ≤ b16 ∧ n0 ≤ b8 ∧ n0 ≤ b13 ∧ h0.size ≤ b3 ∧ h0.size ≤ b16 ∧ h0.size ≤ b8 ∧ h0.size ≤ b13 ∧ b3 ≠ b16 ∧ b3 ≠ b8 ∧ b3 ≠ b13 ∧ b16 ≠ b8 ∧ b16 ≠ b13 ∧ b8 ≠ b13 ∧ Exa Z h o1 "com/example/sober_broadcast/soberbroadcast/cli/PositionCounts" ∧ Fld Z h o1 "com/example/sober_broadcast/soberbroadcast/cli/PositionCounts" "trees" "[[I" (.ref b3) ∧ Fld Z h o1 "com/example/sober_broadcast/soberbroadcast/cli/PositionCounts" "lowest" "[I" (.ref b16) ∧ Exa Z h b3 "[[I" ∧ Exa Z h b8 "[I" ∧ OwnA Z h b8 (v4 + (1 : Int32)) own_zero ∧ Exa Z h b13 "[I" ∧ OwnA Z h b13 (v5 + (1 : Int32)) own_zero ∧ Arv Z h b3 k3 (.array .int) (2 : Int32) [(.ref b8), (.ref b13)] .null ∧ Exa Z h b16 "[I" ∧ Arv Z h b16 k16 .int (2 : Int32) [(.int (2147483647 : Int32)), (.int (2147483647 : Int32))] (.int (0 : Int32)) ∧ OvrA Z k3 .int "[I"
set_option maxRecDepth 65536 in
set_option maxHeartbeats 40000000 in
theorem own_init_0 (l : Launch) (Z : State) (a0 : Array Value) (hw : ∀ d ∈ tables_1, d.before a0 Z = true) (ws : List Jvm.Cond) (h0 : Heap) (n0 : Nat) (O0 : Old Z n0 h0) (o1 : Addr) (o2 : Addr) (kc3 : ClassId) (v4 : Int32) (v5 : Int32) (hp1 : ¬ ((v4 + (1 : Int32)) < (0 : Int32))) (hp2 : ¬ ((v4 + (1 : Int32)) = (0 : Int32))) (hp3 : (v4 + (1 : Int32)).toNatClampNeg ≤ 17) (hp4 : ¬ ((v5 + (1 : Int32)) < (0 : Int32))) (hp5 : ¬ ((v5 + (1 : Int32)) = (0 : Int32))) (hp6 : (v5 + (1 : Int32)).toNatClampNeg ≤ 17) (ne_o1_o2 : o1 ≠ o2) (ge_o1 : n0 ≤ o1) (ge_o2 : n0 ≤ o2) (f0_E_o1 : Exa Z h0 o1 "com/example/sober_broadcast/soberbroadcast/cli/PositionCounts") (f0_F_o1_trees : Fld Z h0 o1 "com/example/sober_broadcast/soberbroadcast/cli/PositionCounts" "trees" "[[I" .null) (f0_F_o1_lowest : Fld Z h0 o1 "com/example/sober_broadcast/soberbroadcast/cli/PositionCounts" "lowest" "[I" .null) (f0_E_o2 : Exa Z h0 o2 "[I") (f0_V_o2 : Arv Z h0 o2 kc3 .int (2 : Int32) [(.int v4), (.int v5)] (.int (0 : Int32))) :
    MetFree l (⟨"com/example/sober_broadcast/soberbroadcast/cli/PositionCounts", "<init>", "([I)V"⟩ : MethodName) (head1 (Jvm.Cond.code (⟨"com/example/sober_broadcast/soberbroadcast/cli/PositionCounts", "<init>", "([I)V"⟩ : MethodName) prog_25_method_1_code 3 none :: ws) ({ frames := 1, cells := 4, slots := 38, locals := 15 } : Room)) (fun a U => a = #[(.ref o1), (.ref o2)] ∧ Z.Warmed39 U.vm ∧ U.heap = h0) (fun _ _ _ _ _ => True) (fun _ U o U' => ∃ v L, o = .returned v ∧ OwnQ_own_init_0 Z o1 o2 kc3 v4 v5 h0 n0 v U'.heap L ∧ FrameEnd U o U' L ({ frames := 1, cells := 4, slots := 38, locals := 15 } : Room).cells ({ frames := 1, cells := 4, slots := 38, locals := 15 } : Room).slots) := by
  refine MetFree.of_bodySF (plainFor_of_name own_pn_5) hisR ?_
  intro p e s m args below meth c s₁ Bd hml0 hP hK
  obtain ⟨rfl, hZ, hh⟩ := hP
  have hx := Bd.exec
  have hby := Bd.bytes
  have hml : c.maxLocals = 3 := hml0
  have hown : s.vm.findClass "com/example/sober_broadcast/soberbroadcast/cli/PositionCounts" = some m.cls := findClass_of_methodNamed Bd.named
  have hnm := (name_of_methodNamed Bd.named Bd.method).1
  have X0 : Stand p l e ({ frames := 1, cells := 4, slots := 38, locals := 15 } : Room) s m #[(.ref o1), (.ref o2)] below meth c s₁ [] 0 0 := Stand.of_body Bd
  have e0 : s₁.heap = h0 := by rw [← hh, Bd.state]; rfl
  have N0 := Fr.nil n0
  have pre0 : ∀ t, Steps p.tables e below (s₁.setTop (mkF m 0 #[.val (.ref o1), .val (.ref o2), .unset] [])) t → Steps p.tables e below (s₁.setTop (entryFrame m #[(.ref o1), (.ref o2)] 3)) t := fun t k => castTop (own_ef_1_RR m o1 o2) k
  obtain ⟨T1, X1, e1, st1⟩ := initO X0 hx hZ hown (hw _ (List.mem_of_getElem? (i := 8) rfl)) (hw _ (List.mem_of_getElem? (i := 9) rfl)) (hw _ (List.mem_of_getElem? (i := 10) rfl)) e0 (g := (mkF m 1 #[.val (.ref o1), .val (.ref o2), .unset] [(.ref o1)])) rfl (by rw [hml]; rfl) rfl (hb hby own_d1_1) (by decide) (W := 0) (by show 2 * 0 + _ ≤ _; exact Nat.le_of_eq rfl) (by decide)
  obtain ⟨cl2, Ar2, qk2, Sz2, Nn2, Hs2, Gs2⟩ := id (f0_V_o2)
  obtain ⟨T3, h3, k3, X3, e3, E3, A3, Ea3, Ov3, st3⟩ := newRA X1 hx hZ hown (ty := .int) (C := "[I") (by decide) (hw _ (List.mem_of_getElem? (i := 11) rfl)) (hw _ (List.mem_of_getElem? (i := 12) rfl)) e1 (g := (mkF m 7 #[.val (.ref o1), .val (.ref o2), .unset] [(.int (2 : Int32)), (.ref o1)])) rfl (hb hby own_d1_7) rfl (by decide) (cap := 2) (by decide) (by decide) (by decide) (by decide) (ad := "[[I") (by decide)
  obtain ⟨b3, g3⟩ : ∃ z, z = h0.size := ⟨_, rfl⟩
  rw [← g3] at A3 Ea3 st3
  have ne_o1_b3 : o1 ≠ b3 := Nat.ne_of_lt (Nat.lt_of_lt_of_le f0_E_o1.lt (Nat.le_of_eq g3.symm))
  have ne_o2_b3 : o2 ≠ b3 := Nat.ne_of_lt (Nat.lt_of_lt_of_le f0_E_o2.lt (Nat.le_of_eq g3.symm))
  have ge_b3 : n0 ≤ b3 := own_new O0 g3
  have sz_b3 : h0.size ≤ b3 := Nat.le_trans (Keep.refl h0 [o1]).1 (Nat.le_of_eq g3.symm)
  have f3_E_o1 := f0_E_o1.ext E3
  have f3_F_o1_trees := f0_F_o1_trees.ext E3
  have f3_F_o1_lowest := f0_F_o1_lowest.ext E3
  have f3_E_o2 := f0_E_o2.ext E3
  have f3_V_o2 := f0_V_o2.ext E3
  have O3 := O0.ext E3
  have K3 := (Keep.refl h0 [o1]).ext E3
  have V3 : Arv Z h3 b3 k3 (.array .int) (2 : Int32) [.null, .null] .null := (Arv.new A3 (by decide)).pad (pad_rep [] .null 2)
  obtain ⟨T4, h4, X4, e4, W4, st4⟩ := putF X3 hx hZ hown (host := "") (Or.inl (hw _ (List.mem_of_getElem? (i := 13) rfl))) Via.refl e3 f3_F_o1_trees f3_E_o1 (Or.inr ⟨(hw _ (List.mem_of_getElem? (i := 14) rfl)), rfl, hnm⟩) (hw _ (List.mem_of_getElem? (i := 3) rfl)) (ty := (.array (.array .int))) (by decide) rfl rfl (g := (mkF m 10 #[.val (.ref o1), .val (.ref o2), .unset] [(.ref b3), (.ref o1)])) rfl rfl (hb hby own_d1_10)
  have f4_E_o1 := f3_E_o1.wr W4
  have f4_F_o1_trees := f3_F_o1_trees.same W4
  have f4_F_o1_lowest := f3_F_o1_lowest.other W4 (Or.inr (slot_ne (Or.inr (hw _ (List.mem_of_getElem? (i := 17) rfl))) (Or.inr (hw _ (List.mem_of_getElem? (i := 14) rfl))) (by decide) (t := (.array .int)) (t' := (.array (.array .int))) (by decide) (by decide)))
  have f4_E_o2 := f3_E_o2.wr W4
  have f4_V_o2 := f3_V_o2.other W4 (Ne.symm ne_o1_o2)
  have f4_E_b3 := Ea3.wr W4
  have f4_V_b3 := V3.other W4 (Ne.symm ne_o1_b3)
  have O4 := O3.wr W4 ge_o1
  have K4 := K3.wr W4 (Or.inl (List.mem_of_getElem? (i := 0) rfl))
  have N4 := Fr.snoc X4 N0 ge_o1
  obtain ⟨cl5, Ar5, qk5, Sz5, Nn5, Hs5, Gs5⟩ := id (f4_V_o2)
  obtain ⟨T6, X6, e6, st6⟩ := getF X4 hx hZ hown (host := "") (Or.inl (hw _ (List.mem_of_getElem? (i := 13) rfl))) Via.refl e4 f4_F_o1_trees (g := (mkF m 22 #[.val (.ref o1), .val (.ref o2), .val (.int (0 : Int32))] [(.ref o1)])) rfl rfl (hb hby own_d1_22)
  have hin7 : ¬ ((0 : Int32) < 0 ∨ cl5.slots.size ≤ ((0 : Int32)).toNatClampNeg) := inb_of Sz5 ⟨by decide, by decide⟩
  have hat7 : cl5.slots[((0 : Int32)).toNatClampNeg]? = some (.int v4) := Hs5.at hin7 rfl
  obtain ⟨T8, h8, k8, X8, e8, E8, A8, Ea8, st8⟩ := newPE X6 hx hZ (hw _ (List.mem_of_getElem? (i := 0) rfl)) e6 (g := (mkF m 31 #[.val (.ref o1), .val (.ref o2), .val (.int (0 : Int32))] [(.int (v4 + (1 : Int32))), (.int (0 : Int32)), (.ref b3)])) rfl (hb hby own_d1_31) rfl hp1 (cap := 17) hp3 (by decide) (by decide) (by decide) (ad := "[I") (by decide)
  obtain ⟨b8, g8⟩ : ∃ z, z = h4.size := ⟨_, rfl⟩
  rw [← g8] at A8 Ea8 st8
  have ne_b3_b8 : b3 ≠ b8 := Nat.ne_of_lt (Nat.lt_of_lt_of_le f4_E_b3.lt (Nat.le_of_eq g8.symm))
  have ne_o1_b8 : o1 ≠ b8 := Nat.ne_of_lt (Nat.lt_of_lt_of_le f4_E_o1.lt (Nat.le_of_eq g8.symm))
  have ne_o2_b8 : o2 ≠ b8 := Nat.ne_of_lt (Nat.lt_of_lt_of_le f4_E_o2.lt (Nat.le_of_eq g8.symm))
  have ge_b8 : n0 ≤ b8 := own_new O4 g8
  have sz_b8 : h0.size ≤ b8 := Nat.le_trans K4.1 (Nat.le_of_eq g8.symm)
  have f8_E_o1 := f4_E_o1.ext E8
  have f8_F_o1_trees := f4_F_o1_trees.ext E8
  have f8_F_o1_lowest := f4_F_o1_lowest.ext E8
  have f8_E_o2 := f4_E_o2.ext E8
  have f8_V_o2 := f4_V_o2.ext E8
  have f8_E_b3 := f4_E_b3.ext E8
  have f8_V_b3 := f4_V_b3.ext E8
  have O8 := O4.ext E8
  have K8 := K4.ext E8
  have V8 : OwnA Z h8 b8 (v4 + (1 : Int32)) own_zero := own_newA A8 hp1
  obtain ⟨cl9, Ar9, qk9, Sz9, Nn9, Hs9, Gs9⟩ := id (f8_V_b3)
  have hin9 : ¬ ((0 : Int32) < 0 ∨ cl9.slots.size ≤ ((0 : Int32)).toNatClampNeg) := inb_of Sz9 ⟨by decide, by decide⟩
  obtain ⟨T9, h9, X9, e9, W9, st9⟩ := stR X8 hx hZ e8 Ar9 (j := (0 : Int32)) hin9 rfl (Sto.ofVA Ar9 qk9 Ov3 (Ins.self Ea8)) (g := (mkF m 33 #[.val (.ref o1), .val (.ref o2), .val (.int (0 : Int32))] [(.ref b8), (.int (0 : Int32)), (.ref b3)])) rfl rfl (hb hby own_d1_33)
  have V9 := Arv.set Ar9 qk9 Sz9 Nn9 Hs9 Gs9 rfl W9 0 rfl (Nat.le_of_ble_eq_true rfl)
  have f9_E_o1 := f8_E_o1.wr W9
  have f9_F_o1_trees := f8_F_o1_trees.other W9 (Or.inl ne_o1_b3)
  have f9_F_o1_lowest := f8_F_o1_lowest.other W9 (Or.inl ne_o1_b3)
  have f9_E_o2 := f8_E_o2.wr W9
  have f9_V_o2 := f8_V_o2.other W9 ne_o2_b3
  have f9_E_b3 := f8_E_b3.wr W9
  have f9_E_b8 := Ea8.wr W9
  have f9_A_b8 := V8.other W9 (Ne.symm ne_b3_b8)
  have O9 := O8.wr W9 ge_b3
  have K9 := K8.wr W9 (Or.inr sz_b3)
  have N9 := Fr.snoc X9 N4 ge_b3
  obtain ⟨cl10, Ar10, qk10, Sz10, Nn10, Hs10, Gs10⟩ := id (f9_V_o2)
  obtain ⟨T11, X11, e11, st11⟩ := getF X9 hx hZ hown (host := "") (Or.inl (hw _ (List.mem_of_getElem? (i := 13) rfl))) Via.refl e9 f9_F_o1_trees (g := (mkF m 22 #[.val (.ref o1), .val (.ref o2), .val (.int (1 : Int32))] [(.ref o1)])) rfl rfl (hb hby own_d1_22)
  have hin12 : ¬ ((1 : Int32) < 0 ∨ cl10.slots.size ≤ ((1 : Int32)).toNatClampNeg) := inb_of Sz10 ⟨by decide, by decide⟩
  have hat12 : cl10.slots[((1 : Int32)).toNatClampNeg]? = some (.int v5) := Hs10.at hin12 rfl
  obtain ⟨T13, h13, k13, X13, e13, E13, A13, Ea13, st13⟩ := newPE X11 hx hZ (hw _ (List.mem_of_getElem? (i := 0) rfl)) e11 (g := (mkF m 31 #[.val (.ref o1), .val (.ref o2), .val (.int (1 : Int32))] [(.int (v5 + (1 : Int32))), (.int (1 : Int32)), (.ref b3)])) rfl (hb hby own_d1_31) rfl hp4 (cap := 17) hp6 (by decide) (by decide) (by decide) (ad := "[I") (by decide)
  obtain ⟨b13, g13⟩ : ∃ z, z = h9.size := ⟨_, rfl⟩
  rw [← g13] at A13 Ea13 st13
  have ne_b3_b13 : b3 ≠ b13 := Nat.ne_of_lt (Nat.lt_of_lt_of_le f9_E_b3.lt (Nat.le_of_eq g13.symm))
  have ne_b8_b13 : b8 ≠ b13 := Nat.ne_of_lt (Nat.lt_of_lt_of_le f9_E_b8.lt (Nat.le_of_eq g13.symm))
  have ne_o1_b13 : o1 ≠ b13 := Nat.ne_of_lt (Nat.lt_of_lt_of_le f9_E_o1.lt (Nat.le_of_eq g13.symm))
  have ne_o2_b13 : o2 ≠ b13 := Nat.ne_of_lt (Nat.lt_of_lt_of_le f9_E_o2.lt (Nat.le_of_eq g13.symm))
  have ge_b13 : n0 ≤ b13 := own_new O9 g13
  have sz_b13 : h0.size ≤ b13 := Nat.le_trans K9.1 (Nat.le_of_eq g13.symm)
  have f13_E_o1 := f9_E_o1.ext E13
  have f13_F_o1_trees := f9_F_o1_trees.ext E13
  have f13_F_o1_lowest := f9_F_o1_lowest.ext E13
  have f13_E_o2 := f9_E_o2.ext E13
  have f13_V_o2 := f9_V_o2.ext E13
  have f13_E_b3 := f9_E_b3.ext E13
  have f13_E_b8 := f9_E_b8.ext E13
  have f13_A_b8 := f9_A_b8.ext E13
  have f13_V_b3 := V9.ext E13
  have O13 := O9.ext E13
  have K13 := K9.ext E13
  have V13 : OwnA Z h13 b13 (v5 + (1 : Int32)) own_zero := own_newA A13 hp4
  obtain ⟨cl14, Ar14, qk14, Sz14, Nn14, Hs14, Gs14⟩ := id (f13_V_b3)
  have hin14 : ¬ ((1 : Int32) < 0 ∨ cl14.slots.size ≤ ((1 : Int32)).toNatClampNeg) := inb_of Sz14 ⟨by decide, by decide⟩
  obtain ⟨T14, h14, X14, e14, W14, st14⟩ := stR X13 hx hZ e13 Ar14 (j := (1 : Int32)) hin14 rfl (Sto.ofVA Ar14 qk14 Ov3 (Ins.self Ea13)) (g := (mkF m 33 #[.val (.ref o1), .val (.ref o2), .val (.int (1 : Int32))] [(.ref b13), (.int (1 : Int32)), (.ref b3)])) rfl rfl (hb hby own_d1_33)
  have V14 := Arv.set Ar14 qk14 Sz14 Nn14 Hs14 Gs14 rfl W14 1 rfl (Nat.le_of_ble_eq_true rfl)
  have f14_E_o1 := f13_E_o1.wr W14
  have f14_F_o1_trees := f13_F_o1_trees.other W14 (Or.inl ne_o1_b3)
  have f14_F_o1_lowest := f13_F_o1_lowest.other W14 (Or.inl ne_o1_b3)
  have f14_E_o2 := f13_E_o2.wr W14
  have f14_V_o2 := f13_V_o2.other W14 ne_o2_b3
  have f14_E_b3 := f13_E_b3.wr W14
  have f14_E_b8 := f13_E_b8.wr W14
  have f14_A_b8 := f13_A_b8.other W14 (Ne.symm ne_b3_b8)
  have f14_E_b13 := Ea13.wr W14
  have f14_A_b13 := V13.other W14 (Ne.symm ne_b3_b13)
  have O14 := O13.wr W14 ge_b3
  have K14 := K13.wr W14 (Or.inr sz_b3)
  have N14 := Fr.snoc X14 N9 ge_b3
  obtain ⟨cl15, Ar15, qk15, Sz15, Nn15, Hs15, Gs15⟩ := id (f14_V_o2)
  obtain ⟨T16, h16, k16, X16, e16, E16, A16, Ea16, st16⟩ := newPE X14 hx hZ (hw _ (List.mem_of_getElem? (i := 0) rfl)) e14 (g := (mkF m 43 #[.val (.ref o1), .val (.ref o2), .val (.int (2 : Int32))] [(.int (2 : Int32)), (.ref o1)])) rfl (hb hby own_d1_43) rfl (by decide) (cap := 2) (by decide) (by decide) (by decide) (by decide) (ad := "[I") (by decide)
  obtain ⟨b16, g16⟩ : ∃ z, z = h14.size := ⟨_, rfl⟩
  rw [← g16] at A16 Ea16 st16
  have ne_b13_b16 : b13 ≠ b16 := Nat.ne_of_lt (Nat.lt_of_lt_of_le f14_E_b13.lt (Nat.le_of_eq g16.symm))
  have ne_b3_b16 : b3 ≠ b16 := Nat.ne_of_lt (Nat.lt_of_lt_of_le f14_E_b3.lt (Nat.le_of_eq g16.symm))
  have ne_b8_b16 : b8 ≠ b16 := Nat.ne_of_lt (Nat.lt_of_lt_of_le f14_E_b8.lt (Nat.le_of_eq g16.symm))
  have ne_o1_b16 : o1 ≠ b16 := Nat.ne_of_lt (Nat.lt_of_lt_of_le f14_E_o1.lt (Nat.le_of_eq g16.symm))
  have ne_o2_b16 : o2 ≠ b16 := Nat.ne_of_lt (Nat.lt_of_lt_of_le f14_E_o2.lt (Nat.le_of_eq g16.symm))
  have ge_b16 : n0 ≤ b16 := own_new O14 g16
  have sz_b16 : h0.size ≤ b16 := Nat.le_trans K14.1 (Nat.le_of_eq g16.symm)
  have f16_E_o1 := f14_E_o1.ext E16
  have f16_F_o1_trees := f14_F_o1_trees.ext E16
  have f16_F_o1_lowest := f14_F_o1_lowest.ext E16
  have f16_E_o2 := f14_E_o2.ext E16
  have f16_V_o2 := f14_V_o2.ext E16
  have f16_E_b3 := f14_E_b3.ext E16
  have f16_E_b8 := f14_E_b8.ext E16
  have f16_A_b8 := f14_A_b8.ext E16
  have f16_E_b13 := f14_E_b13.ext E16
  have f16_A_b13 := f14_A_b13.ext E16
  have f16_V_b3 := V14.ext E16
  have O16 := O14.ext E16
  have K16 := K14.ext E16
  have V16 : Arv Z h16 b16 k16 .int (2 : Int32) [(.int (0 : Int32)), (.int (0 : Int32))] (.int (0 : Int32)) := (Arv.new A16 (by decide)).pad (pad_rep [] (.int (0 : Int32)) 2)
  obtain ⟨T17, h17, X17, e17, W17, st17⟩ := putF X16 hx hZ hown (host := "") (Or.inl (hw _ (List.mem_of_getElem? (i := 16) rfl))) Via.refl e16 f16_F_o1_lowest f16_E_o1 (Or.inr ⟨(hw _ (List.mem_of_getElem? (i := 17) rfl)), rfl, hnm⟩) (hw _ (List.mem_of_getElem? (i := 3) rfl)) (ty := (.array .int)) (by decide) rfl rfl (g := (mkF m 45 #[.val (.ref o1), .val (.ref o2), .val (.int (2 : Int32))] [(.ref b16), (.ref o1)])) rfl rfl (hb hby own_d1_45)
  have f17_E_o1 := f16_E_o1.wr W17
  have f17_F_o1_trees := f16_F_o1_trees.other W17 (Or.inr (slot_ne (Or.inr (hw _ (List.mem_of_getElem? (i := 14) rfl))) (Or.inr (hw _ (List.mem_of_getElem? (i := 17) rfl))) (by decide) (t := (.array (.array .int))) (t' := (.array .int)) (by decide) (by decide)))
  have f17_F_o1_lowest := f16_F_o1_lowest.same W17
  have f17_E_o2 := f16_E_o2.wr W17
  have f17_V_o2 := f16_V_o2.other W17 (Ne.symm ne_o1_o2)
  have f17_E_b3 := f16_E_b3.wr W17
  have f17_E_b8 := f16_E_b8.wr W17
  have f17_A_b8 := f16_A_b8.other W17 (Ne.symm ne_o1_b8)
  have f17_E_b13 := f16_E_b13.wr W17
  have f17_A_b13 := f16_A_b13.other W17 (Ne.symm ne_o1_b13)
  have f17_V_b3 := f16_V_b3.other W17 (Ne.symm ne_o1_b3)
  have f17_E_b16 := Ea16.wr W17
  have f17_V_b16 := V16.other W17 (Ne.symm ne_o1_b16)
  have O17 := O16.wr W17 ge_o1
  have K17 := K16.wr W17 (Or.inl (List.mem_of_getElem? (i := 0) rfl))
  have N17 := Fr.snoc X17 N14 ge_o1
  obtain ⟨T18, X18, e18, st18⟩ := getF X17 hx hZ hown (host := "") (Or.inl (hw _ (List.mem_of_getElem? (i := 16) rfl))) Via.refl e17 f17_F_o1_lowest (g := (mkF m 49 #[.val (.ref o1), .val (.ref o2), .val (.int (2 : Int32))] [(.ref o1)])) rfl rfl (hb hby own_d1_49)
  obtain ⟨_, _, ⟨T19, L19, k19, n19⟩, -, X19, ⟨Lc19, hQ19, l19, y19, z19⟩, st19⟩ := Jvm.LawKit.callS X18 hx (y := (⟨"java/util/Arrays", "fill", "([II)V"⟩ : MethodName)) hown (mvT hZ (hw _ (List.mem_of_getElem? (i := 19) rfl))) (mvT hZ (hw _ (List.mem_of_getElem? (i := 20) rfl))) (mvT hZ (hw _ (List.mem_of_getElem? (i := 21) rfl))) (mvT hZ (hw _ (List.mem_of_getElem? (i := 22) rfl))) (by decide) (backOf (W := 0) (own_fill_1 l Z a0 hw [] h17 n0 O17 b16 k16 ge_b16 f17_E_b16 f17_V_b16) hZ (hw _ (List.mem_of_getElem? (i := 22) rfl)) (hw _ (List.mem_of_getElem? (i := 21) rfl)) (by decide) (by decide)) (g := (mkF m 54 #[.val (.ref o1), .val (.ref o2), .val (.int (2 : Int32))] [(.int (2147483647 : Int32)), (.ref b16)])) rfl (by rw [hml]; rfl) (argsL := [(.ref b16), (.int (2147483647 : Int32))]) (rest := []) (lenOf own_pd_2 rfl) rfl (by show 2 * 0 + _ ≤ _; exact Nat.le_of_eq rfl) (hb hby own_d1_54) (fun _ _ => ⟨rfl, e18, (by decide : 4 + 0 ≤ _), (by decide : 38 + 0 ≤ _)⟩)
  dsimp only [Pt.U, Pt.locs, Pt.cells, Pt.slots] at X19 l19 y19 z19 st19 hQ19
  subst l19 y19 z19
  obtain ⟨rfl, N19q, Kq19, q19_E_o1, q19_V_o1⟩ := hQ19
  have N19 := Fr.app N17 N19q
  have f19_E_o1 := f17_E_o1.keep Kq19
  have f19_F_o1_trees := f17_F_o1_trees.keep Kq19 (ninS ne_o1_b16 nin0)
  have f19_F_o1_lowest := f17_F_o1_lowest.keep Kq19 (ninS ne_o1_b16 nin0)
  have f19_E_o2 := f17_E_o2.keep Kq19
  have f19_V_o2 := f17_V_o2.keep Kq19 (ninS ne_o2_b16 nin0)
  have f19_E_b3 := f17_E_b3.keep Kq19
  have f19_E_b8 := f17_E_b8.keep Kq19
  have f19_A_b8 := f17_A_b8.keep Kq19 (ninS ne_b8_b16 nin0)
  have f19_E_b13 := f17_E_b13.keep Kq19
  have f19_A_b13 := f17_A_b13.keep Kq19 (ninS ne_b13_b16 nin0)
  have f19_V_b3 := f17_V_b3.keep Kq19 (ninS ne_b3_b16 nin0)
  have f19_E_b16 := f17_E_b16.keep Kq19
  have O19 := O17.keep Kq19 (allS ge_b16 all0)
  have K19 := K17.trans Kq19 (allS (Or.inr sz_b16) all0)
  obtain ⟨fs, hr, hrun, hended, hW, hsame⟩ := X19.leave (v := none) (fun _ => rfl)
  refine ⟨_, _, pre0 _ ?_, hrun, hended, _, _, rfl, ?_, ⟨_, rfl⟩, hW, hsame.mono (by decide) (by decide)⟩
  · show Steps p.tables e below (s₁.setTop (mkF m 0 #[.val (.ref o1), .val (.ref o2), .unset] [])) _
    refine XS.aloadN X0.here hx rfl (hb hby own_d1_0) rfl rfl ?_
    show Steps p.tables e below (s₁.setTop (mkF m 1 #[.val (.ref o1), .val (.ref o2), .unset] [(.ref o1)])) _
    refine st1 _ ?_
    show Steps p.tables e below (T1.setTop (mkF m 4 #[.val (.ref o1), .val (.ref o2), .unset] [])) _
    refine XS.aloadN X1.here hx rfl (hb hby own_d1_4) rfl rfl ?_
    show Steps p.tables e below (T1.setTop (mkF m 5 #[.val (.ref o1), .val (.ref o2), .unset] [(.ref o1)])) _
    refine XS.aloadN X1.here hx rfl (hb hby own_d1_5) rfl rfl ?_
    show Steps p.tables e below (T1.setTop (mkF m 6 #[.val (.ref o1), .val (.ref o2), .unset] [(.ref o2), (.ref o1)])) _
    refine X1.arraylength hx (by rw [e1]; exact Ar2.1) (State.isArrayOf_alike hZ.alike Ar2.2.1) (g := (mkF m 6 #[.val (.ref o1), .val (.ref o2), .unset] [(.ref o2), (.ref o1)])) rfl rfl (hb hby own_d1_6) _ ?_
    rw [len_of Sz2 Nn2]
    show Steps p.tables e below (T1.setTop (mkF m 7 #[.val (.ref o1), .val (.ref o2), .unset] [(.int (2 : Int32)), (.ref o1)])) _
    refine st3 _ ?_
    show Steps p.tables e below (T3.setTop (mkF m 10 #[.val (.ref o1), .val (.ref o2), .unset] [(.ref b3), (.ref o1)])) _
    refine st4 _ ?_
    show Steps p.tables e below (T4.setTop (mkF m 13 #[.val (.ref o1), .val (.ref o2), .unset] [])) _
    refine XS.iconst X4.here hx rfl (hb hby own_d1_13) ?_
    show Steps p.tables e below (T4.setTop (mkF m 14 #[.val (.ref o1), .val (.ref o2), .unset] [(.int (0 : Int32))])) _
    refine XS.istoreN X4.here hx rfl (hb hby own_d1_14) rfl (l' := #[.val (.ref o1), .val (.ref o2), .val (.int (0 : Int32))]) rfl ?_
    show Steps p.tables e below (T4.setTop (mkF m 15 #[.val (.ref o1), .val (.ref o2), .val (.int (0 : Int32))] [])) _
    refine XS.iloadN X4.here hx rfl (hb hby own_d1_15) rfl ?_
    show Steps p.tables e below (T4.setTop (mkF m 16 #[.val (.ref o1), .val (.ref o2), .val (.int (0 : Int32))] [(.int (0 : Int32))])) _
    refine XS.aloadN X4.here hx rfl (hb hby own_d1_16) rfl rfl ?_
    show Steps p.tables e below (T4.setTop (mkF m 17 #[.val (.ref o1), .val (.ref o2), .val (.int (0 : Int32))] [(.ref o2), (.int (0 : Int32))])) _
    refine X4.arraylength hx (by rw [e4]; exact Ar5.1) (State.isArrayOf_alike hZ.alike Ar5.2.1) (g := (mkF m 17 #[.val (.ref o1), .val (.ref o2), .val (.int (0 : Int32))] [(.ref o2), (.int (0 : Int32))])) rfl rfl (hb hby own_d1_17) _ ?_
    rw [len_of Sz5 Nn5]
    show Steps p.tables e below (T4.setTop (mkF m 18 #[.val (.ref o1), .val (.ref o2), .val (.int (0 : Int32))] [(.int (2 : Int32)), (.int (0 : Int32))])) _
    refine XS.icmpNo X4.here hx rfl (hb hby own_d1_18) rfl (by decide) ?_
    show Steps p.tables e below (T4.setTop (mkF m 21 #[.val (.ref o1), .val (.ref o2), .val (.int (0 : Int32))] [])) _
    refine XS.aloadN X4.here hx rfl (hb hby own_d1_21) rfl rfl ?_
    show Steps p.tables e below (T4.setTop (mkF m 22 #[.val (.ref o1), .val (.ref o2), .val (.int (0 : Int32))] [(.ref o1)])) _
    refine st6 _ ?_
    show Steps p.tables e below (T6.setTop (mkF m 25 #[.val (.ref o1), .val (.ref o2), .val (.int (0 : Int32))] [(.ref b3)])) _
    refine XS.iloadN X6.here hx rfl (hb hby own_d1_25) rfl ?_
    show Steps p.tables e below (T6.setTop (mkF m 26 #[.val (.ref o1), .val (.ref o2), .val (.int (0 : Int32))] [(.int (0 : Int32)), (.ref b3)])) _
    refine XS.aloadN X6.here hx rfl (hb hby own_d1_26) rfl rfl ?_
    show Steps p.tables e below (T6.setTop (mkF m 27 #[.val (.ref o1), .val (.ref o2), .val (.int (0 : Int32))] [(.ref o2), (.int (0 : Int32)), (.ref b3)])) _
    refine XS.iloadN X6.here hx rfl (hb hby own_d1_27) rfl ?_
    show Steps p.tables e below (T6.setTop (mkF m 28 #[.val (.ref o1), .val (.ref o2), .val (.int (0 : Int32))] [(.int (0 : Int32)), (.ref o2), (.int (0 : Int32)), (.ref b3)])) _
    refine X6.iaload hx (j := (0 : Int32)) (v := (.int v4)) (by rw [e6]; exact Ar5.1) (State.isArrayOf_alike hZ.alike Ar5.2.1) Ar5.2.2 hin7 hat7 (g := (mkF m 28 #[.val (.ref o1), .val (.ref o2), .val (.int (0 : Int32))] [(.int (0 : Int32)), (.ref o2), (.int (0 : Int32)), (.ref b3)])) rfl rfl (hb hby own_d1_28) _ ?_
    show Steps p.tables e below (T6.setTop (mkF m 29 #[.val (.ref o1), .val (.ref o2), .val (.int (0 : Int32))] [(.int v4), (.int (0 : Int32)), (.ref b3)])) _
    refine XS.iconst X6.here hx rfl (hb hby own_d1_29) ?_
    show Steps p.tables e below (T6.setTop (mkF m 30 #[.val (.ref o1), .val (.ref o2), .val (.int (0 : Int32))] [(.int (1 : Int32)), (.int v4), (.int (0 : Int32)), (.ref b3)])) _
    refine XS.iadd X6.here hx rfl (hb hby own_d1_30) rfl ?_
    show Steps p.tables e below (T6.setTop (mkF m 31 #[.val (.ref o1), .val (.ref o2), .val (.int (0 : Int32))] [(.int (v4 + (1 : Int32))), (.int (0 : Int32)), (.ref b3)])) _
    refine st8 _ ?_
    show Steps p.tables e below (T8.setTop (mkF m 33 #[.val (.ref o1), .val (.ref o2), .val (.int (0 : Int32))] [(.ref b8), (.int (0 : Int32)), (.ref b3)])) _
    refine st9 _ ?_
    show Steps p.tables e below (T9.setTop (mkF m 34 #[.val (.ref o1), .val (.ref o2), .val (.int (0 : Int32))] [])) _
    refine XS.iinc X9.here hx rfl (hb hby own_d1_34) rfl (l' := #[.val (.ref o1), .val (.ref o2), .val (.int (1 : Int32))]) rfl ?_
    show Steps p.tables e below (T9.setTop (mkF m 37 #[.val (.ref o1), .val (.ref o2), .val (.int (1 : Int32))] [])) _
    refine XS.goto X9.here hx rfl (pc0 := 37) (pc' := 15) rfl (hb hby own_d1_37) (by decide) (by decide) ?_
    show Steps p.tables e below (T9.setTop (mkF m 15 #[.val (.ref o1), .val (.ref o2), .val (.int (1 : Int32))] [])) _
    refine XS.iloadN X9.here hx rfl (hb hby own_d1_15) rfl ?_
    show Steps p.tables e below (T9.setTop (mkF m 16 #[.val (.ref o1), .val (.ref o2), .val (.int (1 : Int32))] [(.int (1 : Int32))])) _
    refine XS.aloadN X9.here hx rfl (hb hby own_d1_16) rfl rfl ?_
    show Steps p.tables e below (T9.setTop (mkF m 17 #[.val (.ref o1), .val (.ref o2), .val (.int (1 : Int32))] [(.ref o2), (.int (1 : Int32))])) _
    refine X9.arraylength hx (by rw [e9]; exact Ar10.1) (State.isArrayOf_alike hZ.alike Ar10.2.1) (g := (mkF m 17 #[.val (.ref o1), .val (.ref o2), .val (.int (1 : Int32))] [(.ref o2), (.int (1 : Int32))])) rfl rfl (hb hby own_d1_17) _ ?_
    rw [len_of Sz10 Nn10]
    show Steps p.tables e below (T9.setTop (mkF m 18 #[.val (.ref o1), .val (.ref o2), .val (.int (1 : Int32))] [(.int (2 : Int32)), (.int (1 : Int32))])) _
    refine XS.icmpNo X9.here hx rfl (hb hby own_d1_18) rfl (by decide) ?_
    show Steps p.tables e below (T9.setTop (mkF m 21 #[.val (.ref o1), .val (.ref o2), .val (.int (1 : Int32))] [])) _
    refine XS.aloadN X9.here hx rfl (hb hby own_d1_21) rfl rfl ?_
    show Steps p.tables e below (T9.setTop (mkF m 22 #[.val (.ref o1), .val (.ref o2), .val (.int (1 : Int32))] [(.ref o1)])) _
    refine st11 _ ?_
    show Steps p.tables e below (T11.setTop (mkF m 25 #[.val (.ref o1), .val (.ref o2), .val (.int (1 : Int32))] [(.ref b3)])) _
    refine XS.iloadN X11.here hx rfl (hb hby own_d1_25) rfl ?_
    show Steps p.tables e below (T11.setTop (mkF m 26 #[.val (.ref o1), .val (.ref o2), .val (.int (1 : Int32))] [(.int (1 : Int32)), (.ref b3)])) _
    refine XS.aloadN X11.here hx rfl (hb hby own_d1_26) rfl rfl ?_
    show Steps p.tables e below (T11.setTop (mkF m 27 #[.val (.ref o1), .val (.ref o2), .val (.int (1 : Int32))] [(.ref o2), (.int (1 : Int32)), (.ref b3)])) _
    refine XS.iloadN X11.here hx rfl (hb hby own_d1_27) rfl ?_
    show Steps p.tables e below (T11.setTop (mkF m 28 #[.val (.ref o1), .val (.ref o2), .val (.int (1 : Int32))] [(.int (1 : Int32)), (.ref o2), (.int (1 : Int32)), (.ref b3)])) _
    refine X11.iaload hx (j := (1 : Int32)) (v := (.int v5)) (by rw [e11]; exact Ar10.1) (State.isArrayOf_alike hZ.alike Ar10.2.1) Ar10.2.2 hin12 hat12 (g := (mkF m 28 #[.val (.ref o1), .val (.ref o2), .val (.int (1 : Int32))] [(.int (1 : Int32)), (.ref o2), (.int (1 : Int32)), (.ref b3)])) rfl rfl (hb hby own_d1_28) _ ?_
    show Steps p.tables e below (T11.setTop (mkF m 29 #[.val (.ref o1), .val (.ref o2), .val (.int (1 : Int32))] [(.int v5), (.int (1 : Int32)), (.ref b3)])) _
    refine XS.iconst X11.here hx rfl (hb hby own_d1_29) ?_
    show Steps p.tables e below (T11.setTop (mkF m 30 #[.val (.ref o1), .val (.ref o2), .val (.int (1 : Int32))] [(.int (1 : Int32)), (.int v5), (.int (1 : Int32)), (.ref b3)])) _
    refine XS.iadd X11.here hx rfl (hb hby own_d1_30) rfl ?_
    show Steps p.tables e below (T11.setTop (mkF m 31 #[.val (.ref o1), .val (.ref o2), .val (.int (1 : Int32))] [(.int (v5 + (1 : Int32))), (.int (1 : Int32)), (.ref b3)])) _
    refine st13 _ ?_
    show Steps p.tables e below (T13.setTop (mkF m 33 #[.val (.ref o1), .val (.ref o2), .val (.int (1 : Int32))] [(.ref b13), (.int (1 : Int32)), (.ref b3)])) _
    refine st14 _ ?_
    show Steps p.tables e below (T14.setTop (mkF m 34 #[.val (.ref o1), .val (.ref o2), .val (.int (1 : Int32))] [])) _
    refine XS.iinc X14.here hx rfl (hb hby own_d1_34) rfl (l' := #[.val (.ref o1), .val (.ref o2), .val (.int (2 : Int32))]) rfl ?_
    show Steps p.tables e below (T14.setTop (mkF m 37 #[.val (.ref o1), .val (.ref o2), .val (.int (2 : Int32))] [])) _
    refine XS.goto X14.here hx rfl (pc0 := 37) (pc' := 15) rfl (hb hby own_d1_37) (by decide) (by decide) ?_
    show Steps p.tables e below (T14.setTop (mkF m 15 #[.val (.ref o1), .val (.ref o2), .val (.int (2 : Int32))] [])) _
    refine XS.iloadN X14.here hx rfl (hb hby own_d1_15) rfl ?_
    show Steps p.tables e below (T14.setTop (mkF m 16 #[.val (.ref o1), .val (.ref o2), .val (.int (2 : Int32))] [(.int (2 : Int32))])) _
    refine XS.aloadN X14.here hx rfl (hb hby own_d1_16) rfl rfl ?_
    show Steps p.tables e below (T14.setTop (mkF m 17 #[.val (.ref o1), .val (.ref o2), .val (.int (2 : Int32))] [(.ref o2), (.int (2 : Int32))])) _
    refine X14.arraylength hx (by rw [e14]; exact Ar15.1) (State.isArrayOf_alike hZ.alike Ar15.2.1) (g := (mkF m 17 #[.val (.ref o1), .val (.ref o2), .val (.int (2 : Int32))] [(.ref o2), (.int (2 : Int32))])) rfl rfl (hb hby own_d1_17) _ ?_
    rw [len_of Sz15 Nn15]
    show Steps p.tables e below (T14.setTop (mkF m 18 #[.val (.ref o1), .val (.ref o2), .val (.int (2 : Int32))] [(.int (2 : Int32)), (.int (2 : Int32))])) _
    refine XS.icmpYes X14.here hx rfl (pc0 := 18) (pc' := 40) rfl (hb hby own_d1_18) rfl (by decide) (by decide) (by decide) ?_
    show Steps p.tables e below (T14.setTop (mkF m 40 #[.val (.ref o1), .val (.ref o2), .val (.int (2 : Int32))] [])) _
    refine XS.aloadN X14.here hx rfl (hb hby own_d1_40) rfl rfl ?_
    show Steps p.tables e below (T14.setTop (mkF m 41 #[.val (.ref o1), .val (.ref o2), .val (.int (2 : Int32))] [(.ref o1)])) _
    refine XS.aloadN X14.here hx rfl (hb hby own_d1_41) rfl rfl ?_
    show Steps p.tables e below (T14.setTop (mkF m 42 #[.val (.ref o1), .val (.ref o2), .val (.int (2 : Int32))] [(.ref o2), (.ref o1)])) _
    refine X14.arraylength hx (by rw [e14]; exact Ar15.1) (State.isArrayOf_alike hZ.alike Ar15.2.1) (g := (mkF m 42 #[.val (.ref o1), .val (.ref o2), .val (.int (2 : Int32))] [(.ref o2), (.ref o1)])) rfl rfl (hb hby own_d1_42) _ ?_
    rw [len_of Sz15 Nn15]
    show Steps p.tables e below (T14.setTop (mkF m 43 #[.val (.ref o1), .val (.ref o2), .val (.int (2 : Int32))] [(.int (2 : Int32)), (.ref o1)])) _
    refine st16 _ ?_
    show Steps p.tables e below (T16.setTop (mkF m 45 #[.val (.ref o1), .val (.ref o2), .val (.int (2 : Int32))] [(.ref b16), (.ref o1)])) _
    refine st17 _ ?_
    show Steps p.tables e below (T17.setTop (mkF m 48 #[.val (.ref o1), .val (.ref o2), .val (.int (2 : Int32))] [])) _
    refine XS.aloadN X17.here hx rfl (hb hby own_d1_48) rfl rfl ?_
    show Steps p.tables e below (T17.setTop (mkF m 49 #[.val (.ref o1), .val (.ref o2), .val (.int (2 : Int32))] [(.ref o1)])) _
    refine st18 _ ?_
    show Steps p.tables e below (T18.setTop (mkF m 52 #[.val (.ref o1), .val (.ref o2), .val (.int (2 : Int32))] [(.ref b16)])) _
    refine Jvm.Stand.ldcI X18 hx hown (mvT hZ (hw _ (List.mem_of_getElem? (i := 18) rfl))) rfl (hb hby own_d1_52) ?_
    show Steps p.tables e below (T18.setTop (mkF m 54 #[.val (.ref o1), .val (.ref o2), .val (.int (2 : Int32))] [(.int (2147483647 : Int32)), (.ref b16)])) _
    refine st19 _ ?_
    show Steps p.tables e below (T19.setTop (mkF m 57 #[.val (.ref o1), .val (.ref o2), .val (.int (2 : Int32))] [])) _
    exact X19.returnOut hx Bd.returns (hb hby own_d1_57) hr
  · show OwnQ_own_init_0 Z o1 o2 kc3 v4 v5 h0 n0 _ T19.heap _
    exact ⟨b3, b16, b8, b13, k3, k16, rfl, N19, K19, ge_b3, ge_b16, ge_b8, ge_b13, sz_b3, sz_b16, sz_b8, sz_b13, ne_b3_b16, ne_b3_b8, ne_b3_b13, (Ne.symm ne_b8_b16), (Ne.symm ne_b13_b16), ne_b8_b13, f19_E_o1, f19_F_o1_trees, f19_F_o1_lowest, f19_E_b3, f19_E_b8, f19_A_b8, f19_E_b13, f19_A_b13, f19_V_b3, q19_E_o1, q19_V_o1, Ov3⟩
theorem own_pd_3 : parseMethodDescriptor "([I)V" = some ⟨[(.array .int)], none⟩ := by decide +kernel
theorem own_pd_4 : parseMethodDescriptor "(Lcom/example/sober_broadcast/soberbroadcast/cli/PositionCounts;[I[IZII)J" = some ⟨[(.object "com/example/sober_broadcast/soberbroadcast/cli/PositionCounts"), (.array .int), (.array .int), .boolean, .int, .int], some .long⟩ := by decide +kernel
theorem own_pd_5 : parseMethodDescriptor "([I)J" = some ⟨[(.array .int)], some .long⟩ := by decide +kernel
set_option maxRecDepth 65536 in
set_option maxHeartbeats 40000000 in
theorem own_law_0 (l : Launch) (Z : State) (a0 : Array Value) (hw : ∀ d ∈ tables_1, d.before a0 Z = true) (ws : List Jvm.Cond) (h0 : Heap) (n0 : Nat) (O0 : Old Z n0 h0) (p1 : Int32) (p2 : Int32) (p3 : Int32) (p4 : Int32) (p5 : Int32) (p6 : Int32) (q0 : Int32) (q1 : Int32) (nn : Int32) (c1 : Int32) (c2 : Int32) (c3 : Int32) (c4 : Int32) (r1 : Int32) (r2 : Int32) (r3 : Int32) (r4 : Int32) (u0 : Int32) (u1 : Int32) (hq0 : (p1 &&& (15 : Int32)) = q0) (hq1 : (((p1.toUInt32 >>> ((4 : Int32) &&& 31).toUInt32).toInt32) &&& (15 : Int32)) = q1) (hnn : (((p1.toUInt32 >>> ((8 : Int32) &&& 31).toUInt32).toInt32) &&& (7 : Int32)) = nn) (hn0 : ¬ ((0 : Int32) < nn)) (hn1 : ¬ ((1 : Int32) < nn)) (hn2 : ¬ ((2 : Int32) < nn)) (hn3 : ¬ ((3 : Int32) < nn)) (hc1 : (((p1.toUInt32 >>> ((12 : Int32) &&& 31).toUInt32).toInt32) &&& (1 : Int32)) = c1) (hc2 : (((p1.toUInt32 >>> ((13 : Int32) &&& 31).toUInt32).toInt32) &&& (1 : Int32)) = c2) (hc3 : (((p1.toUInt32 >>> ((14 : Int32) &&& 31).toUInt32).toInt32) &&& (1 : Int32)) = c3) (hc4 : (((p1.toUInt32 >>> ((15 : Int32) &&& 31).toUInt32).toInt32) &&& (1 : Int32)) = c4) (hb0 : ((p6 &&& (65535 : Int32)) % (q0 + (1 : Int32))) = u0) (hb1 : ((((p6.toUInt32 >>> ((16 : Int32) &&& 31).toUInt32).toInt32) &&& (65535 : Int32)) % (q1 + (1 : Int32))) = u1) (nn0 : ¬ ((q0 + (1 : Int32)) < (0 : Int32))) (mz0 : ¬ ((q0 + (1 : Int32)) = (0 : Int32))) (cp0 : (q0 + (1 : Int32)).toNatClampNeg ≤ 17) (dk0 : own_dnOk (q0 + (1 : Int32)) 6 u0 = true) (nn1 : ¬ ((q1 + (1 : Int32)) < (0 : Int32))) (mz1 : ¬ ((q1 + (1 : Int32)) = (0 : Int32))) (cp1 : (q1 + (1 : Int32)).toNatClampNeg ≤ 17) (dk1 : own_dnOk (q1 + (1 : Int32)) 6 u1 = true) (h011 : own_01 c1) (hr1 : (own_sel c1 q0 q1) = (0 : Int32) ∨ ((p2 &&& (2147483647 : Int32)) % (own_sel c1 q0 q1)) = r1) (uk1 : (own_sel c1 q0 q1) = (0 : Int32) ∨ own_upOk (own_sel c1 (q0 + (1 : Int32)) (q1 + (1 : Int32))) 6 (r1 + (1 : Int32)) = true) (h012 : own_01 c2) (hr2 : (own_sel c2 q0 q1) = (0 : Int32) ∨ ((p3 &&& (2147483647 : Int32)) % (own_sel c2 q0 q1)) = r2) (uk2 : (own_sel c2 q0 q1) = (0 : Int32) ∨ own_upOk (own_sel c2 (q0 + (1 : Int32)) (q1 + (1 : Int32))) 6 (r2 + (1 : Int32)) = true) (h013 : own_01 c3) (hr3 : (own_sel c3 q0 q1) = (0 : Int32) ∨ ((p4 &&& (2147483647 : Int32)) % (own_sel c3 q0 q1)) = r3) (uk3 : (own_sel c3 q0 q1) = (0 : Int32) ∨ own_upOk (own_sel c3 (q0 + (1 : Int32)) (q1 + (1 : Int32))) 6 (r3 + (1 : Int32)) = true) (h014 : own_01 c4) (hr4 : (own_sel c4 q0 q1) = (0 : Int32) ∨ ((p5 &&& (2147483647 : Int32)) % (own_sel c4 q0 q1)) = r4) (uk4 : (own_sel c4 q0 q1) = (0 : Int32) ∨ own_upOk (own_sel c4 (q0 + (1 : Int32)) (q1 + (1 : Int32))) 6 (r4 + (1 : Int32)) = true) (hfin : (lcmpW (own_cb u1 (2147483647 : Int32) own_zero (own_cb u0 (2147483647 : Int32) own_zero (0 : Int64))) (0 : Int64)) = (0 : Int32)) :
    MetFree l x (head1 (Jvm.Cond.code x code maxLocals ret :: ws) room_1) (fun a U => a = #[(.int p1), (.int p2), (.int p3), (.int p4), (.int p5), (.int p6)] ∧ Z.Warmed39 U.vm ∧ U.heap = h0) (fun _ _ _ _ _ => True) (fun _ U o U' => ∃ v L, o = .returned v ∧ (v = some (.int 1) ∧ Fr n0 L) ∧ FrameEnd U o U' L room_1.cells room_1.slots) := by
  refine MetFree.of_bodySF (plainFor_of_name own_pn_4) hisR ?_
  intro p e s m args below meth c s₁ Bd hml0 hP hK
  obtain ⟨rfl, hZ, hh⟩ := hP
  have hx := Bd.exec
  have hby := Bd.bytes
  have hml : c.maxLocals = 12 := hml0
  have hown : s.vm.findClass "com/example/sober_broadcast/soberbroadcast/cli/PositionCountsCountBelowPinLaw" = some m.cls := findClass_of_methodNamed Bd.named
  have hnm := (name_of_methodNamed Bd.named Bd.method).1
  have X0 : Stand p l e room_1 s m #[(.int p1), (.int p2), (.int p3), (.int p4), (.int p5), (.int p6)] below meth c s₁ [] 0 0 := Stand.of_body Bd
  have e0 : s₁.heap = h0 := by rw [← hh, Bd.state]; rfl
  have N0 := Fr.nil n0
  have pre0 : ∀ t, Steps p.tables e below (s₁.setTop (mkF m 0 #[.val (.int p1), .val (.int p2), .val (.int p3), .val (.int p4), .val (.int p5), .val (.int p6), .unset, .unset, .unset, .unset, .unset, .unset] [])) t → Steps p.tables e below (s₁.setTop (entryFrame m #[(.int p1), (.int p2), (.int p3), (.int p4), (.int p5), (.int p6)] maxLocals)) t := fun t k => castTop (own_ef_0_IIIIII m p1 p2 p3 p4 p5 p6) k
  obtain ⟨T1, h1, k1, X1, e1, E1, A1, Ea1, st1⟩ := newPE X0 hx hZ (hw _ (List.mem_of_getElem? (i := 0) rfl)) e0 (g := (mkF m 1 #[.val (.int p1), .val (.int p2), .val (.int p3), .val (.int p4), .val (.int p5), .val (.int p6), .unset, .unset, .unset, .unset, .unset, .unset] [(.int (2 : Int32))])) rfl (hb hby at_1) rfl (by decide) (cap := 2) (by decide) (by decide) (by decide) (by decide) (ad := "[I") (by decide)
  obtain ⟨b1, g1⟩ : ∃ z, z = h0.size := ⟨_, rfl⟩
  rw [← g1] at A1 Ea1 st1
  have ge_b1 : n0 ≤ b1 := own_new O0 g1
  have sz_b1 : h0.size ≤ b1 := Nat.le_trans (Keep.refl h0 []).1 (Nat.le_of_eq g1.symm)
  have O1 := O0.ext E1
  have K1 := (Keep.refl h0 []).ext E1
  have V1 : Arv Z h1 b1 k1 .int (2 : Int32) [(.int (0 : Int32)), (.int (0 : Int32))] (.int (0 : Int32)) := (Arv.new A1 (by decide)).pad (pad_rep [] (.int (0 : Int32)) 2)
  obtain ⟨cl2, Ar2, qk2, Sz2, Nn2, Hs2, Gs2⟩ := id (V1)
  have hin2 : ¬ ((0 : Int32) < 0 ∨ cl2.slots.size ≤ ((0 : Int32)).toNatClampNeg) := inb_of Sz2 ⟨by decide, by decide⟩
  obtain ⟨T2, h2, X2, e2, W2, st2⟩ := stI X1 hx hZ e1 Ar2 (j := (0 : Int32)) hin2 (g := (mkF m 12 #[.val (.int p1), .val (.int p2), .val (.int p3), .val (.int p4), .val (.int p5), .val (.int p6), .val (.ref b1), .unset, .unset, .unset, .unset, .unset] [(.int q0), (.int (0 : Int32)), (.ref b1)])) rfl rfl (hb hby at_12)
  have V2 := Arv.set Ar2 qk2 Sz2 Nn2 Hs2 Gs2 rfl W2 0 rfl (Nat.le_of_ble_eq_true rfl)
  have f2_E_b1 := Ea1.wr W2
  have O2 := O1.wr W2 ge_b1
  have K2 := K1.wr W2 (Or.inr sz_b1)
  have N2 := Fr.snoc X2 N0 ge_b1
  obtain ⟨cl3, Ar3, qk3, Sz3, Nn3, Hs3, Gs3⟩ := id (V2)
  have hin3 : ¬ ((1 : Int32) < 0 ∨ cl3.slots.size ≤ ((1 : Int32)).toNatClampNeg) := inb_of Sz3 ⟨by decide, by decide⟩
  obtain ⟨T3, h3, X3, e3, W3, st3⟩ := stI X2 hx hZ e2 Ar3 (j := (1 : Int32)) hin3 (g := (mkF m 22 #[.val (.int p1), .val (.int p2), .val (.int p3), .val (.int p4), .val (.int p5), .val (.int p6), .val (.ref b1), .unset, .unset, .unset, .unset, .unset] [(.int q1), (.int (1 : Int32)), (.ref b1)])) rfl rfl (hb hby at_22)
  have V3 := Arv.set Ar3 qk3 Sz3 Nn3 Hs3 Gs3 rfl W3 1 rfl (Nat.le_of_ble_eq_true rfl)
  have f3_E_b1 := f2_E_b1.wr W3
  have O3 := O2.wr W3 ge_b1
  have K3 := K2.wr W3 (Or.inr sz_b1)
  have N3 := Fr.snoc X3 N2 ge_b1
  obtain ⟨T4, h4, k4, X4, e4, E4, A4, Ea4, st4⟩ := newPE X3 hx hZ (hw _ (List.mem_of_getElem? (i := 0) rfl)) e3 (g := (mkF m 33 #[.val (.int p1), .val (.int p2), .val (.int p3), .val (.int p4), .val (.int p5), .val (.int p6), .val (.ref b1), .val (.int nn), .unset, .unset, .unset, .unset] [(.int (2 : Int32))])) rfl (hb hby at_33) rfl (by decide) (cap := 2) (by decide) (by decide) (by decide) (by decide) (ad := "[I") (by decide)
  obtain ⟨b4, g4⟩ : ∃ z, z = h3.size := ⟨_, rfl⟩
  rw [← g4] at A4 Ea4 st4
  have ne_b1_b4 : b1 ≠ b4 := Nat.ne_of_lt (Nat.lt_of_lt_of_le f3_E_b1.lt (Nat.le_of_eq g4.symm))
  have ge_b4 : n0 ≤ b4 := own_new O3 g4
  have sz_b4 : h0.size ≤ b4 := Nat.le_trans K3.1 (Nat.le_of_eq g4.symm)
  have f4_E_b1 := f3_E_b1.ext E4
  have f4_V_b1 := V3.ext E4
  have O4 := O3.ext E4
  have K4 := K3.ext E4
  have V4 : Arv Z h4 b4 k4 .int (2 : Int32) [(.int (0 : Int32)), (.int (0 : Int32))] (.int (0 : Int32)) := (Arv.new A4 (by decide)).pad (pad_rep [] (.int (0 : Int32)) 2)
  obtain ⟨cl5, Ar5, qk5, Sz5, Nn5, Hs5, Gs5⟩ := id (f4_V_b1)
  have hin6 : ¬ ((0 : Int32) < 0 ∨ cl5.slots.size ≤ ((0 : Int32)).toNatClampNeg) := inb_of Sz5 ⟨by decide, by decide⟩
  have hat6 : cl5.slots[((0 : Int32)).toNatClampNeg]? = some (.int q0) := Hs5.at hin6 rfl
  obtain ⟨cl7, Ar7, qk7, Sz7, Nn7, Hs7, Gs7⟩ := id (V4)
  have hin7 : ¬ ((0 : Int32) < 0 ∨ cl7.slots.size ≤ ((0 : Int32)).toNatClampNeg) := inb_of Sz7 ⟨by decide, by decide⟩
  obtain ⟨T7, h7, X7, e7, W7, st7⟩ := stI X4 hx hZ e4 Ar7 (j := (0 : Int32)) hin7 (g := (mkF m 52 #[.val (.int p1), .val (.int p2), .val (.int p3), .val (.int p4), .val (.int p5), .val (.int p6), .val (.ref b1), .val (.int nn), .val (.ref b4), .unset, .unset, .unset] [(.int u0), (.int (0 : Int32)), (.ref b4)])) rfl rfl (hb hby at_52)
  have V7 := Arv.set Ar7 qk7 Sz7 Nn7 Hs7 Gs7 rfl W7 0 rfl (Nat.le_of_ble_eq_true rfl)
  have f7_E_b1 := f4_E_b1.wr W7
  have f7_V_b1 := f4_V_b1.other W7 ne_b1_b4
  have f7_E_b4 := Ea4.wr W7
  have O7 := O4.wr W7 ge_b4
  have K7 := K4.wr W7 (Or.inr sz_b4)
  have N7 := Fr.snoc X7 N3 ge_b4
  obtain ⟨cl8, Ar8, qk8, Sz8, Nn8, Hs8, Gs8⟩ := id (f7_V_b1)
  have hin9 : ¬ ((1 : Int32) < 0 ∨ cl8.slots.size ≤ ((1 : Int32)).toNatClampNeg) := inb_of Sz8 ⟨by decide, by decide⟩
  have hat9 : cl8.slots[((1 : Int32)).toNatClampNeg]? = some (.int q1) := Hs8.at hin9 rfl
  obtain ⟨cl10, Ar10, qk10, Sz10, Nn10, Hs10, Gs10⟩ := id (V7)
  have hin10 : ¬ ((1 : Int32) < 0 ∨ cl10.slots.size ≤ ((1 : Int32)).toNatClampNeg) := inb_of Sz10 ⟨by decide, by decide⟩
  obtain ⟨T10, h10, X10, e10, W10, st10⟩ := stI X7 hx hZ e7 Ar10 (j := (1 : Int32)) hin10 (g := (mkF m 71 #[.val (.int p1), .val (.int p2), .val (.int p3), .val (.int p4), .val (.int p5), .val (.int p6), .val (.ref b1), .val (.int nn), .val (.ref b4), .unset, .unset, .unset] [(.int u1), (.int (1 : Int32)), (.ref b4)])) rfl rfl (hb hby at_71)
  have V10 := Arv.set Ar10 qk10 Sz10 Nn10 Hs10 Gs10 rfl W10 1 rfl (Nat.le_of_ble_eq_true rfl)
  have f10_E_b1 := f7_E_b1.wr W10
  have f10_V_b1 := f7_V_b1.other W10 ne_b1_b4
  have f10_E_b4 := f7_E_b4.wr W10
  have O10 := O7.wr W10 ge_b4
  have K10 := K7.wr W10 (Or.inr sz_b4)
  have N10 := Fr.snoc X10 N7 ge_b4
  obtain ⟨T11, h11, X11, e11, E11, A11, D11, -, st11⟩ := newO X10 hx hZ hown (hw _ (List.mem_of_getElem? (i := 2) rfl)) (hw _ (List.mem_of_getElem? (i := 3) rfl)) (hw _ (List.mem_of_getElem? (i := 4) rfl)) e10 (g := (mkF m 72 #[.val (.int p1), .val (.int p2), .val (.int p3), .val (.int p4), .val (.int p5), .val (.int p6), .val (.ref b1), .val (.int nn), .val (.ref b4), .unset, .unset, .unset] [])) rfl (hb hby at_72) (by decide) (by decide)
  obtain ⟨b11, g11⟩ : ∃ z, z = h10.size := ⟨_, rfl⟩
  rw [← g11] at A11 D11 st11
  have ne_b1_b11 : b1 ≠ b11 := Nat.ne_of_lt (Nat.lt_of_lt_of_le f10_E_b1.lt (Nat.le_of_eq g11.symm))
  have ne_b4_b11 : b4 ≠ b11 := Nat.ne_of_lt (Nat.lt_of_lt_of_le f10_E_b4.lt (Nat.le_of_eq g11.symm))
  have ge_b11 : n0 ≤ b11 := own_new O10 g11
  have sz_b11 : h0.size ≤ b11 := Nat.le_trans K10.1 (Nat.le_of_eq g11.symm)
  have f11_E_b1 := f10_E_b1.ext E11
  have f11_V_b1 := f10_V_b1.ext E11
  have f11_E_b4 := f10_E_b4.ext E11
  have f11_V_b4 := V10.ext E11
  have O11 := O10.ext E11
  have K11 := K10.ext E11
  have F11_trees : Fld Z h11 b11 "com/example/sober_broadcast/soberbroadcast/cli/PositionCounts" "trees" "[[I" .null := D11 (Or.inr (hw _ (List.mem_of_getElem? (i := 14) rfl))) (ty := (.array (.array .int))) (by decide)
  have F11_lowest : Fld Z h11 b11 "com/example/sober_broadcast/soberbroadcast/cli/PositionCounts" "lowest" "[I" .null := D11 (Or.inr (hw _ (List.mem_of_getElem? (i := 17) rfl))) (ty := (.array .int)) (by decide)
  obtain ⟨_, _, ⟨T12, L12, k12, n12⟩, -, X12, ⟨Lc12, hQ12, l12, y12, z12⟩, st12⟩ := X11.specialBack hx (y := (⟨"com/example/sober_broadcast/soberbroadcast/cli/PositionCounts", "<init>", "([I)V"⟩ : MethodName)) rfl hown (mvT hZ (hw _ (List.mem_of_getElem? (i := 5) rfl))) (mvT hZ (hw _ (List.mem_of_getElem? (i := 6) rfl))) (mvT hZ (hw _ (List.mem_of_getElem? (i := 7) rfl))) (by decide) (backOf (W := 1) (own_init_0 l Z a0 hw [] h11 n0 O11 b11 b1 k1 q0 q1 nn0 mz0 cp0 nn1 mz1 cp1 (Ne.symm ne_b1_b11) ge_b11 ge_b1 A11 F11_trees F11_lowest f11_E_b1 f11_V_b1) hZ (hw _ (List.mem_of_getElem? (i := 7) rfl)) (hw _ (List.mem_of_getElem? (i := 4) rfl)) (by decide) (by decide)) (g := (mkF m 78 #[.val (.int p1), .val (.int p2), .val (.int p3), .val (.int p4), .val (.int p5), .val (.int p6), .val (.ref b1), .val (.int nn), .val (.ref b4), .unset, .unset, .unset] [(.ref b1), (.ref b11), (.ref b11)])) rfl (by rw [hml]; rfl) (Steps.refl _) (a := b11) (argsL := [(.ref b1)]) (rest := [(.ref b11)]) (lenOf own_pd_3 rfl) rfl (by show 2 * 0 + _ ≤ _; exact Nat.le_of_eq rfl) (hb hby at_78) (fun _ _ => ⟨rfl, e11, (by decide : 3 + 4 ≤ _), (by decide : 6 + 38 ≤ _)⟩)
  dsimp only [Pt.U, Pt.locs, Pt.cells, Pt.slots] at X12 l12 y12 z12 st12 hQ12
  subst l12 y12 z12
  obtain ⟨b3_12, b16_12, b8_12, b13_12, k3_12, k16_12, rfl, N12q, Kq12, ge_b3_12, ge_b16_12, ge_b8_12, ge_b13_12, sq_b3_12, sq_b16_12, sq_b8_12, sq_b13_12, ne_b3_12_b16_12, ne_b3_12_b8_12, ne_b3_12_b13_12, ne_b16_12_b8_12, ne_b16_12_b13_12, ne_b8_12_b13_12, q12_E_o1, q12_F_o1_trees, q12_F_o1_lowest, q12_E_b3, q12_E_b8, q12_A_b8, q12_E_b13, q12_A_b13, q12_V_b3, q12_E_b16, q12_V_b16, Ov_b3_12⟩ := hQ12
  have N12 := Fr.app N10 N12q
  have ne_b1_b3_12 : b1 ≠ b3_12 := Nat.ne_of_lt (Nat.lt_of_lt_of_le f11_E_b1.lt sq_b3_12)
  have ne_b11_b3_12 : b11 ≠ b3_12 := Nat.ne_of_lt (Nat.lt_of_lt_of_le A11.lt sq_b3_12)
  have ne_b4_b3_12 : b4 ≠ b3_12 := Nat.ne_of_lt (Nat.lt_of_lt_of_le f11_E_b4.lt sq_b3_12)
  have ne_b1_b16_12 : b1 ≠ b16_12 := Nat.ne_of_lt (Nat.lt_of_lt_of_le f11_E_b1.lt sq_b16_12)
  have ne_b11_b16_12 : b11 ≠ b16_12 := Nat.ne_of_lt (Nat.lt_of_lt_of_le A11.lt sq_b16_12)
  have ne_b4_b16_12 : b4 ≠ b16_12 := Nat.ne_of_lt (Nat.lt_of_lt_of_le f11_E_b4.lt sq_b16_12)
  have ne_b1_b8_12 : b1 ≠ b8_12 := Nat.ne_of_lt (Nat.lt_of_lt_of_le f11_E_b1.lt sq_b8_12)
  have ne_b11_b8_12 : b11 ≠ b8_12 := Nat.ne_of_lt (Nat.lt_of_lt_of_le A11.lt sq_b8_12)
  have ne_b4_b8_12 : b4 ≠ b8_12 := Nat.ne_of_lt (Nat.lt_of_lt_of_le f11_E_b4.lt sq_b8_12)
  have ne_b1_b13_12 : b1 ≠ b13_12 := Nat.ne_of_lt (Nat.lt_of_lt_of_le f11_E_b1.lt sq_b13_12)
  have ne_b11_b13_12 : b11 ≠ b13_12 := Nat.ne_of_lt (Nat.lt_of_lt_of_le A11.lt sq_b13_12)
  have ne_b4_b13_12 : b4 ≠ b13_12 := Nat.ne_of_lt (Nat.lt_of_lt_of_le f11_E_b4.lt sq_b13_12)
  have sz_b3_12 : h0.size ≤ b3_12 := Nat.le_trans K11.1 sq_b3_12
  have sz_b16_12 : h0.size ≤ b16_12 := Nat.le_trans K11.1 sq_b16_12
  have sz_b8_12 : h0.size ≤ b8_12 := Nat.le_trans K11.1 sq_b8_12
  have sz_b13_12 : h0.size ≤ b13_12 := Nat.le_trans K11.1 sq_b13_12
  have f12_E_b1 := f11_E_b1.keep Kq12
  have f12_V_b1 := f11_V_b1.keep Kq12 (ninS ne_b1_b11 nin0)
  have f12_E_b4 := f11_E_b4.keep Kq12
  have f12_V_b4 := f11_V_b4.keep Kq12 (ninS ne_b4_b11 nin0)
  have f12_E_b11 := A11.keep Kq12
  have O12 := O11.keep Kq12 (allS ge_b11 all0)
  have K12 := K11.trans Kq12 (allS (Or.inr sz_b11) all0)
  obtain ⟨_, _, ⟨T13, L13, k13, n13⟩, -, X13, ⟨Lc13, hQ13, l13, y13, z13⟩, st13⟩ := Jvm.LawKit.callS X12 hx (y := (⟨"com/example/sober_broadcast/soberbroadcast/cli/PositionCountsCountBelowPinLaw", "markOne", "(Lcom/example/sober_broadcast/soberbroadcast/cli/PositionCounts;[I[IZII)J"⟩ : MethodName)) hown (mvT hZ (hw _ (List.mem_of_getElem? (i := 23) rfl))) (mvT hZ (hw _ (List.mem_of_getElem? (i := 24) rfl))) (mvT hZ (hw _ (List.mem_of_getElem? (i := 25) rfl))) (mvT hZ (hw _ (List.mem_of_getElem? (i := 26) rfl))) (by decide) (backOf (W := 2) (own_mo_off l Z a0 hw [] T12.heap n0 O12 b11 b1 b4 c1 p2) hZ (hw _ (List.mem_of_getElem? (i := 26) rfl)) (hw _ (List.mem_of_getElem? (i := 25) rfl)) (by decide) (by decide)) (g := (mkF m 111 #[.val (.int p1), .val (.int p2), .val (.int p3), .val (.int p4), .val (.int p5), .val (.int p6), .val (.ref b1), .val (.int nn), .val (.ref b4), .val (.ref b11), .val (.long (0 : Int64)), .second] [(.int p2), (.int c1), (.int (0 : Int32)), (.ref b4), (.ref b1), (.ref b11), (.long (0 : Int64))])) rfl (by rw [hml]; rfl) (argsL := [(.ref b11), (.ref b1), (.ref b4), (.int (0 : Int32)), (.int c1), (.int p2)]) (rest := [(.long (0 : Int64))]) (lenOf own_pd_4 rfl) rfl (by show 2 * 0 + _ ≤ _; exact Nat.le_of_eq rfl) (hb hby at_111) (fun _ _ => ⟨rfl, rfl, (by decide : 7 + 0 ≤ _), (by decide : 44 + 0 ≤ _)⟩)
  dsimp only [Pt.U, Pt.locs, Pt.cells, Pt.slots] at X13 l13 y13 z13 st13 hQ13
  subst l13 y13 z13
  obtain ⟨rfl, N13q, e13⟩ := hQ13
  have N13 := Fr.app N12 N13q
  obtain ⟨_, _, ⟨T14, L14, k14, n14⟩, -, X14, ⟨Lc14, hQ14, l14, y14, z14⟩, st14⟩ := Jvm.LawKit.callS X13 hx (y := (⟨"com/example/sober_broadcast/soberbroadcast/cli/PositionCountsCountBelowPinLaw", "markOne", "(Lcom/example/sober_broadcast/soberbroadcast/cli/PositionCounts;[I[IZII)J"⟩ : MethodName)) hown (mvT hZ (hw _ (List.mem_of_getElem? (i := 23) rfl))) (mvT hZ (hw _ (List.mem_of_getElem? (i := 24) rfl))) (mvT hZ (hw _ (List.mem_of_getElem? (i := 25) rfl))) (mvT hZ (hw _ (List.mem_of_getElem? (i := 26) rfl))) (by decide) (backOf (W := 2) (own_mo_off l Z a0 hw [] T12.heap n0 O12 b11 b1 b4 c2 p3) hZ (hw _ (List.mem_of_getElem? (i := 26) rfl)) (hw _ (List.mem_of_getElem? (i := 25) rfl)) (by decide) (by decide)) (g := (mkF m 143 #[.val (.int p1), .val (.int p2), .val (.int p3), .val (.int p4), .val (.int p5), .val (.int p6), .val (.ref b1), .val (.int nn), .val (.ref b4), .val (.ref b11), .val (.long (0 : Int64)), .second] [(.int p3), (.int c2), (.int (0 : Int32)), (.ref b4), (.ref b1), (.ref b11), (.long (0 : Int64))])) rfl (by rw [hml]; rfl) (argsL := [(.ref b11), (.ref b1), (.ref b4), (.int (0 : Int32)), (.int c2), (.int p3)]) (rest := [(.long (0 : Int64))]) (lenOf own_pd_4 rfl) rfl (by show 2 * 0 + _ ≤ _; exact Nat.le_of_eq rfl) (hb hby at_143) (fun _ _ => ⟨rfl, e13, (by decide : 7 + 0 ≤ _), (by decide : 44 + 0 ≤ _)⟩)
  dsimp only [Pt.U, Pt.locs, Pt.cells, Pt.slots] at X14 l14 y14 z14 st14 hQ14
  subst l14 y14 z14
  obtain ⟨rfl, N14q, e14⟩ := hQ14
  have N14 := Fr.app N13 N14q
  obtain ⟨_, _, ⟨T15, L15, k15, n15⟩, -, X15, ⟨Lc15, hQ15, l15, y15, z15⟩, st15⟩ := Jvm.LawKit.callS X14 hx (y := (⟨"com/example/sober_broadcast/soberbroadcast/cli/PositionCountsCountBelowPinLaw", "markOne", "(Lcom/example/sober_broadcast/soberbroadcast/cli/PositionCounts;[I[IZII)J"⟩ : MethodName)) hown (mvT hZ (hw _ (List.mem_of_getElem? (i := 23) rfl))) (mvT hZ (hw _ (List.mem_of_getElem? (i := 24) rfl))) (mvT hZ (hw _ (List.mem_of_getElem? (i := 25) rfl))) (mvT hZ (hw _ (List.mem_of_getElem? (i := 26) rfl))) (by decide) (backOf (W := 2) (own_mo_off l Z a0 hw [] T12.heap n0 O12 b11 b1 b4 c3 p4) hZ (hw _ (List.mem_of_getElem? (i := 26) rfl)) (hw _ (List.mem_of_getElem? (i := 25) rfl)) (by decide) (by decide)) (g := (mkF m 175 #[.val (.int p1), .val (.int p2), .val (.int p3), .val (.int p4), .val (.int p5), .val (.int p6), .val (.ref b1), .val (.int nn), .val (.ref b4), .val (.ref b11), .val (.long (0 : Int64)), .second] [(.int p4), (.int c3), (.int (0 : Int32)), (.ref b4), (.ref b1), (.ref b11), (.long (0 : Int64))])) rfl (by rw [hml]; rfl) (argsL := [(.ref b11), (.ref b1), (.ref b4), (.int (0 : Int32)), (.int c3), (.int p4)]) (rest := [(.long (0 : Int64))]) (lenOf own_pd_4 rfl) rfl (by show 2 * 0 + _ ≤ _; exact Nat.le_of_eq rfl) (hb hby at_175) (fun _ _ => ⟨rfl, e14, (by decide : 7 + 0 ≤ _), (by decide : 44 + 0 ≤ _)⟩)
  dsimp only [Pt.U, Pt.locs, Pt.cells, Pt.slots] at X15 l15 y15 z15 st15 hQ15
  subst l15 y15 z15
  obtain ⟨rfl, N15q, e15⟩ := hQ15
  have N15 := Fr.app N14 N15q
  obtain ⟨_, _, ⟨T16, L16, k16, n16⟩, -, X16, ⟨Lc16, hQ16, l16, y16, z16⟩, st16⟩ := Jvm.LawKit.callS X15 hx (y := (⟨"com/example/sober_broadcast/soberbroadcast/cli/PositionCountsCountBelowPinLaw", "markOne", "(Lcom/example/sober_broadcast/soberbroadcast/cli/PositionCounts;[I[IZII)J"⟩ : MethodName)) hown (mvT hZ (hw _ (List.mem_of_getElem? (i := 23) rfl))) (mvT hZ (hw _ (List.mem_of_getElem? (i := 24) rfl))) (mvT hZ (hw _ (List.mem_of_getElem? (i := 25) rfl))) (mvT hZ (hw _ (List.mem_of_getElem? (i := 26) rfl))) (by decide) (backOf (W := 2) (own_mo_off l Z a0 hw [] T12.heap n0 O12 b11 b1 b4 c4 p5) hZ (hw _ (List.mem_of_getElem? (i := 26) rfl)) (hw _ (List.mem_of_getElem? (i := 25) rfl)) (by decide) (by decide)) (g := (mkF m 208 #[.val (.int p1), .val (.int p2), .val (.int p3), .val (.int p4), .val (.int p5), .val (.int p6), .val (.ref b1), .val (.int nn), .val (.ref b4), .val (.ref b11), .val (.long (0 : Int64)), .second] [(.int p5), (.int c4), (.int (0 : Int32)), (.ref b4), (.ref b1), (.ref b11), (.long (0 : Int64))])) rfl (by rw [hml]; rfl) (argsL := [(.ref b11), (.ref b1), (.ref b4), (.int (0 : Int32)), (.int c4), (.int p5)]) (rest := [(.long (0 : Int64))]) (lenOf own_pd_4 rfl) rfl (by show 2 * 0 + _ ≤ _; exact Nat.le_of_eq rfl) (hb hby at_208) (fun _ _ => ⟨rfl, e15, (by decide : 7 + 0 ≤ _), (by decide : 44 + 0 ≤ _)⟩)
  dsimp only [Pt.U, Pt.locs, Pt.cells, Pt.slots] at X16 l16 y16 z16 st16 hQ16
  subst l16 y16 z16
  obtain ⟨rfl, N16q, e16⟩ := hQ16
  have N16 := Fr.app N15 N16q
  obtain ⟨cq17, kq17, q17a, q17b, q17c⟩ := isOf hZ e16 q12_E_o1
  obtain ⟨_, _, ⟨T17, L17, k17, n17⟩, -, X17, ⟨Lc17, hQ17, l17, y17, z17⟩, st17⟩ := X16.virtualBack hx (y := (⟨"com/example/sober_broadcast/soberbroadcast/cli/PositionCounts", "countBelow", "([I)J"⟩ : MethodName)) (z := (⟨"com/example/sober_broadcast/soberbroadcast/cli/PositionCounts", "countBelow", "([I)J"⟩ : MethodName)) hown (mvT hZ (hw _ (List.mem_of_getElem? (i := 27) rfl))) (mvT hZ (hw _ (List.mem_of_getElem? (i := 28) rfl))) (notFace_of_selects (args := #[]) (mvT hZ (hw _ (List.mem_of_getElem? (i := 30) rfl)))) (mvT hZ (hw _ (List.mem_of_getElem? (i := 30) rfl))) (mvT hZ (hw _ (List.mem_of_getElem? (i := 29) rfl))) (by decide) (backOf (W := 0) (own_cbC l Z a0 hw [] T12.heap n0 O12 b11 b4 b3_12 b16_12 b8_12 b13_12 k3_12 k16_12 k4 u0 u1 (2147483647 : Int32) (2147483647 : Int32) (q0 + (1 : Int32)) (q1 + (1 : Int32)) own_zero own_zero dk0 dk1 q12_E_o1 q12_F_o1_trees q12_F_o1_lowest q12_V_b3 q12_V_b16 q12_A_b8 q12_A_b13 f12_V_b4) hZ (hw _ (List.mem_of_getElem? (i := 31) rfl)) (hw _ (List.mem_of_getElem? (i := 4) rfl)) (by decide) (by decide)) q17a q17c (g := (mkF m 218 #[.val (.int p1), .val (.int p2), .val (.int p3), .val (.int p4), .val (.int p5), .val (.int p6), .val (.ref b1), .val (.int nn), .val (.ref b4), .val (.ref b11), .val (.long (0 : Int64)), .second] [(.ref b4), (.ref b11)])) rfl (by rw [hml]; rfl) (Steps.refl _) (argsL := [(.ref b4)]) (rest := []) (lenOf own_pd_5 rfl) rfl (by show 2 * 0 + _ ≤ _; exact Nat.le_of_eq rfl) (hb hby at_218) (fun _ _ => ⟨rfl, e16, (by decide : 7 + 0 ≤ _), (by decide : 44 + 0 ≤ _)⟩)
  dsimp only [Pt.U, Pt.locs, Pt.cells, Pt.slots] at X17 l17 y17 z17 st17 hQ17
  subst l17 y17 z17
  obtain ⟨rfl, N17q, e17⟩ := hQ17
  have N17 := Fr.app N16 N17q
  obtain ⟨fs, hr, hrun, hended, hW, hsame⟩ := X17.leave (v := some (.int (1 : Int32))) (fun h => by rw [Bd.returns] at h; cases h)
  refine ⟨_, _, pre0 _ ?_, hrun, hended, _, _, rfl, ?_, ⟨_, rfl⟩, hW, hsame.mono (by decide) (by decide)⟩
  · show Steps p.tables e below (s₁.setTop (mkF m 0 #[.val (.int p1), .val (.int p2), .val (.int p3), .val (.int p4), .val (.int p5), .val (.int p6), .unset, .unset, .unset, .unset, .unset, .unset] [])) _
    refine XS.iconst X0.here hx rfl (hb hby at_0) ?_
    show Steps p.tables e below (s₁.setTop (mkF m 1 #[.val (.int p1), .val (.int p2), .val (.int p3), .val (.int p4), .val (.int p5), .val (.int p6), .unset, .unset, .unset, .unset, .unset, .unset] [(.int (2 : Int32))])) _
    refine st1 _ ?_
    show Steps p.tables e below (T1.setTop (mkF m 3 #[.val (.int p1), .val (.int p2), .val (.int p3), .val (.int p4), .val (.int p5), .val (.int p6), .unset, .unset, .unset, .unset, .unset, .unset] [(.ref b1)])) _
    refine XS.astore X1.here hx rfl (hb hby at_3) rfl rfl (l' := #[.val (.int p1), .val (.int p2), .val (.int p3), .val (.int p4), .val (.int p5), .val (.int p6), .val (.ref b1), .unset, .unset, .unset, .unset, .unset]) rfl ?_
    show Steps p.tables e below (T1.setTop (mkF m 5 #[.val (.int p1), .val (.int p2), .val (.int p3), .val (.int p4), .val (.int p5), .val (.int p6), .val (.ref b1), .unset, .unset, .unset, .unset, .unset] [])) _
    refine XS.aload X1.here hx rfl (hb hby at_5) rfl rfl ?_
    show Steps p.tables e below (T1.setTop (mkF m 7 #[.val (.int p1), .val (.int p2), .val (.int p3), .val (.int p4), .val (.int p5), .val (.int p6), .val (.ref b1), .unset, .unset, .unset, .unset, .unset] [(.ref b1)])) _
    refine XS.iconst X1.here hx rfl (hb hby at_7) ?_
    show Steps p.tables e below (T1.setTop (mkF m 8 #[.val (.int p1), .val (.int p2), .val (.int p3), .val (.int p4), .val (.int p5), .val (.int p6), .val (.ref b1), .unset, .unset, .unset, .unset, .unset] [(.int (0 : Int32)), (.ref b1)])) _
    refine XS.iloadN X1.here hx rfl (hb hby at_8) rfl ?_
    show Steps p.tables e below (T1.setTop (mkF m 9 #[.val (.int p1), .val (.int p2), .val (.int p3), .val (.int p4), .val (.int p5), .val (.int p6), .val (.ref b1), .unset, .unset, .unset, .unset, .unset] [(.int p1), (.int (0 : Int32)), (.ref b1)])) _
    refine XS.bipush X1.here hx rfl (hb hby at_9) ?_
    show Steps p.tables e below (T1.setTop (mkF m 11 #[.val (.int p1), .val (.int p2), .val (.int p3), .val (.int p4), .val (.int p5), .val (.int p6), .val (.ref b1), .unset, .unset, .unset, .unset, .unset] [(.int (15 : Int32)), (.int p1), (.int (0 : Int32)), (.ref b1)])) _
    refine XS.iand X1.here hx rfl (hb hby at_11) rfl ?_
    show Steps p.tables e below (T1.setTop (mkF m 12 #[.val (.int p1), .val (.int p2), .val (.int p3), .val (.int p4), .val (.int p5), .val (.int p6), .val (.ref b1), .unset, .unset, .unset, .unset, .unset] [(.int (p1 &&& (15 : Int32))), (.int (0 : Int32)), (.ref b1)])) _
    refine castTop (g' := (mkF m 12 #[.val (.int p1), .val (.int p2), .val (.int p3), .val (.int p4), .val (.int p5), .val (.int p6), .val (.ref b1), .unset, .unset, .unset, .unset, .unset] [(.int q0), (.int (0 : Int32)), (.ref b1)])) (by rw [hq0]) ?_
    show Steps p.tables e below (T1.setTop (mkF m 12 #[.val (.int p1), .val (.int p2), .val (.int p3), .val (.int p4), .val (.int p5), .val (.int p6), .val (.ref b1), .unset, .unset, .unset, .unset, .unset] [(.int q0), (.int (0 : Int32)), (.ref b1)])) _
    refine st2 _ ?_
    show Steps p.tables e below (T2.setTop (mkF m 13 #[.val (.int p1), .val (.int p2), .val (.int p3), .val (.int p4), .val (.int p5), .val (.int p6), .val (.ref b1), .unset, .unset, .unset, .unset, .unset] [])) _
    refine XS.aload X2.here hx rfl (hb hby at_13) rfl rfl ?_
    show Steps p.tables e below (T2.setTop (mkF m 15 #[.val (.int p1), .val (.int p2), .val (.int p3), .val (.int p4), .val (.int p5), .val (.int p6), .val (.ref b1), .unset, .unset, .unset, .unset, .unset] [(.ref b1)])) _
    refine XS.iconst X2.here hx rfl (hb hby at_15) ?_
    show Steps p.tables e below (T2.setTop (mkF m 16 #[.val (.int p1), .val (.int p2), .val (.int p3), .val (.int p4), .val (.int p5), .val (.int p6), .val (.ref b1), .unset, .unset, .unset, .unset, .unset] [(.int (1 : Int32)), (.ref b1)])) _
    refine XS.iloadN X2.here hx rfl (hb hby at_16) rfl ?_
    show Steps p.tables e below (T2.setTop (mkF m 17 #[.val (.int p1), .val (.int p2), .val (.int p3), .val (.int p4), .val (.int p5), .val (.int p6), .val (.ref b1), .unset, .unset, .unset, .unset, .unset] [(.int p1), (.int (1 : Int32)), (.ref b1)])) _
    refine XS.iconst X2.here hx rfl (hb hby at_17) ?_
    show Steps p.tables e below (T2.setTop (mkF m 18 #[.val (.int p1), .val (.int p2), .val (.int p3), .val (.int p4), .val (.int p5), .val (.int p6), .val (.ref b1), .unset, .unset, .unset, .unset, .unset] [(.int (4 : Int32)), (.int p1), (.int (1 : Int32)), (.ref b1)])) _
    refine XS.iushr X2.here hx rfl (hb hby at_18) rfl ?_
    show Steps p.tables e below (T2.setTop (mkF m 19 #[.val (.int p1), .val (.int p2), .val (.int p3), .val (.int p4), .val (.int p5), .val (.int p6), .val (.ref b1), .unset, .unset, .unset, .unset, .unset] [(.int ((p1.toUInt32 >>> ((4 : Int32) &&& 31).toUInt32).toInt32)), (.int (1 : Int32)), (.ref b1)])) _
    refine XS.bipush X2.here hx rfl (hb hby at_19) ?_
    show Steps p.tables e below (T2.setTop (mkF m 21 #[.val (.int p1), .val (.int p2), .val (.int p3), .val (.int p4), .val (.int p5), .val (.int p6), .val (.ref b1), .unset, .unset, .unset, .unset, .unset] [(.int (15 : Int32)), (.int ((p1.toUInt32 >>> ((4 : Int32) &&& 31).toUInt32).toInt32)), (.int (1 : Int32)), (.ref b1)])) _
    refine XS.iand X2.here hx rfl (hb hby at_21) rfl ?_
    show Steps p.tables e below (T2.setTop (mkF m 22 #[.val (.int p1), .val (.int p2), .val (.int p3), .val (.int p4), .val (.int p5), .val (.int p6), .val (.ref b1), .unset, .unset, .unset, .unset, .unset] [(.int (((p1.toUInt32 >>> ((4 : Int32) &&& 31).toUInt32).toInt32) &&& (15 : Int32))), (.int (1 : Int32)), (.ref b1)])) _
    refine castTop (g' := (mkF m 22 #[.val (.int p1), .val (.int p2), .val (.int p3), .val (.int p4), .val (.int p5), .val (.int p6), .val (.ref b1), .unset, .unset, .unset, .unset, .unset] [(.int q1), (.int (1 : Int32)), (.ref b1)])) (by rw [hq1]) ?_
    show Steps p.tables e below (T2.setTop (mkF m 22 #[.val (.int p1), .val (.int p2), .val (.int p3), .val (.int p4), .val (.int p5), .val (.int p6), .val (.ref b1), .unset, .unset, .unset, .unset, .unset] [(.int q1), (.int (1 : Int32)), (.ref b1)])) _
    refine st3 _ ?_
    show Steps p.tables e below (T3.setTop (mkF m 23 #[.val (.int p1), .val (.int p2), .val (.int p3), .val (.int p4), .val (.int p5), .val (.int p6), .val (.ref b1), .unset, .unset, .unset, .unset, .unset] [])) _
    refine XS.iloadN X3.here hx rfl (hb hby at_23) rfl ?_
    show Steps p.tables e below (T3.setTop (mkF m 24 #[.val (.int p1), .val (.int p2), .val (.int p3), .val (.int p4), .val (.int p5), .val (.int p6), .val (.ref b1), .unset, .unset, .unset, .unset, .unset] [(.int p1)])) _
    refine XS.bipush X3.here hx rfl (hb hby at_24) ?_
    show Steps p.tables e below (T3.setTop (mkF m 26 #[.val (.int p1), .val (.int p2), .val (.int p3), .val (.int p4), .val (.int p5), .val (.int p6), .val (.ref b1), .unset, .unset, .unset, .unset, .unset] [(.int (8 : Int32)), (.int p1)])) _
    refine XS.iushr X3.here hx rfl (hb hby at_26) rfl ?_
    show Steps p.tables e below (T3.setTop (mkF m 27 #[.val (.int p1), .val (.int p2), .val (.int p3), .val (.int p4), .val (.int p5), .val (.int p6), .val (.ref b1), .unset, .unset, .unset, .unset, .unset] [(.int ((p1.toUInt32 >>> ((8 : Int32) &&& 31).toUInt32).toInt32))])) _
    refine XS.bipush X3.here hx rfl (hb hby at_27) ?_
    show Steps p.tables e below (T3.setTop (mkF m 29 #[.val (.int p1), .val (.int p2), .val (.int p3), .val (.int p4), .val (.int p5), .val (.int p6), .val (.ref b1), .unset, .unset, .unset, .unset, .unset] [(.int (7 : Int32)), (.int ((p1.toUInt32 >>> ((8 : Int32) &&& 31).toUInt32).toInt32))])) _
    refine XS.iand X3.here hx rfl (hb hby at_29) rfl ?_
    show Steps p.tables e below (T3.setTop (mkF m 30 #[.val (.int p1), .val (.int p2), .val (.int p3), .val (.int p4), .val (.int p5), .val (.int p6), .val (.ref b1), .unset, .unset, .unset, .unset, .unset] [(.int (((p1.toUInt32 >>> ((8 : Int32) &&& 31).toUInt32).toInt32) &&& (7 : Int32)))])) _
    refine castTop (g' := (mkF m 30 #[.val (.int p1), .val (.int p2), .val (.int p3), .val (.int p4), .val (.int p5), .val (.int p6), .val (.ref b1), .unset, .unset, .unset, .unset, .unset] [(.int nn)])) (by rw [hnn]) ?_
    show Steps p.tables e below (T3.setTop (mkF m 30 #[.val (.int p1), .val (.int p2), .val (.int p3), .val (.int p4), .val (.int p5), .val (.int p6), .val (.ref b1), .unset, .unset, .unset, .unset, .unset] [(.int nn)])) _
    refine XS.istore X3.here hx rfl (hb hby at_30) rfl (l' := #[.val (.int p1), .val (.int p2), .val (.int p3), .val (.int p4), .val (.int p5), .val (.int p6), .val (.ref b1), .val (.int nn), .unset, .unset, .unset, .unset]) rfl ?_
    show Steps p.tables e below (T3.setTop (mkF m 32 #[.val (.int p1), .val (.int p2), .val (.int p3), .val (.int p4), .val (.int p5), .val (.int p6), .val (.ref b1), .val (.int nn), .unset, .unset, .unset, .unset] [])) _
    refine XS.iconst X3.here hx rfl (hb hby at_32) ?_
    show Steps p.tables e below (T3.setTop (mkF m 33 #[.val (.int p1), .val (.int p2), .val (.int p3), .val (.int p4), .val (.int p5), .val (.int p6), .val (.ref b1), .val (.int nn), .unset, .unset, .unset, .unset] [(.int (2 : Int32))])) _
    refine st4 _ ?_
    show Steps p.tables e below (T4.setTop (mkF m 35 #[.val (.int p1), .val (.int p2), .val (.int p3), .val (.int p4), .val (.int p5), .val (.int p6), .val (.ref b1), .val (.int nn), .unset, .unset, .unset, .unset] [(.ref b4)])) _
    refine XS.astore X4.here hx rfl (hb hby at_35) rfl rfl (l' := #[.val (.int p1), .val (.int p2), .val (.int p3), .val (.int p4), .val (.int p5), .val (.int p6), .val (.ref b1), .val (.int nn), .val (.ref b4), .unset, .unset, .unset]) rfl ?_
    show Steps p.tables e below (T4.setTop (mkF m 37 #[.val (.int p1), .val (.int p2), .val (.int p3), .val (.int p4), .val (.int p5), .val (.int p6), .val (.ref b1), .val (.int nn), .val (.ref b4), .unset, .unset, .unset] [])) _
    refine XS.aload X4.here hx rfl (hb hby at_37) rfl rfl ?_
    show Steps p.tables e below (T4.setTop (mkF m 39 #[.val (.int p1), .val (.int p2), .val (.int p3), .val (.int p4), .val (.int p5), .val (.int p6), .val (.ref b1), .val (.int nn), .val (.ref b4), .unset, .unset, .unset] [(.ref b4)])) _
    refine XS.iconst X4.here hx rfl (hb hby at_39) ?_
    show Steps p.tables e below (T4.setTop (mkF m 40 #[.val (.int p1), .val (.int p2), .val (.int p3), .val (.int p4), .val (.int p5), .val (.int p6), .val (.ref b1), .val (.int nn), .val (.ref b4), .unset, .unset, .unset] [(.int (0 : Int32)), (.ref b4)])) _
    refine XS.iload X4.here hx rfl (hb hby at_40) rfl ?_
    show Steps p.tables e below (T4.setTop (mkF m 42 #[.val (.int p1), .val (.int p2), .val (.int p3), .val (.int p4), .val (.int p5), .val (.int p6), .val (.ref b1), .val (.int nn), .val (.ref b4), .unset, .unset, .unset] [(.int p6), (.int (0 : Int32)), (.ref b4)])) _
    refine Jvm.Stand.ldcI X4 hx hown (mvT hZ (hw _ (List.mem_of_getElem? (i := 1) rfl))) rfl (hb hby at_42) ?_
    show Steps p.tables e below (T4.setTop (mkF m 44 #[.val (.int p1), .val (.int p2), .val (.int p3), .val (.int p4), .val (.int p5), .val (.int p6), .val (.ref b1), .val (.int nn), .val (.ref b4), .unset, .unset, .unset] [(.int (65535 : Int32)), (.int p6), (.int (0 : Int32)), (.ref b4)])) _
    refine XS.iand X4.here hx rfl (hb hby at_44) rfl ?_
    show Steps p.tables e below (T4.setTop (mkF m 45 #[.val (.int p1), .val (.int p2), .val (.int p3), .val (.int p4), .val (.int p5), .val (.int p6), .val (.ref b1), .val (.int nn), .val (.ref b4), .unset, .unset, .unset] [(.int (p6 &&& (65535 : Int32))), (.int (0 : Int32)), (.ref b4)])) _
    refine XS.aload X4.here hx rfl (hb hby at_45) rfl rfl ?_
    show Steps p.tables e below (T4.setTop (mkF m 47 #[.val (.int p1), .val (.int p2), .val (.int p3), .val (.int p4), .val (.int p5), .val (.int p6), .val (.ref b1), .val (.int nn), .val (.ref b4), .unset, .unset, .unset] [(.ref b1), (.int (p6 &&& (65535 : Int32))), (.int (0 : Int32)), (.ref b4)])) _
    refine XS.iconst X4.here hx rfl (hb hby at_47) ?_
    show Steps p.tables e below (T4.setTop (mkF m 48 #[.val (.int p1), .val (.int p2), .val (.int p3), .val (.int p4), .val (.int p5), .val (.int p6), .val (.ref b1), .val (.int nn), .val (.ref b4), .unset, .unset, .unset] [(.int (0 : Int32)), (.ref b1), (.int (p6 &&& (65535 : Int32))), (.int (0 : Int32)), (.ref b4)])) _
    refine X4.iaload hx (j := (0 : Int32)) (v := (.int q0)) (by rw [e4]; exact Ar5.1) (State.isArrayOf_alike hZ.alike Ar5.2.1) Ar5.2.2 hin6 hat6 (g := (mkF m 48 #[.val (.int p1), .val (.int p2), .val (.int p3), .val (.int p4), .val (.int p5), .val (.int p6), .val (.ref b1), .val (.int nn), .val (.ref b4), .unset, .unset, .unset] [(.int (0 : Int32)), (.ref b1), (.int (p6 &&& (65535 : Int32))), (.int (0 : Int32)), (.ref b4)])) rfl rfl (hb hby at_48) _ ?_
    show Steps p.tables e below (T4.setTop (mkF m 49 #[.val (.int p1), .val (.int p2), .val (.int p3), .val (.int p4), .val (.int p5), .val (.int p6), .val (.ref b1), .val (.int nn), .val (.ref b4), .unset, .unset, .unset] [(.int q0), (.int (p6 &&& (65535 : Int32))), (.int (0 : Int32)), (.ref b4)])) _
    refine XS.iconst X4.here hx rfl (hb hby at_49) ?_
    show Steps p.tables e below (T4.setTop (mkF m 50 #[.val (.int p1), .val (.int p2), .val (.int p3), .val (.int p4), .val (.int p5), .val (.int p6), .val (.ref b1), .val (.int nn), .val (.ref b4), .unset, .unset, .unset] [(.int (1 : Int32)), (.int q0), (.int (p6 &&& (65535 : Int32))), (.int (0 : Int32)), (.ref b4)])) _
    refine XS.iadd X4.here hx rfl (hb hby at_50) rfl ?_
    show Steps p.tables e below (T4.setTop (mkF m 51 #[.val (.int p1), .val (.int p2), .val (.int p3), .val (.int p4), .val (.int p5), .val (.int p6), .val (.ref b1), .val (.int nn), .val (.ref b4), .unset, .unset, .unset] [(.int (q0 + (1 : Int32))), (.int (p6 &&& (65535 : Int32))), (.int (0 : Int32)), (.ref b4)])) _
    refine iremM X4 hx rfl (hb hby at_51) rfl mz0 ?_
    show Steps p.tables e below (T4.setTop (mkF m 52 #[.val (.int p1), .val (.int p2), .val (.int p3), .val (.int p4), .val (.int p5), .val (.int p6), .val (.ref b1), .val (.int nn), .val (.ref b4), .unset, .unset, .unset] [(.int ((p6 &&& (65535 : Int32)) % (q0 + (1 : Int32)))), (.int (0 : Int32)), (.ref b4)])) _
    refine castTop (g' := (mkF m 52 #[.val (.int p1), .val (.int p2), .val (.int p3), .val (.int p4), .val (.int p5), .val (.int p6), .val (.ref b1), .val (.int nn), .val (.ref b4), .unset, .unset, .unset] [(.int u0), (.int (0 : Int32)), (.ref b4)])) (by rw [hb0]) ?_
    show Steps p.tables e below (T4.setTop (mkF m 52 #[.val (.int p1), .val (.int p2), .val (.int p3), .val (.int p4), .val (.int p5), .val (.int p6), .val (.ref b1), .val (.int nn), .val (.ref b4), .unset, .unset, .unset] [(.int u0), (.int (0 : Int32)), (.ref b4)])) _
    refine st7 _ ?_
    show Steps p.tables e below (T7.setTop (mkF m 53 #[.val (.int p1), .val (.int p2), .val (.int p3), .val (.int p4), .val (.int p5), .val (.int p6), .val (.ref b1), .val (.int nn), .val (.ref b4), .unset, .unset, .unset] [])) _
    refine XS.aload X7.here hx rfl (hb hby at_53) rfl rfl ?_
    show Steps p.tables e below (T7.setTop (mkF m 55 #[.val (.int p1), .val (.int p2), .val (.int p3), .val (.int p4), .val (.int p5), .val (.int p6), .val (.ref b1), .val (.int nn), .val (.ref b4), .unset, .unset, .unset] [(.ref b4)])) _
    refine XS.iconst X7.here hx rfl (hb hby at_55) ?_
    show Steps p.tables e below (T7.setTop (mkF m 56 #[.val (.int p1), .val (.int p2), .val (.int p3), .val (.int p4), .val (.int p5), .val (.int p6), .val (.ref b1), .val (.int nn), .val (.ref b4), .unset, .unset, .unset] [(.int (1 : Int32)), (.ref b4)])) _
    refine XS.iload X7.here hx rfl (hb hby at_56) rfl ?_
    show Steps p.tables e below (T7.setTop (mkF m 58 #[.val (.int p1), .val (.int p2), .val (.int p3), .val (.int p4), .val (.int p5), .val (.int p6), .val (.ref b1), .val (.int nn), .val (.ref b4), .unset, .unset, .unset] [(.int p6), (.int (1 : Int32)), (.ref b4)])) _
    refine XS.bipush X7.here hx rfl (hb hby at_58) ?_
    show Steps p.tables e below (T7.setTop (mkF m 60 #[.val (.int p1), .val (.int p2), .val (.int p3), .val (.int p4), .val (.int p5), .val (.int p6), .val (.ref b1), .val (.int nn), .val (.ref b4), .unset, .unset, .unset] [(.int (16 : Int32)), (.int p6), (.int (1 : Int32)), (.ref b4)])) _
    refine XS.iushr X7.here hx rfl (hb hby at_60) rfl ?_
    show Steps p.tables e below (T7.setTop (mkF m 61 #[.val (.int p1), .val (.int p2), .val (.int p3), .val (.int p4), .val (.int p5), .val (.int p6), .val (.ref b1), .val (.int nn), .val (.ref b4), .unset, .unset, .unset] [(.int ((p6.toUInt32 >>> ((16 : Int32) &&& 31).toUInt32).toInt32)), (.int (1 : Int32)), (.ref b4)])) _
    refine Jvm.Stand.ldcI X7 hx hown (mvT hZ (hw _ (List.mem_of_getElem? (i := 1) rfl))) rfl (hb hby at_61) ?_
    show Steps p.tables e below (T7.setTop (mkF m 63 #[.val (.int p1), .val (.int p2), .val (.int p3), .val (.int p4), .val (.int p5), .val (.int p6), .val (.ref b1), .val (.int nn), .val (.ref b4), .unset, .unset, .unset] [(.int (65535 : Int32)), (.int ((p6.toUInt32 >>> ((16 : Int32) &&& 31).toUInt32).toInt32)), (.int (1 : Int32)), (.ref b4)])) _
    refine XS.iand X7.here hx rfl (hb hby at_63) rfl ?_
    show Steps p.tables e below (T7.setTop (mkF m 64 #[.val (.int p1), .val (.int p2), .val (.int p3), .val (.int p4), .val (.int p5), .val (.int p6), .val (.ref b1), .val (.int nn), .val (.ref b4), .unset, .unset, .unset] [(.int (((p6.toUInt32 >>> ((16 : Int32) &&& 31).toUInt32).toInt32) &&& (65535 : Int32))), (.int (1 : Int32)), (.ref b4)])) _
    refine XS.aload X7.here hx rfl (hb hby at_64) rfl rfl ?_
    show Steps p.tables e below (T7.setTop (mkF m 66 #[.val (.int p1), .val (.int p2), .val (.int p3), .val (.int p4), .val (.int p5), .val (.int p6), .val (.ref b1), .val (.int nn), .val (.ref b4), .unset, .unset, .unset] [(.ref b1), (.int (((p6.toUInt32 >>> ((16 : Int32) &&& 31).toUInt32).toInt32) &&& (65535 : Int32))), (.int (1 : Int32)), (.ref b4)])) _
    refine XS.iconst X7.here hx rfl (hb hby at_66) ?_
    show Steps p.tables e below (T7.setTop (mkF m 67 #[.val (.int p1), .val (.int p2), .val (.int p3), .val (.int p4), .val (.int p5), .val (.int p6), .val (.ref b1), .val (.int nn), .val (.ref b4), .unset, .unset, .unset] [(.int (1 : Int32)), (.ref b1), (.int (((p6.toUInt32 >>> ((16 : Int32) &&& 31).toUInt32).toInt32) &&& (65535 : Int32))), (.int (1 : Int32)), (.ref b4)])) _
    refine X7.iaload hx (j := (1 : Int32)) (v := (.int q1)) (by rw [e7]; exact Ar8.1) (State.isArrayOf_alike hZ.alike Ar8.2.1) Ar8.2.2 hin9 hat9 (g := (mkF m 67 #[.val (.int p1), .val (.int p2), .val (.int p3), .val (.int p4), .val (.int p5), .val (.int p6), .val (.ref b1), .val (.int nn), .val (.ref b4), .unset, .unset, .unset] [(.int (1 : Int32)), (.ref b1), (.int (((p6.toUInt32 >>> ((16 : Int32) &&& 31).toUInt32).toInt32) &&& (65535 : Int32))), (.int (1 : Int32)), (.ref b4)])) rfl rfl (hb hby at_67) _ ?_
    show Steps p.tables e below (T7.setTop (mkF m 68 #[.val (.int p1), .val (.int p2), .val (.int p3), .val (.int p4), .val (.int p5), .val (.int p6), .val (.ref b1), .val (.int nn), .val (.ref b4), .unset, .unset, .unset] [(.int q1), (.int (((p6.toUInt32 >>> ((16 : Int32) &&& 31).toUInt32).toInt32) &&& (65535 : Int32))), (.int (1 : Int32)), (.ref b4)])) _
    refine XS.iconst X7.here hx rfl (hb hby at_68) ?_
    show Steps p.tables e below (T7.setTop (mkF m 69 #[.val (.int p1), .val (.int p2), .val (.int p3), .val (.int p4), .val (.int p5), .val (.int p6), .val (.ref b1), .val (.int nn), .val (.ref b4), .unset, .unset, .unset] [(.int (1 : Int32)), (.int q1), (.int (((p6.toUInt32 >>> ((16 : Int32) &&& 31).toUInt32).toInt32) &&& (65535 : Int32))), (.int (1 : Int32)), (.ref b4)])) _
    refine XS.iadd X7.here hx rfl (hb hby at_69) rfl ?_
    show Steps p.tables e below (T7.setTop (mkF m 70 #[.val (.int p1), .val (.int p2), .val (.int p3), .val (.int p4), .val (.int p5), .val (.int p6), .val (.ref b1), .val (.int nn), .val (.ref b4), .unset, .unset, .unset] [(.int (q1 + (1 : Int32))), (.int (((p6.toUInt32 >>> ((16 : Int32) &&& 31).toUInt32).toInt32) &&& (65535 : Int32))), (.int (1 : Int32)), (.ref b4)])) _
    refine iremM X7 hx rfl (hb hby at_70) rfl mz1 ?_
    show Steps p.tables e below (T7.setTop (mkF m 71 #[.val (.int p1), .val (.int p2), .val (.int p3), .val (.int p4), .val (.int p5), .val (.int p6), .val (.ref b1), .val (.int nn), .val (.ref b4), .unset, .unset, .unset] [(.int ((((p6.toUInt32 >>> ((16 : Int32) &&& 31).toUInt32).toInt32) &&& (65535 : Int32)) % (q1 + (1 : Int32)))), (.int (1 : Int32)), (.ref b4)])) _
    refine castTop (g' := (mkF m 71 #[.val (.int p1), .val (.int p2), .val (.int p3), .val (.int p4), .val (.int p5), .val (.int p6), .val (.ref b1), .val (.int nn), .val (.ref b4), .unset, .unset, .unset] [(.int u1), (.int (1 : Int32)), (.ref b4)])) (by rw [hb1]) ?_
    show Steps p.tables e below (T7.setTop (mkF m 71 #[.val (.int p1), .val (.int p2), .val (.int p3), .val (.int p4), .val (.int p5), .val (.int p6), .val (.ref b1), .val (.int nn), .val (.ref b4), .unset, .unset, .unset] [(.int u1), (.int (1 : Int32)), (.ref b4)])) _
    refine st10 _ ?_
    show Steps p.tables e below (T10.setTop (mkF m 72 #[.val (.int p1), .val (.int p2), .val (.int p3), .val (.int p4), .val (.int p5), .val (.int p6), .val (.ref b1), .val (.int nn), .val (.ref b4), .unset, .unset, .unset] [])) _
    refine st11 _ ?_
    show Steps p.tables e below (T11.setTop (mkF m 75 #[.val (.int p1), .val (.int p2), .val (.int p3), .val (.int p4), .val (.int p5), .val (.int p6), .val (.ref b1), .val (.int nn), .val (.ref b4), .unset, .unset, .unset] [(.ref b11)])) _
    refine XS.dup X11.here hx rfl (hb hby at_75) rfl rfl ?_
    show Steps p.tables e below (T11.setTop (mkF m 76 #[.val (.int p1), .val (.int p2), .val (.int p3), .val (.int p4), .val (.int p5), .val (.int p6), .val (.ref b1), .val (.int nn), .val (.ref b4), .unset, .unset, .unset] [(.ref b11), (.ref b11)])) _
    refine XS.aload X11.here hx rfl (hb hby at_76) rfl rfl ?_
    show Steps p.tables e below (T11.setTop (mkF m 78 #[.val (.int p1), .val (.int p2), .val (.int p3), .val (.int p4), .val (.int p5), .val (.int p6), .val (.ref b1), .val (.int nn), .val (.ref b4), .unset, .unset, .unset] [(.ref b1), (.ref b11), (.ref b11)])) _
    refine st12.trans ?_
    show Steps p.tables e below (T12.setTop (mkF m 81 #[.val (.int p1), .val (.int p2), .val (.int p3), .val (.int p4), .val (.int p5), .val (.int p6), .val (.ref b1), .val (.int nn), .val (.ref b4), .unset, .unset, .unset] [(.ref b11)])) _
    refine XS.astore X12.here hx rfl (hb hby at_81) rfl rfl (l' := #[.val (.int p1), .val (.int p2), .val (.int p3), .val (.int p4), .val (.int p5), .val (.int p6), .val (.ref b1), .val (.int nn), .val (.ref b4), .val (.ref b11), .unset, .unset]) rfl ?_
    show Steps p.tables e below (T12.setTop (mkF m 83 #[.val (.int p1), .val (.int p2), .val (.int p3), .val (.int p4), .val (.int p5), .val (.int p6), .val (.ref b1), .val (.int nn), .val (.ref b4), .val (.ref b11), .unset, .unset] [])) _
    refine XS.lconst X12.here hx rfl (hb hby at_83) ?_
    show Steps p.tables e below (T12.setTop (mkF m 84 #[.val (.int p1), .val (.int p2), .val (.int p3), .val (.int p4), .val (.int p5), .val (.int p6), .val (.ref b1), .val (.int nn), .val (.ref b4), .val (.ref b11), .unset, .unset] [(.long (0 : Int64))])) _
    refine XS.lstore X12.here hx rfl (hb hby at_84) rfl (l' := #[.val (.int p1), .val (.int p2), .val (.int p3), .val (.int p4), .val (.int p5), .val (.int p6), .val (.ref b1), .val (.int nn), .val (.ref b4), .val (.ref b11), .val (.long (0 : Int64)), .second]) rfl ?_
    show Steps p.tables e below (T12.setTop (mkF m 86 #[.val (.int p1), .val (.int p2), .val (.int p3), .val (.int p4), .val (.int p5), .val (.int p6), .val (.ref b1), .val (.int nn), .val (.ref b4), .val (.ref b11), .val (.long (0 : Int64)), .second] [])) _
    refine XS.lload X12.here hx rfl (hb hby at_86) rfl ?_
    show Steps p.tables e below (T12.setTop (mkF m 88 #[.val (.int p1), .val (.int p2), .val (.int p3), .val (.int p4), .val (.int p5), .val (.int p6), .val (.ref b1), .val (.int nn), .val (.ref b4), .val (.ref b11), .val (.long (0 : Int64)), .second] [(.long (0 : Int64))])) _
    refine XS.aload X12.here hx rfl (hb hby at_88) rfl rfl ?_
    show Steps p.tables e below (T12.setTop (mkF m 90 #[.val (.int p1), .val (.int p2), .val (.int p3), .val (.int p4), .val (.int p5), .val (.int p6), .val (.ref b1), .val (.int nn), .val (.ref b4), .val (.ref b11), .val (.long (0 : Int64)), .second] [(.ref b11), (.long (0 : Int64))])) _
    refine XS.aload X12.here hx rfl (hb hby at_90) rfl rfl ?_
    show Steps p.tables e below (T12.setTop (mkF m 92 #[.val (.int p1), .val (.int p2), .val (.int p3), .val (.int p4), .val (.int p5), .val (.int p6), .val (.ref b1), .val (.int nn), .val (.ref b4), .val (.ref b11), .val (.long (0 : Int64)), .second] [(.ref b1), (.ref b11), (.long (0 : Int64))])) _
    refine XS.aload X12.here hx rfl (hb hby at_92) rfl rfl ?_
    show Steps p.tables e below (T12.setTop (mkF m 94 #[.val (.int p1), .val (.int p2), .val (.int p3), .val (.int p4), .val (.int p5), .val (.int p6), .val (.ref b1), .val (.int nn), .val (.ref b4), .val (.ref b11), .val (.long (0 : Int64)), .second] [(.ref b4), (.ref b1), (.ref b11), (.long (0 : Int64))])) _
    refine XS.iload X12.here hx rfl (hb hby at_94) rfl ?_
    show Steps p.tables e below (T12.setTop (mkF m 96 #[.val (.int p1), .val (.int p2), .val (.int p3), .val (.int p4), .val (.int p5), .val (.int p6), .val (.ref b1), .val (.int nn), .val (.ref b4), .val (.ref b11), .val (.long (0 : Int64)), .second] [(.int nn), (.ref b4), (.ref b1), (.ref b11), (.long (0 : Int64))])) _
    refine XS.ifYes X12.here hx rfl (pc0 := 96) (pc' := 103) rfl (hb hby at_96) rfl ((if0 _ _).trans (flt (hn0 : ¬ ((0 : Int32) < nn))).2.2.2) (by decide) (by decide) ?_
    show Steps p.tables e below (T12.setTop (mkF m 103 #[.val (.int p1), .val (.int p2), .val (.int p3), .val (.int p4), .val (.int p5), .val (.int p6), .val (.ref b1), .val (.int nn), .val (.ref b4), .val (.ref b11), .val (.long (0 : Int64)), .second] [(.ref b4), (.ref b1), (.ref b11), (.long (0 : Int64))])) _
    refine XS.iconst X12.here hx rfl (hb hby at_103) ?_
    show Steps p.tables e below (T12.setTop (mkF m 104 #[.val (.int p1), .val (.int p2), .val (.int p3), .val (.int p4), .val (.int p5), .val (.int p6), .val (.ref b1), .val (.int nn), .val (.ref b4), .val (.ref b11), .val (.long (0 : Int64)), .second] [(.int (0 : Int32)), (.ref b4), (.ref b1), (.ref b11), (.long (0 : Int64))])) _
    refine XS.iloadN X12.here hx rfl (hb hby at_104) rfl ?_
    show Steps p.tables e below (T12.setTop (mkF m 105 #[.val (.int p1), .val (.int p2), .val (.int p3), .val (.int p4), .val (.int p5), .val (.int p6), .val (.ref b1), .val (.int nn), .val (.ref b4), .val (.ref b11), .val (.long (0 : Int64)), .second] [(.int p1), (.int (0 : Int32)), (.ref b4), (.ref b1), (.ref b11), (.long (0 : Int64))])) _
    refine XS.bipush X12.here hx rfl (hb hby at_105) ?_
    show Steps p.tables e below (T12.setTop (mkF m 107 #[.val (.int p1), .val (.int p2), .val (.int p3), .val (.int p4), .val (.int p5), .val (.int p6), .val (.ref b1), .val (.int nn), .val (.ref b4), .val (.ref b11), .val (.long (0 : Int64)), .second] [(.int (12 : Int32)), (.int p1), (.int (0 : Int32)), (.ref b4), (.ref b1), (.ref b11), (.long (0 : Int64))])) _
    refine XS.iushr X12.here hx rfl (hb hby at_107) rfl ?_
    show Steps p.tables e below (T12.setTop (mkF m 108 #[.val (.int p1), .val (.int p2), .val (.int p3), .val (.int p4), .val (.int p5), .val (.int p6), .val (.ref b1), .val (.int nn), .val (.ref b4), .val (.ref b11), .val (.long (0 : Int64)), .second] [(.int ((p1.toUInt32 >>> ((12 : Int32) &&& 31).toUInt32).toInt32)), (.int (0 : Int32)), (.ref b4), (.ref b1), (.ref b11), (.long (0 : Int64))])) _
    refine XS.iconst X12.here hx rfl (hb hby at_108) ?_
    show Steps p.tables e below (T12.setTop (mkF m 109 #[.val (.int p1), .val (.int p2), .val (.int p3), .val (.int p4), .val (.int p5), .val (.int p6), .val (.ref b1), .val (.int nn), .val (.ref b4), .val (.ref b11), .val (.long (0 : Int64)), .second] [(.int (1 : Int32)), (.int ((p1.toUInt32 >>> ((12 : Int32) &&& 31).toUInt32).toInt32)), (.int (0 : Int32)), (.ref b4), (.ref b1), (.ref b11), (.long (0 : Int64))])) _
    refine XS.iand X12.here hx rfl (hb hby at_109) rfl ?_
    show Steps p.tables e below (T12.setTop (mkF m 110 #[.val (.int p1), .val (.int p2), .val (.int p3), .val (.int p4), .val (.int p5), .val (.int p6), .val (.ref b1), .val (.int nn), .val (.ref b4), .val (.ref b11), .val (.long (0 : Int64)), .second] [(.int (((p1.toUInt32 >>> ((12 : Int32) &&& 31).toUInt32).toInt32) &&& (1 : Int32))), (.int (0 : Int32)), (.ref b4), (.ref b1), (.ref b11), (.long (0 : Int64))])) _
    refine castTop (g' := (mkF m 110 #[.val (.int p1), .val (.int p2), .val (.int p3), .val (.int p4), .val (.int p5), .val (.int p6), .val (.ref b1), .val (.int nn), .val (.ref b4), .val (.ref b11), .val (.long (0 : Int64)), .second] [(.int c1), (.int (0 : Int32)), (.ref b4), (.ref b1), (.ref b11), (.long (0 : Int64))])) (by rw [hc1]) ?_
    show Steps p.tables e below (T12.setTop (mkF m 110 #[.val (.int p1), .val (.int p2), .val (.int p3), .val (.int p4), .val (.int p5), .val (.int p6), .val (.ref b1), .val (.int nn), .val (.ref b4), .val (.ref b11), .val (.long (0 : Int64)), .second] [(.int c1), (.int (0 : Int32)), (.ref b4), (.ref b1), (.ref b11), (.long (0 : Int64))])) _
    refine XS.iloadN X12.here hx rfl (hb hby at_110) rfl ?_
    show Steps p.tables e below (T12.setTop (mkF m 111 #[.val (.int p1), .val (.int p2), .val (.int p3), .val (.int p4), .val (.int p5), .val (.int p6), .val (.ref b1), .val (.int nn), .val (.ref b4), .val (.ref b11), .val (.long (0 : Int64)), .second] [(.int p2), (.int c1), (.int (0 : Int32)), (.ref b4), (.ref b1), (.ref b11), (.long (0 : Int64))])) _
    refine st13 _ ?_
    show Steps p.tables e below (T13.setTop (mkF m 114 #[.val (.int p1), .val (.int p2), .val (.int p3), .val (.int p4), .val (.int p5), .val (.int p6), .val (.ref b1), .val (.int nn), .val (.ref b4), .val (.ref b11), .val (.long (0 : Int64)), .second] [(.long (0 : Int64)), (.long (0 : Int64))])) _
    refine XS.ladd X13.here hx rfl (hb hby at_114) rfl ?_
    show Steps p.tables e below (T13.setTop (mkF m 115 #[.val (.int p1), .val (.int p2), .val (.int p3), .val (.int p4), .val (.int p5), .val (.int p6), .val (.ref b1), .val (.int nn), .val (.ref b4), .val (.ref b11), .val (.long (0 : Int64)), .second] [(.long ((0 : Int64) + (0 : Int64)))])) _
    refine castTop (g' := (mkF m 115 #[.val (.int p1), .val (.int p2), .val (.int p3), .val (.int p4), .val (.int p5), .val (.int p6), .val (.ref b1), .val (.int nn), .val (.ref b4), .val (.ref b11), .val (.long (0 : Int64)), .second] [(.long (0 : Int64))])) (by rw [show ((0 : Int64) + (0 : Int64)) = (0 : Int64) from by decide]) ?_
    show Steps p.tables e below (T13.setTop (mkF m 115 #[.val (.int p1), .val (.int p2), .val (.int p3), .val (.int p4), .val (.int p5), .val (.int p6), .val (.ref b1), .val (.int nn), .val (.ref b4), .val (.ref b11), .val (.long (0 : Int64)), .second] [(.long (0 : Int64))])) _
    refine XS.lstore X13.here hx rfl (hb hby at_115) rfl (l' := #[.val (.int p1), .val (.int p2), .val (.int p3), .val (.int p4), .val (.int p5), .val (.int p6), .val (.ref b1), .val (.int nn), .val (.ref b4), .val (.ref b11), .val (.long (0 : Int64)), .second]) rfl ?_
    show Steps p.tables e below (T13.setTop (mkF m 117 #[.val (.int p1), .val (.int p2), .val (.int p3), .val (.int p4), .val (.int p5), .val (.int p6), .val (.ref b1), .val (.int nn), .val (.ref b4), .val (.ref b11), .val (.long (0 : Int64)), .second] [])) _
    refine XS.lload X13.here hx rfl (hb hby at_117) rfl ?_
    show Steps p.tables e below (T13.setTop (mkF m 119 #[.val (.int p1), .val (.int p2), .val (.int p3), .val (.int p4), .val (.int p5), .val (.int p6), .val (.ref b1), .val (.int nn), .val (.ref b4), .val (.ref b11), .val (.long (0 : Int64)), .second] [(.long (0 : Int64))])) _
    refine XS.aload X13.here hx rfl (hb hby at_119) rfl rfl ?_
    show Steps p.tables e below (T13.setTop (mkF m 121 #[.val (.int p1), .val (.int p2), .val (.int p3), .val (.int p4), .val (.int p5), .val (.int p6), .val (.ref b1), .val (.int nn), .val (.ref b4), .val (.ref b11), .val (.long (0 : Int64)), .second] [(.ref b11), (.long (0 : Int64))])) _
    refine XS.aload X13.here hx rfl (hb hby at_121) rfl rfl ?_
    show Steps p.tables e below (T13.setTop (mkF m 123 #[.val (.int p1), .val (.int p2), .val (.int p3), .val (.int p4), .val (.int p5), .val (.int p6), .val (.ref b1), .val (.int nn), .val (.ref b4), .val (.ref b11), .val (.long (0 : Int64)), .second] [(.ref b1), (.ref b11), (.long (0 : Int64))])) _
    refine XS.aload X13.here hx rfl (hb hby at_123) rfl rfl ?_
    show Steps p.tables e below (T13.setTop (mkF m 125 #[.val (.int p1), .val (.int p2), .val (.int p3), .val (.int p4), .val (.int p5), .val (.int p6), .val (.ref b1), .val (.int nn), .val (.ref b4), .val (.ref b11), .val (.long (0 : Int64)), .second] [(.ref b4), (.ref b1), (.ref b11), (.long (0 : Int64))])) _
    refine XS.iload X13.here hx rfl (hb hby at_125) rfl ?_
    show Steps p.tables e below (T13.setTop (mkF m 127 #[.val (.int p1), .val (.int p2), .val (.int p3), .val (.int p4), .val (.int p5), .val (.int p6), .val (.ref b1), .val (.int nn), .val (.ref b4), .val (.ref b11), .val (.long (0 : Int64)), .second] [(.int nn), (.ref b4), (.ref b1), (.ref b11), (.long (0 : Int64))])) _
    refine XS.iconst X13.here hx rfl (hb hby at_127) ?_
    show Steps p.tables e below (T13.setTop (mkF m 128 #[.val (.int p1), .val (.int p2), .val (.int p3), .val (.int p4), .val (.int p5), .val (.int p6), .val (.ref b1), .val (.int nn), .val (.ref b4), .val (.ref b11), .val (.long (0 : Int64)), .second] [(.int (1 : Int32)), (.int nn), (.ref b4), (.ref b1), (.ref b11), (.long (0 : Int64))])) _
    refine XS.icmpYes X13.here hx rfl (pc0 := 128) (pc' := 135) rfl (hb hby at_128) rfl (flt (hn1 : ¬ ((1 : Int32) < nn))).2.2.2 (by decide) (by decide) ?_
    show Steps p.tables e below (T13.setTop (mkF m 135 #[.val (.int p1), .val (.int p2), .val (.int p3), .val (.int p4), .val (.int p5), .val (.int p6), .val (.ref b1), .val (.int nn), .val (.ref b4), .val (.ref b11), .val (.long (0 : Int64)), .second] [(.ref b4), (.ref b1), (.ref b11), (.long (0 : Int64))])) _
    refine XS.iconst X13.here hx rfl (hb hby at_135) ?_
    show Steps p.tables e below (T13.setTop (mkF m 136 #[.val (.int p1), .val (.int p2), .val (.int p3), .val (.int p4), .val (.int p5), .val (.int p6), .val (.ref b1), .val (.int nn), .val (.ref b4), .val (.ref b11), .val (.long (0 : Int64)), .second] [(.int (0 : Int32)), (.ref b4), (.ref b1), (.ref b11), (.long (0 : Int64))])) _
    refine XS.iloadN X13.here hx rfl (hb hby at_136) rfl ?_
    show Steps p.tables e below (T13.setTop (mkF m 137 #[.val (.int p1), .val (.int p2), .val (.int p3), .val (.int p4), .val (.int p5), .val (.int p6), .val (.ref b1), .val (.int nn), .val (.ref b4), .val (.ref b11), .val (.long (0 : Int64)), .second] [(.int p1), (.int (0 : Int32)), (.ref b4), (.ref b1), (.ref b11), (.long (0 : Int64))])) _
    refine XS.bipush X13.here hx rfl (hb hby at_137) ?_
    show Steps p.tables e below (T13.setTop (mkF m 139 #[.val (.int p1), .val (.int p2), .val (.int p3), .val (.int p4), .val (.int p5), .val (.int p6), .val (.ref b1), .val (.int nn), .val (.ref b4), .val (.ref b11), .val (.long (0 : Int64)), .second] [(.int (13 : Int32)), (.int p1), (.int (0 : Int32)), (.ref b4), (.ref b1), (.ref b11), (.long (0 : Int64))])) _
    refine XS.iushr X13.here hx rfl (hb hby at_139) rfl ?_
    show Steps p.tables e below (T13.setTop (mkF m 140 #[.val (.int p1), .val (.int p2), .val (.int p3), .val (.int p4), .val (.int p5), .val (.int p6), .val (.ref b1), .val (.int nn), .val (.ref b4), .val (.ref b11), .val (.long (0 : Int64)), .second] [(.int ((p1.toUInt32 >>> ((13 : Int32) &&& 31).toUInt32).toInt32)), (.int (0 : Int32)), (.ref b4), (.ref b1), (.ref b11), (.long (0 : Int64))])) _
    refine XS.iconst X13.here hx rfl (hb hby at_140) ?_
    show Steps p.tables e below (T13.setTop (mkF m 141 #[.val (.int p1), .val (.int p2), .val (.int p3), .val (.int p4), .val (.int p5), .val (.int p6), .val (.ref b1), .val (.int nn), .val (.ref b4), .val (.ref b11), .val (.long (0 : Int64)), .second] [(.int (1 : Int32)), (.int ((p1.toUInt32 >>> ((13 : Int32) &&& 31).toUInt32).toInt32)), (.int (0 : Int32)), (.ref b4), (.ref b1), (.ref b11), (.long (0 : Int64))])) _
    refine XS.iand X13.here hx rfl (hb hby at_141) rfl ?_
    show Steps p.tables e below (T13.setTop (mkF m 142 #[.val (.int p1), .val (.int p2), .val (.int p3), .val (.int p4), .val (.int p5), .val (.int p6), .val (.ref b1), .val (.int nn), .val (.ref b4), .val (.ref b11), .val (.long (0 : Int64)), .second] [(.int (((p1.toUInt32 >>> ((13 : Int32) &&& 31).toUInt32).toInt32) &&& (1 : Int32))), (.int (0 : Int32)), (.ref b4), (.ref b1), (.ref b11), (.long (0 : Int64))])) _
    refine castTop (g' := (mkF m 142 #[.val (.int p1), .val (.int p2), .val (.int p3), .val (.int p4), .val (.int p5), .val (.int p6), .val (.ref b1), .val (.int nn), .val (.ref b4), .val (.ref b11), .val (.long (0 : Int64)), .second] [(.int c2), (.int (0 : Int32)), (.ref b4), (.ref b1), (.ref b11), (.long (0 : Int64))])) (by rw [hc2]) ?_
    show Steps p.tables e below (T13.setTop (mkF m 142 #[.val (.int p1), .val (.int p2), .val (.int p3), .val (.int p4), .val (.int p5), .val (.int p6), .val (.ref b1), .val (.int nn), .val (.ref b4), .val (.ref b11), .val (.long (0 : Int64)), .second] [(.int c2), (.int (0 : Int32)), (.ref b4), (.ref b1), (.ref b11), (.long (0 : Int64))])) _
    refine XS.iloadN X13.here hx rfl (hb hby at_142) rfl ?_
    show Steps p.tables e below (T13.setTop (mkF m 143 #[.val (.int p1), .val (.int p2), .val (.int p3), .val (.int p4), .val (.int p5), .val (.int p6), .val (.ref b1), .val (.int nn), .val (.ref b4), .val (.ref b11), .val (.long (0 : Int64)), .second] [(.int p3), (.int c2), (.int (0 : Int32)), (.ref b4), (.ref b1), (.ref b11), (.long (0 : Int64))])) _
    refine st14 _ ?_
    show Steps p.tables e below (T14.setTop (mkF m 146 #[.val (.int p1), .val (.int p2), .val (.int p3), .val (.int p4), .val (.int p5), .val (.int p6), .val (.ref b1), .val (.int nn), .val (.ref b4), .val (.ref b11), .val (.long (0 : Int64)), .second] [(.long (0 : Int64)), (.long (0 : Int64))])) _
    refine XS.ladd X14.here hx rfl (hb hby at_146) rfl ?_
    show Steps p.tables e below (T14.setTop (mkF m 147 #[.val (.int p1), .val (.int p2), .val (.int p3), .val (.int p4), .val (.int p5), .val (.int p6), .val (.ref b1), .val (.int nn), .val (.ref b4), .val (.ref b11), .val (.long (0 : Int64)), .second] [(.long ((0 : Int64) + (0 : Int64)))])) _
    refine castTop (g' := (mkF m 147 #[.val (.int p1), .val (.int p2), .val (.int p3), .val (.int p4), .val (.int p5), .val (.int p6), .val (.ref b1), .val (.int nn), .val (.ref b4), .val (.ref b11), .val (.long (0 : Int64)), .second] [(.long (0 : Int64))])) (by rw [show ((0 : Int64) + (0 : Int64)) = (0 : Int64) from by decide]) ?_
    show Steps p.tables e below (T14.setTop (mkF m 147 #[.val (.int p1), .val (.int p2), .val (.int p3), .val (.int p4), .val (.int p5), .val (.int p6), .val (.ref b1), .val (.int nn), .val (.ref b4), .val (.ref b11), .val (.long (0 : Int64)), .second] [(.long (0 : Int64))])) _
    refine XS.lstore X14.here hx rfl (hb hby at_147) rfl (l' := #[.val (.int p1), .val (.int p2), .val (.int p3), .val (.int p4), .val (.int p5), .val (.int p6), .val (.ref b1), .val (.int nn), .val (.ref b4), .val (.ref b11), .val (.long (0 : Int64)), .second]) rfl ?_
    show Steps p.tables e below (T14.setTop (mkF m 149 #[.val (.int p1), .val (.int p2), .val (.int p3), .val (.int p4), .val (.int p5), .val (.int p6), .val (.ref b1), .val (.int nn), .val (.ref b4), .val (.ref b11), .val (.long (0 : Int64)), .second] [])) _
    refine XS.lload X14.here hx rfl (hb hby at_149) rfl ?_
    show Steps p.tables e below (T14.setTop (mkF m 151 #[.val (.int p1), .val (.int p2), .val (.int p3), .val (.int p4), .val (.int p5), .val (.int p6), .val (.ref b1), .val (.int nn), .val (.ref b4), .val (.ref b11), .val (.long (0 : Int64)), .second] [(.long (0 : Int64))])) _
    refine XS.aload X14.here hx rfl (hb hby at_151) rfl rfl ?_
    show Steps p.tables e below (T14.setTop (mkF m 153 #[.val (.int p1), .val (.int p2), .val (.int p3), .val (.int p4), .val (.int p5), .val (.int p6), .val (.ref b1), .val (.int nn), .val (.ref b4), .val (.ref b11), .val (.long (0 : Int64)), .second] [(.ref b11), (.long (0 : Int64))])) _
    refine XS.aload X14.here hx rfl (hb hby at_153) rfl rfl ?_
    show Steps p.tables e below (T14.setTop (mkF m 155 #[.val (.int p1), .val (.int p2), .val (.int p3), .val (.int p4), .val (.int p5), .val (.int p6), .val (.ref b1), .val (.int nn), .val (.ref b4), .val (.ref b11), .val (.long (0 : Int64)), .second] [(.ref b1), (.ref b11), (.long (0 : Int64))])) _
    refine XS.aload X14.here hx rfl (hb hby at_155) rfl rfl ?_
    show Steps p.tables e below (T14.setTop (mkF m 157 #[.val (.int p1), .val (.int p2), .val (.int p3), .val (.int p4), .val (.int p5), .val (.int p6), .val (.ref b1), .val (.int nn), .val (.ref b4), .val (.ref b11), .val (.long (0 : Int64)), .second] [(.ref b4), (.ref b1), (.ref b11), (.long (0 : Int64))])) _
    refine XS.iload X14.here hx rfl (hb hby at_157) rfl ?_
    show Steps p.tables e below (T14.setTop (mkF m 159 #[.val (.int p1), .val (.int p2), .val (.int p3), .val (.int p4), .val (.int p5), .val (.int p6), .val (.ref b1), .val (.int nn), .val (.ref b4), .val (.ref b11), .val (.long (0 : Int64)), .second] [(.int nn), (.ref b4), (.ref b1), (.ref b11), (.long (0 : Int64))])) _
    refine XS.iconst X14.here hx rfl (hb hby at_159) ?_
    show Steps p.tables e below (T14.setTop (mkF m 160 #[.val (.int p1), .val (.int p2), .val (.int p3), .val (.int p4), .val (.int p5), .val (.int p6), .val (.ref b1), .val (.int nn), .val (.ref b4), .val (.ref b11), .val (.long (0 : Int64)), .second] [(.int (2 : Int32)), (.int nn), (.ref b4), (.ref b1), (.ref b11), (.long (0 : Int64))])) _
    refine XS.icmpYes X14.here hx rfl (pc0 := 160) (pc' := 167) rfl (hb hby at_160) rfl (flt (hn2 : ¬ ((2 : Int32) < nn))).2.2.2 (by decide) (by decide) ?_
    show Steps p.tables e below (T14.setTop (mkF m 167 #[.val (.int p1), .val (.int p2), .val (.int p3), .val (.int p4), .val (.int p5), .val (.int p6), .val (.ref b1), .val (.int nn), .val (.ref b4), .val (.ref b11), .val (.long (0 : Int64)), .second] [(.ref b4), (.ref b1), (.ref b11), (.long (0 : Int64))])) _
    refine XS.iconst X14.here hx rfl (hb hby at_167) ?_
    show Steps p.tables e below (T14.setTop (mkF m 168 #[.val (.int p1), .val (.int p2), .val (.int p3), .val (.int p4), .val (.int p5), .val (.int p6), .val (.ref b1), .val (.int nn), .val (.ref b4), .val (.ref b11), .val (.long (0 : Int64)), .second] [(.int (0 : Int32)), (.ref b4), (.ref b1), (.ref b11), (.long (0 : Int64))])) _
    refine XS.iloadN X14.here hx rfl (hb hby at_168) rfl ?_
    show Steps p.tables e below (T14.setTop (mkF m 169 #[.val (.int p1), .val (.int p2), .val (.int p3), .val (.int p4), .val (.int p5), .val (.int p6), .val (.ref b1), .val (.int nn), .val (.ref b4), .val (.ref b11), .val (.long (0 : Int64)), .second] [(.int p1), (.int (0 : Int32)), (.ref b4), (.ref b1), (.ref b11), (.long (0 : Int64))])) _
    refine XS.bipush X14.here hx rfl (hb hby at_169) ?_
    show Steps p.tables e below (T14.setTop (mkF m 171 #[.val (.int p1), .val (.int p2), .val (.int p3), .val (.int p4), .val (.int p5), .val (.int p6), .val (.ref b1), .val (.int nn), .val (.ref b4), .val (.ref b11), .val (.long (0 : Int64)), .second] [(.int (14 : Int32)), (.int p1), (.int (0 : Int32)), (.ref b4), (.ref b1), (.ref b11), (.long (0 : Int64))])) _
    refine XS.iushr X14.here hx rfl (hb hby at_171) rfl ?_
    show Steps p.tables e below (T14.setTop (mkF m 172 #[.val (.int p1), .val (.int p2), .val (.int p3), .val (.int p4), .val (.int p5), .val (.int p6), .val (.ref b1), .val (.int nn), .val (.ref b4), .val (.ref b11), .val (.long (0 : Int64)), .second] [(.int ((p1.toUInt32 >>> ((14 : Int32) &&& 31).toUInt32).toInt32)), (.int (0 : Int32)), (.ref b4), (.ref b1), (.ref b11), (.long (0 : Int64))])) _
    refine XS.iconst X14.here hx rfl (hb hby at_172) ?_
    show Steps p.tables e below (T14.setTop (mkF m 173 #[.val (.int p1), .val (.int p2), .val (.int p3), .val (.int p4), .val (.int p5), .val (.int p6), .val (.ref b1), .val (.int nn), .val (.ref b4), .val (.ref b11), .val (.long (0 : Int64)), .second] [(.int (1 : Int32)), (.int ((p1.toUInt32 >>> ((14 : Int32) &&& 31).toUInt32).toInt32)), (.int (0 : Int32)), (.ref b4), (.ref b1), (.ref b11), (.long (0 : Int64))])) _
    refine XS.iand X14.here hx rfl (hb hby at_173) rfl ?_
    show Steps p.tables e below (T14.setTop (mkF m 174 #[.val (.int p1), .val (.int p2), .val (.int p3), .val (.int p4), .val (.int p5), .val (.int p6), .val (.ref b1), .val (.int nn), .val (.ref b4), .val (.ref b11), .val (.long (0 : Int64)), .second] [(.int (((p1.toUInt32 >>> ((14 : Int32) &&& 31).toUInt32).toInt32) &&& (1 : Int32))), (.int (0 : Int32)), (.ref b4), (.ref b1), (.ref b11), (.long (0 : Int64))])) _
    refine castTop (g' := (mkF m 174 #[.val (.int p1), .val (.int p2), .val (.int p3), .val (.int p4), .val (.int p5), .val (.int p6), .val (.ref b1), .val (.int nn), .val (.ref b4), .val (.ref b11), .val (.long (0 : Int64)), .second] [(.int c3), (.int (0 : Int32)), (.ref b4), (.ref b1), (.ref b11), (.long (0 : Int64))])) (by rw [hc3]) ?_
    show Steps p.tables e below (T14.setTop (mkF m 174 #[.val (.int p1), .val (.int p2), .val (.int p3), .val (.int p4), .val (.int p5), .val (.int p6), .val (.ref b1), .val (.int nn), .val (.ref b4), .val (.ref b11), .val (.long (0 : Int64)), .second] [(.int c3), (.int (0 : Int32)), (.ref b4), (.ref b1), (.ref b11), (.long (0 : Int64))])) _
    refine XS.iloadN X14.here hx rfl (hb hby at_174) rfl ?_
    show Steps p.tables e below (T14.setTop (mkF m 175 #[.val (.int p1), .val (.int p2), .val (.int p3), .val (.int p4), .val (.int p5), .val (.int p6), .val (.ref b1), .val (.int nn), .val (.ref b4), .val (.ref b11), .val (.long (0 : Int64)), .second] [(.int p4), (.int c3), (.int (0 : Int32)), (.ref b4), (.ref b1), (.ref b11), (.long (0 : Int64))])) _
    refine st15 _ ?_
    show Steps p.tables e below (T15.setTop (mkF m 178 #[.val (.int p1), .val (.int p2), .val (.int p3), .val (.int p4), .val (.int p5), .val (.int p6), .val (.ref b1), .val (.int nn), .val (.ref b4), .val (.ref b11), .val (.long (0 : Int64)), .second] [(.long (0 : Int64)), (.long (0 : Int64))])) _
    refine XS.ladd X15.here hx rfl (hb hby at_178) rfl ?_
    show Steps p.tables e below (T15.setTop (mkF m 179 #[.val (.int p1), .val (.int p2), .val (.int p3), .val (.int p4), .val (.int p5), .val (.int p6), .val (.ref b1), .val (.int nn), .val (.ref b4), .val (.ref b11), .val (.long (0 : Int64)), .second] [(.long ((0 : Int64) + (0 : Int64)))])) _
    refine castTop (g' := (mkF m 179 #[.val (.int p1), .val (.int p2), .val (.int p3), .val (.int p4), .val (.int p5), .val (.int p6), .val (.ref b1), .val (.int nn), .val (.ref b4), .val (.ref b11), .val (.long (0 : Int64)), .second] [(.long (0 : Int64))])) (by rw [show ((0 : Int64) + (0 : Int64)) = (0 : Int64) from by decide]) ?_
    show Steps p.tables e below (T15.setTop (mkF m 179 #[.val (.int p1), .val (.int p2), .val (.int p3), .val (.int p4), .val (.int p5), .val (.int p6), .val (.ref b1), .val (.int nn), .val (.ref b4), .val (.ref b11), .val (.long (0 : Int64)), .second] [(.long (0 : Int64))])) _
    refine XS.lstore X15.here hx rfl (hb hby at_179) rfl (l' := #[.val (.int p1), .val (.int p2), .val (.int p3), .val (.int p4), .val (.int p5), .val (.int p6), .val (.ref b1), .val (.int nn), .val (.ref b4), .val (.ref b11), .val (.long (0 : Int64)), .second]) rfl ?_
    show Steps p.tables e below (T15.setTop (mkF m 181 #[.val (.int p1), .val (.int p2), .val (.int p3), .val (.int p4), .val (.int p5), .val (.int p6), .val (.ref b1), .val (.int nn), .val (.ref b4), .val (.ref b11), .val (.long (0 : Int64)), .second] [])) _
    refine XS.lload X15.here hx rfl (hb hby at_181) rfl ?_
    show Steps p.tables e below (T15.setTop (mkF m 183 #[.val (.int p1), .val (.int p2), .val (.int p3), .val (.int p4), .val (.int p5), .val (.int p6), .val (.ref b1), .val (.int nn), .val (.ref b4), .val (.ref b11), .val (.long (0 : Int64)), .second] [(.long (0 : Int64))])) _
    refine XS.aload X15.here hx rfl (hb hby at_183) rfl rfl ?_
    show Steps p.tables e below (T15.setTop (mkF m 185 #[.val (.int p1), .val (.int p2), .val (.int p3), .val (.int p4), .val (.int p5), .val (.int p6), .val (.ref b1), .val (.int nn), .val (.ref b4), .val (.ref b11), .val (.long (0 : Int64)), .second] [(.ref b11), (.long (0 : Int64))])) _
    refine XS.aload X15.here hx rfl (hb hby at_185) rfl rfl ?_
    show Steps p.tables e below (T15.setTop (mkF m 187 #[.val (.int p1), .val (.int p2), .val (.int p3), .val (.int p4), .val (.int p5), .val (.int p6), .val (.ref b1), .val (.int nn), .val (.ref b4), .val (.ref b11), .val (.long (0 : Int64)), .second] [(.ref b1), (.ref b11), (.long (0 : Int64))])) _
    refine XS.aload X15.here hx rfl (hb hby at_187) rfl rfl ?_
    show Steps p.tables e below (T15.setTop (mkF m 189 #[.val (.int p1), .val (.int p2), .val (.int p3), .val (.int p4), .val (.int p5), .val (.int p6), .val (.ref b1), .val (.int nn), .val (.ref b4), .val (.ref b11), .val (.long (0 : Int64)), .second] [(.ref b4), (.ref b1), (.ref b11), (.long (0 : Int64))])) _
    refine XS.iload X15.here hx rfl (hb hby at_189) rfl ?_
    show Steps p.tables e below (T15.setTop (mkF m 191 #[.val (.int p1), .val (.int p2), .val (.int p3), .val (.int p4), .val (.int p5), .val (.int p6), .val (.ref b1), .val (.int nn), .val (.ref b4), .val (.ref b11), .val (.long (0 : Int64)), .second] [(.int nn), (.ref b4), (.ref b1), (.ref b11), (.long (0 : Int64))])) _
    refine XS.iconst X15.here hx rfl (hb hby at_191) ?_
    show Steps p.tables e below (T15.setTop (mkF m 192 #[.val (.int p1), .val (.int p2), .val (.int p3), .val (.int p4), .val (.int p5), .val (.int p6), .val (.ref b1), .val (.int nn), .val (.ref b4), .val (.ref b11), .val (.long (0 : Int64)), .second] [(.int (3 : Int32)), (.int nn), (.ref b4), (.ref b1), (.ref b11), (.long (0 : Int64))])) _
    refine XS.icmpYes X15.here hx rfl (pc0 := 192) (pc' := 199) rfl (hb hby at_192) rfl (flt (hn3 : ¬ ((3 : Int32) < nn))).2.2.2 (by decide) (by decide) ?_
    show Steps p.tables e below (T15.setTop (mkF m 199 #[.val (.int p1), .val (.int p2), .val (.int p3), .val (.int p4), .val (.int p5), .val (.int p6), .val (.ref b1), .val (.int nn), .val (.ref b4), .val (.ref b11), .val (.long (0 : Int64)), .second] [(.ref b4), (.ref b1), (.ref b11), (.long (0 : Int64))])) _
    refine XS.iconst X15.here hx rfl (hb hby at_199) ?_
    show Steps p.tables e below (T15.setTop (mkF m 200 #[.val (.int p1), .val (.int p2), .val (.int p3), .val (.int p4), .val (.int p5), .val (.int p6), .val (.ref b1), .val (.int nn), .val (.ref b4), .val (.ref b11), .val (.long (0 : Int64)), .second] [(.int (0 : Int32)), (.ref b4), (.ref b1), (.ref b11), (.long (0 : Int64))])) _
    refine XS.iloadN X15.here hx rfl (hb hby at_200) rfl ?_
    show Steps p.tables e below (T15.setTop (mkF m 201 #[.val (.int p1), .val (.int p2), .val (.int p3), .val (.int p4), .val (.int p5), .val (.int p6), .val (.ref b1), .val (.int nn), .val (.ref b4), .val (.ref b11), .val (.long (0 : Int64)), .second] [(.int p1), (.int (0 : Int32)), (.ref b4), (.ref b1), (.ref b11), (.long (0 : Int64))])) _
    refine XS.bipush X15.here hx rfl (hb hby at_201) ?_
    show Steps p.tables e below (T15.setTop (mkF m 203 #[.val (.int p1), .val (.int p2), .val (.int p3), .val (.int p4), .val (.int p5), .val (.int p6), .val (.ref b1), .val (.int nn), .val (.ref b4), .val (.ref b11), .val (.long (0 : Int64)), .second] [(.int (15 : Int32)), (.int p1), (.int (0 : Int32)), (.ref b4), (.ref b1), (.ref b11), (.long (0 : Int64))])) _
    refine XS.iushr X15.here hx rfl (hb hby at_203) rfl ?_
    show Steps p.tables e below (T15.setTop (mkF m 204 #[.val (.int p1), .val (.int p2), .val (.int p3), .val (.int p4), .val (.int p5), .val (.int p6), .val (.ref b1), .val (.int nn), .val (.ref b4), .val (.ref b11), .val (.long (0 : Int64)), .second] [(.int ((p1.toUInt32 >>> ((15 : Int32) &&& 31).toUInt32).toInt32)), (.int (0 : Int32)), (.ref b4), (.ref b1), (.ref b11), (.long (0 : Int64))])) _
    refine XS.iconst X15.here hx rfl (hb hby at_204) ?_
    show Steps p.tables e below (T15.setTop (mkF m 205 #[.val (.int p1), .val (.int p2), .val (.int p3), .val (.int p4), .val (.int p5), .val (.int p6), .val (.ref b1), .val (.int nn), .val (.ref b4), .val (.ref b11), .val (.long (0 : Int64)), .second] [(.int (1 : Int32)), (.int ((p1.toUInt32 >>> ((15 : Int32) &&& 31).toUInt32).toInt32)), (.int (0 : Int32)), (.ref b4), (.ref b1), (.ref b11), (.long (0 : Int64))])) _
    refine XS.iand X15.here hx rfl (hb hby at_205) rfl ?_
    show Steps p.tables e below (T15.setTop (mkF m 206 #[.val (.int p1), .val (.int p2), .val (.int p3), .val (.int p4), .val (.int p5), .val (.int p6), .val (.ref b1), .val (.int nn), .val (.ref b4), .val (.ref b11), .val (.long (0 : Int64)), .second] [(.int (((p1.toUInt32 >>> ((15 : Int32) &&& 31).toUInt32).toInt32) &&& (1 : Int32))), (.int (0 : Int32)), (.ref b4), (.ref b1), (.ref b11), (.long (0 : Int64))])) _
    refine castTop (g' := (mkF m 206 #[.val (.int p1), .val (.int p2), .val (.int p3), .val (.int p4), .val (.int p5), .val (.int p6), .val (.ref b1), .val (.int nn), .val (.ref b4), .val (.ref b11), .val (.long (0 : Int64)), .second] [(.int c4), (.int (0 : Int32)), (.ref b4), (.ref b1), (.ref b11), (.long (0 : Int64))])) (by rw [hc4]) ?_
    show Steps p.tables e below (T15.setTop (mkF m 206 #[.val (.int p1), .val (.int p2), .val (.int p3), .val (.int p4), .val (.int p5), .val (.int p6), .val (.ref b1), .val (.int nn), .val (.ref b4), .val (.ref b11), .val (.long (0 : Int64)), .second] [(.int c4), (.int (0 : Int32)), (.ref b4), (.ref b1), (.ref b11), (.long (0 : Int64))])) _
    refine XS.iload X15.here hx rfl (hb hby at_206) rfl ?_
    show Steps p.tables e below (T15.setTop (mkF m 208 #[.val (.int p1), .val (.int p2), .val (.int p3), .val (.int p4), .val (.int p5), .val (.int p6), .val (.ref b1), .val (.int nn), .val (.ref b4), .val (.ref b11), .val (.long (0 : Int64)), .second] [(.int p5), (.int c4), (.int (0 : Int32)), (.ref b4), (.ref b1), (.ref b11), (.long (0 : Int64))])) _
    refine st16 _ ?_
    show Steps p.tables e below (T16.setTop (mkF m 211 #[.val (.int p1), .val (.int p2), .val (.int p3), .val (.int p4), .val (.int p5), .val (.int p6), .val (.ref b1), .val (.int nn), .val (.ref b4), .val (.ref b11), .val (.long (0 : Int64)), .second] [(.long (0 : Int64)), (.long (0 : Int64))])) _
    refine XS.ladd X16.here hx rfl (hb hby at_211) rfl ?_
    show Steps p.tables e below (T16.setTop (mkF m 212 #[.val (.int p1), .val (.int p2), .val (.int p3), .val (.int p4), .val (.int p5), .val (.int p6), .val (.ref b1), .val (.int nn), .val (.ref b4), .val (.ref b11), .val (.long (0 : Int64)), .second] [(.long ((0 : Int64) + (0 : Int64)))])) _
    refine castTop (g' := (mkF m 212 #[.val (.int p1), .val (.int p2), .val (.int p3), .val (.int p4), .val (.int p5), .val (.int p6), .val (.ref b1), .val (.int nn), .val (.ref b4), .val (.ref b11), .val (.long (0 : Int64)), .second] [(.long (0 : Int64))])) (by rw [show ((0 : Int64) + (0 : Int64)) = (0 : Int64) from by decide]) ?_
    show Steps p.tables e below (T16.setTop (mkF m 212 #[.val (.int p1), .val (.int p2), .val (.int p3), .val (.int p4), .val (.int p5), .val (.int p6), .val (.ref b1), .val (.int nn), .val (.ref b4), .val (.ref b11), .val (.long (0 : Int64)), .second] [(.long (0 : Int64))])) _
    refine XS.lstore X16.here hx rfl (hb hby at_212) rfl (l' := #[.val (.int p1), .val (.int p2), .val (.int p3), .val (.int p4), .val (.int p5), .val (.int p6), .val (.ref b1), .val (.int nn), .val (.ref b4), .val (.ref b11), .val (.long (0 : Int64)), .second]) rfl ?_
    show Steps p.tables e below (T16.setTop (mkF m 214 #[.val (.int p1), .val (.int p2), .val (.int p3), .val (.int p4), .val (.int p5), .val (.int p6), .val (.ref b1), .val (.int nn), .val (.ref b4), .val (.ref b11), .val (.long (0 : Int64)), .second] [])) _
    refine XS.aload X16.here hx rfl (hb hby at_214) rfl rfl ?_
    show Steps p.tables e below (T16.setTop (mkF m 216 #[.val (.int p1), .val (.int p2), .val (.int p3), .val (.int p4), .val (.int p5), .val (.int p6), .val (.ref b1), .val (.int nn), .val (.ref b4), .val (.ref b11), .val (.long (0 : Int64)), .second] [(.ref b11)])) _
    refine XS.aload X16.here hx rfl (hb hby at_216) rfl rfl ?_
    show Steps p.tables e below (T16.setTop (mkF m 218 #[.val (.int p1), .val (.int p2), .val (.int p3), .val (.int p4), .val (.int p5), .val (.int p6), .val (.ref b1), .val (.int nn), .val (.ref b4), .val (.ref b11), .val (.long (0 : Int64)), .second] [(.ref b4), (.ref b11)])) _
    refine st17.trans ?_
    show Steps p.tables e below (T17.setTop (mkF m 221 #[.val (.int p1), .val (.int p2), .val (.int p3), .val (.int p4), .val (.int p5), .val (.int p6), .val (.ref b1), .val (.int nn), .val (.ref b4), .val (.ref b11), .val (.long (0 : Int64)), .second] [(.long (own_cb u1 (2147483647 : Int32) own_zero (own_cb u0 (2147483647 : Int32) own_zero (0 : Int64))))])) _
    refine XS.lload X17.here hx rfl (hb hby at_221) rfl ?_
    show Steps p.tables e below (T17.setTop (mkF m 223 #[.val (.int p1), .val (.int p2), .val (.int p3), .val (.int p4), .val (.int p5), .val (.int p6), .val (.ref b1), .val (.int nn), .val (.ref b4), .val (.ref b11), .val (.long (0 : Int64)), .second] [(.long (0 : Int64)), (.long (own_cb u1 (2147483647 : Int32) own_zero (own_cb u0 (2147483647 : Int32) own_zero (0 : Int64))))])) _
    refine XS.lcmp X17.here hx rfl (hb hby at_223) rfl ?_
    show Steps p.tables e below (T17.setTop (mkF m 224 #[.val (.int p1), .val (.int p2), .val (.int p3), .val (.int p4), .val (.int p5), .val (.int p6), .val (.ref b1), .val (.int nn), .val (.ref b4), .val (.ref b11), .val (.long (0 : Int64)), .second] [(.int (lcmpW (own_cb u1 (2147483647 : Int32) own_zero (own_cb u0 (2147483647 : Int32) own_zero (0 : Int64))) (0 : Int64)))])) _
    refine castTop (g' := (mkF m 224 #[.val (.int p1), .val (.int p2), .val (.int p3), .val (.int p4), .val (.int p5), .val (.int p6), .val (.ref b1), .val (.int nn), .val (.ref b4), .val (.ref b11), .val (.long (0 : Int64)), .second] [(.int (0 : Int32))])) (by rw [hfin]) ?_
    show Steps p.tables e below (T17.setTop (mkF m 224 #[.val (.int p1), .val (.int p2), .val (.int p3), .val (.int p4), .val (.int p5), .val (.int p6), .val (.ref b1), .val (.int nn), .val (.ref b4), .val (.ref b11), .val (.long (0 : Int64)), .second] [(.int (0 : Int32))])) _
    refine XS.ifNo X17.here hx rfl (hb hby at_224) rfl (by decide) ?_
    show Steps p.tables e below (T17.setTop (mkF m 227 #[.val (.int p1), .val (.int p2), .val (.int p3), .val (.int p4), .val (.int p5), .val (.int p6), .val (.ref b1), .val (.int nn), .val (.ref b4), .val (.ref b11), .val (.long (0 : Int64)), .second] [])) _
    refine XS.iconst X17.here hx rfl (hb hby at_227) ?_
    show Steps p.tables e below (T17.setTop (mkF m 228 #[.val (.int p1), .val (.int p2), .val (.int p3), .val (.int p4), .val (.int p5), .val (.int p6), .val (.ref b1), .val (.int nn), .val (.ref b4), .val (.ref b11), .val (.long (0 : Int64)), .second] [(.int (1 : Int32))])) _
    refine XS.goto X17.here hx rfl (pc0 := 228) (pc' := 232) rfl (hb hby at_228) (by decide) (by decide) ?_
    show Steps p.tables e below (T17.setTop (mkF m 232 #[.val (.int p1), .val (.int p2), .val (.int p3), .val (.int p4), .val (.int p5), .val (.int p6), .val (.ref b1), .val (.int nn), .val (.ref b4), .val (.ref b11), .val (.long (0 : Int64)), .second] [(.int (1 : Int32))])) _
    exact retN X17 hx (t := .boolean) Bd.returns (by simp) (hb hby at_232) hr
  · exact ⟨rfl, N17⟩
set_option maxRecDepth 65536 in
set_option maxHeartbeats 40000000 in
theorem own_law_1 (l : Launch) (Z : State) (a0 : Array Value) (hw : ∀ d ∈ tables_1, d.before a0 Z = true) (ws : List Jvm.Cond) (h0 : Heap) (n0 : Nat) (O0 : Old Z n0 h0) (p1 : Int32) (p2 : Int32) (p3 : Int32) (p4 : Int32) (p5 : Int32) (p6 : Int32) (q0 : Int32) (q1 : Int32) (nn : Int32) (c1 : Int32) (c2 : Int32) (c3 : Int32) (c4 : Int32) (r1 : Int32) (r2 : Int32) (r3 : Int32) (r4 : Int32) (u0 : Int32) (u1 : Int32) (hq0 : (p1 &&& (15 : Int32)) = q0) (hq1 : (((p1.toUInt32 >>> ((4 : Int32) &&& 31).toUInt32).toInt32) &&& (15 : Int32)) = q1) (hnn : (((p1.toUInt32 >>> ((8 : Int32) &&& 31).toUInt32).toInt32) &&& (7 : Int32)) = nn) (hn0 : (0 : Int32) < nn) (hn1 : ¬ ((1 : Int32) < nn)) (hn2 : ¬ ((2 : Int32) < nn)) (hn3 : ¬ ((3 : Int32) < nn)) (hc1 : (((p1.toUInt32 >>> ((12 : Int32) &&& 31).toUInt32).toInt32) &&& (1 : Int32)) = c1) (hc2 : (((p1.toUInt32 >>> ((13 : Int32) &&& 31).toUInt32).toInt32) &&& (1 : Int32)) = c2) (hc3 : (((p1.toUInt32 >>> ((14 : Int32) &&& 31).toUInt32).toInt32) &&& (1 : Int32)) = c3) (hc4 : (((p1.toUInt32 >>> ((15 : Int32) &&& 31).toUInt32).toInt32) &&& (1 : Int32)) = c4) (hb0 : ((p6 &&& (65535 : Int32)) % (q0 + (1 : Int32))) = u0) (hb1 : ((((p6.toUInt32 >>> ((16 : Int32) &&& 31).toUInt32).toInt32) &&& (65535 : Int32)) % (q1 + (1 : Int32))) = u1) (nn0 : ¬ ((q0 + (1 : Int32)) < (0 : Int32))) (mz0 : ¬ ((q0 + (1 : Int32)) = (0 : Int32))) (cp0 : (q0 + (1 : Int32)).toNatClampNeg ≤ 17) (dk0 : own_dnOk (q0 + (1 : Int32)) 6 u0 = true) (nn1 : ¬ ((q1 + (1 : Int32)) < (0 : Int32))) (mz1 : ¬ ((q1 + (1 : Int32)) = (0 : Int32))) (cp1 : (q1 + (1 : Int32)).toNatClampNeg ≤ 17) (dk1 : own_dnOk (q1 + (1 : Int32)) 6 u1 = true) (h011 : own_01 c1) (hr1 : (own_sel c1 q0 q1) = (0 : Int32) ∨ ((p2 &&& (2147483647 : Int32)) % (own_sel c1 q0 q1)) = r1) (uk1 : (own_sel c1 q0 q1) = (0 : Int32) ∨ own_upOk (own_sel c1 (q0 + (1 : Int32)) (q1 + (1 : Int32))) 6 (r1 + (1 : Int32)) = true) (h012 : own_01 c2) (hr2 : (own_sel c2 q0 q1) = (0 : Int32) ∨ ((p3 &&& (2147483647 : Int32)) % (own_sel c2 q0 q1)) = r2) (uk2 : (own_sel c2 q0 q1) = (0 : Int32) ∨ own_upOk (own_sel c2 (q0 + (1 : Int32)) (q1 + (1 : Int32))) 6 (r2 + (1 : Int32)) = true) (h013 : own_01 c3) (hr3 : (own_sel c3 q0 q1) = (0 : Int32) ∨ ((p4 &&& (2147483647 : Int32)) % (own_sel c3 q0 q1)) = r3) (uk3 : (own_sel c3 q0 q1) = (0 : Int32) ∨ own_upOk (own_sel c3 (q0 + (1 : Int32)) (q1 + (1 : Int32))) 6 (r3 + (1 : Int32)) = true) (h014 : own_01 c4) (hr4 : (own_sel c4 q0 q1) = (0 : Int32) ∨ ((p5 &&& (2147483647 : Int32)) % (own_sel c4 q0 q1)) = r4) (uk4 : (own_sel c4 q0 q1) = (0 : Int32) ∨ own_upOk (own_sel c4 (q0 + (1 : Int32)) (q1 + (1 : Int32))) 6 (r4 + (1 : Int32)) = true) (hfin : (lcmpW (own_cb u1 (own_gx1 (own_sel c1 q0 q1) c1 r1 (2147483647 : Int32)) (own_gf1 (own_sel c1 q0 q1) c1 (q1 + (1 : Int32)) r1 own_zero) (own_cb u0 (own_gx0 (own_sel c1 q0 q1) c1 r1 (2147483647 : Int32)) (own_gf0 (own_sel c1 q0 q1) c1 (q0 + (1 : Int32)) r1 own_zero) (0 : Int64))) (((((0 : Int64) + (own_glt (own_sel c1 q0 q1) r1 (own_sel c1 u0 u1))) + (0 : Int64)) + (0 : Int64)) + (0 : Int64))) = (0 : Int32)) :
    MetFree l x (head1 (Jvm.Cond.code x code maxLocals ret :: ws) room_1) (fun a U => a = #[(.int p1), (.int p2), (.int p3), (.int p4), (.int p5), (.int p6)] ∧ Z.Warmed39 U.vm ∧ U.heap = h0) (fun _ _ _ _ _ => True) (fun _ U o U' => ∃ v L, o = .returned v ∧ (v = some (.int 1) ∧ Fr n0 L) ∧ FrameEnd U o U' L room_1.cells room_1.slots) := by
  refine MetFree.of_bodySF (plainFor_of_name own_pn_4) hisR ?_
  intro p e s m args below meth c s₁ Bd hml0 hP hK
  obtain ⟨rfl, hZ, hh⟩ := hP
  have hx := Bd.exec
  have hby := Bd.bytes
  have hml : c.maxLocals = 12 := hml0
  have hown : s.vm.findClass "com/example/sober_broadcast/soberbroadcast/cli/PositionCountsCountBelowPinLaw" = some m.cls := findClass_of_methodNamed Bd.named
  have hnm := (name_of_methodNamed Bd.named Bd.method).1
  have X0 : Stand p l e room_1 s m #[(.int p1), (.int p2), (.int p3), (.int p4), (.int p5), (.int p6)] below meth c s₁ [] 0 0 := Stand.of_body Bd
  have e0 : s₁.heap = h0 := by rw [← hh, Bd.state]; rfl
  have N0 := Fr.nil n0
  have pre0 : ∀ t, Steps p.tables e below (s₁.setTop (mkF m 0 #[.val (.int p1), .val (.int p2), .val (.int p3), .val (.int p4), .val (.int p5), .val (.int p6), .unset, .unset, .unset, .unset, .unset, .unset] [])) t → Steps p.tables e below (s₁.setTop (entryFrame m #[(.int p1), (.int p2), (.int p3), (.int p4), (.int p5), (.int p6)] maxLocals)) t := fun t k => castTop (own_ef_0_IIIIII m p1 p2 p3 p4 p5 p6) k
  obtain ⟨T1, h1, k1, X1, e1, E1, A1, Ea1, st1⟩ := newPE X0 hx hZ (hw _ (List.mem_of_getElem? (i := 0) rfl)) e0 (g := (mkF m 1 #[.val (.int p1), .val (.int p2), .val (.int p3), .val (.int p4), .val (.int p5), .val (.int p6), .unset, .unset, .unset, .unset, .unset, .unset] [(.int (2 : Int32))])) rfl (hb hby at_1) rfl (by decide) (cap := 2) (by decide) (by decide) (by decide) (by decide) (ad := "[I") (by decide)
  obtain ⟨b1, g1⟩ : ∃ z, z = h0.size := ⟨_, rfl⟩
  rw [← g1] at A1 Ea1 st1
  have ge_b1 : n0 ≤ b1 := own_new O0 g1
  have sz_b1 : h0.size ≤ b1 := Nat.le_trans (Keep.refl h0 []).1 (Nat.le_of_eq g1.symm)
  have O1 := O0.ext E1
  have K1 := (Keep.refl h0 []).ext E1
  have V1 : Arv Z h1 b1 k1 .int (2 : Int32) [(.int (0 : Int32)), (.int (0 : Int32))] (.int (0 : Int32)) := (Arv.new A1 (by decide)).pad (pad_rep [] (.int (0 : Int32)) 2)
  obtain ⟨cl2, Ar2, qk2, Sz2, Nn2, Hs2, Gs2⟩ := id (V1)
  have hin2 : ¬ ((0 : Int32) < 0 ∨ cl2.slots.size ≤ ((0 : Int32)).toNatClampNeg) := inb_of Sz2 ⟨by decide, by decide⟩
  obtain ⟨T2, h2, X2, e2, W2, st2⟩ := stI X1 hx hZ e1 Ar2 (j := (0 : Int32)) hin2 (g := (mkF m 12 #[.val (.int p1), .val (.int p2), .val (.int p3), .val (.int p4), .val (.int p5), .val (.int p6), .val (.ref b1), .unset, .unset, .unset, .unset, .unset] [(.int q0), (.int (0 : Int32)), (.ref b1)])) rfl rfl (hb hby at_12)
  have V2 := Arv.set Ar2 qk2 Sz2 Nn2 Hs2 Gs2 rfl W2 0 rfl (Nat.le_of_ble_eq_true rfl)
  have f2_E_b1 := Ea1.wr W2
  have O2 := O1.wr W2 ge_b1
  have K2 := K1.wr W2 (Or.inr sz_b1)
  have N2 := Fr.snoc X2 N0 ge_b1
  obtain ⟨cl3, Ar3, qk3, Sz3, Nn3, Hs3, Gs3⟩ := id (V2)
  have hin3 : ¬ ((1 : Int32) < 0 ∨ cl3.slots.size ≤ ((1 : Int32)).toNatClampNeg) := inb_of Sz3 ⟨by decide, by decide⟩
  obtain ⟨T3, h3, X3, e3, W3, st3⟩ := stI X2 hx hZ e2 Ar3 (j := (1 : Int32)) hin3 (g := (mkF m 22 #[.val (.int p1), .val (.int p2), .val (.int p3), .val (.int p4), .val (.int p5), .val (.int p6), .val (.ref b1), .unset, .unset, .unset, .unset, .unset] [(.int q1), (.int (1 : Int32)), (.ref b1)])) rfl rfl (hb hby at_22)
  have V3 := Arv.set Ar3 qk3 Sz3 Nn3 Hs3 Gs3 rfl W3 1 rfl (Nat.le_of_ble_eq_true rfl)
  have f3_E_b1 := f2_E_b1.wr W3
  have O3 := O2.wr W3 ge_b1
  have K3 := K2.wr W3 (Or.inr sz_b1)
  have N3 := Fr.snoc X3 N2 ge_b1
  obtain ⟨T4, h4, k4, X4, e4, E4, A4, Ea4, st4⟩ := newPE X3 hx hZ (hw _ (List.mem_of_getElem? (i := 0) rfl)) e3 (g := (mkF m 33 #[.val (.int p1), .val (.int p2), .val (.int p3), .val (.int p4), .val (.int p5), .val (.int p6), .val (.ref b1), .val (.int nn), .unset, .unset, .unset, .unset] [(.int (2 : Int32))])) rfl (hb hby at_33) rfl (by decide) (cap := 2) (by decide) (by decide) (by decide) (by decide) (ad := "[I") (by decide)
  obtain ⟨b4, g4⟩ : ∃ z, z = h3.size := ⟨_, rfl⟩
  rw [← g4] at A4 Ea4 st4
  have ne_b1_b4 : b1 ≠ b4 := Nat.ne_of_lt (Nat.lt_of_lt_of_le f3_E_b1.lt (Nat.le_of_eq g4.symm))
  have ge_b4 : n0 ≤ b4 := own_new O3 g4
  have sz_b4 : h0.size ≤ b4 := Nat.le_trans K3.1 (Nat.le_of_eq g4.symm)
  have f4_E_b1 := f3_E_b1.ext E4
  have f4_V_b1 := V3.ext E4
  have O4 := O3.ext E4
  have K4 := K3.ext E4
  have V4 : Arv Z h4 b4 k4 .int (2 : Int32) [(.int (0 : Int32)), (.int (0 : Int32))] (.int (0 : Int32)) := (Arv.new A4 (by decide)).pad (pad_rep [] (.int (0 : Int32)) 2)
  obtain ⟨cl5, Ar5, qk5, Sz5, Nn5, Hs5, Gs5⟩ := id (f4_V_b1)
  have hin6 : ¬ ((0 : Int32) < 0 ∨ cl5.slots.size ≤ ((0 : Int32)).toNatClampNeg) := inb_of Sz5 ⟨by decide, by decide⟩
  have hat6 : cl5.slots[((0 : Int32)).toNatClampNeg]? = some (.int q0) := Hs5.at hin6 rfl
  obtain ⟨cl7, Ar7, qk7, Sz7, Nn7, Hs7, Gs7⟩ := id (V4)
  have hin7 : ¬ ((0 : Int32) < 0 ∨ cl7.slots.size ≤ ((0 : Int32)).toNatClampNeg) := inb_of Sz7 ⟨by decide, by decide⟩
  obtain ⟨T7, h7, X7, e7, W7, st7⟩ := stI X4 hx hZ e4 Ar7 (j := (0 : Int32)) hin7 (g := (mkF m 52 #[.val (.int p1), .val (.int p2), .val (.int p3), .val (.int p4), .val (.int p5), .val (.int p6), .val (.ref b1), .val (.int nn), .val (.ref b4), .unset, .unset, .unset] [(.int u0), (.int (0 : Int32)), (.ref b4)])) rfl rfl (hb hby at_52)
  have V7 := Arv.set Ar7 qk7 Sz7 Nn7 Hs7 Gs7 rfl W7 0 rfl (Nat.le_of_ble_eq_true rfl)
  have f7_E_b1 := f4_E_b1.wr W7
  have f7_V_b1 := f4_V_b1.other W7 ne_b1_b4
  have f7_E_b4 := Ea4.wr W7
  have O7 := O4.wr W7 ge_b4
  have K7 := K4.wr W7 (Or.inr sz_b4)
  have N7 := Fr.snoc X7 N3 ge_b4
  obtain ⟨cl8, Ar8, qk8, Sz8, Nn8, Hs8, Gs8⟩ := id (f7_V_b1)
  have hin9 : ¬ ((1 : Int32) < 0 ∨ cl8.slots.size ≤ ((1 : Int32)).toNatClampNeg) := inb_of Sz8 ⟨by decide, by decide⟩
  have hat9 : cl8.slots[((1 : Int32)).toNatClampNeg]? = some (.int q1) := Hs8.at hin9 rfl
  obtain ⟨cl10, Ar10, qk10, Sz10, Nn10, Hs10, Gs10⟩ := id (V7)
  have hin10 : ¬ ((1 : Int32) < 0 ∨ cl10.slots.size ≤ ((1 : Int32)).toNatClampNeg) := inb_of Sz10 ⟨by decide, by decide⟩
  obtain ⟨T10, h10, X10, e10, W10, st10⟩ := stI X7 hx hZ e7 Ar10 (j := (1 : Int32)) hin10 (g := (mkF m 71 #[.val (.int p1), .val (.int p2), .val (.int p3), .val (.int p4), .val (.int p5), .val (.int p6), .val (.ref b1), .val (.int nn), .val (.ref b4), .unset, .unset, .unset] [(.int u1), (.int (1 : Int32)), (.ref b4)])) rfl rfl (hb hby at_71)
  have V10 := Arv.set Ar10 qk10 Sz10 Nn10 Hs10 Gs10 rfl W10 1 rfl (Nat.le_of_ble_eq_true rfl)
  have f10_E_b1 := f7_E_b1.wr W10
  have f10_V_b1 := f7_V_b1.other W10 ne_b1_b4
  have f10_E_b4 := f7_E_b4.wr W10
  have O10 := O7.wr W10 ge_b4
  have K10 := K7.wr W10 (Or.inr sz_b4)
  have N10 := Fr.snoc X10 N7 ge_b4
  obtain ⟨T11, h11, X11, e11, E11, A11, D11, -, st11⟩ := newO X10 hx hZ hown (hw _ (List.mem_of_getElem? (i := 2) rfl)) (hw _ (List.mem_of_getElem? (i := 3) rfl)) (hw _ (List.mem_of_getElem? (i := 4) rfl)) e10 (g := (mkF m 72 #[.val (.int p1), .val (.int p2), .val (.int p3), .val (.int p4), .val (.int p5), .val (.int p6), .val (.ref b1), .val (.int nn), .val (.ref b4), .unset, .unset, .unset] [])) rfl (hb hby at_72) (by decide) (by decide)
  obtain ⟨b11, g11⟩ : ∃ z, z = h10.size := ⟨_, rfl⟩
  rw [← g11] at A11 D11 st11
  have ne_b1_b11 : b1 ≠ b11 := Nat.ne_of_lt (Nat.lt_of_lt_of_le f10_E_b1.lt (Nat.le_of_eq g11.symm))
  have ne_b4_b11 : b4 ≠ b11 := Nat.ne_of_lt (Nat.lt_of_lt_of_le f10_E_b4.lt (Nat.le_of_eq g11.symm))
  have ge_b11 : n0 ≤ b11 := own_new O10 g11
  have sz_b11 : h0.size ≤ b11 := Nat.le_trans K10.1 (Nat.le_of_eq g11.symm)
  have f11_E_b1 := f10_E_b1.ext E11
  have f11_V_b1 := f10_V_b1.ext E11
  have f11_E_b4 := f10_E_b4.ext E11
  have f11_V_b4 := V10.ext E11
  have O11 := O10.ext E11
  have K11 := K10.ext E11
  have F11_trees : Fld Z h11 b11 "com/example/sober_broadcast/soberbroadcast/cli/PositionCounts" "trees" "[[I" .null := D11 (Or.inr (hw _ (List.mem_of_getElem? (i := 14) rfl))) (ty := (.array (.array .int))) (by decide)
  have F11_lowest : Fld Z h11 b11 "com/example/sober_broadcast/soberbroadcast/cli/PositionCounts" "lowest" "[I" .null := D11 (Or.inr (hw _ (List.mem_of_getElem? (i := 17) rfl))) (ty := (.array .int)) (by decide)
  obtain ⟨_, _, ⟨T12, L12, k12, n12⟩, -, X12, ⟨Lc12, hQ12, l12, y12, z12⟩, st12⟩ := X11.specialBack hx (y := (⟨"com/example/sober_broadcast/soberbroadcast/cli/PositionCounts", "<init>", "([I)V"⟩ : MethodName)) rfl hown (mvT hZ (hw _ (List.mem_of_getElem? (i := 5) rfl))) (mvT hZ (hw _ (List.mem_of_getElem? (i := 6) rfl))) (mvT hZ (hw _ (List.mem_of_getElem? (i := 7) rfl))) (by decide) (backOf (W := 1) (own_init_0 l Z a0 hw [] h11 n0 O11 b11 b1 k1 q0 q1 nn0 mz0 cp0 nn1 mz1 cp1 (Ne.symm ne_b1_b11) ge_b11 ge_b1 A11 F11_trees F11_lowest f11_E_b1 f11_V_b1) hZ (hw _ (List.mem_of_getElem? (i := 7) rfl)) (hw _ (List.mem_of_getElem? (i := 4) rfl)) (by decide) (by decide)) (g := (mkF m 78 #[.val (.int p1), .val (.int p2), .val (.int p3), .val (.int p4), .val (.int p5), .val (.int p6), .val (.ref b1), .val (.int nn), .val (.ref b4), .unset, .unset, .unset] [(.ref b1), (.ref b11), (.ref b11)])) rfl (by rw [hml]; rfl) (Steps.refl _) (a := b11) (argsL := [(.ref b1)]) (rest := [(.ref b11)]) (lenOf own_pd_3 rfl) rfl (by show 2 * 0 + _ ≤ _; exact Nat.le_of_eq rfl) (hb hby at_78) (fun _ _ => ⟨rfl, e11, (by decide : 3 + 4 ≤ _), (by decide : 6 + 38 ≤ _)⟩)
  dsimp only [Pt.U, Pt.locs, Pt.cells, Pt.slots] at X12 l12 y12 z12 st12 hQ12
  subst l12 y12 z12
  obtain ⟨b3_12, b16_12, b8_12, b13_12, k3_12, k16_12, rfl, N12q, Kq12, ge_b3_12, ge_b16_12, ge_b8_12, ge_b13_12, sq_b3_12, sq_b16_12, sq_b8_12, sq_b13_12, ne_b3_12_b16_12, ne_b3_12_b8_12, ne_b3_12_b13_12, ne_b16_12_b8_12, ne_b16_12_b13_12, ne_b8_12_b13_12, q12_E_o1, q12_F_o1_trees, q12_F_o1_lowest, q12_E_b3, q12_E_b8, q12_A_b8, q12_E_b13, q12_A_b13, q12_V_b3, q12_E_b16, q12_V_b16, Ov_b3_12⟩ := hQ12
  have N12 := Fr.app N10 N12q
  have ne_b1_b3_12 : b1 ≠ b3_12 := Nat.ne_of_lt (Nat.lt_of_lt_of_le f11_E_b1.lt sq_b3_12)
  have ne_b11_b3_12 : b11 ≠ b3_12 := Nat.ne_of_lt (Nat.lt_of_lt_of_le A11.lt sq_b3_12)
  have ne_b4_b3_12 : b4 ≠ b3_12 := Nat.ne_of_lt (Nat.lt_of_lt_of_le f11_E_b4.lt sq_b3_12)
  have ne_b1_b16_12 : b1 ≠ b16_12 := Nat.ne_of_lt (Nat.lt_of_lt_of_le f11_E_b1.lt sq_b16_12)
  have ne_b11_b16_12 : b11 ≠ b16_12 := Nat.ne_of_lt (Nat.lt_of_lt_of_le A11.lt sq_b16_12)
  have ne_b4_b16_12 : b4 ≠ b16_12 := Nat.ne_of_lt (Nat.lt_of_lt_of_le f11_E_b4.lt sq_b16_12)
  have ne_b1_b8_12 : b1 ≠ b8_12 := Nat.ne_of_lt (Nat.lt_of_lt_of_le f11_E_b1.lt sq_b8_12)
  have ne_b11_b8_12 : b11 ≠ b8_12 := Nat.ne_of_lt (Nat.lt_of_lt_of_le A11.lt sq_b8_12)
  have ne_b4_b8_12 : b4 ≠ b8_12 := Nat.ne_of_lt (Nat.lt_of_lt_of_le f11_E_b4.lt sq_b8_12)
  have ne_b1_b13_12 : b1 ≠ b13_12 := Nat.ne_of_lt (Nat.lt_of_lt_of_le f11_E_b1.lt sq_b13_12)
  have ne_b11_b13_12 : b11 ≠ b13_12 := Nat.ne_of_lt (Nat.lt_of_lt_of_le A11.lt sq_b13_12)
  have ne_b4_b13_12 : b4 ≠ b13_12 := Nat.ne_of_lt (Nat.lt_of_lt_of_le f11_E_b4.lt sq_b13_12)
  have sz_b3_12 : h0.size ≤ b3_12 := Nat.le_trans K11.1 sq_b3_12
  have sz_b16_12 : h0.size ≤ b16_12 := Nat.le_trans K11.1 sq_b16_12
  have sz_b8_12 : h0.size ≤ b8_12 := Nat.le_trans K11.1 sq_b8_12
  have sz_b13_12 : h0.size ≤ b13_12 := Nat.le_trans K11.1 sq_b13_12
  have f12_E_b1 := f11_E_b1.keep Kq12
  have f12_V_b1 := f11_V_b1.keep Kq12 (ninS ne_b1_b11 nin0)
  have f12_E_b4 := f11_E_b4.keep Kq12
  have f12_V_b4 := f11_V_b4.keep Kq12 (ninS ne_b4_b11 nin0)
  have f12_E_b11 := A11.keep Kq12
  have O12 := O11.keep Kq12 (allS ge_b11 all0)
  have K12 := K11.trans Kq12 (allS (Or.inr sz_b11) all0)
  obtain ⟨_, _, ⟨T13, L13, k13, n13⟩, -, X13, ⟨Lc13, hQ13, l13, y13, z13⟩, st13⟩ := Jvm.LawKit.callS X12 hx (y := (⟨"com/example/sober_broadcast/soberbroadcast/cli/PositionCountsCountBelowPinLaw", "markOne", "(Lcom/example/sober_broadcast/soberbroadcast/cli/PositionCounts;[I[IZII)J"⟩ : MethodName)) hown (mvT hZ (hw _ (List.mem_of_getElem? (i := 23) rfl))) (mvT hZ (hw _ (List.mem_of_getElem? (i := 24) rfl))) (mvT hZ (hw _ (List.mem_of_getElem? (i := 25) rfl))) (mvT hZ (hw _ (List.mem_of_getElem? (i := 26) rfl))) (by decide) (backOf (W := 2) (own_moC l Z a0 hw [] T12.heap n0 O12 b11 b3_12 b16_12 b8_12 b13_12 k3_12 k16_12 (2147483647 : Int32) (2147483647 : Int32) (q0 + (1 : Int32)) (q1 + (1 : Int32)) own_zero own_zero b1 b4 k1 k4 q0 q1 u0 u1 p2 r1 c1 ne_b11_b3_12 ne_b11_b16_12 ne_b11_b8_12 ne_b11_b13_12 ne_b3_12_b16_12 ne_b3_12_b8_12 ne_b3_12_b13_12 ne_b16_12_b8_12 ne_b16_12_b13_12 ne_b8_12_b13_12 ne_b1_b16_12 ne_b1_b8_12 ne_b1_b13_12 ne_b4_b16_12 ne_b4_b8_12 ne_b4_b13_12 ge_b16_12 ge_b8_12 ge_b13_12 h011 hr1 uk1 q12_E_o1 q12_F_o1_trees q12_F_o1_lowest q12_V_b3 q12_V_b16 q12_A_b8 q12_A_b13 f12_V_b1 f12_V_b4) hZ (hw _ (List.mem_of_getElem? (i := 26) rfl)) (hw _ (List.mem_of_getElem? (i := 25) rfl)) (by decide) (by decide)) (g := (mkF m 111 #[.val (.int p1), .val (.int p2), .val (.int p3), .val (.int p4), .val (.int p5), .val (.int p6), .val (.ref b1), .val (.int nn), .val (.ref b4), .val (.ref b11), .val (.long (0 : Int64)), .second] [(.int p2), (.int c1), (.int (1 : Int32)), (.ref b4), (.ref b1), (.ref b11), (.long (0 : Int64))])) rfl (by rw [hml]; rfl) (argsL := [(.ref b11), (.ref b1), (.ref b4), (.int (1 : Int32)), (.int c1), (.int p2)]) (rest := [(.long (0 : Int64))]) (lenOf own_pd_4 rfl) rfl (by show 2 * 0 + _ ≤ _; exact Nat.le_of_eq rfl) (hb hby at_111) (fun _ _ => ⟨rfl, rfl, (by decide : 7 + 0 ≤ _), (by decide : 44 + 0 ≤ _)⟩)
  dsimp only [Pt.U, Pt.locs, Pt.cells, Pt.slots] at X13 l13 y13 z13 st13 hQ13
  subst l13 y13 z13
  obtain ⟨rfl, N13q, Kq13, q13_V_tL, q13_A_t0, q13_A_t1⟩ := hQ13
  have N13 := Fr.app N12 N13q
  have f13_E_b1 := f12_E_b1.keep Kq13
  have f13_V_b1 := f12_V_b1.keep Kq13 (ninS ne_b1_b16_12 (ninS ne_b1_b8_12 (ninS ne_b1_b13_12 nin0)))
  have f13_E_b4 := f12_E_b4.keep Kq13
  have f13_V_b4 := f12_V_b4.keep Kq13 (ninS ne_b4_b16_12 (ninS ne_b4_b8_12 (ninS ne_b4_b13_12 nin0)))
  have f13_E_b11 := q12_E_o1.keep Kq13
  have f13_F_b11_trees := q12_F_o1_trees.keep Kq13 (ninS ne_b11_b16_12 (ninS ne_b11_b8_12 (ninS ne_b11_b13_12 nin0)))
  have f13_F_b11_lowest := q12_F_o1_lowest.keep Kq13 (ninS ne_b11_b16_12 (ninS ne_b11_b8_12 (ninS ne_b11_b13_12 nin0)))
  have f13_E_b3_12 := q12_E_b3.keep Kq13
  have f13_E_b8_12 := q12_E_b8.keep Kq13
  have f13_E_b13_12 := q12_E_b13.keep Kq13
  have f13_V_b3_12 := q12_V_b3.keep Kq13 (ninS ne_b3_12_b16_12 (ninS ne_b3_12_b8_12 (ninS ne_b3_12_b13_12 nin0)))
  have f13_E_b16_12 := q12_E_b16.keep Kq13
  have O13 := O12.keep Kq13 (allS ge_b16_12 (allS ge_b8_12 (allS ge_b13_12 all0)))
  have K13 := K12.trans Kq13 (allS (Or.inr sz_b16_12) (allS (Or.inr sz_b8_12) (allS (Or.inr sz_b13_12) all0)))
  obtain ⟨_, _, ⟨T14, L14, k14, n14⟩, -, X14, ⟨Lc14, hQ14, l14, y14, z14⟩, st14⟩ := Jvm.LawKit.callS X13 hx (y := (⟨"com/example/sober_broadcast/soberbroadcast/cli/PositionCountsCountBelowPinLaw", "markOne", "(Lcom/example/sober_broadcast/soberbroadcast/cli/PositionCounts;[I[IZII)J"⟩ : MethodName)) hown (mvT hZ (hw _ (List.mem_of_getElem? (i := 23) rfl))) (mvT hZ (hw _ (List.mem_of_getElem? (i := 24) rfl))) (mvT hZ (hw _ (List.mem_of_getElem? (i := 25) rfl))) (mvT hZ (hw _ (List.mem_of_getElem? (i := 26) rfl))) (by decide) (backOf (W := 2) (own_mo_off l Z a0 hw [] T13.heap n0 O13 b11 b1 b4 c2 p3) hZ (hw _ (List.mem_of_getElem? (i := 26) rfl)) (hw _ (List.mem_of_getElem? (i := 25) rfl)) (by decide) (by decide)) (g := (mkF m 143 #[.val (.int p1), .val (.int p2), .val (.int p3), .val (.int p4), .val (.int p5), .val (.int p6), .val (.ref b1), .val (.int nn), .val (.ref b4), .val (.ref b11), .val (.long ((0 : Int64) + (own_glt (own_sel c1 q0 q1) r1 (own_sel c1 u0 u1)))), .second] [(.int p3), (.int c2), (.int (0 : Int32)), (.ref b4), (.ref b1), (.ref b11), (.long ((0 : Int64) + (own_glt (own_sel c1 q0 q1) r1 (own_sel c1 u0 u1))))])) rfl (by rw [hml]; rfl) (argsL := [(.ref b11), (.ref b1), (.ref b4), (.int (0 : Int32)), (.int c2), (.int p3)]) (rest := [(.long ((0 : Int64) + (own_glt (own_sel c1 q0 q1) r1 (own_sel c1 u0 u1))))]) (lenOf own_pd_4 rfl) rfl (by show 2 * 0 + _ ≤ _; exact Nat.le_of_eq rfl) (hb hby at_143) (fun _ _ => ⟨rfl, rfl, (by decide : 7 + 0 ≤ _), (by decide : 44 + 0 ≤ _)⟩)
  dsimp only [Pt.U, Pt.locs, Pt.cells, Pt.slots] at X14 l14 y14 z14 st14 hQ14
  subst l14 y14 z14
  obtain ⟨rfl, N14q, e14⟩ := hQ14
  have N14 := Fr.app N13 N14q
  obtain ⟨_, _, ⟨T15, L15, k15, n15⟩, -, X15, ⟨Lc15, hQ15, l15, y15, z15⟩, st15⟩ := Jvm.LawKit.callS X14 hx (y := (⟨"com/example/sober_broadcast/soberbroadcast/cli/PositionCountsCountBelowPinLaw", "markOne", "(Lcom/example/sober_broadcast/soberbroadcast/cli/PositionCounts;[I[IZII)J"⟩ : MethodName)) hown (mvT hZ (hw _ (List.mem_of_getElem? (i := 23) rfl))) (mvT hZ (hw _ (List.mem_of_getElem? (i := 24) rfl))) (mvT hZ (hw _ (List.mem_of_getElem? (i := 25) rfl))) (mvT hZ (hw _ (List.mem_of_getElem? (i := 26) rfl))) (by decide) (backOf (W := 2) (own_mo_off l Z a0 hw [] T13.heap n0 O13 b11 b1 b4 c3 p4) hZ (hw _ (List.mem_of_getElem? (i := 26) rfl)) (hw _ (List.mem_of_getElem? (i := 25) rfl)) (by decide) (by decide)) (g := (mkF m 175 #[.val (.int p1), .val (.int p2), .val (.int p3), .val (.int p4), .val (.int p5), .val (.int p6), .val (.ref b1), .val (.int nn), .val (.ref b4), .val (.ref b11), .val (.long (((0 : Int64) + (own_glt (own_sel c1 q0 q1) r1 (own_sel c1 u0 u1))) + (0 : Int64))), .second] [(.int p4), (.int c3), (.int (0 : Int32)), (.ref b4), (.ref b1), (.ref b11), (.long (((0 : Int64) + (own_glt (own_sel c1 q0 q1) r1 (own_sel c1 u0 u1))) + (0 : Int64)))])) rfl (by rw [hml]; rfl) (argsL := [(.ref b11), (.ref b1), (.ref b4), (.int (0 : Int32)), (.int c3), (.int p4)]) (rest := [(.long (((0 : Int64) + (own_glt (own_sel c1 q0 q1) r1 (own_sel c1 u0 u1))) + (0 : Int64)))]) (lenOf own_pd_4 rfl) rfl (by show 2 * 0 + _ ≤ _; exact Nat.le_of_eq rfl) (hb hby at_175) (fun _ _ => ⟨rfl, e14, (by decide : 7 + 0 ≤ _), (by decide : 44 + 0 ≤ _)⟩)
  dsimp only [Pt.U, Pt.locs, Pt.cells, Pt.slots] at X15 l15 y15 z15 st15 hQ15
  subst l15 y15 z15
  obtain ⟨rfl, N15q, e15⟩ := hQ15
  have N15 := Fr.app N14 N15q
  obtain ⟨_, _, ⟨T16, L16, k16, n16⟩, -, X16, ⟨Lc16, hQ16, l16, y16, z16⟩, st16⟩ := Jvm.LawKit.callS X15 hx (y := (⟨"com/example/sober_broadcast/soberbroadcast/cli/PositionCountsCountBelowPinLaw", "markOne", "(Lcom/example/sober_broadcast/soberbroadcast/cli/PositionCounts;[I[IZII)J"⟩ : MethodName)) hown (mvT hZ (hw _ (List.mem_of_getElem? (i := 23) rfl))) (mvT hZ (hw _ (List.mem_of_getElem? (i := 24) rfl))) (mvT hZ (hw _ (List.mem_of_getElem? (i := 25) rfl))) (mvT hZ (hw _ (List.mem_of_getElem? (i := 26) rfl))) (by decide) (backOf (W := 2) (own_mo_off l Z a0 hw [] T13.heap n0 O13 b11 b1 b4 c4 p5) hZ (hw _ (List.mem_of_getElem? (i := 26) rfl)) (hw _ (List.mem_of_getElem? (i := 25) rfl)) (by decide) (by decide)) (g := (mkF m 208 #[.val (.int p1), .val (.int p2), .val (.int p3), .val (.int p4), .val (.int p5), .val (.int p6), .val (.ref b1), .val (.int nn), .val (.ref b4), .val (.ref b11), .val (.long ((((0 : Int64) + (own_glt (own_sel c1 q0 q1) r1 (own_sel c1 u0 u1))) + (0 : Int64)) + (0 : Int64))), .second] [(.int p5), (.int c4), (.int (0 : Int32)), (.ref b4), (.ref b1), (.ref b11), (.long ((((0 : Int64) + (own_glt (own_sel c1 q0 q1) r1 (own_sel c1 u0 u1))) + (0 : Int64)) + (0 : Int64)))])) rfl (by rw [hml]; rfl) (argsL := [(.ref b11), (.ref b1), (.ref b4), (.int (0 : Int32)), (.int c4), (.int p5)]) (rest := [(.long ((((0 : Int64) + (own_glt (own_sel c1 q0 q1) r1 (own_sel c1 u0 u1))) + (0 : Int64)) + (0 : Int64)))]) (lenOf own_pd_4 rfl) rfl (by show 2 * 0 + _ ≤ _; exact Nat.le_of_eq rfl) (hb hby at_208) (fun _ _ => ⟨rfl, e15, (by decide : 7 + 0 ≤ _), (by decide : 44 + 0 ≤ _)⟩)
  dsimp only [Pt.U, Pt.locs, Pt.cells, Pt.slots] at X16 l16 y16 z16 st16 hQ16
  subst l16 y16 z16
  obtain ⟨rfl, N16q, e16⟩ := hQ16
  have N16 := Fr.app N15 N16q
  obtain ⟨cq17, kq17, q17a, q17b, q17c⟩ := isOf hZ e16 f13_E_b11
  obtain ⟨_, _, ⟨T17, L17, k17, n17⟩, -, X17, ⟨Lc17, hQ17, l17, y17, z17⟩, st17⟩ := X16.virtualBack hx (y := (⟨"com/example/sober_broadcast/soberbroadcast/cli/PositionCounts", "countBelow", "([I)J"⟩ : MethodName)) (z := (⟨"com/example/sober_broadcast/soberbroadcast/cli/PositionCounts", "countBelow", "([I)J"⟩ : MethodName)) hown (mvT hZ (hw _ (List.mem_of_getElem? (i := 27) rfl))) (mvT hZ (hw _ (List.mem_of_getElem? (i := 28) rfl))) (notFace_of_selects (args := #[]) (mvT hZ (hw _ (List.mem_of_getElem? (i := 30) rfl)))) (mvT hZ (hw _ (List.mem_of_getElem? (i := 30) rfl))) (mvT hZ (hw _ (List.mem_of_getElem? (i := 29) rfl))) (by decide) (backOf (W := 0) (own_cbC l Z a0 hw [] T13.heap n0 O13 b11 b4 b3_12 b16_12 b8_12 b13_12 k3_12 k16_12 k4 u0 u1 (own_gx0 (own_sel c1 q0 q1) c1 r1 (2147483647 : Int32)) (own_gx1 (own_sel c1 q0 q1) c1 r1 (2147483647 : Int32)) (q0 + (1 : Int32)) (q1 + (1 : Int32)) (own_gf0 (own_sel c1 q0 q1) c1 (q0 + (1 : Int32)) r1 own_zero) (own_gf1 (own_sel c1 q0 q1) c1 (q1 + (1 : Int32)) r1 own_zero) dk0 dk1 f13_E_b11 f13_F_b11_trees f13_F_b11_lowest f13_V_b3_12 q13_V_tL q13_A_t0 q13_A_t1 f13_V_b4) hZ (hw _ (List.mem_of_getElem? (i := 31) rfl)) (hw _ (List.mem_of_getElem? (i := 4) rfl)) (by decide) (by decide)) q17a q17c (g := (mkF m 218 #[.val (.int p1), .val (.int p2), .val (.int p3), .val (.int p4), .val (.int p5), .val (.int p6), .val (.ref b1), .val (.int nn), .val (.ref b4), .val (.ref b11), .val (.long (((((0 : Int64) + (own_glt (own_sel c1 q0 q1) r1 (own_sel c1 u0 u1))) + (0 : Int64)) + (0 : Int64)) + (0 : Int64))), .second] [(.ref b4), (.ref b11)])) rfl (by rw [hml]; rfl) (Steps.refl _) (argsL := [(.ref b4)]) (rest := []) (lenOf own_pd_5 rfl) rfl (by show 2 * 0 + _ ≤ _; exact Nat.le_of_eq rfl) (hb hby at_218) (fun _ _ => ⟨rfl, e16, (by decide : 7 + 0 ≤ _), (by decide : 44 + 0 ≤ _)⟩)
  dsimp only [Pt.U, Pt.locs, Pt.cells, Pt.slots] at X17 l17 y17 z17 st17 hQ17
  subst l17 y17 z17
  obtain ⟨rfl, N17q, e17⟩ := hQ17
  have N17 := Fr.app N16 N17q
  obtain ⟨fs, hr, hrun, hended, hW, hsame⟩ := X17.leave (v := some (.int (1 : Int32))) (fun h => by rw [Bd.returns] at h; cases h)
  refine ⟨_, _, pre0 _ ?_, hrun, hended, _, _, rfl, ?_, ⟨_, rfl⟩, hW, hsame.mono (by decide) (by decide)⟩
  · show Steps p.tables e below (s₁.setTop (mkF m 0 #[.val (.int p1), .val (.int p2), .val (.int p3), .val (.int p4), .val (.int p5), .val (.int p6), .unset, .unset, .unset, .unset, .unset, .unset] [])) _
    refine XS.iconst X0.here hx rfl (hb hby at_0) ?_
    show Steps p.tables e below (s₁.setTop (mkF m 1 #[.val (.int p1), .val (.int p2), .val (.int p3), .val (.int p4), .val (.int p5), .val (.int p6), .unset, .unset, .unset, .unset, .unset, .unset] [(.int (2 : Int32))])) _
    refine st1 _ ?_
    show Steps p.tables e below (T1.setTop (mkF m 3 #[.val (.int p1), .val (.int p2), .val (.int p3), .val (.int p4), .val (.int p5), .val (.int p6), .unset, .unset, .unset, .unset, .unset, .unset] [(.ref b1)])) _
    refine XS.astore X1.here hx rfl (hb hby at_3) rfl rfl (l' := #[.val (.int p1), .val (.int p2), .val (.int p3), .val (.int p4), .val (.int p5), .val (.int p6), .val (.ref b1), .unset, .unset, .unset, .unset, .unset]) rfl ?_
    show Steps p.tables e below (T1.setTop (mkF m 5 #[.val (.int p1), .val (.int p2), .val (.int p3), .val (.int p4), .val (.int p5), .val (.int p6), .val (.ref b1), .unset, .unset, .unset, .unset, .unset] [])) _
    refine XS.aload X1.here hx rfl (hb hby at_5) rfl rfl ?_
    show Steps p.tables e below (T1.setTop (mkF m 7 #[.val (.int p1), .val (.int p2), .val (.int p3), .val (.int p4), .val (.int p5), .val (.int p6), .val (.ref b1), .unset, .unset, .unset, .unset, .unset] [(.ref b1)])) _
    refine XS.iconst X1.here hx rfl (hb hby at_7) ?_
    show Steps p.tables e below (T1.setTop (mkF m 8 #[.val (.int p1), .val (.int p2), .val (.int p3), .val (.int p4), .val (.int p5), .val (.int p6), .val (.ref b1), .unset, .unset, .unset, .unset, .unset] [(.int (0 : Int32)), (.ref b1)])) _
    refine XS.iloadN X1.here hx rfl (hb hby at_8) rfl ?_
    show Steps p.tables e below (T1.setTop (mkF m 9 #[.val (.int p1), .val (.int p2), .val (.int p3), .val (.int p4), .val (.int p5), .val (.int p6), .val (.ref b1), .unset, .unset, .unset, .unset, .unset] [(.int p1), (.int (0 : Int32)), (.ref b1)])) _
    refine XS.bipush X1.here hx rfl (hb hby at_9) ?_
    show Steps p.tables e below (T1.setTop (mkF m 11 #[.val (.int p1), .val (.int p2), .val (.int p3), .val (.int p4), .val (.int p5), .val (.int p6), .val (.ref b1), .unset, .unset, .unset, .unset, .unset] [(.int (15 : Int32)), (.int p1), (.int (0 : Int32)), (.ref b1)])) _
    refine XS.iand X1.here hx rfl (hb hby at_11) rfl ?_
    show Steps p.tables e below (T1.setTop (mkF m 12 #[.val (.int p1), .val (.int p2), .val (.int p3), .val (.int p4), .val (.int p5), .val (.int p6), .val (.ref b1), .unset, .unset, .unset, .unset, .unset] [(.int (p1 &&& (15 : Int32))), (.int (0 : Int32)), (.ref b1)])) _
    refine castTop (g' := (mkF m 12 #[.val (.int p1), .val (.int p2), .val (.int p3), .val (.int p4), .val (.int p5), .val (.int p6), .val (.ref b1), .unset, .unset, .unset, .unset, .unset] [(.int q0), (.int (0 : Int32)), (.ref b1)])) (by rw [hq0]) ?_
    show Steps p.tables e below (T1.setTop (mkF m 12 #[.val (.int p1), .val (.int p2), .val (.int p3), .val (.int p4), .val (.int p5), .val (.int p6), .val (.ref b1), .unset, .unset, .unset, .unset, .unset] [(.int q0), (.int (0 : Int32)), (.ref b1)])) _
    refine st2 _ ?_
    show Steps p.tables e below (T2.setTop (mkF m 13 #[.val (.int p1), .val (.int p2), .val (.int p3), .val (.int p4), .val (.int p5), .val (.int p6), .val (.ref b1), .unset, .unset, .unset, .unset, .unset] [])) _
    refine XS.aload X2.here hx rfl (hb hby at_13) rfl rfl ?_
    show Steps p.tables e below (T2.setTop (mkF m 15 #[.val (.int p1), .val (.int p2), .val (.int p3), .val (.int p4), .val (.int p5), .val (.int p6), .val (.ref b1), .unset, .unset, .unset, .unset, .unset] [(.ref b1)])) _
    refine XS.iconst X2.here hx rfl (hb hby at_15) ?_
    show Steps p.tables e below (T2.setTop (mkF m 16 #[.val (.int p1), .val (.int p2), .val (.int p3), .val (.int p4), .val (.int p5), .val (.int p6), .val (.ref b1), .unset, .unset, .unset, .unset, .unset] [(.int (1 : Int32)), (.ref b1)])) _
    refine XS.iloadN X2.here hx rfl (hb hby at_16) rfl ?_
    show Steps p.tables e below (T2.setTop (mkF m 17 #[.val (.int p1), .val (.int p2), .val (.int p3), .val (.int p4), .val (.int p5), .val (.int p6), .val (.ref b1), .unset, .unset, .unset, .unset, .unset] [(.int p1), (.int (1 : Int32)), (.ref b1)])) _
    refine XS.iconst X2.here hx rfl (hb hby at_17) ?_
    show Steps p.tables e below (T2.setTop (mkF m 18 #[.val (.int p1), .val (.int p2), .val (.int p3), .val (.int p4), .val (.int p5), .val (.int p6), .val (.ref b1), .unset, .unset, .unset, .unset, .unset] [(.int (4 : Int32)), (.int p1), (.int (1 : Int32)), (.ref b1)])) _
    refine XS.iushr X2.here hx rfl (hb hby at_18) rfl ?_
    show Steps p.tables e below (T2.setTop (mkF m 19 #[.val (.int p1), .val (.int p2), .val (.int p3), .val (.int p4), .val (.int p5), .val (.int p6), .val (.ref b1), .unset, .unset, .unset, .unset, .unset] [(.int ((p1.toUInt32 >>> ((4 : Int32) &&& 31).toUInt32).toInt32)), (.int (1 : Int32)), (.ref b1)])) _
    refine XS.bipush X2.here hx rfl (hb hby at_19) ?_
    show Steps p.tables e below (T2.setTop (mkF m 21 #[.val (.int p1), .val (.int p2), .val (.int p3), .val (.int p4), .val (.int p5), .val (.int p6), .val (.ref b1), .unset, .unset, .unset, .unset, .unset] [(.int (15 : Int32)), (.int ((p1.toUInt32 >>> ((4 : Int32) &&& 31).toUInt32).toInt32)), (.int (1 : Int32)), (.ref b1)])) _
    refine XS.iand X2.here hx rfl (hb hby at_21) rfl ?_
    show Steps p.tables e below (T2.setTop (mkF m 22 #[.val (.int p1), .val (.int p2), .val (.int p3), .val (.int p4), .val (.int p5), .val (.int p6), .val (.ref b1), .unset, .unset, .unset, .unset, .unset] [(.int (((p1.toUInt32 >>> ((4 : Int32) &&& 31).toUInt32).toInt32) &&& (15 : Int32))), (.int (1 : Int32)), (.ref b1)])) _
    refine castTop (g' := (mkF m 22 #[.val (.int p1), .val (.int p2), .val (.int p3), .val (.int p4), .val (.int p5), .val (.int p6), .val (.ref b1), .unset, .unset, .unset, .unset, .unset] [(.int q1), (.int (1 : Int32)), (.ref b1)])) (by rw [hq1]) ?_
    show Steps p.tables e below (T2.setTop (mkF m 22 #[.val (.int p1), .val (.int p2), .val (.int p3), .val (.int p4), .val (.int p5), .val (.int p6), .val (.ref b1), .unset, .unset, .unset, .unset, .unset] [(.int q1), (.int (1 : Int32)), (.ref b1)])) _
    refine st3 _ ?_
    show Steps p.tables e below (T3.setTop (mkF m 23 #[.val (.int p1), .val (.int p2), .val (.int p3), .val (.int p4), .val (.int p5), .val (.int p6), .val (.ref b1), .unset, .unset, .unset, .unset, .unset] [])) _
    refine XS.iloadN X3.here hx rfl (hb hby at_23) rfl ?_
    show Steps p.tables e below (T3.setTop (mkF m 24 #[.val (.int p1), .val (.int p2), .val (.int p3), .val (.int p4), .val (.int p5), .val (.int p6), .val (.ref b1), .unset, .unset, .unset, .unset, .unset] [(.int p1)])) _
    refine XS.bipush X3.here hx rfl (hb hby at_24) ?_
    show Steps p.tables e below (T3.setTop (mkF m 26 #[.val (.int p1), .val (.int p2), .val (.int p3), .val (.int p4), .val (.int p5), .val (.int p6), .val (.ref b1), .unset, .unset, .unset, .unset, .unset] [(.int (8 : Int32)), (.int p1)])) _
    refine XS.iushr X3.here hx rfl (hb hby at_26) rfl ?_
    show Steps p.tables e below (T3.setTop (mkF m 27 #[.val (.int p1), .val (.int p2), .val (.int p3), .val (.int p4), .val (.int p5), .val (.int p6), .val (.ref b1), .unset, .unset, .unset, .unset, .unset] [(.int ((p1.toUInt32 >>> ((8 : Int32) &&& 31).toUInt32).toInt32))])) _
    refine XS.bipush X3.here hx rfl (hb hby at_27) ?_
    show Steps p.tables e below (T3.setTop (mkF m 29 #[.val (.int p1), .val (.int p2), .val (.int p3), .val (.int p4), .val (.int p5), .val (.int p6), .val (.ref b1), .unset, .unset, .unset, .unset, .unset] [(.int (7 : Int32)), (.int ((p1.toUInt32 >>> ((8 : Int32) &&& 31).toUInt32).toInt32))])) _
    refine XS.iand X3.here hx rfl (hb hby at_29) rfl ?_
    show Steps p.tables e below (T3.setTop (mkF m 30 #[.val (.int p1), .val (.int p2), .val (.int p3), .val (.int p4), .val (.int p5), .val (.int p6), .val (.ref b1), .unset, .unset, .unset, .unset, .unset] [(.int (((p1.toUInt32 >>> ((8 : Int32) &&& 31).toUInt32).toInt32) &&& (7 : Int32)))])) _
    refine castTop (g' := (mkF m 30 #[.val (.int p1), .val (.int p2), .val (.int p3), .val (.int p4), .val (.int p5), .val (.int p6), .val (.ref b1), .unset, .unset, .unset, .unset, .unset] [(.int nn)])) (by rw [hnn]) ?_
    show Steps p.tables e below (T3.setTop (mkF m 30 #[.val (.int p1), .val (.int p2), .val (.int p3), .val (.int p4), .val (.int p5), .val (.int p6), .val (.ref b1), .unset, .unset, .unset, .unset, .unset] [(.int nn)])) _
    refine XS.istore X3.here hx rfl (hb hby at_30) rfl (l' := #[.val (.int p1), .val (.int p2), .val (.int p3), .val (.int p4), .val (.int p5), .val (.int p6), .val (.ref b1), .val (.int nn), .unset, .unset, .unset, .unset]) rfl ?_
    show Steps p.tables e below (T3.setTop (mkF m 32 #[.val (.int p1), .val (.int p2), .val (.int p3), .val (.int p4), .val (.int p5), .val (.int p6), .val (.ref b1), .val (.int nn), .unset, .unset, .unset, .unset] [])) _
    refine XS.iconst X3.here hx rfl (hb hby at_32) ?_
    show Steps p.tables e below (T3.setTop (mkF m 33 #[.val (.int p1), .val (.int p2), .val (.int p3), .val (.int p4), .val (.int p5), .val (.int p6), .val (.ref b1), .val (.int nn), .unset, .unset, .unset, .unset] [(.int (2 : Int32))])) _
    refine st4 _ ?_
    show Steps p.tables e below (T4.setTop (mkF m 35 #[.val (.int p1), .val (.int p2), .val (.int p3), .val (.int p4), .val (.int p5), .val (.int p6), .val (.ref b1), .val (.int nn), .unset, .unset, .unset, .unset] [(.ref b4)])) _
    refine XS.astore X4.here hx rfl (hb hby at_35) rfl rfl (l' := #[.val (.int p1), .val (.int p2), .val (.int p3), .val (.int p4), .val (.int p5), .val (.int p6), .val (.ref b1), .val (.int nn), .val (.ref b4), .unset, .unset, .unset]) rfl ?_
    show Steps p.tables e below (T4.setTop (mkF m 37 #[.val (.int p1), .val (.int p2), .val (.int p3), .val (.int p4), .val (.int p5), .val (.int p6), .val (.ref b1), .val (.int nn), .val (.ref b4), .unset, .unset, .unset] [])) _
    refine XS.aload X4.here hx rfl (hb hby at_37) rfl rfl ?_
    show Steps p.tables e below (T4.setTop (mkF m 39 #[.val (.int p1), .val (.int p2), .val (.int p3), .val (.int p4), .val (.int p5), .val (.int p6), .val (.ref b1), .val (.int nn), .val (.ref b4), .unset, .unset, .unset] [(.ref b4)])) _
    refine XS.iconst X4.here hx rfl (hb hby at_39) ?_
    show Steps p.tables e below (T4.setTop (mkF m 40 #[.val (.int p1), .val (.int p2), .val (.int p3), .val (.int p4), .val (.int p5), .val (.int p6), .val (.ref b1), .val (.int nn), .val (.ref b4), .unset, .unset, .unset] [(.int (0 : Int32)), (.ref b4)])) _
    refine XS.iload X4.here hx rfl (hb hby at_40) rfl ?_
    show Steps p.tables e below (T4.setTop (mkF m 42 #[.val (.int p1), .val (.int p2), .val (.int p3), .val (.int p4), .val (.int p5), .val (.int p6), .val (.ref b1), .val (.int nn), .val (.ref b4), .unset, .unset, .unset] [(.int p6), (.int (0 : Int32)), (.ref b4)])) _
    refine Jvm.Stand.ldcI X4 hx hown (mvT hZ (hw _ (List.mem_of_getElem? (i := 1) rfl))) rfl (hb hby at_42) ?_
    show Steps p.tables e below (T4.setTop (mkF m 44 #[.val (.int p1), .val (.int p2), .val (.int p3), .val (.int p4), .val (.int p5), .val (.int p6), .val (.ref b1), .val (.int nn), .val (.ref b4), .unset, .unset, .unset] [(.int (65535 : Int32)), (.int p6), (.int (0 : Int32)), (.ref b4)])) _
    refine XS.iand X4.here hx rfl (hb hby at_44) rfl ?_
    show Steps p.tables e below (T4.setTop (mkF m 45 #[.val (.int p1), .val (.int p2), .val (.int p3), .val (.int p4), .val (.int p5), .val (.int p6), .val (.ref b1), .val (.int nn), .val (.ref b4), .unset, .unset, .unset] [(.int (p6 &&& (65535 : Int32))), (.int (0 : Int32)), (.ref b4)])) _
    refine XS.aload X4.here hx rfl (hb hby at_45) rfl rfl ?_
    show Steps p.tables e below (T4.setTop (mkF m 47 #[.val (.int p1), .val (.int p2), .val (.int p3), .val (.int p4), .val (.int p5), .val (.int p6), .val (.ref b1), .val (.int nn), .val (.ref b4), .unset, .unset, .unset] [(.ref b1), (.int (p6 &&& (65535 : Int32))), (.int (0 : Int32)), (.ref b4)])) _
    refine XS.iconst X4.here hx rfl (hb hby at_47) ?_
    show Steps p.tables e below (T4.setTop (mkF m 48 #[.val (.int p1), .val (.int p2), .val (.int p3), .val (.int p4), .val (.int p5), .val (.int p6), .val (.ref b1), .val (.int nn), .val (.ref b4), .unset, .unset, .unset] [(.int (0 : Int32)), (.ref b1), (.int (p6 &&& (65535 : Int32))), (.int (0 : Int32)), (.ref b4)])) _
    refine X4.iaload hx (j := (0 : Int32)) (v := (.int q0)) (by rw [e4]; exact Ar5.1) (State.isArrayOf_alike hZ.alike Ar5.2.1) Ar5.2.2 hin6 hat6 (g := (mkF m 48 #[.val (.int p1), .val (.int p2), .val (.int p3), .val (.int p4), .val (.int p5), .val (.int p6), .val (.ref b1), .val (.int nn), .val (.ref b4), .unset, .unset, .unset] [(.int (0 : Int32)), (.ref b1), (.int (p6 &&& (65535 : Int32))), (.int (0 : Int32)), (.ref b4)])) rfl rfl (hb hby at_48) _ ?_
    show Steps p.tables e below (T4.setTop (mkF m 49 #[.val (.int p1), .val (.int p2), .val (.int p3), .val (.int p4), .val (.int p5), .val (.int p6), .val (.ref b1), .val (.int nn), .val (.ref b4), .unset, .unset, .unset] [(.int q0), (.int (p6 &&& (65535 : Int32))), (.int (0 : Int32)), (.ref b4)])) _
    refine XS.iconst X4.here hx rfl (hb hby at_49) ?_
    show Steps p.tables e below (T4.setTop (mkF m 50 #[.val (.int p1), .val (.int p2), .val (.int p3), .val (.int p4), .val (.int p5), .val (.int p6), .val (.ref b1), .val (.int nn), .val (.ref b4), .unset, .unset, .unset] [(.int (1 : Int32)), (.int q0), (.int (p6 &&& (65535 : Int32))), (.int (0 : Int32)), (.ref b4)])) _
    refine XS.iadd X4.here hx rfl (hb hby at_50) rfl ?_
    show Steps p.tables e below (T4.setTop (mkF m 51 #[.val (.int p1), .val (.int p2), .val (.int p3), .val (.int p4), .val (.int p5), .val (.int p6), .val (.ref b1), .val (.int nn), .val (.ref b4), .unset, .unset, .unset] [(.int (q0 + (1 : Int32))), (.int (p6 &&& (65535 : Int32))), (.int (0 : Int32)), (.ref b4)])) _
    refine iremM X4 hx rfl (hb hby at_51) rfl mz0 ?_
    show Steps p.tables e below (T4.setTop (mkF m 52 #[.val (.int p1), .val (.int p2), .val (.int p3), .val (.int p4), .val (.int p5), .val (.int p6), .val (.ref b1), .val (.int nn), .val (.ref b4), .unset, .unset, .unset] [(.int ((p6 &&& (65535 : Int32)) % (q0 + (1 : Int32)))), (.int (0 : Int32)), (.ref b4)])) _
    refine castTop (g' := (mkF m 52 #[.val (.int p1), .val (.int p2), .val (.int p3), .val (.int p4), .val (.int p5), .val (.int p6), .val (.ref b1), .val (.int nn), .val (.ref b4), .unset, .unset, .unset] [(.int u0), (.int (0 : Int32)), (.ref b4)])) (by rw [hb0]) ?_
    show Steps p.tables e below (T4.setTop (mkF m 52 #[.val (.int p1), .val (.int p2), .val (.int p3), .val (.int p4), .val (.int p5), .val (.int p6), .val (.ref b1), .val (.int nn), .val (.ref b4), .unset, .unset, .unset] [(.int u0), (.int (0 : Int32)), (.ref b4)])) _
    refine st7 _ ?_
    show Steps p.tables e below (T7.setTop (mkF m 53 #[.val (.int p1), .val (.int p2), .val (.int p3), .val (.int p4), .val (.int p5), .val (.int p6), .val (.ref b1), .val (.int nn), .val (.ref b4), .unset, .unset, .unset] [])) _
    refine XS.aload X7.here hx rfl (hb hby at_53) rfl rfl ?_
    show Steps p.tables e below (T7.setTop (mkF m 55 #[.val (.int p1), .val (.int p2), .val (.int p3), .val (.int p4), .val (.int p5), .val (.int p6), .val (.ref b1), .val (.int nn), .val (.ref b4), .unset, .unset, .unset] [(.ref b4)])) _
    refine XS.iconst X7.here hx rfl (hb hby at_55) ?_
    show Steps p.tables e below (T7.setTop (mkF m 56 #[.val (.int p1), .val (.int p2), .val (.int p3), .val (.int p4), .val (.int p5), .val (.int p6), .val (.ref b1), .val (.int nn), .val (.ref b4), .unset, .unset, .unset] [(.int (1 : Int32)), (.ref b4)])) _
    refine XS.iload X7.here hx rfl (hb hby at_56) rfl ?_
    show Steps p.tables e below (T7.setTop (mkF m 58 #[.val (.int p1), .val (.int p2), .val (.int p3), .val (.int p4), .val (.int p5), .val (.int p6), .val (.ref b1), .val (.int nn), .val (.ref b4), .unset, .unset, .unset] [(.int p6), (.int (1 : Int32)), (.ref b4)])) _
    refine XS.bipush X7.here hx rfl (hb hby at_58) ?_
    show Steps p.tables e below (T7.setTop (mkF m 60 #[.val (.int p1), .val (.int p2), .val (.int p3), .val (.int p4), .val (.int p5), .val (.int p6), .val (.ref b1), .val (.int nn), .val (.ref b4), .unset, .unset, .unset] [(.int (16 : Int32)), (.int p6), (.int (1 : Int32)), (.ref b4)])) _
    refine XS.iushr X7.here hx rfl (hb hby at_60) rfl ?_
    show Steps p.tables e below (T7.setTop (mkF m 61 #[.val (.int p1), .val (.int p2), .val (.int p3), .val (.int p4), .val (.int p5), .val (.int p6), .val (.ref b1), .val (.int nn), .val (.ref b4), .unset, .unset, .unset] [(.int ((p6.toUInt32 >>> ((16 : Int32) &&& 31).toUInt32).toInt32)), (.int (1 : Int32)), (.ref b4)])) _
    refine Jvm.Stand.ldcI X7 hx hown (mvT hZ (hw _ (List.mem_of_getElem? (i := 1) rfl))) rfl (hb hby at_61) ?_
    show Steps p.tables e below (T7.setTop (mkF m 63 #[.val (.int p1), .val (.int p2), .val (.int p3), .val (.int p4), .val (.int p5), .val (.int p6), .val (.ref b1), .val (.int nn), .val (.ref b4), .unset, .unset, .unset] [(.int (65535 : Int32)), (.int ((p6.toUInt32 >>> ((16 : Int32) &&& 31).toUInt32).toInt32)), (.int (1 : Int32)), (.ref b4)])) _
    refine XS.iand X7.here hx rfl (hb hby at_63) rfl ?_
    show Steps p.tables e below (T7.setTop (mkF m 64 #[.val (.int p1), .val (.int p2), .val (.int p3), .val (.int p4), .val (.int p5), .val (.int p6), .val (.ref b1), .val (.int nn), .val (.ref b4), .unset, .unset, .unset] [(.int (((p6.toUInt32 >>> ((16 : Int32) &&& 31).toUInt32).toInt32) &&& (65535 : Int32))), (.int (1 : Int32)), (.ref b4)])) _
    refine XS.aload X7.here hx rfl (hb hby at_64) rfl rfl ?_
    show Steps p.tables e below (T7.setTop (mkF m 66 #[.val (.int p1), .val (.int p2), .val (.int p3), .val (.int p4), .val (.int p5), .val (.int p6), .val (.ref b1), .val (.int nn), .val (.ref b4), .unset, .unset, .unset] [(.ref b1), (.int (((p6.toUInt32 >>> ((16 : Int32) &&& 31).toUInt32).toInt32) &&& (65535 : Int32))), (.int (1 : Int32)), (.ref b4)])) _
    refine XS.iconst X7.here hx rfl (hb hby at_66) ?_
    show Steps p.tables e below (T7.setTop (mkF m 67 #[.val (.int p1), .val (.int p2), .val (.int p3), .val (.int p4), .val (.int p5), .val (.int p6), .val (.ref b1), .val (.int nn), .val (.ref b4), .unset, .unset, .unset] [(.int (1 : Int32)), (.ref b1), (.int (((p6.toUInt32 >>> ((16 : Int32) &&& 31).toUInt32).toInt32) &&& (65535 : Int32))), (.int (1 : Int32)), (.ref b4)])) _
    refine X7.iaload hx (j := (1 : Int32)) (v := (.int q1)) (by rw [e7]; exact Ar8.1) (State.isArrayOf_alike hZ.alike Ar8.2.1) Ar8.2.2 hin9 hat9 (g := (mkF m 67 #[.val (.int p1), .val (.int p2), .val (.int p3), .val (.int p4), .val (.int p5), .val (.int p6), .val (.ref b1), .val (.int nn), .val (.ref b4), .unset, .unset, .unset] [(.int (1 : Int32)), (.ref b1), (.int (((p6.toUInt32 >>> ((16 : Int32) &&& 31).toUInt32).toInt32) &&& (65535 : Int32))), (.int (1 : Int32)), (.ref b4)])) rfl rfl (hb hby at_67) _ ?_
    show Steps p.tables e below (T7.setTop (mkF m 68 #[.val (.int p1), .val (.int p2), .val (.int p3), .val (.int p4), .val (.int p5), .val (.int p6), .val (.ref b1), .val (.int nn), .val (.ref b4), .unset, .unset, .unset] [(.int q1), (.int (((p6.toUInt32 >>> ((16 : Int32) &&& 31).toUInt32).toInt32) &&& (65535 : Int32))), (.int (1 : Int32)), (.ref b4)])) _
    refine XS.iconst X7.here hx rfl (hb hby at_68) ?_
    show Steps p.tables e below (T7.setTop (mkF m 69 #[.val (.int p1), .val (.int p2), .val (.int p3), .val (.int p4), .val (.int p5), .val (.int p6), .val (.ref b1), .val (.int nn), .val (.ref b4), .unset, .unset, .unset] [(.int (1 : Int32)), (.int q1), (.int (((p6.toUInt32 >>> ((16 : Int32) &&& 31).toUInt32).toInt32) &&& (65535 : Int32))), (.int (1 : Int32)), (.ref b4)])) _
    refine XS.iadd X7.here hx rfl (hb hby at_69) rfl ?_
    show Steps p.tables e below (T7.setTop (mkF m 70 #[.val (.int p1), .val (.int p2), .val (.int p3), .val (.int p4), .val (.int p5), .val (.int p6), .val (.ref b1), .val (.int nn), .val (.ref b4), .unset, .unset, .unset] [(.int (q1 + (1 : Int32))), (.int (((p6.toUInt32 >>> ((16 : Int32) &&& 31).toUInt32).toInt32) &&& (65535 : Int32))), (.int (1 : Int32)), (.ref b4)])) _
    refine iremM X7 hx rfl (hb hby at_70) rfl mz1 ?_
    show Steps p.tables e below (T7.setTop (mkF m 71 #[.val (.int p1), .val (.int p2), .val (.int p3), .val (.int p4), .val (.int p5), .val (.int p6), .val (.ref b1), .val (.int nn), .val (.ref b4), .unset, .unset, .unset] [(.int ((((p6.toUInt32 >>> ((16 : Int32) &&& 31).toUInt32).toInt32) &&& (65535 : Int32)) % (q1 + (1 : Int32)))), (.int (1 : Int32)), (.ref b4)])) _
    refine castTop (g' := (mkF m 71 #[.val (.int p1), .val (.int p2), .val (.int p3), .val (.int p4), .val (.int p5), .val (.int p6), .val (.ref b1), .val (.int nn), .val (.ref b4), .unset, .unset, .unset] [(.int u1), (.int (1 : Int32)), (.ref b4)])) (by rw [hb1]) ?_
    show Steps p.tables e below (T7.setTop (mkF m 71 #[.val (.int p1), .val (.int p2), .val (.int p3), .val (.int p4), .val (.int p5), .val (.int p6), .val (.ref b1), .val (.int nn), .val (.ref b4), .unset, .unset, .unset] [(.int u1), (.int (1 : Int32)), (.ref b4)])) _
    refine st10 _ ?_
    show Steps p.tables e below (T10.setTop (mkF m 72 #[.val (.int p1), .val (.int p2), .val (.int p3), .val (.int p4), .val (.int p5), .val (.int p6), .val (.ref b1), .val (.int nn), .val (.ref b4), .unset, .unset, .unset] [])) _
    refine st11 _ ?_
    show Steps p.tables e below (T11.setTop (mkF m 75 #[.val (.int p1), .val (.int p2), .val (.int p3), .val (.int p4), .val (.int p5), .val (.int p6), .val (.ref b1), .val (.int nn), .val (.ref b4), .unset, .unset, .unset] [(.ref b11)])) _
    refine XS.dup X11.here hx rfl (hb hby at_75) rfl rfl ?_
    show Steps p.tables e below (T11.setTop (mkF m 76 #[.val (.int p1), .val (.int p2), .val (.int p3), .val (.int p4), .val (.int p5), .val (.int p6), .val (.ref b1), .val (.int nn), .val (.ref b4), .unset, .unset, .unset] [(.ref b11), (.ref b11)])) _
    refine XS.aload X11.here hx rfl (hb hby at_76) rfl rfl ?_
    show Steps p.tables e below (T11.setTop (mkF m 78 #[.val (.int p1), .val (.int p2), .val (.int p3), .val (.int p4), .val (.int p5), .val (.int p6), .val (.ref b1), .val (.int nn), .val (.ref b4), .unset, .unset, .unset] [(.ref b1), (.ref b11), (.ref b11)])) _
    refine st12.trans ?_
    show Steps p.tables e below (T12.setTop (mkF m 81 #[.val (.int p1), .val (.int p2), .val (.int p3), .val (.int p4), .val (.int p5), .val (.int p6), .val (.ref b1), .val (.int nn), .val (.ref b4), .unset, .unset, .unset] [(.ref b11)])) _
    refine XS.astore X12.here hx rfl (hb hby at_81) rfl rfl (l' := #[.val (.int p1), .val (.int p2), .val (.int p3), .val (.int p4), .val (.int p5), .val (.int p6), .val (.ref b1), .val (.int nn), .val (.ref b4), .val (.ref b11), .unset, .unset]) rfl ?_
    show Steps p.tables e below (T12.setTop (mkF m 83 #[.val (.int p1), .val (.int p2), .val (.int p3), .val (.int p4), .val (.int p5), .val (.int p6), .val (.ref b1), .val (.int nn), .val (.ref b4), .val (.ref b11), .unset, .unset] [])) _
    refine XS.lconst X12.here hx rfl (hb hby at_83) ?_
    show Steps p.tables e below (T12.setTop (mkF m 84 #[.val (.int p1), .val (.int p2), .val (.int p3), .val (.int p4), .val (.int p5), .val (.int p6), .val (.ref b1), .val (.int nn), .val (.ref b4), .val (.ref b11), .unset, .unset] [(.long (0 : Int64))])) _
    refine XS.lstore X12.here hx rfl (hb hby at_84) rfl (l' := #[.val (.int p1), .val (.int p2), .val (.int p3), .val (.int p4), .val (.int p5), .val (.int p6), .val (.ref b1), .val (.int nn), .val (.ref b4), .val (.ref b11), .val (.long (0 : Int64)), .second]) rfl ?_
    show Steps p.tables e below (T12.setTop (mkF m 86 #[.val (.int p1), .val (.int p2), .val (.int p3), .val (.int p4), .val (.int p5), .val (.int p6), .val (.ref b1), .val (.int nn), .val (.ref b4), .val (.ref b11), .val (.long (0 : Int64)), .second] [])) _
    refine XS.lload X12.here hx rfl (hb hby at_86) rfl ?_
    show Steps p.tables e below (T12.setTop (mkF m 88 #[.val (.int p1), .val (.int p2), .val (.int p3), .val (.int p4), .val (.int p5), .val (.int p6), .val (.ref b1), .val (.int nn), .val (.ref b4), .val (.ref b11), .val (.long (0 : Int64)), .second] [(.long (0 : Int64))])) _
    refine XS.aload X12.here hx rfl (hb hby at_88) rfl rfl ?_
    show Steps p.tables e below (T12.setTop (mkF m 90 #[.val (.int p1), .val (.int p2), .val (.int p3), .val (.int p4), .val (.int p5), .val (.int p6), .val (.ref b1), .val (.int nn), .val (.ref b4), .val (.ref b11), .val (.long (0 : Int64)), .second] [(.ref b11), (.long (0 : Int64))])) _
    refine XS.aload X12.here hx rfl (hb hby at_90) rfl rfl ?_
    show Steps p.tables e below (T12.setTop (mkF m 92 #[.val (.int p1), .val (.int p2), .val (.int p3), .val (.int p4), .val (.int p5), .val (.int p6), .val (.ref b1), .val (.int nn), .val (.ref b4), .val (.ref b11), .val (.long (0 : Int64)), .second] [(.ref b1), (.ref b11), (.long (0 : Int64))])) _
    refine XS.aload X12.here hx rfl (hb hby at_92) rfl rfl ?_
    show Steps p.tables e below (T12.setTop (mkF m 94 #[.val (.int p1), .val (.int p2), .val (.int p3), .val (.int p4), .val (.int p5), .val (.int p6), .val (.ref b1), .val (.int nn), .val (.ref b4), .val (.ref b11), .val (.long (0 : Int64)), .second] [(.ref b4), (.ref b1), (.ref b11), (.long (0 : Int64))])) _
    refine XS.iload X12.here hx rfl (hb hby at_94) rfl ?_
    show Steps p.tables e below (T12.setTop (mkF m 96 #[.val (.int p1), .val (.int p2), .val (.int p3), .val (.int p4), .val (.int p5), .val (.int p6), .val (.ref b1), .val (.int nn), .val (.ref b4), .val (.ref b11), .val (.long (0 : Int64)), .second] [(.int nn), (.ref b4), (.ref b1), (.ref b11), (.long (0 : Int64))])) _
    refine XS.ifNo X12.here hx rfl (hb hby at_96) rfl ((if0 _ _).trans (tlt (hn0 : (0 : Int32) < nn)).2.2.2) ?_
    show Steps p.tables e below (T12.setTop (mkF m 99 #[.val (.int p1), .val (.int p2), .val (.int p3), .val (.int p4), .val (.int p5), .val (.int p6), .val (.ref b1), .val (.int nn), .val (.ref b4), .val (.ref b11), .val (.long (0 : Int64)), .second] [(.ref b4), (.ref b1), (.ref b11), (.long (0 : Int64))])) _
    refine XS.iconst X12.here hx rfl (hb hby at_99) ?_
    show Steps p.tables e below (T12.setTop (mkF m 100 #[.val (.int p1), .val (.int p2), .val (.int p3), .val (.int p4), .val (.int p5), .val (.int p6), .val (.ref b1), .val (.int nn), .val (.ref b4), .val (.ref b11), .val (.long (0 : Int64)), .second] [(.int (1 : Int32)), (.ref b4), (.ref b1), (.ref b11), (.long (0 : Int64))])) _
    refine XS.goto X12.here hx rfl (pc0 := 100) (pc' := 104) rfl (hb hby at_100) (by decide) (by decide) ?_
    show Steps p.tables e below (T12.setTop (mkF m 104 #[.val (.int p1), .val (.int p2), .val (.int p3), .val (.int p4), .val (.int p5), .val (.int p6), .val (.ref b1), .val (.int nn), .val (.ref b4), .val (.ref b11), .val (.long (0 : Int64)), .second] [(.int (1 : Int32)), (.ref b4), (.ref b1), (.ref b11), (.long (0 : Int64))])) _
    refine XS.iloadN X12.here hx rfl (hb hby at_104) rfl ?_
    show Steps p.tables e below (T12.setTop (mkF m 105 #[.val (.int p1), .val (.int p2), .val (.int p3), .val (.int p4), .val (.int p5), .val (.int p6), .val (.ref b1), .val (.int nn), .val (.ref b4), .val (.ref b11), .val (.long (0 : Int64)), .second] [(.int p1), (.int (1 : Int32)), (.ref b4), (.ref b1), (.ref b11), (.long (0 : Int64))])) _
    refine XS.bipush X12.here hx rfl (hb hby at_105) ?_
    show Steps p.tables e below (T12.setTop (mkF m 107 #[.val (.int p1), .val (.int p2), .val (.int p3), .val (.int p4), .val (.int p5), .val (.int p6), .val (.ref b1), .val (.int nn), .val (.ref b4), .val (.ref b11), .val (.long (0 : Int64)), .second] [(.int (12 : Int32)), (.int p1), (.int (1 : Int32)), (.ref b4), (.ref b1), (.ref b11), (.long (0 : Int64))])) _
    refine XS.iushr X12.here hx rfl (hb hby at_107) rfl ?_
    show Steps p.tables e below (T12.setTop (mkF m 108 #[.val (.int p1), .val (.int p2), .val (.int p3), .val (.int p4), .val (.int p5), .val (.int p6), .val (.ref b1), .val (.int nn), .val (.ref b4), .val (.ref b11), .val (.long (0 : Int64)), .second] [(.int ((p1.toUInt32 >>> ((12 : Int32) &&& 31).toUInt32).toInt32)), (.int (1 : Int32)), (.ref b4), (.ref b1), (.ref b11), (.long (0 : Int64))])) _
    refine XS.iconst X12.here hx rfl (hb hby at_108) ?_
    show Steps p.tables e below (T12.setTop (mkF m 109 #[.val (.int p1), .val (.int p2), .val (.int p3), .val (.int p4), .val (.int p5), .val (.int p6), .val (.ref b1), .val (.int nn), .val (.ref b4), .val (.ref b11), .val (.long (0 : Int64)), .second] [(.int (1 : Int32)), (.int ((p1.toUInt32 >>> ((12 : Int32) &&& 31).toUInt32).toInt32)), (.int (1 : Int32)), (.ref b4), (.ref b1), (.ref b11), (.long (0 : Int64))])) _
    refine XS.iand X12.here hx rfl (hb hby at_109) rfl ?_
    show Steps p.tables e below (T12.setTop (mkF m 110 #[.val (.int p1), .val (.int p2), .val (.int p3), .val (.int p4), .val (.int p5), .val (.int p6), .val (.ref b1), .val (.int nn), .val (.ref b4), .val (.ref b11), .val (.long (0 : Int64)), .second] [(.int (((p1.toUInt32 >>> ((12 : Int32) &&& 31).toUInt32).toInt32) &&& (1 : Int32))), (.int (1 : Int32)), (.ref b4), (.ref b1), (.ref b11), (.long (0 : Int64))])) _
    refine castTop (g' := (mkF m 110 #[.val (.int p1), .val (.int p2), .val (.int p3), .val (.int p4), .val (.int p5), .val (.int p6), .val (.ref b1), .val (.int nn), .val (.ref b4), .val (.ref b11), .val (.long (0 : Int64)), .second] [(.int c1), (.int (1 : Int32)), (.ref b4), (.ref b1), (.ref b11), (.long (0 : Int64))])) (by rw [hc1]) ?_
    show Steps p.tables e below (T12.setTop (mkF m 110 #[.val (.int p1), .val (.int p2), .val (.int p3), .val (.int p4), .val (.int p5), .val (.int p6), .val (.ref b1), .val (.int nn), .val (.ref b4), .val (.ref b11), .val (.long (0 : Int64)), .second] [(.int c1), (.int (1 : Int32)), (.ref b4), (.ref b1), (.ref b11), (.long (0 : Int64))])) _
    refine XS.iloadN X12.here hx rfl (hb hby at_110) rfl ?_
    show Steps p.tables e below (T12.setTop (mkF m 111 #[.val (.int p1), .val (.int p2), .val (.int p3), .val (.int p4), .val (.int p5), .val (.int p6), .val (.ref b1), .val (.int nn), .val (.ref b4), .val (.ref b11), .val (.long (0 : Int64)), .second] [(.int p2), (.int c1), (.int (1 : Int32)), (.ref b4), (.ref b1), (.ref b11), (.long (0 : Int64))])) _
    refine st13 _ ?_
    show Steps p.tables e below (T13.setTop (mkF m 114 #[.val (.int p1), .val (.int p2), .val (.int p3), .val (.int p4), .val (.int p5), .val (.int p6), .val (.ref b1), .val (.int nn), .val (.ref b4), .val (.ref b11), .val (.long (0 : Int64)), .second] [(.long (own_glt (own_sel c1 q0 q1) r1 (own_sel c1 u0 u1))), (.long (0 : Int64))])) _
    refine XS.ladd X13.here hx rfl (hb hby at_114) rfl ?_
    show Steps p.tables e below (T13.setTop (mkF m 115 #[.val (.int p1), .val (.int p2), .val (.int p3), .val (.int p4), .val (.int p5), .val (.int p6), .val (.ref b1), .val (.int nn), .val (.ref b4), .val (.ref b11), .val (.long (0 : Int64)), .second] [(.long ((0 : Int64) + (own_glt (own_sel c1 q0 q1) r1 (own_sel c1 u0 u1))))])) _
    refine XS.lstore X13.here hx rfl (hb hby at_115) rfl (l' := #[.val (.int p1), .val (.int p2), .val (.int p3), .val (.int p4), .val (.int p5), .val (.int p6), .val (.ref b1), .val (.int nn), .val (.ref b4), .val (.ref b11), .val (.long ((0 : Int64) + (own_glt (own_sel c1 q0 q1) r1 (own_sel c1 u0 u1)))), .second]) rfl ?_
    show Steps p.tables e below (T13.setTop (mkF m 117 #[.val (.int p1), .val (.int p2), .val (.int p3), .val (.int p4), .val (.int p5), .val (.int p6), .val (.ref b1), .val (.int nn), .val (.ref b4), .val (.ref b11), .val (.long ((0 : Int64) + (own_glt (own_sel c1 q0 q1) r1 (own_sel c1 u0 u1)))), .second] [])) _
    refine XS.lload X13.here hx rfl (hb hby at_117) rfl ?_
    show Steps p.tables e below (T13.setTop (mkF m 119 #[.val (.int p1), .val (.int p2), .val (.int p3), .val (.int p4), .val (.int p5), .val (.int p6), .val (.ref b1), .val (.int nn), .val (.ref b4), .val (.ref b11), .val (.long ((0 : Int64) + (own_glt (own_sel c1 q0 q1) r1 (own_sel c1 u0 u1)))), .second] [(.long ((0 : Int64) + (own_glt (own_sel c1 q0 q1) r1 (own_sel c1 u0 u1))))])) _
    refine XS.aload X13.here hx rfl (hb hby at_119) rfl rfl ?_
    show Steps p.tables e below (T13.setTop (mkF m 121 #[.val (.int p1), .val (.int p2), .val (.int p3), .val (.int p4), .val (.int p5), .val (.int p6), .val (.ref b1), .val (.int nn), .val (.ref b4), .val (.ref b11), .val (.long ((0 : Int64) + (own_glt (own_sel c1 q0 q1) r1 (own_sel c1 u0 u1)))), .second] [(.ref b11), (.long ((0 : Int64) + (own_glt (own_sel c1 q0 q1) r1 (own_sel c1 u0 u1))))])) _
    refine XS.aload X13.here hx rfl (hb hby at_121) rfl rfl ?_
    show Steps p.tables e below (T13.setTop (mkF m 123 #[.val (.int p1), .val (.int p2), .val (.int p3), .val (.int p4), .val (.int p5), .val (.int p6), .val (.ref b1), .val (.int nn), .val (.ref b4), .val (.ref b11), .val (.long ((0 : Int64) + (own_glt (own_sel c1 q0 q1) r1 (own_sel c1 u0 u1)))), .second] [(.ref b1), (.ref b11), (.long ((0 : Int64) + (own_glt (own_sel c1 q0 q1) r1 (own_sel c1 u0 u1))))])) _
    refine XS.aload X13.here hx rfl (hb hby at_123) rfl rfl ?_
    show Steps p.tables e below (T13.setTop (mkF m 125 #[.val (.int p1), .val (.int p2), .val (.int p3), .val (.int p4), .val (.int p5), .val (.int p6), .val (.ref b1), .val (.int nn), .val (.ref b4), .val (.ref b11), .val (.long ((0 : Int64) + (own_glt (own_sel c1 q0 q1) r1 (own_sel c1 u0 u1)))), .second] [(.ref b4), (.ref b1), (.ref b11), (.long ((0 : Int64) + (own_glt (own_sel c1 q0 q1) r1 (own_sel c1 u0 u1))))])) _
    refine XS.iload X13.here hx rfl (hb hby at_125) rfl ?_
    show Steps p.tables e below (T13.setTop (mkF m 127 #[.val (.int p1), .val (.int p2), .val (.int p3), .val (.int p4), .val (.int p5), .val (.int p6), .val (.ref b1), .val (.int nn), .val (.ref b4), .val (.ref b11), .val (.long ((0 : Int64) + (own_glt (own_sel c1 q0 q1) r1 (own_sel c1 u0 u1)))), .second] [(.int nn), (.ref b4), (.ref b1), (.ref b11), (.long ((0 : Int64) + (own_glt (own_sel c1 q0 q1) r1 (own_sel c1 u0 u1))))])) _
    refine XS.iconst X13.here hx rfl (hb hby at_127) ?_
    show Steps p.tables e below (T13.setTop (mkF m 128 #[.val (.int p1), .val (.int p2), .val (.int p3), .val (.int p4), .val (.int p5), .val (.int p6), .val (.ref b1), .val (.int nn), .val (.ref b4), .val (.ref b11), .val (.long ((0 : Int64) + (own_glt (own_sel c1 q0 q1) r1 (own_sel c1 u0 u1)))), .second] [(.int (1 : Int32)), (.int nn), (.ref b4), (.ref b1), (.ref b11), (.long ((0 : Int64) + (own_glt (own_sel c1 q0 q1) r1 (own_sel c1 u0 u1))))])) _
    refine XS.icmpYes X13.here hx rfl (pc0 := 128) (pc' := 135) rfl (hb hby at_128) rfl (flt (hn1 : ¬ ((1 : Int32) < nn))).2.2.2 (by decide) (by decide) ?_
    show Steps p.tables e below (T13.setTop (mkF m 135 #[.val (.int p1), .val (.int p2), .val (.int p3), .val (.int p4), .val (.int p5), .val (.int p6), .val (.ref b1), .val (.int nn), .val (.ref b4), .val (.ref b11), .val (.long ((0 : Int64) + (own_glt (own_sel c1 q0 q1) r1 (own_sel c1 u0 u1)))), .second] [(.ref b4), (.ref b1), (.ref b11), (.long ((0 : Int64) + (own_glt (own_sel c1 q0 q1) r1 (own_sel c1 u0 u1))))])) _
    refine XS.iconst X13.here hx rfl (hb hby at_135) ?_
    show Steps p.tables e below (T13.setTop (mkF m 136 #[.val (.int p1), .val (.int p2), .val (.int p3), .val (.int p4), .val (.int p5), .val (.int p6), .val (.ref b1), .val (.int nn), .val (.ref b4), .val (.ref b11), .val (.long ((0 : Int64) + (own_glt (own_sel c1 q0 q1) r1 (own_sel c1 u0 u1)))), .second] [(.int (0 : Int32)), (.ref b4), (.ref b1), (.ref b11), (.long ((0 : Int64) + (own_glt (own_sel c1 q0 q1) r1 (own_sel c1 u0 u1))))])) _
    refine XS.iloadN X13.here hx rfl (hb hby at_136) rfl ?_
    show Steps p.tables e below (T13.setTop (mkF m 137 #[.val (.int p1), .val (.int p2), .val (.int p3), .val (.int p4), .val (.int p5), .val (.int p6), .val (.ref b1), .val (.int nn), .val (.ref b4), .val (.ref b11), .val (.long ((0 : Int64) + (own_glt (own_sel c1 q0 q1) r1 (own_sel c1 u0 u1)))), .second] [(.int p1), (.int (0 : Int32)), (.ref b4), (.ref b1), (.ref b11), (.long ((0 : Int64) + (own_glt (own_sel c1 q0 q1) r1 (own_sel c1 u0 u1))))])) _
    refine XS.bipush X13.here hx rfl (hb hby at_137) ?_
    show Steps p.tables e below (T13.setTop (mkF m 139 #[.val (.int p1), .val (.int p2), .val (.int p3), .val (.int p4), .val (.int p5), .val (.int p6), .val (.ref b1), .val (.int nn), .val (.ref b4), .val (.ref b11), .val (.long ((0 : Int64) + (own_glt (own_sel c1 q0 q1) r1 (own_sel c1 u0 u1)))), .second] [(.int (13 : Int32)), (.int p1), (.int (0 : Int32)), (.ref b4), (.ref b1), (.ref b11), (.long ((0 : Int64) + (own_glt (own_sel c1 q0 q1) r1 (own_sel c1 u0 u1))))])) _
    refine XS.iushr X13.here hx rfl (hb hby at_139) rfl ?_
    show Steps p.tables e below (T13.setTop (mkF m 140 #[.val (.int p1), .val (.int p2), .val (.int p3), .val (.int p4), .val (.int p5), .val (.int p6), .val (.ref b1), .val (.int nn), .val (.ref b4), .val (.ref b11), .val (.long ((0 : Int64) + (own_glt (own_sel c1 q0 q1) r1 (own_sel c1 u0 u1)))), .second] [(.int ((p1.toUInt32 >>> ((13 : Int32) &&& 31).toUInt32).toInt32)), (.int (0 : Int32)), (.ref b4), (.ref b1), (.ref b11), (.long ((0 : Int64) + (own_glt (own_sel c1 q0 q1) r1 (own_sel c1 u0 u1))))])) _
    refine XS.iconst X13.here hx rfl (hb hby at_140) ?_
    show Steps p.tables e below (T13.setTop (mkF m 141 #[.val (.int p1), .val (.int p2), .val (.int p3), .val (.int p4), .val (.int p5), .val (.int p6), .val (.ref b1), .val (.int nn), .val (.ref b4), .val (.ref b11), .val (.long ((0 : Int64) + (own_glt (own_sel c1 q0 q1) r1 (own_sel c1 u0 u1)))), .second] [(.int (1 : Int32)), (.int ((p1.toUInt32 >>> ((13 : Int32) &&& 31).toUInt32).toInt32)), (.int (0 : Int32)), (.ref b4), (.ref b1), (.ref b11), (.long ((0 : Int64) + (own_glt (own_sel c1 q0 q1) r1 (own_sel c1 u0 u1))))])) _
    refine XS.iand X13.here hx rfl (hb hby at_141) rfl ?_
    show Steps p.tables e below (T13.setTop (mkF m 142 #[.val (.int p1), .val (.int p2), .val (.int p3), .val (.int p4), .val (.int p5), .val (.int p6), .val (.ref b1), .val (.int nn), .val (.ref b4), .val (.ref b11), .val (.long ((0 : Int64) + (own_glt (own_sel c1 q0 q1) r1 (own_sel c1 u0 u1)))), .second] [(.int (((p1.toUInt32 >>> ((13 : Int32) &&& 31).toUInt32).toInt32) &&& (1 : Int32))), (.int (0 : Int32)), (.ref b4), (.ref b1), (.ref b11), (.long ((0 : Int64) + (own_glt (own_sel c1 q0 q1) r1 (own_sel c1 u0 u1))))])) _
    refine castTop (g' := (mkF m 142 #[.val (.int p1), .val (.int p2), .val (.int p3), .val (.int p4), .val (.int p5), .val (.int p6), .val (.ref b1), .val (.int nn), .val (.ref b4), .val (.ref b11), .val (.long ((0 : Int64) + (own_glt (own_sel c1 q0 q1) r1 (own_sel c1 u0 u1)))), .second] [(.int c2), (.int (0 : Int32)), (.ref b4), (.ref b1), (.ref b11), (.long ((0 : Int64) + (own_glt (own_sel c1 q0 q1) r1 (own_sel c1 u0 u1))))])) (by rw [hc2]) ?_
    show Steps p.tables e below (T13.setTop (mkF m 142 #[.val (.int p1), .val (.int p2), .val (.int p3), .val (.int p4), .val (.int p5), .val (.int p6), .val (.ref b1), .val (.int nn), .val (.ref b4), .val (.ref b11), .val (.long ((0 : Int64) + (own_glt (own_sel c1 q0 q1) r1 (own_sel c1 u0 u1)))), .second] [(.int c2), (.int (0 : Int32)), (.ref b4), (.ref b1), (.ref b11), (.long ((0 : Int64) + (own_glt (own_sel c1 q0 q1) r1 (own_sel c1 u0 u1))))])) _
    refine XS.iloadN X13.here hx rfl (hb hby at_142) rfl ?_
    show Steps p.tables e below (T13.setTop (mkF m 143 #[.val (.int p1), .val (.int p2), .val (.int p3), .val (.int p4), .val (.int p5), .val (.int p6), .val (.ref b1), .val (.int nn), .val (.ref b4), .val (.ref b11), .val (.long ((0 : Int64) + (own_glt (own_sel c1 q0 q1) r1 (own_sel c1 u0 u1)))), .second] [(.int p3), (.int c2), (.int (0 : Int32)), (.ref b4), (.ref b1), (.ref b11), (.long ((0 : Int64) + (own_glt (own_sel c1 q0 q1) r1 (own_sel c1 u0 u1))))])) _
    refine st14 _ ?_
    show Steps p.tables e below (T14.setTop (mkF m 146 #[.val (.int p1), .val (.int p2), .val (.int p3), .val (.int p4), .val (.int p5), .val (.int p6), .val (.ref b1), .val (.int nn), .val (.ref b4), .val (.ref b11), .val (.long ((0 : Int64) + (own_glt (own_sel c1 q0 q1) r1 (own_sel c1 u0 u1)))), .second] [(.long (0 : Int64)), (.long ((0 : Int64) + (own_glt (own_sel c1 q0 q1) r1 (own_sel c1 u0 u1))))])) _
    refine XS.ladd X14.here hx rfl (hb hby at_146) rfl ?_
    show Steps p.tables e below (T14.setTop (mkF m 147 #[.val (.int p1), .val (.int p2), .val (.int p3), .val (.int p4), .val (.int p5), .val (.int p6), .val (.ref b1), .val (.int nn), .val (.ref b4), .val (.ref b11), .val (.long ((0 : Int64) + (own_glt (own_sel c1 q0 q1) r1 (own_sel c1 u0 u1)))), .second] [(.long (((0 : Int64) + (own_glt (own_sel c1 q0 q1) r1 (own_sel c1 u0 u1))) + (0 : Int64)))])) _
    refine XS.lstore X14.here hx rfl (hb hby at_147) rfl (l' := #[.val (.int p1), .val (.int p2), .val (.int p3), .val (.int p4), .val (.int p5), .val (.int p6), .val (.ref b1), .val (.int nn), .val (.ref b4), .val (.ref b11), .val (.long (((0 : Int64) + (own_glt (own_sel c1 q0 q1) r1 (own_sel c1 u0 u1))) + (0 : Int64))), .second]) rfl ?_
    show Steps p.tables e below (T14.setTop (mkF m 149 #[.val (.int p1), .val (.int p2), .val (.int p3), .val (.int p4), .val (.int p5), .val (.int p6), .val (.ref b1), .val (.int nn), .val (.ref b4), .val (.ref b11), .val (.long (((0 : Int64) + (own_glt (own_sel c1 q0 q1) r1 (own_sel c1 u0 u1))) + (0 : Int64))), .second] [])) _
    refine XS.lload X14.here hx rfl (hb hby at_149) rfl ?_
    show Steps p.tables e below (T14.setTop (mkF m 151 #[.val (.int p1), .val (.int p2), .val (.int p3), .val (.int p4), .val (.int p5), .val (.int p6), .val (.ref b1), .val (.int nn), .val (.ref b4), .val (.ref b11), .val (.long (((0 : Int64) + (own_glt (own_sel c1 q0 q1) r1 (own_sel c1 u0 u1))) + (0 : Int64))), .second] [(.long (((0 : Int64) + (own_glt (own_sel c1 q0 q1) r1 (own_sel c1 u0 u1))) + (0 : Int64)))])) _
    refine XS.aload X14.here hx rfl (hb hby at_151) rfl rfl ?_
    show Steps p.tables e below (T14.setTop (mkF m 153 #[.val (.int p1), .val (.int p2), .val (.int p3), .val (.int p4), .val (.int p5), .val (.int p6), .val (.ref b1), .val (.int nn), .val (.ref b4), .val (.ref b11), .val (.long (((0 : Int64) + (own_glt (own_sel c1 q0 q1) r1 (own_sel c1 u0 u1))) + (0 : Int64))), .second] [(.ref b11), (.long (((0 : Int64) + (own_glt (own_sel c1 q0 q1) r1 (own_sel c1 u0 u1))) + (0 : Int64)))])) _
    refine XS.aload X14.here hx rfl (hb hby at_153) rfl rfl ?_
    show Steps p.tables e below (T14.setTop (mkF m 155 #[.val (.int p1), .val (.int p2), .val (.int p3), .val (.int p4), .val (.int p5), .val (.int p6), .val (.ref b1), .val (.int nn), .val (.ref b4), .val (.ref b11), .val (.long (((0 : Int64) + (own_glt (own_sel c1 q0 q1) r1 (own_sel c1 u0 u1))) + (0 : Int64))), .second] [(.ref b1), (.ref b11), (.long (((0 : Int64) + (own_glt (own_sel c1 q0 q1) r1 (own_sel c1 u0 u1))) + (0 : Int64)))])) _
    refine XS.aload X14.here hx rfl (hb hby at_155) rfl rfl ?_
    show Steps p.tables e below (T14.setTop (mkF m 157 #[.val (.int p1), .val (.int p2), .val (.int p3), .val (.int p4), .val (.int p5), .val (.int p6), .val (.ref b1), .val (.int nn), .val (.ref b4), .val (.ref b11), .val (.long (((0 : Int64) + (own_glt (own_sel c1 q0 q1) r1 (own_sel c1 u0 u1))) + (0 : Int64))), .second] [(.ref b4), (.ref b1), (.ref b11), (.long (((0 : Int64) + (own_glt (own_sel c1 q0 q1) r1 (own_sel c1 u0 u1))) + (0 : Int64)))])) _
    refine XS.iload X14.here hx rfl (hb hby at_157) rfl ?_
    show Steps p.tables e below (T14.setTop (mkF m 159 #[.val (.int p1), .val (.int p2), .val (.int p3), .val (.int p4), .val (.int p5), .val (.int p6), .val (.ref b1), .val (.int nn), .val (.ref b4), .val (.ref b11), .val (.long (((0 : Int64) + (own_glt (own_sel c1 q0 q1) r1 (own_sel c1 u0 u1))) + (0 : Int64))), .second] [(.int nn), (.ref b4), (.ref b1), (.ref b11), (.long (((0 : Int64) + (own_glt (own_sel c1 q0 q1) r1 (own_sel c1 u0 u1))) + (0 : Int64)))])) _
    refine XS.iconst X14.here hx rfl (hb hby at_159) ?_
    show Steps p.tables e below (T14.setTop (mkF m 160 #[.val (.int p1), .val (.int p2), .val (.int p3), .val (.int p4), .val (.int p5), .val (.int p6), .val (.ref b1), .val (.int nn), .val (.ref b4), .val (.ref b11), .val (.long (((0 : Int64) + (own_glt (own_sel c1 q0 q1) r1 (own_sel c1 u0 u1))) + (0 : Int64))), .second] [(.int (2 : Int32)), (.int nn), (.ref b4), (.ref b1), (.ref b11), (.long (((0 : Int64) + (own_glt (own_sel c1 q0 q1) r1 (own_sel c1 u0 u1))) + (0 : Int64)))])) _
    refine XS.icmpYes X14.here hx rfl (pc0 := 160) (pc' := 167) rfl (hb hby at_160) rfl (flt (hn2 : ¬ ((2 : Int32) < nn))).2.2.2 (by decide) (by decide) ?_
    show Steps p.tables e below (T14.setTop (mkF m 167 #[.val (.int p1), .val (.int p2), .val (.int p3), .val (.int p4), .val (.int p5), .val (.int p6), .val (.ref b1), .val (.int nn), .val (.ref b4), .val (.ref b11), .val (.long (((0 : Int64) + (own_glt (own_sel c1 q0 q1) r1 (own_sel c1 u0 u1))) + (0 : Int64))), .second] [(.ref b4), (.ref b1), (.ref b11), (.long (((0 : Int64) + (own_glt (own_sel c1 q0 q1) r1 (own_sel c1 u0 u1))) + (0 : Int64)))])) _
    refine XS.iconst X14.here hx rfl (hb hby at_167) ?_
    show Steps p.tables e below (T14.setTop (mkF m 168 #[.val (.int p1), .val (.int p2), .val (.int p3), .val (.int p4), .val (.int p5), .val (.int p6), .val (.ref b1), .val (.int nn), .val (.ref b4), .val (.ref b11), .val (.long (((0 : Int64) + (own_glt (own_sel c1 q0 q1) r1 (own_sel c1 u0 u1))) + (0 : Int64))), .second] [(.int (0 : Int32)), (.ref b4), (.ref b1), (.ref b11), (.long (((0 : Int64) + (own_glt (own_sel c1 q0 q1) r1 (own_sel c1 u0 u1))) + (0 : Int64)))])) _
    refine XS.iloadN X14.here hx rfl (hb hby at_168) rfl ?_
    show Steps p.tables e below (T14.setTop (mkF m 169 #[.val (.int p1), .val (.int p2), .val (.int p3), .val (.int p4), .val (.int p5), .val (.int p6), .val (.ref b1), .val (.int nn), .val (.ref b4), .val (.ref b11), .val (.long (((0 : Int64) + (own_glt (own_sel c1 q0 q1) r1 (own_sel c1 u0 u1))) + (0 : Int64))), .second] [(.int p1), (.int (0 : Int32)), (.ref b4), (.ref b1), (.ref b11), (.long (((0 : Int64) + (own_glt (own_sel c1 q0 q1) r1 (own_sel c1 u0 u1))) + (0 : Int64)))])) _
    refine XS.bipush X14.here hx rfl (hb hby at_169) ?_
    show Steps p.tables e below (T14.setTop (mkF m 171 #[.val (.int p1), .val (.int p2), .val (.int p3), .val (.int p4), .val (.int p5), .val (.int p6), .val (.ref b1), .val (.int nn), .val (.ref b4), .val (.ref b11), .val (.long (((0 : Int64) + (own_glt (own_sel c1 q0 q1) r1 (own_sel c1 u0 u1))) + (0 : Int64))), .second] [(.int (14 : Int32)), (.int p1), (.int (0 : Int32)), (.ref b4), (.ref b1), (.ref b11), (.long (((0 : Int64) + (own_glt (own_sel c1 q0 q1) r1 (own_sel c1 u0 u1))) + (0 : Int64)))])) _
    refine XS.iushr X14.here hx rfl (hb hby at_171) rfl ?_
    show Steps p.tables e below (T14.setTop (mkF m 172 #[.val (.int p1), .val (.int p2), .val (.int p3), .val (.int p4), .val (.int p5), .val (.int p6), .val (.ref b1), .val (.int nn), .val (.ref b4), .val (.ref b11), .val (.long (((0 : Int64) + (own_glt (own_sel c1 q0 q1) r1 (own_sel c1 u0 u1))) + (0 : Int64))), .second] [(.int ((p1.toUInt32 >>> ((14 : Int32) &&& 31).toUInt32).toInt32)), (.int (0 : Int32)), (.ref b4), (.ref b1), (.ref b11), (.long (((0 : Int64) + (own_glt (own_sel c1 q0 q1) r1 (own_sel c1 u0 u1))) + (0 : Int64)))])) _
    refine XS.iconst X14.here hx rfl (hb hby at_172) ?_
    show Steps p.tables e below (T14.setTop (mkF m 173 #[.val (.int p1), .val (.int p2), .val (.int p3), .val (.int p4), .val (.int p5), .val (.int p6), .val (.ref b1), .val (.int nn), .val (.ref b4), .val (.ref b11), .val (.long (((0 : Int64) + (own_glt (own_sel c1 q0 q1) r1 (own_sel c1 u0 u1))) + (0 : Int64))), .second] [(.int (1 : Int32)), (.int ((p1.toUInt32 >>> ((14 : Int32) &&& 31).toUInt32).toInt32)), (.int (0 : Int32)), (.ref b4), (.ref b1), (.ref b11), (.long (((0 : Int64) + (own_glt (own_sel c1 q0 q1) r1 (own_sel c1 u0 u1))) + (0 : Int64)))])) _
    refine XS.iand X14.here hx rfl (hb hby at_173) rfl ?_
    show Steps p.tables e below (T14.setTop (mkF m 174 #[.val (.int p1), .val (.int p2), .val (.int p3), .val (.int p4), .val (.int p5), .val (.int p6), .val (.ref b1), .val (.int nn), .val (.ref b4), .val (.ref b11), .val (.long (((0 : Int64) + (own_glt (own_sel c1 q0 q1) r1 (own_sel c1 u0 u1))) + (0 : Int64))), .second] [(.int (((p1.toUInt32 >>> ((14 : Int32) &&& 31).toUInt32).toInt32) &&& (1 : Int32))), (.int (0 : Int32)), (.ref b4), (.ref b1), (.ref b11), (.long (((0 : Int64) + (own_glt (own_sel c1 q0 q1) r1 (own_sel c1 u0 u1))) + (0 : Int64)))])) _
    refine castTop (g' := (mkF m 174 #[.val (.int p1), .val (.int p2), .val (.int p3), .val (.int p4), .val (.int p5), .val (.int p6), .val (.ref b1), .val (.int nn), .val (.ref b4), .val (.ref b11), .val (.long (((0 : Int64) + (own_glt (own_sel c1 q0 q1) r1 (own_sel c1 u0 u1))) + (0 : Int64))), .second] [(.int c3), (.int (0 : Int32)), (.ref b4), (.ref b1), (.ref b11), (.long (((0 : Int64) + (own_glt (own_sel c1 q0 q1) r1 (own_sel c1 u0 u1))) + (0 : Int64)))])) (by rw [hc3]) ?_
    show Steps p.tables e below (T14.setTop (mkF m 174 #[.val (.int p1), .val (.int p2), .val (.int p3), .val (.int p4), .val (.int p5), .val (.int p6), .val (.ref b1), .val (.int nn), .val (.ref b4), .val (.ref b11), .val (.long (((0 : Int64) + (own_glt (own_sel c1 q0 q1) r1 (own_sel c1 u0 u1))) + (0 : Int64))), .second] [(.int c3), (.int (0 : Int32)), (.ref b4), (.ref b1), (.ref b11), (.long (((0 : Int64) + (own_glt (own_sel c1 q0 q1) r1 (own_sel c1 u0 u1))) + (0 : Int64)))])) _
    refine XS.iloadN X14.here hx rfl (hb hby at_174) rfl ?_
    show Steps p.tables e below (T14.setTop (mkF m 175 #[.val (.int p1), .val (.int p2), .val (.int p3), .val (.int p4), .val (.int p5), .val (.int p6), .val (.ref b1), .val (.int nn), .val (.ref b4), .val (.ref b11), .val (.long (((0 : Int64) + (own_glt (own_sel c1 q0 q1) r1 (own_sel c1 u0 u1))) + (0 : Int64))), .second] [(.int p4), (.int c3), (.int (0 : Int32)), (.ref b4), (.ref b1), (.ref b11), (.long (((0 : Int64) + (own_glt (own_sel c1 q0 q1) r1 (own_sel c1 u0 u1))) + (0 : Int64)))])) _
    refine st15 _ ?_
    show Steps p.tables e below (T15.setTop (mkF m 178 #[.val (.int p1), .val (.int p2), .val (.int p3), .val (.int p4), .val (.int p5), .val (.int p6), .val (.ref b1), .val (.int nn), .val (.ref b4), .val (.ref b11), .val (.long (((0 : Int64) + (own_glt (own_sel c1 q0 q1) r1 (own_sel c1 u0 u1))) + (0 : Int64))), .second] [(.long (0 : Int64)), (.long (((0 : Int64) + (own_glt (own_sel c1 q0 q1) r1 (own_sel c1 u0 u1))) + (0 : Int64)))])) _
    refine XS.ladd X15.here hx rfl (hb hby at_178) rfl ?_
    show Steps p.tables e below (T15.setTop (mkF m 179 #[.val (.int p1), .val (.int p2), .val (.int p3), .val (.int p4), .val (.int p5), .val (.int p6), .val (.ref b1), .val (.int nn), .val (.ref b4), .val (.ref b11), .val (.long (((0 : Int64) + (own_glt (own_sel c1 q0 q1) r1 (own_sel c1 u0 u1))) + (0 : Int64))), .second] [(.long ((((0 : Int64) + (own_glt (own_sel c1 q0 q1) r1 (own_sel c1 u0 u1))) + (0 : Int64)) + (0 : Int64)))])) _
    refine XS.lstore X15.here hx rfl (hb hby at_179) rfl (l' := #[.val (.int p1), .val (.int p2), .val (.int p3), .val (.int p4), .val (.int p5), .val (.int p6), .val (.ref b1), .val (.int nn), .val (.ref b4), .val (.ref b11), .val (.long ((((0 : Int64) + (own_glt (own_sel c1 q0 q1) r1 (own_sel c1 u0 u1))) + (0 : Int64)) + (0 : Int64))), .second]) rfl ?_
    show Steps p.tables e below (T15.setTop (mkF m 181 #[.val (.int p1), .val (.int p2), .val (.int p3), .val (.int p4), .val (.int p5), .val (.int p6), .val (.ref b1), .val (.int nn), .val (.ref b4), .val (.ref b11), .val (.long ((((0 : Int64) + (own_glt (own_sel c1 q0 q1) r1 (own_sel c1 u0 u1))) + (0 : Int64)) + (0 : Int64))), .second] [])) _
    refine XS.lload X15.here hx rfl (hb hby at_181) rfl ?_
    show Steps p.tables e below (T15.setTop (mkF m 183 #[.val (.int p1), .val (.int p2), .val (.int p3), .val (.int p4), .val (.int p5), .val (.int p6), .val (.ref b1), .val (.int nn), .val (.ref b4), .val (.ref b11), .val (.long ((((0 : Int64) + (own_glt (own_sel c1 q0 q1) r1 (own_sel c1 u0 u1))) + (0 : Int64)) + (0 : Int64))), .second] [(.long ((((0 : Int64) + (own_glt (own_sel c1 q0 q1) r1 (own_sel c1 u0 u1))) + (0 : Int64)) + (0 : Int64)))])) _
    refine XS.aload X15.here hx rfl (hb hby at_183) rfl rfl ?_
    show Steps p.tables e below (T15.setTop (mkF m 185 #[.val (.int p1), .val (.int p2), .val (.int p3), .val (.int p4), .val (.int p5), .val (.int p6), .val (.ref b1), .val (.int nn), .val (.ref b4), .val (.ref b11), .val (.long ((((0 : Int64) + (own_glt (own_sel c1 q0 q1) r1 (own_sel c1 u0 u1))) + (0 : Int64)) + (0 : Int64))), .second] [(.ref b11), (.long ((((0 : Int64) + (own_glt (own_sel c1 q0 q1) r1 (own_sel c1 u0 u1))) + (0 : Int64)) + (0 : Int64)))])) _
    refine XS.aload X15.here hx rfl (hb hby at_185) rfl rfl ?_
    show Steps p.tables e below (T15.setTop (mkF m 187 #[.val (.int p1), .val (.int p2), .val (.int p3), .val (.int p4), .val (.int p5), .val (.int p6), .val (.ref b1), .val (.int nn), .val (.ref b4), .val (.ref b11), .val (.long ((((0 : Int64) + (own_glt (own_sel c1 q0 q1) r1 (own_sel c1 u0 u1))) + (0 : Int64)) + (0 : Int64))), .second] [(.ref b1), (.ref b11), (.long ((((0 : Int64) + (own_glt (own_sel c1 q0 q1) r1 (own_sel c1 u0 u1))) + (0 : Int64)) + (0 : Int64)))])) _
    refine XS.aload X15.here hx rfl (hb hby at_187) rfl rfl ?_
    show Steps p.tables e below (T15.setTop (mkF m 189 #[.val (.int p1), .val (.int p2), .val (.int p3), .val (.int p4), .val (.int p5), .val (.int p6), .val (.ref b1), .val (.int nn), .val (.ref b4), .val (.ref b11), .val (.long ((((0 : Int64) + (own_glt (own_sel c1 q0 q1) r1 (own_sel c1 u0 u1))) + (0 : Int64)) + (0 : Int64))), .second] [(.ref b4), (.ref b1), (.ref b11), (.long ((((0 : Int64) + (own_glt (own_sel c1 q0 q1) r1 (own_sel c1 u0 u1))) + (0 : Int64)) + (0 : Int64)))])) _
    refine XS.iload X15.here hx rfl (hb hby at_189) rfl ?_
    show Steps p.tables e below (T15.setTop (mkF m 191 #[.val (.int p1), .val (.int p2), .val (.int p3), .val (.int p4), .val (.int p5), .val (.int p6), .val (.ref b1), .val (.int nn), .val (.ref b4), .val (.ref b11), .val (.long ((((0 : Int64) + (own_glt (own_sel c1 q0 q1) r1 (own_sel c1 u0 u1))) + (0 : Int64)) + (0 : Int64))), .second] [(.int nn), (.ref b4), (.ref b1), (.ref b11), (.long ((((0 : Int64) + (own_glt (own_sel c1 q0 q1) r1 (own_sel c1 u0 u1))) + (0 : Int64)) + (0 : Int64)))])) _
    refine XS.iconst X15.here hx rfl (hb hby at_191) ?_
    show Steps p.tables e below (T15.setTop (mkF m 192 #[.val (.int p1), .val (.int p2), .val (.int p3), .val (.int p4), .val (.int p5), .val (.int p6), .val (.ref b1), .val (.int nn), .val (.ref b4), .val (.ref b11), .val (.long ((((0 : Int64) + (own_glt (own_sel c1 q0 q1) r1 (own_sel c1 u0 u1))) + (0 : Int64)) + (0 : Int64))), .second] [(.int (3 : Int32)), (.int nn), (.ref b4), (.ref b1), (.ref b11), (.long ((((0 : Int64) + (own_glt (own_sel c1 q0 q1) r1 (own_sel c1 u0 u1))) + (0 : Int64)) + (0 : Int64)))])) _
    refine XS.icmpYes X15.here hx rfl (pc0 := 192) (pc' := 199) rfl (hb hby at_192) rfl (flt (hn3 : ¬ ((3 : Int32) < nn))).2.2.2 (by decide) (by decide) ?_
    show Steps p.tables e below (T15.setTop (mkF m 199 #[.val (.int p1), .val (.int p2), .val (.int p3), .val (.int p4), .val (.int p5), .val (.int p6), .val (.ref b1), .val (.int nn), .val (.ref b4), .val (.ref b11), .val (.long ((((0 : Int64) + (own_glt (own_sel c1 q0 q1) r1 (own_sel c1 u0 u1))) + (0 : Int64)) + (0 : Int64))), .second] [(.ref b4), (.ref b1), (.ref b11), (.long ((((0 : Int64) + (own_glt (own_sel c1 q0 q1) r1 (own_sel c1 u0 u1))) + (0 : Int64)) + (0 : Int64)))])) _
    refine XS.iconst X15.here hx rfl (hb hby at_199) ?_
    show Steps p.tables e below (T15.setTop (mkF m 200 #[.val (.int p1), .val (.int p2), .val (.int p3), .val (.int p4), .val (.int p5), .val (.int p6), .val (.ref b1), .val (.int nn), .val (.ref b4), .val (.ref b11), .val (.long ((((0 : Int64) + (own_glt (own_sel c1 q0 q1) r1 (own_sel c1 u0 u1))) + (0 : Int64)) + (0 : Int64))), .second] [(.int (0 : Int32)), (.ref b4), (.ref b1), (.ref b11), (.long ((((0 : Int64) + (own_glt (own_sel c1 q0 q1) r1 (own_sel c1 u0 u1))) + (0 : Int64)) + (0 : Int64)))])) _
    refine XS.iloadN X15.here hx rfl (hb hby at_200) rfl ?_
    show Steps p.tables e below (T15.setTop (mkF m 201 #[.val (.int p1), .val (.int p2), .val (.int p3), .val (.int p4), .val (.int p5), .val (.int p6), .val (.ref b1), .val (.int nn), .val (.ref b4), .val (.ref b11), .val (.long ((((0 : Int64) + (own_glt (own_sel c1 q0 q1) r1 (own_sel c1 u0 u1))) + (0 : Int64)) + (0 : Int64))), .second] [(.int p1), (.int (0 : Int32)), (.ref b4), (.ref b1), (.ref b11), (.long ((((0 : Int64) + (own_glt (own_sel c1 q0 q1) r1 (own_sel c1 u0 u1))) + (0 : Int64)) + (0 : Int64)))])) _
    refine XS.bipush X15.here hx rfl (hb hby at_201) ?_
    show Steps p.tables e below (T15.setTop (mkF m 203 #[.val (.int p1), .val (.int p2), .val (.int p3), .val (.int p4), .val (.int p5), .val (.int p6), .val (.ref b1), .val (.int nn), .val (.ref b4), .val (.ref b11), .val (.long ((((0 : Int64) + (own_glt (own_sel c1 q0 q1) r1 (own_sel c1 u0 u1))) + (0 : Int64)) + (0 : Int64))), .second] [(.int (15 : Int32)), (.int p1), (.int (0 : Int32)), (.ref b4), (.ref b1), (.ref b11), (.long ((((0 : Int64) + (own_glt (own_sel c1 q0 q1) r1 (own_sel c1 u0 u1))) + (0 : Int64)) + (0 : Int64)))])) _
    refine XS.iushr X15.here hx rfl (hb hby at_203) rfl ?_
    show Steps p.tables e below (T15.setTop (mkF m 204 #[.val (.int p1), .val (.int p2), .val (.int p3), .val (.int p4), .val (.int p5), .val (.int p6), .val (.ref b1), .val (.int nn), .val (.ref b4), .val (.ref b11), .val (.long ((((0 : Int64) + (own_glt (own_sel c1 q0 q1) r1 (own_sel c1 u0 u1))) + (0 : Int64)) + (0 : Int64))), .second] [(.int ((p1.toUInt32 >>> ((15 : Int32) &&& 31).toUInt32).toInt32)), (.int (0 : Int32)), (.ref b4), (.ref b1), (.ref b11), (.long ((((0 : Int64) + (own_glt (own_sel c1 q0 q1) r1 (own_sel c1 u0 u1))) + (0 : Int64)) + (0 : Int64)))])) _
    refine XS.iconst X15.here hx rfl (hb hby at_204) ?_
    show Steps p.tables e below (T15.setTop (mkF m 205 #[.val (.int p1), .val (.int p2), .val (.int p3), .val (.int p4), .val (.int p5), .val (.int p6), .val (.ref b1), .val (.int nn), .val (.ref b4), .val (.ref b11), .val (.long ((((0 : Int64) + (own_glt (own_sel c1 q0 q1) r1 (own_sel c1 u0 u1))) + (0 : Int64)) + (0 : Int64))), .second] [(.int (1 : Int32)), (.int ((p1.toUInt32 >>> ((15 : Int32) &&& 31).toUInt32).toInt32)), (.int (0 : Int32)), (.ref b4), (.ref b1), (.ref b11), (.long ((((0 : Int64) + (own_glt (own_sel c1 q0 q1) r1 (own_sel c1 u0 u1))) + (0 : Int64)) + (0 : Int64)))])) _
    refine XS.iand X15.here hx rfl (hb hby at_205) rfl ?_
    show Steps p.tables e below (T15.setTop (mkF m 206 #[.val (.int p1), .val (.int p2), .val (.int p3), .val (.int p4), .val (.int p5), .val (.int p6), .val (.ref b1), .val (.int nn), .val (.ref b4), .val (.ref b11), .val (.long ((((0 : Int64) + (own_glt (own_sel c1 q0 q1) r1 (own_sel c1 u0 u1))) + (0 : Int64)) + (0 : Int64))), .second] [(.int (((p1.toUInt32 >>> ((15 : Int32) &&& 31).toUInt32).toInt32) &&& (1 : Int32))), (.int (0 : Int32)), (.ref b4), (.ref b1), (.ref b11), (.long ((((0 : Int64) + (own_glt (own_sel c1 q0 q1) r1 (own_sel c1 u0 u1))) + (0 : Int64)) + (0 : Int64)))])) _
    refine castTop (g' := (mkF m 206 #[.val (.int p1), .val (.int p2), .val (.int p3), .val (.int p4), .val (.int p5), .val (.int p6), .val (.ref b1), .val (.int nn), .val (.ref b4), .val (.ref b11), .val (.long ((((0 : Int64) + (own_glt (own_sel c1 q0 q1) r1 (own_sel c1 u0 u1))) + (0 : Int64)) + (0 : Int64))), .second] [(.int c4), (.int (0 : Int32)), (.ref b4), (.ref b1), (.ref b11), (.long ((((0 : Int64) + (own_glt (own_sel c1 q0 q1) r1 (own_sel c1 u0 u1))) + (0 : Int64)) + (0 : Int64)))])) (by rw [hc4]) ?_
    show Steps p.tables e below (T15.setTop (mkF m 206 #[.val (.int p1), .val (.int p2), .val (.int p3), .val (.int p4), .val (.int p5), .val (.int p6), .val (.ref b1), .val (.int nn), .val (.ref b4), .val (.ref b11), .val (.long ((((0 : Int64) + (own_glt (own_sel c1 q0 q1) r1 (own_sel c1 u0 u1))) + (0 : Int64)) + (0 : Int64))), .second] [(.int c4), (.int (0 : Int32)), (.ref b4), (.ref b1), (.ref b11), (.long ((((0 : Int64) + (own_glt (own_sel c1 q0 q1) r1 (own_sel c1 u0 u1))) + (0 : Int64)) + (0 : Int64)))])) _
    refine XS.iload X15.here hx rfl (hb hby at_206) rfl ?_
    show Steps p.tables e below (T15.setTop (mkF m 208 #[.val (.int p1), .val (.int p2), .val (.int p3), .val (.int p4), .val (.int p5), .val (.int p6), .val (.ref b1), .val (.int nn), .val (.ref b4), .val (.ref b11), .val (.long ((((0 : Int64) + (own_glt (own_sel c1 q0 q1) r1 (own_sel c1 u0 u1))) + (0 : Int64)) + (0 : Int64))), .second] [(.int p5), (.int c4), (.int (0 : Int32)), (.ref b4), (.ref b1), (.ref b11), (.long ((((0 : Int64) + (own_glt (own_sel c1 q0 q1) r1 (own_sel c1 u0 u1))) + (0 : Int64)) + (0 : Int64)))])) _
    refine st16 _ ?_
    show Steps p.tables e below (T16.setTop (mkF m 211 #[.val (.int p1), .val (.int p2), .val (.int p3), .val (.int p4), .val (.int p5), .val (.int p6), .val (.ref b1), .val (.int nn), .val (.ref b4), .val (.ref b11), .val (.long ((((0 : Int64) + (own_glt (own_sel c1 q0 q1) r1 (own_sel c1 u0 u1))) + (0 : Int64)) + (0 : Int64))), .second] [(.long (0 : Int64)), (.long ((((0 : Int64) + (own_glt (own_sel c1 q0 q1) r1 (own_sel c1 u0 u1))) + (0 : Int64)) + (0 : Int64)))])) _
    refine XS.ladd X16.here hx rfl (hb hby at_211) rfl ?_
    show Steps p.tables e below (T16.setTop (mkF m 212 #[.val (.int p1), .val (.int p2), .val (.int p3), .val (.int p4), .val (.int p5), .val (.int p6), .val (.ref b1), .val (.int nn), .val (.ref b4), .val (.ref b11), .val (.long ((((0 : Int64) + (own_glt (own_sel c1 q0 q1) r1 (own_sel c1 u0 u1))) + (0 : Int64)) + (0 : Int64))), .second] [(.long (((((0 : Int64) + (own_glt (own_sel c1 q0 q1) r1 (own_sel c1 u0 u1))) + (0 : Int64)) + (0 : Int64)) + (0 : Int64)))])) _
    refine XS.lstore X16.here hx rfl (hb hby at_212) rfl (l' := #[.val (.int p1), .val (.int p2), .val (.int p3), .val (.int p4), .val (.int p5), .val (.int p6), .val (.ref b1), .val (.int nn), .val (.ref b4), .val (.ref b11), .val (.long (((((0 : Int64) + (own_glt (own_sel c1 q0 q1) r1 (own_sel c1 u0 u1))) + (0 : Int64)) + (0 : Int64)) + (0 : Int64))), .second]) rfl ?_
    show Steps p.tables e below (T16.setTop (mkF m 214 #[.val (.int p1), .val (.int p2), .val (.int p3), .val (.int p4), .val (.int p5), .val (.int p6), .val (.ref b1), .val (.int nn), .val (.ref b4), .val (.ref b11), .val (.long (((((0 : Int64) + (own_glt (own_sel c1 q0 q1) r1 (own_sel c1 u0 u1))) + (0 : Int64)) + (0 : Int64)) + (0 : Int64))), .second] [])) _
    refine XS.aload X16.here hx rfl (hb hby at_214) rfl rfl ?_
    show Steps p.tables e below (T16.setTop (mkF m 216 #[.val (.int p1), .val (.int p2), .val (.int p3), .val (.int p4), .val (.int p5), .val (.int p6), .val (.ref b1), .val (.int nn), .val (.ref b4), .val (.ref b11), .val (.long (((((0 : Int64) + (own_glt (own_sel c1 q0 q1) r1 (own_sel c1 u0 u1))) + (0 : Int64)) + (0 : Int64)) + (0 : Int64))), .second] [(.ref b11)])) _
    refine XS.aload X16.here hx rfl (hb hby at_216) rfl rfl ?_
    show Steps p.tables e below (T16.setTop (mkF m 218 #[.val (.int p1), .val (.int p2), .val (.int p3), .val (.int p4), .val (.int p5), .val (.int p6), .val (.ref b1), .val (.int nn), .val (.ref b4), .val (.ref b11), .val (.long (((((0 : Int64) + (own_glt (own_sel c1 q0 q1) r1 (own_sel c1 u0 u1))) + (0 : Int64)) + (0 : Int64)) + (0 : Int64))), .second] [(.ref b4), (.ref b11)])) _
    refine st17.trans ?_
    show Steps p.tables e below (T17.setTop (mkF m 221 #[.val (.int p1), .val (.int p2), .val (.int p3), .val (.int p4), .val (.int p5), .val (.int p6), .val (.ref b1), .val (.int nn), .val (.ref b4), .val (.ref b11), .val (.long (((((0 : Int64) + (own_glt (own_sel c1 q0 q1) r1 (own_sel c1 u0 u1))) + (0 : Int64)) + (0 : Int64)) + (0 : Int64))), .second] [(.long (own_cb u1 (own_gx1 (own_sel c1 q0 q1) c1 r1 (2147483647 : Int32)) (own_gf1 (own_sel c1 q0 q1) c1 (q1 + (1 : Int32)) r1 own_zero) (own_cb u0 (own_gx0 (own_sel c1 q0 q1) c1 r1 (2147483647 : Int32)) (own_gf0 (own_sel c1 q0 q1) c1 (q0 + (1 : Int32)) r1 own_zero) (0 : Int64))))])) _
    refine XS.lload X17.here hx rfl (hb hby at_221) rfl ?_
    show Steps p.tables e below (T17.setTop (mkF m 223 #[.val (.int p1), .val (.int p2), .val (.int p3), .val (.int p4), .val (.int p5), .val (.int p6), .val (.ref b1), .val (.int nn), .val (.ref b4), .val (.ref b11), .val (.long (((((0 : Int64) + (own_glt (own_sel c1 q0 q1) r1 (own_sel c1 u0 u1))) + (0 : Int64)) + (0 : Int64)) + (0 : Int64))), .second] [(.long (((((0 : Int64) + (own_glt (own_sel c1 q0 q1) r1 (own_sel c1 u0 u1))) + (0 : Int64)) + (0 : Int64)) + (0 : Int64))), (.long (own_cb u1 (own_gx1 (own_sel c1 q0 q1) c1 r1 (2147483647 : Int32)) (own_gf1 (own_sel c1 q0 q1) c1 (q1 + (1 : Int32)) r1 own_zero) (own_cb u0 (own_gx0 (own_sel c1 q0 q1) c1 r1 (2147483647 : Int32)) (own_gf0 (own_sel c1 q0 q1) c1 (q0 + (1 : Int32)) r1 own_zero) (0 : Int64))))])) _
    refine XS.lcmp X17.here hx rfl (hb hby at_223) rfl ?_
    show Steps p.tables e below (T17.setTop (mkF m 224 #[.val (.int p1), .val (.int p2), .val (.int p3), .val (.int p4), .val (.int p5), .val (.int p6), .val (.ref b1), .val (.int nn), .val (.ref b4), .val (.ref b11), .val (.long (((((0 : Int64) + (own_glt (own_sel c1 q0 q1) r1 (own_sel c1 u0 u1))) + (0 : Int64)) + (0 : Int64)) + (0 : Int64))), .second] [(.int (lcmpW (own_cb u1 (own_gx1 (own_sel c1 q0 q1) c1 r1 (2147483647 : Int32)) (own_gf1 (own_sel c1 q0 q1) c1 (q1 + (1 : Int32)) r1 own_zero) (own_cb u0 (own_gx0 (own_sel c1 q0 q1) c1 r1 (2147483647 : Int32)) (own_gf0 (own_sel c1 q0 q1) c1 (q0 + (1 : Int32)) r1 own_zero) (0 : Int64))) (((((0 : Int64) + (own_glt (own_sel c1 q0 q1) r1 (own_sel c1 u0 u1))) + (0 : Int64)) + (0 : Int64)) + (0 : Int64))))])) _
    refine castTop (g' := (mkF m 224 #[.val (.int p1), .val (.int p2), .val (.int p3), .val (.int p4), .val (.int p5), .val (.int p6), .val (.ref b1), .val (.int nn), .val (.ref b4), .val (.ref b11), .val (.long (((((0 : Int64) + (own_glt (own_sel c1 q0 q1) r1 (own_sel c1 u0 u1))) + (0 : Int64)) + (0 : Int64)) + (0 : Int64))), .second] [(.int (0 : Int32))])) (by rw [hfin]) ?_
    show Steps p.tables e below (T17.setTop (mkF m 224 #[.val (.int p1), .val (.int p2), .val (.int p3), .val (.int p4), .val (.int p5), .val (.int p6), .val (.ref b1), .val (.int nn), .val (.ref b4), .val (.ref b11), .val (.long (((((0 : Int64) + (own_glt (own_sel c1 q0 q1) r1 (own_sel c1 u0 u1))) + (0 : Int64)) + (0 : Int64)) + (0 : Int64))), .second] [(.int (0 : Int32))])) _
    refine XS.ifNo X17.here hx rfl (hb hby at_224) rfl (by decide) ?_
    show Steps p.tables e below (T17.setTop (mkF m 227 #[.val (.int p1), .val (.int p2), .val (.int p3), .val (.int p4), .val (.int p5), .val (.int p6), .val (.ref b1), .val (.int nn), .val (.ref b4), .val (.ref b11), .val (.long (((((0 : Int64) + (own_glt (own_sel c1 q0 q1) r1 (own_sel c1 u0 u1))) + (0 : Int64)) + (0 : Int64)) + (0 : Int64))), .second] [])) _
    refine XS.iconst X17.here hx rfl (hb hby at_227) ?_
    show Steps p.tables e below (T17.setTop (mkF m 228 #[.val (.int p1), .val (.int p2), .val (.int p3), .val (.int p4), .val (.int p5), .val (.int p6), .val (.ref b1), .val (.int nn), .val (.ref b4), .val (.ref b11), .val (.long (((((0 : Int64) + (own_glt (own_sel c1 q0 q1) r1 (own_sel c1 u0 u1))) + (0 : Int64)) + (0 : Int64)) + (0 : Int64))), .second] [(.int (1 : Int32))])) _
    refine XS.goto X17.here hx rfl (pc0 := 228) (pc' := 232) rfl (hb hby at_228) (by decide) (by decide) ?_
    show Steps p.tables e below (T17.setTop (mkF m 232 #[.val (.int p1), .val (.int p2), .val (.int p3), .val (.int p4), .val (.int p5), .val (.int p6), .val (.ref b1), .val (.int nn), .val (.ref b4), .val (.ref b11), .val (.long (((((0 : Int64) + (own_glt (own_sel c1 q0 q1) r1 (own_sel c1 u0 u1))) + (0 : Int64)) + (0 : Int64)) + (0 : Int64))), .second] [(.int (1 : Int32))])) _
    exact retN X17 hx (t := .boolean) Bd.returns (by simp) (hb hby at_232) hr
  · exact ⟨rfl, N17⟩
set_option maxRecDepth 65536 in
set_option maxHeartbeats 40000000 in
theorem own_law_2 (l : Launch) (Z : State) (a0 : Array Value) (hw : ∀ d ∈ tables_1, d.before a0 Z = true) (ws : List Jvm.Cond) (h0 : Heap) (n0 : Nat) (O0 : Old Z n0 h0) (p1 : Int32) (p2 : Int32) (p3 : Int32) (p4 : Int32) (p5 : Int32) (p6 : Int32) (q0 : Int32) (q1 : Int32) (nn : Int32) (c1 : Int32) (c2 : Int32) (c3 : Int32) (c4 : Int32) (r1 : Int32) (r2 : Int32) (r3 : Int32) (r4 : Int32) (u0 : Int32) (u1 : Int32) (hq0 : (p1 &&& (15 : Int32)) = q0) (hq1 : (((p1.toUInt32 >>> ((4 : Int32) &&& 31).toUInt32).toInt32) &&& (15 : Int32)) = q1) (hnn : (((p1.toUInt32 >>> ((8 : Int32) &&& 31).toUInt32).toInt32) &&& (7 : Int32)) = nn) (hn0 : (0 : Int32) < nn) (hn1 : (1 : Int32) < nn) (hn2 : ¬ ((2 : Int32) < nn)) (hn3 : ¬ ((3 : Int32) < nn)) (hc1 : (((p1.toUInt32 >>> ((12 : Int32) &&& 31).toUInt32).toInt32) &&& (1 : Int32)) = c1) (hc2 : (((p1.toUInt32 >>> ((13 : Int32) &&& 31).toUInt32).toInt32) &&& (1 : Int32)) = c2) (hc3 : (((p1.toUInt32 >>> ((14 : Int32) &&& 31).toUInt32).toInt32) &&& (1 : Int32)) = c3) (hc4 : (((p1.toUInt32 >>> ((15 : Int32) &&& 31).toUInt32).toInt32) &&& (1 : Int32)) = c4) (hb0 : ((p6 &&& (65535 : Int32)) % (q0 + (1 : Int32))) = u0) (hb1 : ((((p6.toUInt32 >>> ((16 : Int32) &&& 31).toUInt32).toInt32) &&& (65535 : Int32)) % (q1 + (1 : Int32))) = u1) (nn0 : ¬ ((q0 + (1 : Int32)) < (0 : Int32))) (mz0 : ¬ ((q0 + (1 : Int32)) = (0 : Int32))) (cp0 : (q0 + (1 : Int32)).toNatClampNeg ≤ 17) (dk0 : own_dnOk (q0 + (1 : Int32)) 6 u0 = true) (nn1 : ¬ ((q1 + (1 : Int32)) < (0 : Int32))) (mz1 : ¬ ((q1 + (1 : Int32)) = (0 : Int32))) (cp1 : (q1 + (1 : Int32)).toNatClampNeg ≤ 17) (dk1 : own_dnOk (q1 + (1 : Int32)) 6 u1 = true) (h011 : own_01 c1) (hr1 : (own_sel c1 q0 q1) = (0 : Int32) ∨ ((p2 &&& (2147483647 : Int32)) % (own_sel c1 q0 q1)) = r1) (uk1 : (own_sel c1 q0 q1) = (0 : Int32) ∨ own_upOk (own_sel c1 (q0 + (1 : Int32)) (q1 + (1 : Int32))) 6 (r1 + (1 : Int32)) = true) (h012 : own_01 c2) (hr2 : (own_sel c2 q0 q1) = (0 : Int32) ∨ ((p3 &&& (2147483647 : Int32)) % (own_sel c2 q0 q1)) = r2) (uk2 : (own_sel c2 q0 q1) = (0 : Int32) ∨ own_upOk (own_sel c2 (q0 + (1 : Int32)) (q1 + (1 : Int32))) 6 (r2 + (1 : Int32)) = true) (h013 : own_01 c3) (hr3 : (own_sel c3 q0 q1) = (0 : Int32) ∨ ((p4 &&& (2147483647 : Int32)) % (own_sel c3 q0 q1)) = r3) (uk3 : (own_sel c3 q0 q1) = (0 : Int32) ∨ own_upOk (own_sel c3 (q0 + (1 : Int32)) (q1 + (1 : Int32))) 6 (r3 + (1 : Int32)) = true) (h014 : own_01 c4) (hr4 : (own_sel c4 q0 q1) = (0 : Int32) ∨ ((p5 &&& (2147483647 : Int32)) % (own_sel c4 q0 q1)) = r4) (uk4 : (own_sel c4 q0 q1) = (0 : Int32) ∨ own_upOk (own_sel c4 (q0 + (1 : Int32)) (q1 + (1 : Int32))) 6 (r4 + (1 : Int32)) = true) (hfin : (lcmpW (own_cb u1 (own_gx1 (own_sel c2 q0 q1) c2 r2 (own_gx1 (own_sel c1 q0 q1) c1 r1 (2147483647 : Int32))) (own_gf1 (own_sel c2 q0 q1) c2 (q1 + (1 : Int32)) r2 (own_gf1 (own_sel c1 q0 q1) c1 (q1 + (1 : Int32)) r1 own_zero)) (own_cb u0 (own_gx0 (own_sel c2 q0 q1) c2 r2 (own_gx0 (own_sel c1 q0 q1) c1 r1 (2147483647 : Int32))) (own_gf0 (own_sel c2 q0 q1) c2 (q0 + (1 : Int32)) r2 (own_gf0 (own_sel c1 q0 q1) c1 (q0 + (1 : Int32)) r1 own_zero)) (0 : Int64))) (((((0 : Int64) + (own_glt (own_sel c1 q0 q1) r1 (own_sel c1 u0 u1))) + (own_glt (own_sel c2 q0 q1) r2 (own_sel c2 u0 u1))) + (0 : Int64)) + (0 : Int64))) = (0 : Int32)) :
    MetFree l x (head1 (Jvm.Cond.code x code maxLocals ret :: ws) room_1) (fun a U => a = #[(.int p1), (.int p2), (.int p3), (.int p4), (.int p5), (.int p6)] ∧ Z.Warmed39 U.vm ∧ U.heap = h0) (fun _ _ _ _ _ => True) (fun _ U o U' => ∃ v L, o = .returned v ∧ (v = some (.int 1) ∧ Fr n0 L) ∧ FrameEnd U o U' L room_1.cells room_1.slots) := by
  refine MetFree.of_bodySF (plainFor_of_name own_pn_4) hisR ?_
  intro p e s m args below meth c s₁ Bd hml0 hP hK
  obtain ⟨rfl, hZ, hh⟩ := hP
  have hx := Bd.exec
  have hby := Bd.bytes
  have hml : c.maxLocals = 12 := hml0
  have hown : s.vm.findClass "com/example/sober_broadcast/soberbroadcast/cli/PositionCountsCountBelowPinLaw" = some m.cls := findClass_of_methodNamed Bd.named
  have hnm := (name_of_methodNamed Bd.named Bd.method).1
  have X0 : Stand p l e room_1 s m #[(.int p1), (.int p2), (.int p3), (.int p4), (.int p5), (.int p6)] below meth c s₁ [] 0 0 := Stand.of_body Bd
  have e0 : s₁.heap = h0 := by rw [← hh, Bd.state]; rfl
  have N0 := Fr.nil n0
  have pre0 : ∀ t, Steps p.tables e below (s₁.setTop (mkF m 0 #[.val (.int p1), .val (.int p2), .val (.int p3), .val (.int p4), .val (.int p5), .val (.int p6), .unset, .unset, .unset, .unset, .unset, .unset] [])) t → Steps p.tables e below (s₁.setTop (entryFrame m #[(.int p1), (.int p2), (.int p3), (.int p4), (.int p5), (.int p6)] maxLocals)) t := fun t k => castTop (own_ef_0_IIIIII m p1 p2 p3 p4 p5 p6) k
  obtain ⟨T1, h1, k1, X1, e1, E1, A1, Ea1, st1⟩ := newPE X0 hx hZ (hw _ (List.mem_of_getElem? (i := 0) rfl)) e0 (g := (mkF m 1 #[.val (.int p1), .val (.int p2), .val (.int p3), .val (.int p4), .val (.int p5), .val (.int p6), .unset, .unset, .unset, .unset, .unset, .unset] [(.int (2 : Int32))])) rfl (hb hby at_1) rfl (by decide) (cap := 2) (by decide) (by decide) (by decide) (by decide) (ad := "[I") (by decide)
  obtain ⟨b1, g1⟩ : ∃ z, z = h0.size := ⟨_, rfl⟩
  rw [← g1] at A1 Ea1 st1
  have ge_b1 : n0 ≤ b1 := own_new O0 g1
  have sz_b1 : h0.size ≤ b1 := Nat.le_trans (Keep.refl h0 []).1 (Nat.le_of_eq g1.symm)
  have O1 := O0.ext E1
  have K1 := (Keep.refl h0 []).ext E1
  have V1 : Arv Z h1 b1 k1 .int (2 : Int32) [(.int (0 : Int32)), (.int (0 : Int32))] (.int (0 : Int32)) := (Arv.new A1 (by decide)).pad (pad_rep [] (.int (0 : Int32)) 2)
  obtain ⟨cl2, Ar2, qk2, Sz2, Nn2, Hs2, Gs2⟩ := id (V1)
  have hin2 : ¬ ((0 : Int32) < 0 ∨ cl2.slots.size ≤ ((0 : Int32)).toNatClampNeg) := inb_of Sz2 ⟨by decide, by decide⟩
  obtain ⟨T2, h2, X2, e2, W2, st2⟩ := stI X1 hx hZ e1 Ar2 (j := (0 : Int32)) hin2 (g := (mkF m 12 #[.val (.int p1), .val (.int p2), .val (.int p3), .val (.int p4), .val (.int p5), .val (.int p6), .val (.ref b1), .unset, .unset, .unset, .unset, .unset] [(.int q0), (.int (0 : Int32)), (.ref b1)])) rfl rfl (hb hby at_12)
  have V2 := Arv.set Ar2 qk2 Sz2 Nn2 Hs2 Gs2 rfl W2 0 rfl (Nat.le_of_ble_eq_true rfl)
  have f2_E_b1 := Ea1.wr W2
  have O2 := O1.wr W2 ge_b1
  have K2 := K1.wr W2 (Or.inr sz_b1)
  have N2 := Fr.snoc X2 N0 ge_b1
  obtain ⟨cl3, Ar3, qk3, Sz3, Nn3, Hs3, Gs3⟩ := id (V2)
  have hin3 : ¬ ((1 : Int32) < 0 ∨ cl3.slots.size ≤ ((1 : Int32)).toNatClampNeg) := inb_of Sz3 ⟨by decide, by decide⟩
  obtain ⟨T3, h3, X3, e3, W3, st3⟩ := stI X2 hx hZ e2 Ar3 (j := (1 : Int32)) hin3 (g := (mkF m 22 #[.val (.int p1), .val (.int p2), .val (.int p3), .val (.int p4), .val (.int p5), .val (.int p6), .val (.ref b1), .unset, .unset, .unset, .unset, .unset] [(.int q1), (.int (1 : Int32)), (.ref b1)])) rfl rfl (hb hby at_22)
  have V3 := Arv.set Ar3 qk3 Sz3 Nn3 Hs3 Gs3 rfl W3 1 rfl (Nat.le_of_ble_eq_true rfl)
  have f3_E_b1 := f2_E_b1.wr W3
  have O3 := O2.wr W3 ge_b1
  have K3 := K2.wr W3 (Or.inr sz_b1)
  have N3 := Fr.snoc X3 N2 ge_b1
  obtain ⟨T4, h4, k4, X4, e4, E4, A4, Ea4, st4⟩ := newPE X3 hx hZ (hw _ (List.mem_of_getElem? (i := 0) rfl)) e3 (g := (mkF m 33 #[.val (.int p1), .val (.int p2), .val (.int p3), .val (.int p4), .val (.int p5), .val (.int p6), .val (.ref b1), .val (.int nn), .unset, .unset, .unset, .unset] [(.int (2 : Int32))])) rfl (hb hby at_33) rfl (by decide) (cap := 2) (by decide) (by decide) (by decide) (by decide) (ad := "[I") (by decide)
  obtain ⟨b4, g4⟩ : ∃ z, z = h3.size := ⟨_, rfl⟩
  rw [← g4] at A4 Ea4 st4
  have ne_b1_b4 : b1 ≠ b4 := Nat.ne_of_lt (Nat.lt_of_lt_of_le f3_E_b1.lt (Nat.le_of_eq g4.symm))
  have ge_b4 : n0 ≤ b4 := own_new O3 g4
  have sz_b4 : h0.size ≤ b4 := Nat.le_trans K3.1 (Nat.le_of_eq g4.symm)
  have f4_E_b1 := f3_E_b1.ext E4
  have f4_V_b1 := V3.ext E4
  have O4 := O3.ext E4
  have K4 := K3.ext E4
  have V4 : Arv Z h4 b4 k4 .int (2 : Int32) [(.int (0 : Int32)), (.int (0 : Int32))] (.int (0 : Int32)) := (Arv.new A4 (by decide)).pad (pad_rep [] (.int (0 : Int32)) 2)
  obtain ⟨cl5, Ar5, qk5, Sz5, Nn5, Hs5, Gs5⟩ := id (f4_V_b1)
  have hin6 : ¬ ((0 : Int32) < 0 ∨ cl5.slots.size ≤ ((0 : Int32)).toNatClampNeg) := inb_of Sz5 ⟨by decide, by decide⟩
  have hat6 : cl5.slots[((0 : Int32)).toNatClampNeg]? = some (.int q0) := Hs5.at hin6 rfl
  obtain ⟨cl7, Ar7, qk7, Sz7, Nn7, Hs7, Gs7⟩ := id (V4)
  have hin7 : ¬ ((0 : Int32) < 0 ∨ cl7.slots.size ≤ ((0 : Int32)).toNatClampNeg) := inb_of Sz7 ⟨by decide, by decide⟩
  obtain ⟨T7, h7, X7, e7, W7, st7⟩ := stI X4 hx hZ e4 Ar7 (j := (0 : Int32)) hin7 (g := (mkF m 52 #[.val (.int p1), .val (.int p2), .val (.int p3), .val (.int p4), .val (.int p5), .val (.int p6), .val (.ref b1), .val (.int nn), .val (.ref b4), .unset, .unset, .unset] [(.int u0), (.int (0 : Int32)), (.ref b4)])) rfl rfl (hb hby at_52)
  have V7 := Arv.set Ar7 qk7 Sz7 Nn7 Hs7 Gs7 rfl W7 0 rfl (Nat.le_of_ble_eq_true rfl)
  have f7_E_b1 := f4_E_b1.wr W7
  have f7_V_b1 := f4_V_b1.other W7 ne_b1_b4
  have f7_E_b4 := Ea4.wr W7
  have O7 := O4.wr W7 ge_b4
  have K7 := K4.wr W7 (Or.inr sz_b4)
  have N7 := Fr.snoc X7 N3 ge_b4
  obtain ⟨cl8, Ar8, qk8, Sz8, Nn8, Hs8, Gs8⟩ := id (f7_V_b1)
  have hin9 : ¬ ((1 : Int32) < 0 ∨ cl8.slots.size ≤ ((1 : Int32)).toNatClampNeg) := inb_of Sz8 ⟨by decide, by decide⟩
  have hat9 : cl8.slots[((1 : Int32)).toNatClampNeg]? = some (.int q1) := Hs8.at hin9 rfl
  obtain ⟨cl10, Ar10, qk10, Sz10, Nn10, Hs10, Gs10⟩ := id (V7)
  have hin10 : ¬ ((1 : Int32) < 0 ∨ cl10.slots.size ≤ ((1 : Int32)).toNatClampNeg) := inb_of Sz10 ⟨by decide, by decide⟩
  obtain ⟨T10, h10, X10, e10, W10, st10⟩ := stI X7 hx hZ e7 Ar10 (j := (1 : Int32)) hin10 (g := (mkF m 71 #[.val (.int p1), .val (.int p2), .val (.int p3), .val (.int p4), .val (.int p5), .val (.int p6), .val (.ref b1), .val (.int nn), .val (.ref b4), .unset, .unset, .unset] [(.int u1), (.int (1 : Int32)), (.ref b4)])) rfl rfl (hb hby at_71)
  have V10 := Arv.set Ar10 qk10 Sz10 Nn10 Hs10 Gs10 rfl W10 1 rfl (Nat.le_of_ble_eq_true rfl)
  have f10_E_b1 := f7_E_b1.wr W10
  have f10_V_b1 := f7_V_b1.other W10 ne_b1_b4
  have f10_E_b4 := f7_E_b4.wr W10
  have O10 := O7.wr W10 ge_b4
  have K10 := K7.wr W10 (Or.inr sz_b4)
  have N10 := Fr.snoc X10 N7 ge_b4
  obtain ⟨T11, h11, X11, e11, E11, A11, D11, -, st11⟩ := newO X10 hx hZ hown (hw _ (List.mem_of_getElem? (i := 2) rfl)) (hw _ (List.mem_of_getElem? (i := 3) rfl)) (hw _ (List.mem_of_getElem? (i := 4) rfl)) e10 (g := (mkF m 72 #[.val (.int p1), .val (.int p2), .val (.int p3), .val (.int p4), .val (.int p5), .val (.int p6), .val (.ref b1), .val (.int nn), .val (.ref b4), .unset, .unset, .unset] [])) rfl (hb hby at_72) (by decide) (by decide)
  obtain ⟨b11, g11⟩ : ∃ z, z = h10.size := ⟨_, rfl⟩
  rw [← g11] at A11 D11 st11
  have ne_b1_b11 : b1 ≠ b11 := Nat.ne_of_lt (Nat.lt_of_lt_of_le f10_E_b1.lt (Nat.le_of_eq g11.symm))
  have ne_b4_b11 : b4 ≠ b11 := Nat.ne_of_lt (Nat.lt_of_lt_of_le f10_E_b4.lt (Nat.le_of_eq g11.symm))
  have ge_b11 : n0 ≤ b11 := own_new O10 g11
  have sz_b11 : h0.size ≤ b11 := Nat.le_trans K10.1 (Nat.le_of_eq g11.symm)
  have f11_E_b1 := f10_E_b1.ext E11
  have f11_V_b1 := f10_V_b1.ext E11
  have f11_E_b4 := f10_E_b4.ext E11
  have f11_V_b4 := V10.ext E11
  have O11 := O10.ext E11
  have K11 := K10.ext E11
  have F11_trees : Fld Z h11 b11 "com/example/sober_broadcast/soberbroadcast/cli/PositionCounts" "trees" "[[I" .null := D11 (Or.inr (hw _ (List.mem_of_getElem? (i := 14) rfl))) (ty := (.array (.array .int))) (by decide)
  have F11_lowest : Fld Z h11 b11 "com/example/sober_broadcast/soberbroadcast/cli/PositionCounts" "lowest" "[I" .null := D11 (Or.inr (hw _ (List.mem_of_getElem? (i := 17) rfl))) (ty := (.array .int)) (by decide)
  obtain ⟨_, _, ⟨T12, L12, k12, n12⟩, -, X12, ⟨Lc12, hQ12, l12, y12, z12⟩, st12⟩ := X11.specialBack hx (y := (⟨"com/example/sober_broadcast/soberbroadcast/cli/PositionCounts", "<init>", "([I)V"⟩ : MethodName)) rfl hown (mvT hZ (hw _ (List.mem_of_getElem? (i := 5) rfl))) (mvT hZ (hw _ (List.mem_of_getElem? (i := 6) rfl))) (mvT hZ (hw _ (List.mem_of_getElem? (i := 7) rfl))) (by decide) (backOf (W := 1) (own_init_0 l Z a0 hw [] h11 n0 O11 b11 b1 k1 q0 q1 nn0 mz0 cp0 nn1 mz1 cp1 (Ne.symm ne_b1_b11) ge_b11 ge_b1 A11 F11_trees F11_lowest f11_E_b1 f11_V_b1) hZ (hw _ (List.mem_of_getElem? (i := 7) rfl)) (hw _ (List.mem_of_getElem? (i := 4) rfl)) (by decide) (by decide)) (g := (mkF m 78 #[.val (.int p1), .val (.int p2), .val (.int p3), .val (.int p4), .val (.int p5), .val (.int p6), .val (.ref b1), .val (.int nn), .val (.ref b4), .unset, .unset, .unset] [(.ref b1), (.ref b11), (.ref b11)])) rfl (by rw [hml]; rfl) (Steps.refl _) (a := b11) (argsL := [(.ref b1)]) (rest := [(.ref b11)]) (lenOf own_pd_3 rfl) rfl (by show 2 * 0 + _ ≤ _; exact Nat.le_of_eq rfl) (hb hby at_78) (fun _ _ => ⟨rfl, e11, (by decide : 3 + 4 ≤ _), (by decide : 6 + 38 ≤ _)⟩)
  dsimp only [Pt.U, Pt.locs, Pt.cells, Pt.slots] at X12 l12 y12 z12 st12 hQ12
  subst l12 y12 z12
  obtain ⟨b3_12, b16_12, b8_12, b13_12, k3_12, k16_12, rfl, N12q, Kq12, ge_b3_12, ge_b16_12, ge_b8_12, ge_b13_12, sq_b3_12, sq_b16_12, sq_b8_12, sq_b13_12, ne_b3_12_b16_12, ne_b3_12_b8_12, ne_b3_12_b13_12, ne_b16_12_b8_12, ne_b16_12_b13_12, ne_b8_12_b13_12, q12_E_o1, q12_F_o1_trees, q12_F_o1_lowest, q12_E_b3, q12_E_b8, q12_A_b8, q12_E_b13, q12_A_b13, q12_V_b3, q12_E_b16, q12_V_b16, Ov_b3_12⟩ := hQ12
  have N12 := Fr.app N10 N12q
  have ne_b1_b3_12 : b1 ≠ b3_12 := Nat.ne_of_lt (Nat.lt_of_lt_of_le f11_E_b1.lt sq_b3_12)
  have ne_b11_b3_12 : b11 ≠ b3_12 := Nat.ne_of_lt (Nat.lt_of_lt_of_le A11.lt sq_b3_12)
  have ne_b4_b3_12 : b4 ≠ b3_12 := Nat.ne_of_lt (Nat.lt_of_lt_of_le f11_E_b4.lt sq_b3_12)
  have ne_b1_b16_12 : b1 ≠ b16_12 := Nat.ne_of_lt (Nat.lt_of_lt_of_le f11_E_b1.lt sq_b16_12)
  have ne_b11_b16_12 : b11 ≠ b16_12 := Nat.ne_of_lt (Nat.lt_of_lt_of_le A11.lt sq_b16_12)
  have ne_b4_b16_12 : b4 ≠ b16_12 := Nat.ne_of_lt (Nat.lt_of_lt_of_le f11_E_b4.lt sq_b16_12)
  have ne_b1_b8_12 : b1 ≠ b8_12 := Nat.ne_of_lt (Nat.lt_of_lt_of_le f11_E_b1.lt sq_b8_12)
  have ne_b11_b8_12 : b11 ≠ b8_12 := Nat.ne_of_lt (Nat.lt_of_lt_of_le A11.lt sq_b8_12)
  have ne_b4_b8_12 : b4 ≠ b8_12 := Nat.ne_of_lt (Nat.lt_of_lt_of_le f11_E_b4.lt sq_b8_12)
  have ne_b1_b13_12 : b1 ≠ b13_12 := Nat.ne_of_lt (Nat.lt_of_lt_of_le f11_E_b1.lt sq_b13_12)
  have ne_b11_b13_12 : b11 ≠ b13_12 := Nat.ne_of_lt (Nat.lt_of_lt_of_le A11.lt sq_b13_12)
  have ne_b4_b13_12 : b4 ≠ b13_12 := Nat.ne_of_lt (Nat.lt_of_lt_of_le f11_E_b4.lt sq_b13_12)
  have sz_b3_12 : h0.size ≤ b3_12 := Nat.le_trans K11.1 sq_b3_12
  have sz_b16_12 : h0.size ≤ b16_12 := Nat.le_trans K11.1 sq_b16_12
  have sz_b8_12 : h0.size ≤ b8_12 := Nat.le_trans K11.1 sq_b8_12
  have sz_b13_12 : h0.size ≤ b13_12 := Nat.le_trans K11.1 sq_b13_12
  have f12_E_b1 := f11_E_b1.keep Kq12
  have f12_V_b1 := f11_V_b1.keep Kq12 (ninS ne_b1_b11 nin0)
  have f12_E_b4 := f11_E_b4.keep Kq12
  have f12_V_b4 := f11_V_b4.keep Kq12 (ninS ne_b4_b11 nin0)
  have f12_E_b11 := A11.keep Kq12
  have O12 := O11.keep Kq12 (allS ge_b11 all0)
  have K12 := K11.trans Kq12 (allS (Or.inr sz_b11) all0)
  obtain ⟨_, _, ⟨T13, L13, k13, n13⟩, -, X13, ⟨Lc13, hQ13, l13, y13, z13⟩, st13⟩ := Jvm.LawKit.callS X12 hx (y := (⟨"com/example/sober_broadcast/soberbroadcast/cli/PositionCountsCountBelowPinLaw", "markOne", "(Lcom/example/sober_broadcast/soberbroadcast/cli/PositionCounts;[I[IZII)J"⟩ : MethodName)) hown (mvT hZ (hw _ (List.mem_of_getElem? (i := 23) rfl))) (mvT hZ (hw _ (List.mem_of_getElem? (i := 24) rfl))) (mvT hZ (hw _ (List.mem_of_getElem? (i := 25) rfl))) (mvT hZ (hw _ (List.mem_of_getElem? (i := 26) rfl))) (by decide) (backOf (W := 2) (own_moC l Z a0 hw [] T12.heap n0 O12 b11 b3_12 b16_12 b8_12 b13_12 k3_12 k16_12 (2147483647 : Int32) (2147483647 : Int32) (q0 + (1 : Int32)) (q1 + (1 : Int32)) own_zero own_zero b1 b4 k1 k4 q0 q1 u0 u1 p2 r1 c1 ne_b11_b3_12 ne_b11_b16_12 ne_b11_b8_12 ne_b11_b13_12 ne_b3_12_b16_12 ne_b3_12_b8_12 ne_b3_12_b13_12 ne_b16_12_b8_12 ne_b16_12_b13_12 ne_b8_12_b13_12 ne_b1_b16_12 ne_b1_b8_12 ne_b1_b13_12 ne_b4_b16_12 ne_b4_b8_12 ne_b4_b13_12 ge_b16_12 ge_b8_12 ge_b13_12 h011 hr1 uk1 q12_E_o1 q12_F_o1_trees q12_F_o1_lowest q12_V_b3 q12_V_b16 q12_A_b8 q12_A_b13 f12_V_b1 f12_V_b4) hZ (hw _ (List.mem_of_getElem? (i := 26) rfl)) (hw _ (List.mem_of_getElem? (i := 25) rfl)) (by decide) (by decide)) (g := (mkF m 111 #[.val (.int p1), .val (.int p2), .val (.int p3), .val (.int p4), .val (.int p5), .val (.int p6), .val (.ref b1), .val (.int nn), .val (.ref b4), .val (.ref b11), .val (.long (0 : Int64)), .second] [(.int p2), (.int c1), (.int (1 : Int32)), (.ref b4), (.ref b1), (.ref b11), (.long (0 : Int64))])) rfl (by rw [hml]; rfl) (argsL := [(.ref b11), (.ref b1), (.ref b4), (.int (1 : Int32)), (.int c1), (.int p2)]) (rest := [(.long (0 : Int64))]) (lenOf own_pd_4 rfl) rfl (by show 2 * 0 + _ ≤ _; exact Nat.le_of_eq rfl) (hb hby at_111) (fun _ _ => ⟨rfl, rfl, (by decide : 7 + 0 ≤ _), (by decide : 44 + 0 ≤ _)⟩)
  dsimp only [Pt.U, Pt.locs, Pt.cells, Pt.slots] at X13 l13 y13 z13 st13 hQ13
  subst l13 y13 z13
  obtain ⟨rfl, N13q, Kq13, q13_V_tL, q13_A_t0, q13_A_t1⟩ := hQ13
  have N13 := Fr.app N12 N13q
  have f13_E_b1 := f12_E_b1.keep Kq13
  have f13_V_b1 := f12_V_b1.keep Kq13 (ninS ne_b1_b16_12 (ninS ne_b1_b8_12 (ninS ne_b1_b13_12 nin0)))
  have f13_E_b4 := f12_E_b4.keep Kq13
  have f13_V_b4 := f12_V_b4.keep Kq13 (ninS ne_b4_b16_12 (ninS ne_b4_b8_12 (ninS ne_b4_b13_12 nin0)))
  have f13_E_b11 := q12_E_o1.keep Kq13
  have f13_F_b11_trees := q12_F_o1_trees.keep Kq13 (ninS ne_b11_b16_12 (ninS ne_b11_b8_12 (ninS ne_b11_b13_12 nin0)))
  have f13_F_b11_lowest := q12_F_o1_lowest.keep Kq13 (ninS ne_b11_b16_12 (ninS ne_b11_b8_12 (ninS ne_b11_b13_12 nin0)))
  have f13_E_b3_12 := q12_E_b3.keep Kq13
  have f13_E_b8_12 := q12_E_b8.keep Kq13
  have f13_E_b13_12 := q12_E_b13.keep Kq13
  have f13_V_b3_12 := q12_V_b3.keep Kq13 (ninS ne_b3_12_b16_12 (ninS ne_b3_12_b8_12 (ninS ne_b3_12_b13_12 nin0)))
  have f13_E_b16_12 := q12_E_b16.keep Kq13
  have O13 := O12.keep Kq13 (allS ge_b16_12 (allS ge_b8_12 (allS ge_b13_12 all0)))
  have K13 := K12.trans Kq13 (allS (Or.inr sz_b16_12) (allS (Or.inr sz_b8_12) (allS (Or.inr sz_b13_12) all0)))
  obtain ⟨_, _, ⟨T14, L14, k14, n14⟩, -, X14, ⟨Lc14, hQ14, l14, y14, z14⟩, st14⟩ := Jvm.LawKit.callS X13 hx (y := (⟨"com/example/sober_broadcast/soberbroadcast/cli/PositionCountsCountBelowPinLaw", "markOne", "(Lcom/example/sober_broadcast/soberbroadcast/cli/PositionCounts;[I[IZII)J"⟩ : MethodName)) hown (mvT hZ (hw _ (List.mem_of_getElem? (i := 23) rfl))) (mvT hZ (hw _ (List.mem_of_getElem? (i := 24) rfl))) (mvT hZ (hw _ (List.mem_of_getElem? (i := 25) rfl))) (mvT hZ (hw _ (List.mem_of_getElem? (i := 26) rfl))) (by decide) (backOf (W := 2) (own_moC l Z a0 hw [] T13.heap n0 O13 b11 b3_12 b16_12 b8_12 b13_12 k3_12 k16_12 (own_gx0 (own_sel c1 q0 q1) c1 r1 (2147483647 : Int32)) (own_gx1 (own_sel c1 q0 q1) c1 r1 (2147483647 : Int32)) (q0 + (1 : Int32)) (q1 + (1 : Int32)) (own_gf0 (own_sel c1 q0 q1) c1 (q0 + (1 : Int32)) r1 own_zero) (own_gf1 (own_sel c1 q0 q1) c1 (q1 + (1 : Int32)) r1 own_zero) b1 b4 k1 k4 q0 q1 u0 u1 p3 r2 c2 ne_b11_b3_12 ne_b11_b16_12 ne_b11_b8_12 ne_b11_b13_12 ne_b3_12_b16_12 ne_b3_12_b8_12 ne_b3_12_b13_12 ne_b16_12_b8_12 ne_b16_12_b13_12 ne_b8_12_b13_12 ne_b1_b16_12 ne_b1_b8_12 ne_b1_b13_12 ne_b4_b16_12 ne_b4_b8_12 ne_b4_b13_12 ge_b16_12 ge_b8_12 ge_b13_12 h012 hr2 uk2 f13_E_b11 f13_F_b11_trees f13_F_b11_lowest f13_V_b3_12 q13_V_tL q13_A_t0 q13_A_t1 f13_V_b1 f13_V_b4) hZ (hw _ (List.mem_of_getElem? (i := 26) rfl)) (hw _ (List.mem_of_getElem? (i := 25) rfl)) (by decide) (by decide)) (g := (mkF m 143 #[.val (.int p1), .val (.int p2), .val (.int p3), .val (.int p4), .val (.int p5), .val (.int p6), .val (.ref b1), .val (.int nn), .val (.ref b4), .val (.ref b11), .val (.long ((0 : Int64) + (own_glt (own_sel c1 q0 q1) r1 (own_sel c1 u0 u1)))), .second] [(.int p3), (.int c2), (.int (1 : Int32)), (.ref b4), (.ref b1), (.ref b11), (.long ((0 : Int64) + (own_glt (own_sel c1 q0 q1) r1 (own_sel c1 u0 u1))))])) rfl (by rw [hml]; rfl) (argsL := [(.ref b11), (.ref b1), (.ref b4), (.int (1 : Int32)), (.int c2), (.int p3)]) (rest := [(.long ((0 : Int64) + (own_glt (own_sel c1 q0 q1) r1 (own_sel c1 u0 u1))))]) (lenOf own_pd_4 rfl) rfl (by show 2 * 0 + _ ≤ _; exact Nat.le_of_eq rfl) (hb hby at_143) (fun _ _ => ⟨rfl, rfl, (by decide : 7 + 0 ≤ _), (by decide : 44 + 0 ≤ _)⟩)
  dsimp only [Pt.U, Pt.locs, Pt.cells, Pt.slots] at X14 l14 y14 z14 st14 hQ14
  subst l14 y14 z14
  obtain ⟨rfl, N14q, Kq14, q14_V_tL, q14_A_t0, q14_A_t1⟩ := hQ14
  have N14 := Fr.app N13 N14q
  have f14_E_b1 := f13_E_b1.keep Kq14
  have f14_V_b1 := f13_V_b1.keep Kq14 (ninS ne_b1_b16_12 (ninS ne_b1_b8_12 (ninS ne_b1_b13_12 nin0)))
  have f14_E_b4 := f13_E_b4.keep Kq14
  have f14_V_b4 := f13_V_b4.keep Kq14 (ninS ne_b4_b16_12 (ninS ne_b4_b8_12 (ninS ne_b4_b13_12 nin0)))
  have f14_E_b11 := f13_E_b11.keep Kq14
  have f14_F_b11_trees := f13_F_b11_trees.keep Kq14 (ninS ne_b11_b16_12 (ninS ne_b11_b8_12 (ninS ne_b11_b13_12 nin0)))
  have f14_F_b11_lowest := f13_F_b11_lowest.keep Kq14 (ninS ne_b11_b16_12 (ninS ne_b11_b8_12 (ninS ne_b11_b13_12 nin0)))
  have f14_E_b3_12 := f13_E_b3_12.keep Kq14
  have f14_E_b8_12 := f13_E_b8_12.keep Kq14
  have f14_E_b13_12 := f13_E_b13_12.keep Kq14
  have f14_V_b3_12 := f13_V_b3_12.keep Kq14 (ninS ne_b3_12_b16_12 (ninS ne_b3_12_b8_12 (ninS ne_b3_12_b13_12 nin0)))
  have f14_E_b16_12 := f13_E_b16_12.keep Kq14
  have O14 := O13.keep Kq14 (allS ge_b16_12 (allS ge_b8_12 (allS ge_b13_12 all0)))
  have K14 := K13.trans Kq14 (allS (Or.inr sz_b16_12) (allS (Or.inr sz_b8_12) (allS (Or.inr sz_b13_12) all0)))
  obtain ⟨_, _, ⟨T15, L15, k15, n15⟩, -, X15, ⟨Lc15, hQ15, l15, y15, z15⟩, st15⟩ := Jvm.LawKit.callS X14 hx (y := (⟨"com/example/sober_broadcast/soberbroadcast/cli/PositionCountsCountBelowPinLaw", "markOne", "(Lcom/example/sober_broadcast/soberbroadcast/cli/PositionCounts;[I[IZII)J"⟩ : MethodName)) hown (mvT hZ (hw _ (List.mem_of_getElem? (i := 23) rfl))) (mvT hZ (hw _ (List.mem_of_getElem? (i := 24) rfl))) (mvT hZ (hw _ (List.mem_of_getElem? (i := 25) rfl))) (mvT hZ (hw _ (List.mem_of_getElem? (i := 26) rfl))) (by decide) (backOf (W := 2) (own_mo_off l Z a0 hw [] T14.heap n0 O14 b11 b1 b4 c3 p4) hZ (hw _ (List.mem_of_getElem? (i := 26) rfl)) (hw _ (List.mem_of_getElem? (i := 25) rfl)) (by decide) (by decide)) (g := (mkF m 175 #[.val (.int p1), .val (.int p2), .val (.int p3), .val (.int p4), .val (.int p5), .val (.int p6), .val (.ref b1), .val (.int nn), .val (.ref b4), .val (.ref b11), .val (.long (((0 : Int64) + (own_glt (own_sel c1 q0 q1) r1 (own_sel c1 u0 u1))) + (own_glt (own_sel c2 q0 q1) r2 (own_sel c2 u0 u1)))), .second] [(.int p4), (.int c3), (.int (0 : Int32)), (.ref b4), (.ref b1), (.ref b11), (.long (((0 : Int64) + (own_glt (own_sel c1 q0 q1) r1 (own_sel c1 u0 u1))) + (own_glt (own_sel c2 q0 q1) r2 (own_sel c2 u0 u1))))])) rfl (by rw [hml]; rfl) (argsL := [(.ref b11), (.ref b1), (.ref b4), (.int (0 : Int32)), (.int c3), (.int p4)]) (rest := [(.long (((0 : Int64) + (own_glt (own_sel c1 q0 q1) r1 (own_sel c1 u0 u1))) + (own_glt (own_sel c2 q0 q1) r2 (own_sel c2 u0 u1))))]) (lenOf own_pd_4 rfl) rfl (by show 2 * 0 + _ ≤ _; exact Nat.le_of_eq rfl) (hb hby at_175) (fun _ _ => ⟨rfl, rfl, (by decide : 7 + 0 ≤ _), (by decide : 44 + 0 ≤ _)⟩)
  dsimp only [Pt.U, Pt.locs, Pt.cells, Pt.slots] at X15 l15 y15 z15 st15 hQ15
  subst l15 y15 z15
  obtain ⟨rfl, N15q, e15⟩ := hQ15
  have N15 := Fr.app N14 N15q
  obtain ⟨_, _, ⟨T16, L16, k16, n16⟩, -, X16, ⟨Lc16, hQ16, l16, y16, z16⟩, st16⟩ := Jvm.LawKit.callS X15 hx (y := (⟨"com/example/sober_broadcast/soberbroadcast/cli/PositionCountsCountBelowPinLaw", "markOne", "(Lcom/example/sober_broadcast/soberbroadcast/cli/PositionCounts;[I[IZII)J"⟩ : MethodName)) hown (mvT hZ (hw _ (List.mem_of_getElem? (i := 23) rfl))) (mvT hZ (hw _ (List.mem_of_getElem? (i := 24) rfl))) (mvT hZ (hw _ (List.mem_of_getElem? (i := 25) rfl))) (mvT hZ (hw _ (List.mem_of_getElem? (i := 26) rfl))) (by decide) (backOf (W := 2) (own_mo_off l Z a0 hw [] T14.heap n0 O14 b11 b1 b4 c4 p5) hZ (hw _ (List.mem_of_getElem? (i := 26) rfl)) (hw _ (List.mem_of_getElem? (i := 25) rfl)) (by decide) (by decide)) (g := (mkF m 208 #[.val (.int p1), .val (.int p2), .val (.int p3), .val (.int p4), .val (.int p5), .val (.int p6), .val (.ref b1), .val (.int nn), .val (.ref b4), .val (.ref b11), .val (.long ((((0 : Int64) + (own_glt (own_sel c1 q0 q1) r1 (own_sel c1 u0 u1))) + (own_glt (own_sel c2 q0 q1) r2 (own_sel c2 u0 u1))) + (0 : Int64))), .second] [(.int p5), (.int c4), (.int (0 : Int32)), (.ref b4), (.ref b1), (.ref b11), (.long ((((0 : Int64) + (own_glt (own_sel c1 q0 q1) r1 (own_sel c1 u0 u1))) + (own_glt (own_sel c2 q0 q1) r2 (own_sel c2 u0 u1))) + (0 : Int64)))])) rfl (by rw [hml]; rfl) (argsL := [(.ref b11), (.ref b1), (.ref b4), (.int (0 : Int32)), (.int c4), (.int p5)]) (rest := [(.long ((((0 : Int64) + (own_glt (own_sel c1 q0 q1) r1 (own_sel c1 u0 u1))) + (own_glt (own_sel c2 q0 q1) r2 (own_sel c2 u0 u1))) + (0 : Int64)))]) (lenOf own_pd_4 rfl) rfl (by show 2 * 0 + _ ≤ _; exact Nat.le_of_eq rfl) (hb hby at_208) (fun _ _ => ⟨rfl, e15, (by decide : 7 + 0 ≤ _), (by decide : 44 + 0 ≤ _)⟩)
  dsimp only [Pt.U, Pt.locs, Pt.cells, Pt.slots] at X16 l16 y16 z16 st16 hQ16
  subst l16 y16 z16
  obtain ⟨rfl, N16q, e16⟩ := hQ16
  have N16 := Fr.app N15 N16q
  obtain ⟨cq17, kq17, q17a, q17b, q17c⟩ := isOf hZ e16 f14_E_b11
  obtain ⟨_, _, ⟨T17, L17, k17, n17⟩, -, X17, ⟨Lc17, hQ17, l17, y17, z17⟩, st17⟩ := X16.virtualBack hx (y := (⟨"com/example/sober_broadcast/soberbroadcast/cli/PositionCounts", "countBelow", "([I)J"⟩ : MethodName)) (z := (⟨"com/example/sober_broadcast/soberbroadcast/cli/PositionCounts", "countBelow", "([I)J"⟩ : MethodName)) hown (mvT hZ (hw _ (List.mem_of_getElem? (i := 27) rfl))) (mvT hZ (hw _ (List.mem_of_getElem? (i := 28) rfl))) (notFace_of_selects (args := #[]) (mvT hZ (hw _ (List.mem_of_getElem? (i := 30) rfl)))) (mvT hZ (hw _ (List.mem_of_getElem? (i := 30) rfl))) (mvT hZ (hw _ (List.mem_of_getElem? (i := 29) rfl))) (by decide) (backOf (W := 0) (own_cbC l Z a0 hw [] T14.heap n0 O14 b11 b4 b3_12 b16_12 b8_12 b13_12 k3_12 k16_12 k4 u0 u1 (own_gx0 (own_sel c2 q0 q1) c2 r2 (own_gx0 (own_sel c1 q0 q1) c1 r1 (2147483647 : Int32))) (own_gx1 (own_sel c2 q0 q1) c2 r2 (own_gx1 (own_sel c1 q0 q1) c1 r1 (2147483647 : Int32))) (q0 + (1 : Int32)) (q1 + (1 : Int32)) (own_gf0 (own_sel c2 q0 q1) c2 (q0 + (1 : Int32)) r2 (own_gf0 (own_sel c1 q0 q1) c1 (q0 + (1 : Int32)) r1 own_zero)) (own_gf1 (own_sel c2 q0 q1) c2 (q1 + (1 : Int32)) r2 (own_gf1 (own_sel c1 q0 q1) c1 (q1 + (1 : Int32)) r1 own_zero)) dk0 dk1 f14_E_b11 f14_F_b11_trees f14_F_b11_lowest f14_V_b3_12 q14_V_tL q14_A_t0 q14_A_t1 f14_V_b4) hZ (hw _ (List.mem_of_getElem? (i := 31) rfl)) (hw _ (List.mem_of_getElem? (i := 4) rfl)) (by decide) (by decide)) q17a q17c (g := (mkF m 218 #[.val (.int p1), .val (.int p2), .val (.int p3), .val (.int p4), .val (.int p5), .val (.int p6), .val (.ref b1), .val (.int nn), .val (.ref b4), .val (.ref b11), .val (.long (((((0 : Int64) + (own_glt (own_sel c1 q0 q1) r1 (own_sel c1 u0 u1))) + (own_glt (own_sel c2 q0 q1) r2 (own_sel c2 u0 u1))) + (0 : Int64)) + (0 : Int64))), .second] [(.ref b4), (.ref b11)])) rfl (by rw [hml]; rfl) (Steps.refl _) (argsL := [(.ref b4)]) (rest := []) (lenOf own_pd_5 rfl) rfl (by show 2 * 0 + _ ≤ _; exact Nat.le_of_eq rfl) (hb hby at_218) (fun _ _ => ⟨rfl, e16, (by decide : 7 + 0 ≤ _), (by decide : 44 + 0 ≤ _)⟩)
  dsimp only [Pt.U, Pt.locs, Pt.cells, Pt.slots] at X17 l17 y17 z17 st17 hQ17
  subst l17 y17 z17
  obtain ⟨rfl, N17q, e17⟩ := hQ17
  have N17 := Fr.app N16 N17q
  obtain ⟨fs, hr, hrun, hended, hW, hsame⟩ := X17.leave (v := some (.int (1 : Int32))) (fun h => by rw [Bd.returns] at h; cases h)
  refine ⟨_, _, pre0 _ ?_, hrun, hended, _, _, rfl, ?_, ⟨_, rfl⟩, hW, hsame.mono (by decide) (by decide)⟩
  · show Steps p.tables e below (s₁.setTop (mkF m 0 #[.val (.int p1), .val (.int p2), .val (.int p3), .val (.int p4), .val (.int p5), .val (.int p6), .unset, .unset, .unset, .unset, .unset, .unset] [])) _
    refine XS.iconst X0.here hx rfl (hb hby at_0) ?_
    show Steps p.tables e below (s₁.setTop (mkF m 1 #[.val (.int p1), .val (.int p2), .val (.int p3), .val (.int p4), .val (.int p5), .val (.int p6), .unset, .unset, .unset, .unset, .unset, .unset] [(.int (2 : Int32))])) _
    refine st1 _ ?_
    show Steps p.tables e below (T1.setTop (mkF m 3 #[.val (.int p1), .val (.int p2), .val (.int p3), .val (.int p4), .val (.int p5), .val (.int p6), .unset, .unset, .unset, .unset, .unset, .unset] [(.ref b1)])) _
    refine XS.astore X1.here hx rfl (hb hby at_3) rfl rfl (l' := #[.val (.int p1), .val (.int p2), .val (.int p3), .val (.int p4), .val (.int p5), .val (.int p6), .val (.ref b1), .unset, .unset, .unset, .unset, .unset]) rfl ?_
    show Steps p.tables e below (T1.setTop (mkF m 5 #[.val (.int p1), .val (.int p2), .val (.int p3), .val (.int p4), .val (.int p5), .val (.int p6), .val (.ref b1), .unset, .unset, .unset, .unset, .unset] [])) _
    refine XS.aload X1.here hx rfl (hb hby at_5) rfl rfl ?_
    show Steps p.tables e below (T1.setTop (mkF m 7 #[.val (.int p1), .val (.int p2), .val (.int p3), .val (.int p4), .val (.int p5), .val (.int p6), .val (.ref b1), .unset, .unset, .unset, .unset, .unset] [(.ref b1)])) _
    refine XS.iconst X1.here hx rfl (hb hby at_7) ?_
    show Steps p.tables e below (T1.setTop (mkF m 8 #[.val (.int p1), .val (.int p2), .val (.int p3), .val (.int p4), .val (.int p5), .val (.int p6), .val (.ref b1), .unset, .unset, .unset, .unset, .unset] [(.int (0 : Int32)), (.ref b1)])) _
    refine XS.iloadN X1.here hx rfl (hb hby at_8) rfl ?_
    show Steps p.tables e below (T1.setTop (mkF m 9 #[.val (.int p1), .val (.int p2), .val (.int p3), .val (.int p4), .val (.int p5), .val (.int p6), .val (.ref b1), .unset, .unset, .unset, .unset, .unset] [(.int p1), (.int (0 : Int32)), (.ref b1)])) _
    refine XS.bipush X1.here hx rfl (hb hby at_9) ?_
    show Steps p.tables e below (T1.setTop (mkF m 11 #[.val (.int p1), .val (.int p2), .val (.int p3), .val (.int p4), .val (.int p5), .val (.int p6), .val (.ref b1), .unset, .unset, .unset, .unset, .unset] [(.int (15 : Int32)), (.int p1), (.int (0 : Int32)), (.ref b1)])) _
    refine XS.iand X1.here hx rfl (hb hby at_11) rfl ?_
    show Steps p.tables e below (T1.setTop (mkF m 12 #[.val (.int p1), .val (.int p2), .val (.int p3), .val (.int p4), .val (.int p5), .val (.int p6), .val (.ref b1), .unset, .unset, .unset, .unset, .unset] [(.int (p1 &&& (15 : Int32))), (.int (0 : Int32)), (.ref b1)])) _
    refine castTop (g' := (mkF m 12 #[.val (.int p1), .val (.int p2), .val (.int p3), .val (.int p4), .val (.int p5), .val (.int p6), .val (.ref b1), .unset, .unset, .unset, .unset, .unset] [(.int q0), (.int (0 : Int32)), (.ref b1)])) (by rw [hq0]) ?_
    show Steps p.tables e below (T1.setTop (mkF m 12 #[.val (.int p1), .val (.int p2), .val (.int p3), .val (.int p4), .val (.int p5), .val (.int p6), .val (.ref b1), .unset, .unset, .unset, .unset, .unset] [(.int q0), (.int (0 : Int32)), (.ref b1)])) _
    refine st2 _ ?_
    show Steps p.tables e below (T2.setTop (mkF m 13 #[.val (.int p1), .val (.int p2), .val (.int p3), .val (.int p4), .val (.int p5), .val (.int p6), .val (.ref b1), .unset, .unset, .unset, .unset, .unset] [])) _
    refine XS.aload X2.here hx rfl (hb hby at_13) rfl rfl ?_
    show Steps p.tables e below (T2.setTop (mkF m 15 #[.val (.int p1), .val (.int p2), .val (.int p3), .val (.int p4), .val (.int p5), .val (.int p6), .val (.ref b1), .unset, .unset, .unset, .unset, .unset] [(.ref b1)])) _
    refine XS.iconst X2.here hx rfl (hb hby at_15) ?_
    show Steps p.tables e below (T2.setTop (mkF m 16 #[.val (.int p1), .val (.int p2), .val (.int p3), .val (.int p4), .val (.int p5), .val (.int p6), .val (.ref b1), .unset, .unset, .unset, .unset, .unset] [(.int (1 : Int32)), (.ref b1)])) _
    refine XS.iloadN X2.here hx rfl (hb hby at_16) rfl ?_
    show Steps p.tables e below (T2.setTop (mkF m 17 #[.val (.int p1), .val (.int p2), .val (.int p3), .val (.int p4), .val (.int p5), .val (.int p6), .val (.ref b1), .unset, .unset, .unset, .unset, .unset] [(.int p1), (.int (1 : Int32)), (.ref b1)])) _
    refine XS.iconst X2.here hx rfl (hb hby at_17) ?_
    show Steps p.tables e below (T2.setTop (mkF m 18 #[.val (.int p1), .val (.int p2), .val (.int p3), .val (.int p4), .val (.int p5), .val (.int p6), .val (.ref b1), .unset, .unset, .unset, .unset, .unset] [(.int (4 : Int32)), (.int p1), (.int (1 : Int32)), (.ref b1)])) _
    refine XS.iushr X2.here hx rfl (hb hby at_18) rfl ?_
    show Steps p.tables e below (T2.setTop (mkF m 19 #[.val (.int p1), .val (.int p2), .val (.int p3), .val (.int p4), .val (.int p5), .val (.int p6), .val (.ref b1), .unset, .unset, .unset, .unset, .unset] [(.int ((p1.toUInt32 >>> ((4 : Int32) &&& 31).toUInt32).toInt32)), (.int (1 : Int32)), (.ref b1)])) _
    refine XS.bipush X2.here hx rfl (hb hby at_19) ?_
    show Steps p.tables e below (T2.setTop (mkF m 21 #[.val (.int p1), .val (.int p2), .val (.int p3), .val (.int p4), .val (.int p5), .val (.int p6), .val (.ref b1), .unset, .unset, .unset, .unset, .unset] [(.int (15 : Int32)), (.int ((p1.toUInt32 >>> ((4 : Int32) &&& 31).toUInt32).toInt32)), (.int (1 : Int32)), (.ref b1)])) _
    refine XS.iand X2.here hx rfl (hb hby at_21) rfl ?_
    show Steps p.tables e below (T2.setTop (mkF m 22 #[.val (.int p1), .val (.int p2), .val (.int p3), .val (.int p4), .val (.int p5), .val (.int p6), .val (.ref b1), .unset, .unset, .unset, .unset, .unset] [(.int (((p1.toUInt32 >>> ((4 : Int32) &&& 31).toUInt32).toInt32) &&& (15 : Int32))), (.int (1 : Int32)), (.ref b1)])) _
    refine castTop (g' := (mkF m 22 #[.val (.int p1), .val (.int p2), .val (.int p3), .val (.int p4), .val (.int p5), .val (.int p6), .val (.ref b1), .unset, .unset, .unset, .unset, .unset] [(.int q1), (.int (1 : Int32)), (.ref b1)])) (by rw [hq1]) ?_
    show Steps p.tables e below (T2.setTop (mkF m 22 #[.val (.int p1), .val (.int p2), .val (.int p3), .val (.int p4), .val (.int p5), .val (.int p6), .val (.ref b1), .unset, .unset, .unset, .unset, .unset] [(.int q1), (.int (1 : Int32)), (.ref b1)])) _
    refine st3 _ ?_
    show Steps p.tables e below (T3.setTop (mkF m 23 #[.val (.int p1), .val (.int p2), .val (.int p3), .val (.int p4), .val (.int p5), .val (.int p6), .val (.ref b1), .unset, .unset, .unset, .unset, .unset] [])) _
    refine XS.iloadN X3.here hx rfl (hb hby at_23) rfl ?_
    show Steps p.tables e below (T3.setTop (mkF m 24 #[.val (.int p1), .val (.int p2), .val (.int p3), .val (.int p4), .val (.int p5), .val (.int p6), .val (.ref b1), .unset, .unset, .unset, .unset, .unset] [(.int p1)])) _
    refine XS.bipush X3.here hx rfl (hb hby at_24) ?_
    show Steps p.tables e below (T3.setTop (mkF m 26 #[.val (.int p1), .val (.int p2), .val (.int p3), .val (.int p4), .val (.int p5), .val (.int p6), .val (.ref b1), .unset, .unset, .unset, .unset, .unset] [(.int (8 : Int32)), (.int p1)])) _
    refine XS.iushr X3.here hx rfl (hb hby at_26) rfl ?_
    show Steps p.tables e below (T3.setTop (mkF m 27 #[.val (.int p1), .val (.int p2), .val (.int p3), .val (.int p4), .val (.int p5), .val (.int p6), .val (.ref b1), .unset, .unset, .unset, .unset, .unset] [(.int ((p1.toUInt32 >>> ((8 : Int32) &&& 31).toUInt32).toInt32))])) _
    refine XS.bipush X3.here hx rfl (hb hby at_27) ?_
    show Steps p.tables e below (T3.setTop (mkF m 29 #[.val (.int p1), .val (.int p2), .val (.int p3), .val (.int p4), .val (.int p5), .val (.int p6), .val (.ref b1), .unset, .unset, .unset, .unset, .unset] [(.int (7 : Int32)), (.int ((p1.toUInt32 >>> ((8 : Int32) &&& 31).toUInt32).toInt32))])) _
    refine XS.iand X3.here hx rfl (hb hby at_29) rfl ?_
    show Steps p.tables e below (T3.setTop (mkF m 30 #[.val (.int p1), .val (.int p2), .val (.int p3), .val (.int p4), .val (.int p5), .val (.int p6), .val (.ref b1), .unset, .unset, .unset, .unset, .unset] [(.int (((p1.toUInt32 >>> ((8 : Int32) &&& 31).toUInt32).toInt32) &&& (7 : Int32)))])) _
    refine castTop (g' := (mkF m 30 #[.val (.int p1), .val (.int p2), .val (.int p3), .val (.int p4), .val (.int p5), .val (.int p6), .val (.ref b1), .unset, .unset, .unset, .unset, .unset] [(.int nn)])) (by rw [hnn]) ?_
    show Steps p.tables e below (T3.setTop (mkF m 30 #[.val (.int p1), .val (.int p2), .val (.int p3), .val (.int p4), .val (.int p5), .val (.int p6), .val (.ref b1), .unset, .unset, .unset, .unset, .unset] [(.int nn)])) _
    refine XS.istore X3.here hx rfl (hb hby at_30) rfl (l' := #[.val (.int p1), .val (.int p2), .val (.int p3), .val (.int p4), .val (.int p5), .val (.int p6), .val (.ref b1), .val (.int nn), .unset, .unset, .unset, .unset]) rfl ?_
    show Steps p.tables e below (T3.setTop (mkF m 32 #[.val (.int p1), .val (.int p2), .val (.int p3), .val (.int p4), .val (.int p5), .val (.int p6), .val (.ref b1), .val (.int nn), .unset, .unset, .unset, .unset] [])) _
    refine XS.iconst X3.here hx rfl (hb hby at_32) ?_
    show Steps p.tables e below (T3.setTop (mkF m 33 #[.val (.int p1), .val (.int p2), .val (.int p3), .val (.int p4), .val (.int p5), .val (.int p6), .val (.ref b1), .val (.int nn), .unset, .unset, .unset, .unset] [(.int (2 : Int32))])) _
    refine st4 _ ?_
    show Steps p.tables e below (T4.setTop (mkF m 35 #[.val (.int p1), .val (.int p2), .val (.int p3), .val (.int p4), .val (.int p5), .val (.int p6), .val (.ref b1), .val (.int nn), .unset, .unset, .unset, .unset] [(.ref b4)])) _
    refine XS.astore X4.here hx rfl (hb hby at_35) rfl rfl (l' := #[.val (.int p1), .val (.int p2), .val (.int p3), .val (.int p4), .val (.int p5), .val (.int p6), .val (.ref b1), .val (.int nn), .val (.ref b4), .unset, .unset, .unset]) rfl ?_
    show Steps p.tables e below (T4.setTop (mkF m 37 #[.val (.int p1), .val (.int p2), .val (.int p3), .val (.int p4), .val (.int p5), .val (.int p6), .val (.ref b1), .val (.int nn), .val (.ref b4), .unset, .unset, .unset] [])) _
    refine XS.aload X4.here hx rfl (hb hby at_37) rfl rfl ?_
    show Steps p.tables e below (T4.setTop (mkF m 39 #[.val (.int p1), .val (.int p2), .val (.int p3), .val (.int p4), .val (.int p5), .val (.int p6), .val (.ref b1), .val (.int nn), .val (.ref b4), .unset, .unset, .unset] [(.ref b4)])) _
    refine XS.iconst X4.here hx rfl (hb hby at_39) ?_
    show Steps p.tables e below (T4.setTop (mkF m 40 #[.val (.int p1), .val (.int p2), .val (.int p3), .val (.int p4), .val (.int p5), .val (.int p6), .val (.ref b1), .val (.int nn), .val (.ref b4), .unset, .unset, .unset] [(.int (0 : Int32)), (.ref b4)])) _
    refine XS.iload X4.here hx rfl (hb hby at_40) rfl ?_
    show Steps p.tables e below (T4.setTop (mkF m 42 #[.val (.int p1), .val (.int p2), .val (.int p3), .val (.int p4), .val (.int p5), .val (.int p6), .val (.ref b1), .val (.int nn), .val (.ref b4), .unset, .unset, .unset] [(.int p6), (.int (0 : Int32)), (.ref b4)])) _
    refine Jvm.Stand.ldcI X4 hx hown (mvT hZ (hw _ (List.mem_of_getElem? (i := 1) rfl))) rfl (hb hby at_42) ?_
    show Steps p.tables e below (T4.setTop (mkF m 44 #[.val (.int p1), .val (.int p2), .val (.int p3), .val (.int p4), .val (.int p5), .val (.int p6), .val (.ref b1), .val (.int nn), .val (.ref b4), .unset, .unset, .unset] [(.int (65535 : Int32)), (.int p6), (.int (0 : Int32)), (.ref b4)])) _
    refine XS.iand X4.here hx rfl (hb hby at_44) rfl ?_
    show Steps p.tables e below (T4.setTop (mkF m 45 #[.val (.int p1), .val (.int p2), .val (.int p3), .val (.int p4), .val (.int p5), .val (.int p6), .val (.ref b1), .val (.int nn), .val (.ref b4), .unset, .unset, .unset] [(.int (p6 &&& (65535 : Int32))), (.int (0 : Int32)), (.ref b4)])) _
    refine XS.aload X4.here hx rfl (hb hby at_45) rfl rfl ?_
    show Steps p.tables e below (T4.setTop (mkF m 47 #[.val (.int p1), .val (.int p2), .val (.int p3), .val (.int p4), .val (.int p5), .val (.int p6), .val (.ref b1), .val (.int nn), .val (.ref b4), .unset, .unset, .unset] [(.ref b1), (.int (p6 &&& (65535 : Int32))), (.int (0 : Int32)), (.ref b4)])) _
    refine XS.iconst X4.here hx rfl (hb hby at_47) ?_
    show Steps p.tables e below (T4.setTop (mkF m 48 #[.val (.int p1), .val (.int p2), .val (.int p3), .val (.int p4), .val (.int p5), .val (.int p6), .val (.ref b1), .val (.int nn), .val (.ref b4), .unset, .unset, .unset] [(.int (0 : Int32)), (.ref b1), (.int (p6 &&& (65535 : Int32))), (.int (0 : Int32)), (.ref b4)])) _
    refine X4.iaload hx (j := (0 : Int32)) (v := (.int q0)) (by rw [e4]; exact Ar5.1) (State.isArrayOf_alike hZ.alike Ar5.2.1) Ar5.2.2 hin6 hat6 (g := (mkF m 48 #[.val (.int p1), .val (.int p2), .val (.int p3), .val (.int p4), .val (.int p5), .val (.int p6), .val (.ref b1), .val (.int nn), .val (.ref b4), .unset, .unset, .unset] [(.int (0 : Int32)), (.ref b1), (.int (p6 &&& (65535 : Int32))), (.int (0 : Int32)), (.ref b4)])) rfl rfl (hb hby at_48) _ ?_
    show Steps p.tables e below (T4.setTop (mkF m 49 #[.val (.int p1), .val (.int p2), .val (.int p3), .val (.int p4), .val (.int p5), .val (.int p6), .val (.ref b1), .val (.int nn), .val (.ref b4), .unset, .unset, .unset] [(.int q0), (.int (p6 &&& (65535 : Int32))), (.int (0 : Int32)), (.ref b4)])) _
    refine XS.iconst X4.here hx rfl (hb hby at_49) ?_
    show Steps p.tables e below (T4.setTop (mkF m 50 #[.val (.int p1), .val (.int p2), .val (.int p3), .val (.int p4), .val (.int p5), .val (.int p6), .val (.ref b1), .val (.int nn), .val (.ref b4), .unset, .unset, .unset] [(.int (1 : Int32)), (.int q0), (.int (p6 &&& (65535 : Int32))), (.int (0 : Int32)), (.ref b4)])) _
    refine XS.iadd X4.here hx rfl (hb hby at_50) rfl ?_
    show Steps p.tables e below (T4.setTop (mkF m 51 #[.val (.int p1), .val (.int p2), .val (.int p3), .val (.int p4), .val (.int p5), .val (.int p6), .val (.ref b1), .val (.int nn), .val (.ref b4), .unset, .unset, .unset] [(.int (q0 + (1 : Int32))), (.int (p6 &&& (65535 : Int32))), (.int (0 : Int32)), (.ref b4)])) _
    refine iremM X4 hx rfl (hb hby at_51) rfl mz0 ?_
    show Steps p.tables e below (T4.setTop (mkF m 52 #[.val (.int p1), .val (.int p2), .val (.int p3), .val (.int p4), .val (.int p5), .val (.int p6), .val (.ref b1), .val (.int nn), .val (.ref b4), .unset, .unset, .unset] [(.int ((p6 &&& (65535 : Int32)) % (q0 + (1 : Int32)))), (.int (0 : Int32)), (.ref b4)])) _
    refine castTop (g' := (mkF m 52 #[.val (.int p1), .val (.int p2), .val (.int p3), .val (.int p4), .val (.int p5), .val (.int p6), .val (.ref b1), .val (.int nn), .val (.ref b4), .unset, .unset, .unset] [(.int u0), (.int (0 : Int32)), (.ref b4)])) (by rw [hb0]) ?_
    show Steps p.tables e below (T4.setTop (mkF m 52 #[.val (.int p1), .val (.int p2), .val (.int p3), .val (.int p4), .val (.int p5), .val (.int p6), .val (.ref b1), .val (.int nn), .val (.ref b4), .unset, .unset, .unset] [(.int u0), (.int (0 : Int32)), (.ref b4)])) _
    refine st7 _ ?_
    show Steps p.tables e below (T7.setTop (mkF m 53 #[.val (.int p1), .val (.int p2), .val (.int p3), .val (.int p4), .val (.int p5), .val (.int p6), .val (.ref b1), .val (.int nn), .val (.ref b4), .unset, .unset, .unset] [])) _
    refine XS.aload X7.here hx rfl (hb hby at_53) rfl rfl ?_
    show Steps p.tables e below (T7.setTop (mkF m 55 #[.val (.int p1), .val (.int p2), .val (.int p3), .val (.int p4), .val (.int p5), .val (.int p6), .val (.ref b1), .val (.int nn), .val (.ref b4), .unset, .unset, .unset] [(.ref b4)])) _
    refine XS.iconst X7.here hx rfl (hb hby at_55) ?_
    show Steps p.tables e below (T7.setTop (mkF m 56 #[.val (.int p1), .val (.int p2), .val (.int p3), .val (.int p4), .val (.int p5), .val (.int p6), .val (.ref b1), .val (.int nn), .val (.ref b4), .unset, .unset, .unset] [(.int (1 : Int32)), (.ref b4)])) _
    refine XS.iload X7.here hx rfl (hb hby at_56) rfl ?_
    show Steps p.tables e below (T7.setTop (mkF m 58 #[.val (.int p1), .val (.int p2), .val (.int p3), .val (.int p4), .val (.int p5), .val (.int p6), .val (.ref b1), .val (.int nn), .val (.ref b4), .unset, .unset, .unset] [(.int p6), (.int (1 : Int32)), (.ref b4)])) _
    refine XS.bipush X7.here hx rfl (hb hby at_58) ?_
    show Steps p.tables e below (T7.setTop (mkF m 60 #[.val (.int p1), .val (.int p2), .val (.int p3), .val (.int p4), .val (.int p5), .val (.int p6), .val (.ref b1), .val (.int nn), .val (.ref b4), .unset, .unset, .unset] [(.int (16 : Int32)), (.int p6), (.int (1 : Int32)), (.ref b4)])) _
    refine XS.iushr X7.here hx rfl (hb hby at_60) rfl ?_
    show Steps p.tables e below (T7.setTop (mkF m 61 #[.val (.int p1), .val (.int p2), .val (.int p3), .val (.int p4), .val (.int p5), .val (.int p6), .val (.ref b1), .val (.int nn), .val (.ref b4), .unset, .unset, .unset] [(.int ((p6.toUInt32 >>> ((16 : Int32) &&& 31).toUInt32).toInt32)), (.int (1 : Int32)), (.ref b4)])) _
    refine Jvm.Stand.ldcI X7 hx hown (mvT hZ (hw _ (List.mem_of_getElem? (i := 1) rfl))) rfl (hb hby at_61) ?_
    show Steps p.tables e below (T7.setTop (mkF m 63 #[.val (.int p1), .val (.int p2), .val (.int p3), .val (.int p4), .val (.int p5), .val (.int p6), .val (.ref b1), .val (.int nn), .val (.ref b4), .unset, .unset, .unset] [(.int (65535 : Int32)), (.int ((p6.toUInt32 >>> ((16 : Int32) &&& 31).toUInt32).toInt32)), (.int (1 : Int32)), (.ref b4)])) _
    refine XS.iand X7.here hx rfl (hb hby at_63) rfl ?_
    show Steps p.tables e below (T7.setTop (mkF m 64 #[.val (.int p1), .val (.int p2), .val (.int p3), .val (.int p4), .val (.int p5), .val (.int p6), .val (.ref b1), .val (.int nn), .val (.ref b4), .unset, .unset, .unset] [(.int (((p6.toUInt32 >>> ((16 : Int32) &&& 31).toUInt32).toInt32) &&& (65535 : Int32))), (.int (1 : Int32)), (.ref b4)])) _
    refine XS.aload X7.here hx rfl (hb hby at_64) rfl rfl ?_
    show Steps p.tables e below (T7.setTop (mkF m 66 #[.val (.int p1), .val (.int p2), .val (.int p3), .val (.int p4), .val (.int p5), .val (.int p6), .val (.ref b1), .val (.int nn), .val (.ref b4), .unset, .unset, .unset] [(.ref b1), (.int (((p6.toUInt32 >>> ((16 : Int32) &&& 31).toUInt32).toInt32) &&& (65535 : Int32))), (.int (1 : Int32)), (.ref b4)])) _
    refine XS.iconst X7.here hx rfl (hb hby at_66) ?_
    show Steps p.tables e below (T7.setTop (mkF m 67 #[.val (.int p1), .val (.int p2), .val (.int p3), .val (.int p4), .val (.int p5), .val (.int p6), .val (.ref b1), .val (.int nn), .val (.ref b4), .unset, .unset, .unset] [(.int (1 : Int32)), (.ref b1), (.int (((p6.toUInt32 >>> ((16 : Int32) &&& 31).toUInt32).toInt32) &&& (65535 : Int32))), (.int (1 : Int32)), (.ref b4)])) _
    refine X7.iaload hx (j := (1 : Int32)) (v := (.int q1)) (by rw [e7]; exact Ar8.1) (State.isArrayOf_alike hZ.alike Ar8.2.1) Ar8.2.2 hin9 hat9 (g := (mkF m 67 #[.val (.int p1), .val (.int p2), .val (.int p3), .val (.int p4), .val (.int p5), .val (.int p6), .val (.ref b1), .val (.int nn), .val (.ref b4), .unset, .unset, .unset] [(.int (1 : Int32)), (.ref b1), (.int (((p6.toUInt32 >>> ((16 : Int32) &&& 31).toUInt32).toInt32) &&& (65535 : Int32))), (.int (1 : Int32)), (.ref b4)])) rfl rfl (hb hby at_67) _ ?_
    show Steps p.tables e below (T7.setTop (mkF m 68 #[.val (.int p1), .val (.int p2), .val (.int p3), .val (.int p4), .val (.int p5), .val (.int p6), .val (.ref b1), .val (.int nn), .val (.ref b4), .unset, .unset, .unset] [(.int q1), (.int (((p6.toUInt32 >>> ((16 : Int32) &&& 31).toUInt32).toInt32) &&& (65535 : Int32))), (.int (1 : Int32)), (.ref b4)])) _
    refine XS.iconst X7.here hx rfl (hb hby at_68) ?_
    show Steps p.tables e below (T7.setTop (mkF m 69 #[.val (.int p1), .val (.int p2), .val (.int p3), .val (.int p4), .val (.int p5), .val (.int p6), .val (.ref b1), .val (.int nn), .val (.ref b4), .unset, .unset, .unset] [(.int (1 : Int32)), (.int q1), (.int (((p6.toUInt32 >>> ((16 : Int32) &&& 31).toUInt32).toInt32) &&& (65535 : Int32))), (.int (1 : Int32)), (.ref b4)])) _
    refine XS.iadd X7.here hx rfl (hb hby at_69) rfl ?_
    show Steps p.tables e below (T7.setTop (mkF m 70 #[.val (.int p1), .val (.int p2), .val (.int p3), .val (.int p4), .val (.int p5), .val (.int p6), .val (.ref b1), .val (.int nn), .val (.ref b4), .unset, .unset, .unset] [(.int (q1 + (1 : Int32))), (.int (((p6.toUInt32 >>> ((16 : Int32) &&& 31).toUInt32).toInt32) &&& (65535 : Int32))), (.int (1 : Int32)), (.ref b4)])) _
    refine iremM X7 hx rfl (hb hby at_70) rfl mz1 ?_
    show Steps p.tables e below (T7.setTop (mkF m 71 #[.val (.int p1), .val (.int p2), .val (.int p3), .val (.int p4), .val (.int p5), .val (.int p6), .val (.ref b1), .val (.int nn), .val (.ref b4), .unset, .unset, .unset] [(.int ((((p6.toUInt32 >>> ((16 : Int32) &&& 31).toUInt32).toInt32) &&& (65535 : Int32)) % (q1 + (1 : Int32)))), (.int (1 : Int32)), (.ref b4)])) _
    refine castTop (g' := (mkF m 71 #[.val (.int p1), .val (.int p2), .val (.int p3), .val (.int p4), .val (.int p5), .val (.int p6), .val (.ref b1), .val (.int nn), .val (.ref b4), .unset, .unset, .unset] [(.int u1), (.int (1 : Int32)), (.ref b4)])) (by rw [hb1]) ?_
    show Steps p.tables e below (T7.setTop (mkF m 71 #[.val (.int p1), .val (.int p2), .val (.int p3), .val (.int p4), .val (.int p5), .val (.int p6), .val (.ref b1), .val (.int nn), .val (.ref b4), .unset, .unset, .unset] [(.int u1), (.int (1 : Int32)), (.ref b4)])) _
    refine st10 _ ?_
    show Steps p.tables e below (T10.setTop (mkF m 72 #[.val (.int p1), .val (.int p2), .val (.int p3), .val (.int p4), .val (.int p5), .val (.int p6), .val (.ref b1), .val (.int nn), .val (.ref b4), .unset, .unset, .unset] [])) _
    refine st11 _ ?_
    show Steps p.tables e below (T11.setTop (mkF m 75 #[.val (.int p1), .val (.int p2), .val (.int p3), .val (.int p4), .val (.int p5), .val (.int p6), .val (.ref b1), .val (.int nn), .val (.ref b4), .unset, .unset, .unset] [(.ref b11)])) _
    refine XS.dup X11.here hx rfl (hb hby at_75) rfl rfl ?_
    show Steps p.tables e below (T11.setTop (mkF m 76 #[.val (.int p1), .val (.int p2), .val (.int p3), .val (.int p4), .val (.int p5), .val (.int p6), .val (.ref b1), .val (.int nn), .val (.ref b4), .unset, .unset, .unset] [(.ref b11), (.ref b11)])) _
    refine XS.aload X11.here hx rfl (hb hby at_76) rfl rfl ?_
    show Steps p.tables e below (T11.setTop (mkF m 78 #[.val (.int p1), .val (.int p2), .val (.int p3), .val (.int p4), .val (.int p5), .val (.int p6), .val (.ref b1), .val (.int nn), .val (.ref b4), .unset, .unset, .unset] [(.ref b1), (.ref b11), (.ref b11)])) _
    refine st12.trans ?_
    show Steps p.tables e below (T12.setTop (mkF m 81 #[.val (.int p1), .val (.int p2), .val (.int p3), .val (.int p4), .val (.int p5), .val (.int p6), .val (.ref b1), .val (.int nn), .val (.ref b4), .unset, .unset, .unset] [(.ref b11)])) _
    refine XS.astore X12.here hx rfl (hb hby at_81) rfl rfl (l' := #[.val (.int p1), .val (.int p2), .val (.int p3), .val (.int p4), .val (.int p5), .val (.int p6), .val (.ref b1), .val (.int nn), .val (.ref b4), .val (.ref b11), .unset, .unset]) rfl ?_
    show Steps p.tables e below (T12.setTop (mkF m 83 #[.val (.int p1), .val (.int p2), .val (.int p3), .val (.int p4), .val (.int p5), .val (.int p6), .val (.ref b1), .val (.int nn), .val (.ref b4), .val (.ref b11), .unset, .unset] [])) _
    refine XS.lconst X12.here hx rfl (hb hby at_83) ?_
    show Steps p.tables e below (T12.setTop (mkF m 84 #[.val (.int p1), .val (.int p2), .val (.int p3), .val (.int p4), .val (.int p5), .val (.int p6), .val (.ref b1), .val (.int nn), .val (.ref b4), .val (.ref b11), .unset, .unset] [(.long (0 : Int64))])) _
    refine XS.lstore X12.here hx rfl (hb hby at_84) rfl (l' := #[.val (.int p1), .val (.int p2), .val (.int p3), .val (.int p4), .val (.int p5), .val (.int p6), .val (.ref b1), .val (.int nn), .val (.ref b4), .val (.ref b11), .val (.long (0 : Int64)), .second]) rfl ?_
    show Steps p.tables e below (T12.setTop (mkF m 86 #[.val (.int p1), .val (.int p2), .val (.int p3), .val (.int p4), .val (.int p5), .val (.int p6), .val (.ref b1), .val (.int nn), .val (.ref b4), .val (.ref b11), .val (.long (0 : Int64)), .second] [])) _
    refine XS.lload X12.here hx rfl (hb hby at_86) rfl ?_
    show Steps p.tables e below (T12.setTop (mkF m 88 #[.val (.int p1), .val (.int p2), .val (.int p3), .val (.int p4), .val (.int p5), .val (.int p6), .val (.ref b1), .val (.int nn), .val (.ref b4), .val (.ref b11), .val (.long (0 : Int64)), .second] [(.long (0 : Int64))])) _
    refine XS.aload X12.here hx rfl (hb hby at_88) rfl rfl ?_
    show Steps p.tables e below (T12.setTop (mkF m 90 #[.val (.int p1), .val (.int p2), .val (.int p3), .val (.int p4), .val (.int p5), .val (.int p6), .val (.ref b1), .val (.int nn), .val (.ref b4), .val (.ref b11), .val (.long (0 : Int64)), .second] [(.ref b11), (.long (0 : Int64))])) _
    refine XS.aload X12.here hx rfl (hb hby at_90) rfl rfl ?_
    show Steps p.tables e below (T12.setTop (mkF m 92 #[.val (.int p1), .val (.int p2), .val (.int p3), .val (.int p4), .val (.int p5), .val (.int p6), .val (.ref b1), .val (.int nn), .val (.ref b4), .val (.ref b11), .val (.long (0 : Int64)), .second] [(.ref b1), (.ref b11), (.long (0 : Int64))])) _
    refine XS.aload X12.here hx rfl (hb hby at_92) rfl rfl ?_
    show Steps p.tables e below (T12.setTop (mkF m 94 #[.val (.int p1), .val (.int p2), .val (.int p3), .val (.int p4), .val (.int p5), .val (.int p6), .val (.ref b1), .val (.int nn), .val (.ref b4), .val (.ref b11), .val (.long (0 : Int64)), .second] [(.ref b4), (.ref b1), (.ref b11), (.long (0 : Int64))])) _
    refine XS.iload X12.here hx rfl (hb hby at_94) rfl ?_
    show Steps p.tables e below (T12.setTop (mkF m 96 #[.val (.int p1), .val (.int p2), .val (.int p3), .val (.int p4), .val (.int p5), .val (.int p6), .val (.ref b1), .val (.int nn), .val (.ref b4), .val (.ref b11), .val (.long (0 : Int64)), .second] [(.int nn), (.ref b4), (.ref b1), (.ref b11), (.long (0 : Int64))])) _
    refine XS.ifNo X12.here hx rfl (hb hby at_96) rfl ((if0 _ _).trans (tlt (hn0 : (0 : Int32) < nn)).2.2.2) ?_
    show Steps p.tables e below (T12.setTop (mkF m 99 #[.val (.int p1), .val (.int p2), .val (.int p3), .val (.int p4), .val (.int p5), .val (.int p6), .val (.ref b1), .val (.int nn), .val (.ref b4), .val (.ref b11), .val (.long (0 : Int64)), .second] [(.ref b4), (.ref b1), (.ref b11), (.long (0 : Int64))])) _
    refine XS.iconst X12.here hx rfl (hb hby at_99) ?_
    show Steps p.tables e below (T12.setTop (mkF m 100 #[.val (.int p1), .val (.int p2), .val (.int p3), .val (.int p4), .val (.int p5), .val (.int p6), .val (.ref b1), .val (.int nn), .val (.ref b4), .val (.ref b11), .val (.long (0 : Int64)), .second] [(.int (1 : Int32)), (.ref b4), (.ref b1), (.ref b11), (.long (0 : Int64))])) _
    refine XS.goto X12.here hx rfl (pc0 := 100) (pc' := 104) rfl (hb hby at_100) (by decide) (by decide) ?_
    show Steps p.tables e below (T12.setTop (mkF m 104 #[.val (.int p1), .val (.int p2), .val (.int p3), .val (.int p4), .val (.int p5), .val (.int p6), .val (.ref b1), .val (.int nn), .val (.ref b4), .val (.ref b11), .val (.long (0 : Int64)), .second] [(.int (1 : Int32)), (.ref b4), (.ref b1), (.ref b11), (.long (0 : Int64))])) _
    refine XS.iloadN X12.here hx rfl (hb hby at_104) rfl ?_
    show Steps p.tables e below (T12.setTop (mkF m 105 #[.val (.int p1), .val (.int p2), .val (.int p3), .val (.int p4), .val (.int p5), .val (.int p6), .val (.ref b1), .val (.int nn), .val (.ref b4), .val (.ref b11), .val (.long (0 : Int64)), .second] [(.int p1), (.int (1 : Int32)), (.ref b4), (.ref b1), (.ref b11), (.long (0 : Int64))])) _
    refine XS.bipush X12.here hx rfl (hb hby at_105) ?_
    show Steps p.tables e below (T12.setTop (mkF m 107 #[.val (.int p1), .val (.int p2), .val (.int p3), .val (.int p4), .val (.int p5), .val (.int p6), .val (.ref b1), .val (.int nn), .val (.ref b4), .val (.ref b11), .val (.long (0 : Int64)), .second] [(.int (12 : Int32)), (.int p1), (.int (1 : Int32)), (.ref b4), (.ref b1), (.ref b11), (.long (0 : Int64))])) _
    refine XS.iushr X12.here hx rfl (hb hby at_107) rfl ?_
    show Steps p.tables e below (T12.setTop (mkF m 108 #[.val (.int p1), .val (.int p2), .val (.int p3), .val (.int p4), .val (.int p5), .val (.int p6), .val (.ref b1), .val (.int nn), .val (.ref b4), .val (.ref b11), .val (.long (0 : Int64)), .second] [(.int ((p1.toUInt32 >>> ((12 : Int32) &&& 31).toUInt32).toInt32)), (.int (1 : Int32)), (.ref b4), (.ref b1), (.ref b11), (.long (0 : Int64))])) _
    refine XS.iconst X12.here hx rfl (hb hby at_108) ?_
    show Steps p.tables e below (T12.setTop (mkF m 109 #[.val (.int p1), .val (.int p2), .val (.int p3), .val (.int p4), .val (.int p5), .val (.int p6), .val (.ref b1), .val (.int nn), .val (.ref b4), .val (.ref b11), .val (.long (0 : Int64)), .second] [(.int (1 : Int32)), (.int ((p1.toUInt32 >>> ((12 : Int32) &&& 31).toUInt32).toInt32)), (.int (1 : Int32)), (.ref b4), (.ref b1), (.ref b11), (.long (0 : Int64))])) _
    refine XS.iand X12.here hx rfl (hb hby at_109) rfl ?_
    show Steps p.tables e below (T12.setTop (mkF m 110 #[.val (.int p1), .val (.int p2), .val (.int p3), .val (.int p4), .val (.int p5), .val (.int p6), .val (.ref b1), .val (.int nn), .val (.ref b4), .val (.ref b11), .val (.long (0 : Int64)), .second] [(.int (((p1.toUInt32 >>> ((12 : Int32) &&& 31).toUInt32).toInt32) &&& (1 : Int32))), (.int (1 : Int32)), (.ref b4), (.ref b1), (.ref b11), (.long (0 : Int64))])) _
    refine castTop (g' := (mkF m 110 #[.val (.int p1), .val (.int p2), .val (.int p3), .val (.int p4), .val (.int p5), .val (.int p6), .val (.ref b1), .val (.int nn), .val (.ref b4), .val (.ref b11), .val (.long (0 : Int64)), .second] [(.int c1), (.int (1 : Int32)), (.ref b4), (.ref b1), (.ref b11), (.long (0 : Int64))])) (by rw [hc1]) ?_
    show Steps p.tables e below (T12.setTop (mkF m 110 #[.val (.int p1), .val (.int p2), .val (.int p3), .val (.int p4), .val (.int p5), .val (.int p6), .val (.ref b1), .val (.int nn), .val (.ref b4), .val (.ref b11), .val (.long (0 : Int64)), .second] [(.int c1), (.int (1 : Int32)), (.ref b4), (.ref b1), (.ref b11), (.long (0 : Int64))])) _
    refine XS.iloadN X12.here hx rfl (hb hby at_110) rfl ?_
    show Steps p.tables e below (T12.setTop (mkF m 111 #[.val (.int p1), .val (.int p2), .val (.int p3), .val (.int p4), .val (.int p5), .val (.int p6), .val (.ref b1), .val (.int nn), .val (.ref b4), .val (.ref b11), .val (.long (0 : Int64)), .second] [(.int p2), (.int c1), (.int (1 : Int32)), (.ref b4), (.ref b1), (.ref b11), (.long (0 : Int64))])) _
    refine st13 _ ?_
    show Steps p.tables e below (T13.setTop (mkF m 114 #[.val (.int p1), .val (.int p2), .val (.int p3), .val (.int p4), .val (.int p5), .val (.int p6), .val (.ref b1), .val (.int nn), .val (.ref b4), .val (.ref b11), .val (.long (0 : Int64)), .second] [(.long (own_glt (own_sel c1 q0 q1) r1 (own_sel c1 u0 u1))), (.long (0 : Int64))])) _
    refine XS.ladd X13.here hx rfl (hb hby at_114) rfl ?_
    show Steps p.tables e below (T13.setTop (mkF m 115 #[.val (.int p1), .val (.int p2), .val (.int p3), .val (.int p4), .val (.int p5), .val (.int p6), .val (.ref b1), .val (.int nn), .val (.ref b4), .val (.ref b11), .val (.long (0 : Int64)), .second] [(.long ((0 : Int64) + (own_glt (own_sel c1 q0 q1) r1 (own_sel c1 u0 u1))))])) _
    refine XS.lstore X13.here hx rfl (hb hby at_115) rfl (l' := #[.val (.int p1), .val (.int p2), .val (.int p3), .val (.int p4), .val (.int p5), .val (.int p6), .val (.ref b1), .val (.int nn), .val (.ref b4), .val (.ref b11), .val (.long ((0 : Int64) + (own_glt (own_sel c1 q0 q1) r1 (own_sel c1 u0 u1)))), .second]) rfl ?_
    show Steps p.tables e below (T13.setTop (mkF m 117 #[.val (.int p1), .val (.int p2), .val (.int p3), .val (.int p4), .val (.int p5), .val (.int p6), .val (.ref b1), .val (.int nn), .val (.ref b4), .val (.ref b11), .val (.long ((0 : Int64) + (own_glt (own_sel c1 q0 q1) r1 (own_sel c1 u0 u1)))), .second] [])) _
    refine XS.lload X13.here hx rfl (hb hby at_117) rfl ?_
    show Steps p.tables e below (T13.setTop (mkF m 119 #[.val (.int p1), .val (.int p2), .val (.int p3), .val (.int p4), .val (.int p5), .val (.int p6), .val (.ref b1), .val (.int nn), .val (.ref b4), .val (.ref b11), .val (.long ((0 : Int64) + (own_glt (own_sel c1 q0 q1) r1 (own_sel c1 u0 u1)))), .second] [(.long ((0 : Int64) + (own_glt (own_sel c1 q0 q1) r1 (own_sel c1 u0 u1))))])) _
    refine XS.aload X13.here hx rfl (hb hby at_119) rfl rfl ?_
    show Steps p.tables e below (T13.setTop (mkF m 121 #[.val (.int p1), .val (.int p2), .val (.int p3), .val (.int p4), .val (.int p5), .val (.int p6), .val (.ref b1), .val (.int nn), .val (.ref b4), .val (.ref b11), .val (.long ((0 : Int64) + (own_glt (own_sel c1 q0 q1) r1 (own_sel c1 u0 u1)))), .second] [(.ref b11), (.long ((0 : Int64) + (own_glt (own_sel c1 q0 q1) r1 (own_sel c1 u0 u1))))])) _
    refine XS.aload X13.here hx rfl (hb hby at_121) rfl rfl ?_
    show Steps p.tables e below (T13.setTop (mkF m 123 #[.val (.int p1), .val (.int p2), .val (.int p3), .val (.int p4), .val (.int p5), .val (.int p6), .val (.ref b1), .val (.int nn), .val (.ref b4), .val (.ref b11), .val (.long ((0 : Int64) + (own_glt (own_sel c1 q0 q1) r1 (own_sel c1 u0 u1)))), .second] [(.ref b1), (.ref b11), (.long ((0 : Int64) + (own_glt (own_sel c1 q0 q1) r1 (own_sel c1 u0 u1))))])) _
    refine XS.aload X13.here hx rfl (hb hby at_123) rfl rfl ?_
    show Steps p.tables e below (T13.setTop (mkF m 125 #[.val (.int p1), .val (.int p2), .val (.int p3), .val (.int p4), .val (.int p5), .val (.int p6), .val (.ref b1), .val (.int nn), .val (.ref b4), .val (.ref b11), .val (.long ((0 : Int64) + (own_glt (own_sel c1 q0 q1) r1 (own_sel c1 u0 u1)))), .second] [(.ref b4), (.ref b1), (.ref b11), (.long ((0 : Int64) + (own_glt (own_sel c1 q0 q1) r1 (own_sel c1 u0 u1))))])) _
    refine XS.iload X13.here hx rfl (hb hby at_125) rfl ?_
    show Steps p.tables e below (T13.setTop (mkF m 127 #[.val (.int p1), .val (.int p2), .val (.int p3), .val (.int p4), .val (.int p5), .val (.int p6), .val (.ref b1), .val (.int nn), .val (.ref b4), .val (.ref b11), .val (.long ((0 : Int64) + (own_glt (own_sel c1 q0 q1) r1 (own_sel c1 u0 u1)))), .second] [(.int nn), (.ref b4), (.ref b1), (.ref b11), (.long ((0 : Int64) + (own_glt (own_sel c1 q0 q1) r1 (own_sel c1 u0 u1))))])) _
    refine XS.iconst X13.here hx rfl (hb hby at_127) ?_
    show Steps p.tables e below (T13.setTop (mkF m 128 #[.val (.int p1), .val (.int p2), .val (.int p3), .val (.int p4), .val (.int p5), .val (.int p6), .val (.ref b1), .val (.int nn), .val (.ref b4), .val (.ref b11), .val (.long ((0 : Int64) + (own_glt (own_sel c1 q0 q1) r1 (own_sel c1 u0 u1)))), .second] [(.int (1 : Int32)), (.int nn), (.ref b4), (.ref b1), (.ref b11), (.long ((0 : Int64) + (own_glt (own_sel c1 q0 q1) r1 (own_sel c1 u0 u1))))])) _
    refine XS.icmpNo X13.here hx rfl (hb hby at_128) rfl (tlt (hn1 : (1 : Int32) < nn)).2.2.2 ?_
    show Steps p.tables e below (T13.setTop (mkF m 131 #[.val (.int p1), .val (.int p2), .val (.int p3), .val (.int p4), .val (.int p5), .val (.int p6), .val (.ref b1), .val (.int nn), .val (.ref b4), .val (.ref b11), .val (.long ((0 : Int64) + (own_glt (own_sel c1 q0 q1) r1 (own_sel c1 u0 u1)))), .second] [(.ref b4), (.ref b1), (.ref b11), (.long ((0 : Int64) + (own_glt (own_sel c1 q0 q1) r1 (own_sel c1 u0 u1))))])) _
    refine XS.iconst X13.here hx rfl (hb hby at_131) ?_
    show Steps p.tables e below (T13.setTop (mkF m 132 #[.val (.int p1), .val (.int p2), .val (.int p3), .val (.int p4), .val (.int p5), .val (.int p6), .val (.ref b1), .val (.int nn), .val (.ref b4), .val (.ref b11), .val (.long ((0 : Int64) + (own_glt (own_sel c1 q0 q1) r1 (own_sel c1 u0 u1)))), .second] [(.int (1 : Int32)), (.ref b4), (.ref b1), (.ref b11), (.long ((0 : Int64) + (own_glt (own_sel c1 q0 q1) r1 (own_sel c1 u0 u1))))])) _
    refine XS.goto X13.here hx rfl (pc0 := 132) (pc' := 136) rfl (hb hby at_132) (by decide) (by decide) ?_
    show Steps p.tables e below (T13.setTop (mkF m 136 #[.val (.int p1), .val (.int p2), .val (.int p3), .val (.int p4), .val (.int p5), .val (.int p6), .val (.ref b1), .val (.int nn), .val (.ref b4), .val (.ref b11), .val (.long ((0 : Int64) + (own_glt (own_sel c1 q0 q1) r1 (own_sel c1 u0 u1)))), .second] [(.int (1 : Int32)), (.ref b4), (.ref b1), (.ref b11), (.long ((0 : Int64) + (own_glt (own_sel c1 q0 q1) r1 (own_sel c1 u0 u1))))])) _
    refine XS.iloadN X13.here hx rfl (hb hby at_136) rfl ?_
    show Steps p.tables e below (T13.setTop (mkF m 137 #[.val (.int p1), .val (.int p2), .val (.int p3), .val (.int p4), .val (.int p5), .val (.int p6), .val (.ref b1), .val (.int nn), .val (.ref b4), .val (.ref b11), .val (.long ((0 : Int64) + (own_glt (own_sel c1 q0 q1) r1 (own_sel c1 u0 u1)))), .second] [(.int p1), (.int (1 : Int32)), (.ref b4), (.ref b1), (.ref b11), (.long ((0 : Int64) + (own_glt (own_sel c1 q0 q1) r1 (own_sel c1 u0 u1))))])) _
    refine XS.bipush X13.here hx rfl (hb hby at_137) ?_
    show Steps p.tables e below (T13.setTop (mkF m 139 #[.val (.int p1), .val (.int p2), .val (.int p3), .val (.int p4), .val (.int p5), .val (.int p6), .val (.ref b1), .val (.int nn), .val (.ref b4), .val (.ref b11), .val (.long ((0 : Int64) + (own_glt (own_sel c1 q0 q1) r1 (own_sel c1 u0 u1)))), .second] [(.int (13 : Int32)), (.int p1), (.int (1 : Int32)), (.ref b4), (.ref b1), (.ref b11), (.long ((0 : Int64) + (own_glt (own_sel c1 q0 q1) r1 (own_sel c1 u0 u1))))])) _
    refine XS.iushr X13.here hx rfl (hb hby at_139) rfl ?_
    show Steps p.tables e below (T13.setTop (mkF m 140 #[.val (.int p1), .val (.int p2), .val (.int p3), .val (.int p4), .val (.int p5), .val (.int p6), .val (.ref b1), .val (.int nn), .val (.ref b4), .val (.ref b11), .val (.long ((0 : Int64) + (own_glt (own_sel c1 q0 q1) r1 (own_sel c1 u0 u1)))), .second] [(.int ((p1.toUInt32 >>> ((13 : Int32) &&& 31).toUInt32).toInt32)), (.int (1 : Int32)), (.ref b4), (.ref b1), (.ref b11), (.long ((0 : Int64) + (own_glt (own_sel c1 q0 q1) r1 (own_sel c1 u0 u1))))])) _
    refine XS.iconst X13.here hx rfl (hb hby at_140) ?_
    show Steps p.tables e below (T13.setTop (mkF m 141 #[.val (.int p1), .val (.int p2), .val (.int p3), .val (.int p4), .val (.int p5), .val (.int p6), .val (.ref b1), .val (.int nn), .val (.ref b4), .val (.ref b11), .val (.long ((0 : Int64) + (own_glt (own_sel c1 q0 q1) r1 (own_sel c1 u0 u1)))), .second] [(.int (1 : Int32)), (.int ((p1.toUInt32 >>> ((13 : Int32) &&& 31).toUInt32).toInt32)), (.int (1 : Int32)), (.ref b4), (.ref b1), (.ref b11), (.long ((0 : Int64) + (own_glt (own_sel c1 q0 q1) r1 (own_sel c1 u0 u1))))])) _
    refine XS.iand X13.here hx rfl (hb hby at_141) rfl ?_
    show Steps p.tables e below (T13.setTop (mkF m 142 #[.val (.int p1), .val (.int p2), .val (.int p3), .val (.int p4), .val (.int p5), .val (.int p6), .val (.ref b1), .val (.int nn), .val (.ref b4), .val (.ref b11), .val (.long ((0 : Int64) + (own_glt (own_sel c1 q0 q1) r1 (own_sel c1 u0 u1)))), .second] [(.int (((p1.toUInt32 >>> ((13 : Int32) &&& 31).toUInt32).toInt32) &&& (1 : Int32))), (.int (1 : Int32)), (.ref b4), (.ref b1), (.ref b11), (.long ((0 : Int64) + (own_glt (own_sel c1 q0 q1) r1 (own_sel c1 u0 u1))))])) _
    refine castTop (g' := (mkF m 142 #[.val (.int p1), .val (.int p2), .val (.int p3), .val (.int p4), .val (.int p5), .val (.int p6), .val (.ref b1), .val (.int nn), .val (.ref b4), .val (.ref b11), .val (.long ((0 : Int64) + (own_glt (own_sel c1 q0 q1) r1 (own_sel c1 u0 u1)))), .second] [(.int c2), (.int (1 : Int32)), (.ref b4), (.ref b1), (.ref b11), (.long ((0 : Int64) + (own_glt (own_sel c1 q0 q1) r1 (own_sel c1 u0 u1))))])) (by rw [hc2]) ?_
    show Steps p.tables e below (T13.setTop (mkF m 142 #[.val (.int p1), .val (.int p2), .val (.int p3), .val (.int p4), .val (.int p5), .val (.int p6), .val (.ref b1), .val (.int nn), .val (.ref b4), .val (.ref b11), .val (.long ((0 : Int64) + (own_glt (own_sel c1 q0 q1) r1 (own_sel c1 u0 u1)))), .second] [(.int c2), (.int (1 : Int32)), (.ref b4), (.ref b1), (.ref b11), (.long ((0 : Int64) + (own_glt (own_sel c1 q0 q1) r1 (own_sel c1 u0 u1))))])) _
    refine XS.iloadN X13.here hx rfl (hb hby at_142) rfl ?_
    show Steps p.tables e below (T13.setTop (mkF m 143 #[.val (.int p1), .val (.int p2), .val (.int p3), .val (.int p4), .val (.int p5), .val (.int p6), .val (.ref b1), .val (.int nn), .val (.ref b4), .val (.ref b11), .val (.long ((0 : Int64) + (own_glt (own_sel c1 q0 q1) r1 (own_sel c1 u0 u1)))), .second] [(.int p3), (.int c2), (.int (1 : Int32)), (.ref b4), (.ref b1), (.ref b11), (.long ((0 : Int64) + (own_glt (own_sel c1 q0 q1) r1 (own_sel c1 u0 u1))))])) _
    refine st14 _ ?_
    show Steps p.tables e below (T14.setTop (mkF m 146 #[.val (.int p1), .val (.int p2), .val (.int p3), .val (.int p4), .val (.int p5), .val (.int p6), .val (.ref b1), .val (.int nn), .val (.ref b4), .val (.ref b11), .val (.long ((0 : Int64) + (own_glt (own_sel c1 q0 q1) r1 (own_sel c1 u0 u1)))), .second] [(.long (own_glt (own_sel c2 q0 q1) r2 (own_sel c2 u0 u1))), (.long ((0 : Int64) + (own_glt (own_sel c1 q0 q1) r1 (own_sel c1 u0 u1))))])) _
    refine XS.ladd X14.here hx rfl (hb hby at_146) rfl ?_
    show Steps p.tables e below (T14.setTop (mkF m 147 #[.val (.int p1), .val (.int p2), .val (.int p3), .val (.int p4), .val (.int p5), .val (.int p6), .val (.ref b1), .val (.int nn), .val (.ref b4), .val (.ref b11), .val (.long ((0 : Int64) + (own_glt (own_sel c1 q0 q1) r1 (own_sel c1 u0 u1)))), .second] [(.long (((0 : Int64) + (own_glt (own_sel c1 q0 q1) r1 (own_sel c1 u0 u1))) + (own_glt (own_sel c2 q0 q1) r2 (own_sel c2 u0 u1))))])) _
    refine XS.lstore X14.here hx rfl (hb hby at_147) rfl (l' := #[.val (.int p1), .val (.int p2), .val (.int p3), .val (.int p4), .val (.int p5), .val (.int p6), .val (.ref b1), .val (.int nn), .val (.ref b4), .val (.ref b11), .val (.long (((0 : Int64) + (own_glt (own_sel c1 q0 q1) r1 (own_sel c1 u0 u1))) + (own_glt (own_sel c2 q0 q1) r2 (own_sel c2 u0 u1)))), .second]) rfl ?_
    show Steps p.tables e below (T14.setTop (mkF m 149 #[.val (.int p1), .val (.int p2), .val (.int p3), .val (.int p4), .val (.int p5), .val (.int p6), .val (.ref b1), .val (.int nn), .val (.ref b4), .val (.ref b11), .val (.long (((0 : Int64) + (own_glt (own_sel c1 q0 q1) r1 (own_sel c1 u0 u1))) + (own_glt (own_sel c2 q0 q1) r2 (own_sel c2 u0 u1)))), .second] [])) _
    refine XS.lload X14.here hx rfl (hb hby at_149) rfl ?_
    show Steps p.tables e below (T14.setTop (mkF m 151 #[.val (.int p1), .val (.int p2), .val (.int p3), .val (.int p4), .val (.int p5), .val (.int p6), .val (.ref b1), .val (.int nn), .val (.ref b4), .val (.ref b11), .val (.long (((0 : Int64) + (own_glt (own_sel c1 q0 q1) r1 (own_sel c1 u0 u1))) + (own_glt (own_sel c2 q0 q1) r2 (own_sel c2 u0 u1)))), .second] [(.long (((0 : Int64) + (own_glt (own_sel c1 q0 q1) r1 (own_sel c1 u0 u1))) + (own_glt (own_sel c2 q0 q1) r2 (own_sel c2 u0 u1))))])) _
    refine XS.aload X14.here hx rfl (hb hby at_151) rfl rfl ?_
    show Steps p.tables e below (T14.setTop (mkF m 153 #[.val (.int p1), .val (.int p2), .val (.int p3), .val (.int p4), .val (.int p5), .val (.int p6), .val (.ref b1), .val (.int nn), .val (.ref b4), .val (.ref b11), .val (.long (((0 : Int64) + (own_glt (own_sel c1 q0 q1) r1 (own_sel c1 u0 u1))) + (own_glt (own_sel c2 q0 q1) r2 (own_sel c2 u0 u1)))), .second] [(.ref b11), (.long (((0 : Int64) + (own_glt (own_sel c1 q0 q1) r1 (own_sel c1 u0 u1))) + (own_glt (own_sel c2 q0 q1) r2 (own_sel c2 u0 u1))))])) _
    refine XS.aload X14.here hx rfl (hb hby at_153) rfl rfl ?_
    show Steps p.tables e below (T14.setTop (mkF m 155 #[.val (.int p1), .val (.int p2), .val (.int p3), .val (.int p4), .val (.int p5), .val (.int p6), .val (.ref b1), .val (.int nn), .val (.ref b4), .val (.ref b11), .val (.long (((0 : Int64) + (own_glt (own_sel c1 q0 q1) r1 (own_sel c1 u0 u1))) + (own_glt (own_sel c2 q0 q1) r2 (own_sel c2 u0 u1)))), .second] [(.ref b1), (.ref b11), (.long (((0 : Int64) + (own_glt (own_sel c1 q0 q1) r1 (own_sel c1 u0 u1))) + (own_glt (own_sel c2 q0 q1) r2 (own_sel c2 u0 u1))))])) _
    refine XS.aload X14.here hx rfl (hb hby at_155) rfl rfl ?_
    show Steps p.tables e below (T14.setTop (mkF m 157 #[.val (.int p1), .val (.int p2), .val (.int p3), .val (.int p4), .val (.int p5), .val (.int p6), .val (.ref b1), .val (.int nn), .val (.ref b4), .val (.ref b11), .val (.long (((0 : Int64) + (own_glt (own_sel c1 q0 q1) r1 (own_sel c1 u0 u1))) + (own_glt (own_sel c2 q0 q1) r2 (own_sel c2 u0 u1)))), .second] [(.ref b4), (.ref b1), (.ref b11), (.long (((0 : Int64) + (own_glt (own_sel c1 q0 q1) r1 (own_sel c1 u0 u1))) + (own_glt (own_sel c2 q0 q1) r2 (own_sel c2 u0 u1))))])) _
    refine XS.iload X14.here hx rfl (hb hby at_157) rfl ?_
    show Steps p.tables e below (T14.setTop (mkF m 159 #[.val (.int p1), .val (.int p2), .val (.int p3), .val (.int p4), .val (.int p5), .val (.int p6), .val (.ref b1), .val (.int nn), .val (.ref b4), .val (.ref b11), .val (.long (((0 : Int64) + (own_glt (own_sel c1 q0 q1) r1 (own_sel c1 u0 u1))) + (own_glt (own_sel c2 q0 q1) r2 (own_sel c2 u0 u1)))), .second] [(.int nn), (.ref b4), (.ref b1), (.ref b11), (.long (((0 : Int64) + (own_glt (own_sel c1 q0 q1) r1 (own_sel c1 u0 u1))) + (own_glt (own_sel c2 q0 q1) r2 (own_sel c2 u0 u1))))])) _
    refine XS.iconst X14.here hx rfl (hb hby at_159) ?_
    show Steps p.tables e below (T14.setTop (mkF m 160 #[.val (.int p1), .val (.int p2), .val (.int p3), .val (.int p4), .val (.int p5), .val (.int p6), .val (.ref b1), .val (.int nn), .val (.ref b4), .val (.ref b11), .val (.long (((0 : Int64) + (own_glt (own_sel c1 q0 q1) r1 (own_sel c1 u0 u1))) + (own_glt (own_sel c2 q0 q1) r2 (own_sel c2 u0 u1)))), .second] [(.int (2 : Int32)), (.int nn), (.ref b4), (.ref b1), (.ref b11), (.long (((0 : Int64) + (own_glt (own_sel c1 q0 q1) r1 (own_sel c1 u0 u1))) + (own_glt (own_sel c2 q0 q1) r2 (own_sel c2 u0 u1))))])) _
    refine XS.icmpYes X14.here hx rfl (pc0 := 160) (pc' := 167) rfl (hb hby at_160) rfl (flt (hn2 : ¬ ((2 : Int32) < nn))).2.2.2 (by decide) (by decide) ?_
    show Steps p.tables e below (T14.setTop (mkF m 167 #[.val (.int p1), .val (.int p2), .val (.int p3), .val (.int p4), .val (.int p5), .val (.int p6), .val (.ref b1), .val (.int nn), .val (.ref b4), .val (.ref b11), .val (.long (((0 : Int64) + (own_glt (own_sel c1 q0 q1) r1 (own_sel c1 u0 u1))) + (own_glt (own_sel c2 q0 q1) r2 (own_sel c2 u0 u1)))), .second] [(.ref b4), (.ref b1), (.ref b11), (.long (((0 : Int64) + (own_glt (own_sel c1 q0 q1) r1 (own_sel c1 u0 u1))) + (own_glt (own_sel c2 q0 q1) r2 (own_sel c2 u0 u1))))])) _
    refine XS.iconst X14.here hx rfl (hb hby at_167) ?_
    show Steps p.tables e below (T14.setTop (mkF m 168 #[.val (.int p1), .val (.int p2), .val (.int p3), .val (.int p4), .val (.int p5), .val (.int p6), .val (.ref b1), .val (.int nn), .val (.ref b4), .val (.ref b11), .val (.long (((0 : Int64) + (own_glt (own_sel c1 q0 q1) r1 (own_sel c1 u0 u1))) + (own_glt (own_sel c2 q0 q1) r2 (own_sel c2 u0 u1)))), .second] [(.int (0 : Int32)), (.ref b4), (.ref b1), (.ref b11), (.long (((0 : Int64) + (own_glt (own_sel c1 q0 q1) r1 (own_sel c1 u0 u1))) + (own_glt (own_sel c2 q0 q1) r2 (own_sel c2 u0 u1))))])) _
    refine XS.iloadN X14.here hx rfl (hb hby at_168) rfl ?_
    show Steps p.tables e below (T14.setTop (mkF m 169 #[.val (.int p1), .val (.int p2), .val (.int p3), .val (.int p4), .val (.int p5), .val (.int p6), .val (.ref b1), .val (.int nn), .val (.ref b4), .val (.ref b11), .val (.long (((0 : Int64) + (own_glt (own_sel c1 q0 q1) r1 (own_sel c1 u0 u1))) + (own_glt (own_sel c2 q0 q1) r2 (own_sel c2 u0 u1)))), .second] [(.int p1), (.int (0 : Int32)), (.ref b4), (.ref b1), (.ref b11), (.long (((0 : Int64) + (own_glt (own_sel c1 q0 q1) r1 (own_sel c1 u0 u1))) + (own_glt (own_sel c2 q0 q1) r2 (own_sel c2 u0 u1))))])) _
    refine XS.bipush X14.here hx rfl (hb hby at_169) ?_
    show Steps p.tables e below (T14.setTop (mkF m 171 #[.val (.int p1), .val (.int p2), .val (.int p3), .val (.int p4), .val (.int p5), .val (.int p6), .val (.ref b1), .val (.int nn), .val (.ref b4), .val (.ref b11), .val (.long (((0 : Int64) + (own_glt (own_sel c1 q0 q1) r1 (own_sel c1 u0 u1))) + (own_glt (own_sel c2 q0 q1) r2 (own_sel c2 u0 u1)))), .second] [(.int (14 : Int32)), (.int p1), (.int (0 : Int32)), (.ref b4), (.ref b1), (.ref b11), (.long (((0 : Int64) + (own_glt (own_sel c1 q0 q1) r1 (own_sel c1 u0 u1))) + (own_glt (own_sel c2 q0 q1) r2 (own_sel c2 u0 u1))))])) _
    refine XS.iushr X14.here hx rfl (hb hby at_171) rfl ?_
    show Steps p.tables e below (T14.setTop (mkF m 172 #[.val (.int p1), .val (.int p2), .val (.int p3), .val (.int p4), .val (.int p5), .val (.int p6), .val (.ref b1), .val (.int nn), .val (.ref b4), .val (.ref b11), .val (.long (((0 : Int64) + (own_glt (own_sel c1 q0 q1) r1 (own_sel c1 u0 u1))) + (own_glt (own_sel c2 q0 q1) r2 (own_sel c2 u0 u1)))), .second] [(.int ((p1.toUInt32 >>> ((14 : Int32) &&& 31).toUInt32).toInt32)), (.int (0 : Int32)), (.ref b4), (.ref b1), (.ref b11), (.long (((0 : Int64) + (own_glt (own_sel c1 q0 q1) r1 (own_sel c1 u0 u1))) + (own_glt (own_sel c2 q0 q1) r2 (own_sel c2 u0 u1))))])) _
    refine XS.iconst X14.here hx rfl (hb hby at_172) ?_
    show Steps p.tables e below (T14.setTop (mkF m 173 #[.val (.int p1), .val (.int p2), .val (.int p3), .val (.int p4), .val (.int p5), .val (.int p6), .val (.ref b1), .val (.int nn), .val (.ref b4), .val (.ref b11), .val (.long (((0 : Int64) + (own_glt (own_sel c1 q0 q1) r1 (own_sel c1 u0 u1))) + (own_glt (own_sel c2 q0 q1) r2 (own_sel c2 u0 u1)))), .second] [(.int (1 : Int32)), (.int ((p1.toUInt32 >>> ((14 : Int32) &&& 31).toUInt32).toInt32)), (.int (0 : Int32)), (.ref b4), (.ref b1), (.ref b11), (.long (((0 : Int64) + (own_glt (own_sel c1 q0 q1) r1 (own_sel c1 u0 u1))) + (own_glt (own_sel c2 q0 q1) r2 (own_sel c2 u0 u1))))])) _
    refine XS.iand X14.here hx rfl (hb hby at_173) rfl ?_
    show Steps p.tables e below (T14.setTop (mkF m 174 #[.val (.int p1), .val (.int p2), .val (.int p3), .val (.int p4), .val (.int p5), .val (.int p6), .val (.ref b1), .val (.int nn), .val (.ref b4), .val (.ref b11), .val (.long (((0 : Int64) + (own_glt (own_sel c1 q0 q1) r1 (own_sel c1 u0 u1))) + (own_glt (own_sel c2 q0 q1) r2 (own_sel c2 u0 u1)))), .second] [(.int (((p1.toUInt32 >>> ((14 : Int32) &&& 31).toUInt32).toInt32) &&& (1 : Int32))), (.int (0 : Int32)), (.ref b4), (.ref b1), (.ref b11), (.long (((0 : Int64) + (own_glt (own_sel c1 q0 q1) r1 (own_sel c1 u0 u1))) + (own_glt (own_sel c2 q0 q1) r2 (own_sel c2 u0 u1))))])) _
    refine castTop (g' := (mkF m 174 #[.val (.int p1), .val (.int p2), .val (.int p3), .val (.int p4), .val (.int p5), .val (.int p6), .val (.ref b1), .val (.int nn), .val (.ref b4), .val (.ref b11), .val (.long (((0 : Int64) + (own_glt (own_sel c1 q0 q1) r1 (own_sel c1 u0 u1))) + (own_glt (own_sel c2 q0 q1) r2 (own_sel c2 u0 u1)))), .second] [(.int c3), (.int (0 : Int32)), (.ref b4), (.ref b1), (.ref b11), (.long (((0 : Int64) + (own_glt (own_sel c1 q0 q1) r1 (own_sel c1 u0 u1))) + (own_glt (own_sel c2 q0 q1) r2 (own_sel c2 u0 u1))))])) (by rw [hc3]) ?_
    show Steps p.tables e below (T14.setTop (mkF m 174 #[.val (.int p1), .val (.int p2), .val (.int p3), .val (.int p4), .val (.int p5), .val (.int p6), .val (.ref b1), .val (.int nn), .val (.ref b4), .val (.ref b11), .val (.long (((0 : Int64) + (own_glt (own_sel c1 q0 q1) r1 (own_sel c1 u0 u1))) + (own_glt (own_sel c2 q0 q1) r2 (own_sel c2 u0 u1)))), .second] [(.int c3), (.int (0 : Int32)), (.ref b4), (.ref b1), (.ref b11), (.long (((0 : Int64) + (own_glt (own_sel c1 q0 q1) r1 (own_sel c1 u0 u1))) + (own_glt (own_sel c2 q0 q1) r2 (own_sel c2 u0 u1))))])) _
    refine XS.iloadN X14.here hx rfl (hb hby at_174) rfl ?_
    show Steps p.tables e below (T14.setTop (mkF m 175 #[.val (.int p1), .val (.int p2), .val (.int p3), .val (.int p4), .val (.int p5), .val (.int p6), .val (.ref b1), .val (.int nn), .val (.ref b4), .val (.ref b11), .val (.long (((0 : Int64) + (own_glt (own_sel c1 q0 q1) r1 (own_sel c1 u0 u1))) + (own_glt (own_sel c2 q0 q1) r2 (own_sel c2 u0 u1)))), .second] [(.int p4), (.int c3), (.int (0 : Int32)), (.ref b4), (.ref b1), (.ref b11), (.long (((0 : Int64) + (own_glt (own_sel c1 q0 q1) r1 (own_sel c1 u0 u1))) + (own_glt (own_sel c2 q0 q1) r2 (own_sel c2 u0 u1))))])) _
    refine st15 _ ?_
    show Steps p.tables e below (T15.setTop (mkF m 178 #[.val (.int p1), .val (.int p2), .val (.int p3), .val (.int p4), .val (.int p5), .val (.int p6), .val (.ref b1), .val (.int nn), .val (.ref b4), .val (.ref b11), .val (.long (((0 : Int64) + (own_glt (own_sel c1 q0 q1) r1 (own_sel c1 u0 u1))) + (own_glt (own_sel c2 q0 q1) r2 (own_sel c2 u0 u1)))), .second] [(.long (0 : Int64)), (.long (((0 : Int64) + (own_glt (own_sel c1 q0 q1) r1 (own_sel c1 u0 u1))) + (own_glt (own_sel c2 q0 q1) r2 (own_sel c2 u0 u1))))])) _
    refine XS.ladd X15.here hx rfl (hb hby at_178) rfl ?_
    show Steps p.tables e below (T15.setTop (mkF m 179 #[.val (.int p1), .val (.int p2), .val (.int p3), .val (.int p4), .val (.int p5), .val (.int p6), .val (.ref b1), .val (.int nn), .val (.ref b4), .val (.ref b11), .val (.long (((0 : Int64) + (own_glt (own_sel c1 q0 q1) r1 (own_sel c1 u0 u1))) + (own_glt (own_sel c2 q0 q1) r2 (own_sel c2 u0 u1)))), .second] [(.long ((((0 : Int64) + (own_glt (own_sel c1 q0 q1) r1 (own_sel c1 u0 u1))) + (own_glt (own_sel c2 q0 q1) r2 (own_sel c2 u0 u1))) + (0 : Int64)))])) _
    refine XS.lstore X15.here hx rfl (hb hby at_179) rfl (l' := #[.val (.int p1), .val (.int p2), .val (.int p3), .val (.int p4), .val (.int p5), .val (.int p6), .val (.ref b1), .val (.int nn), .val (.ref b4), .val (.ref b11), .val (.long ((((0 : Int64) + (own_glt (own_sel c1 q0 q1) r1 (own_sel c1 u0 u1))) + (own_glt (own_sel c2 q0 q1) r2 (own_sel c2 u0 u1))) + (0 : Int64))), .second]) rfl ?_
    show Steps p.tables e below (T15.setTop (mkF m 181 #[.val (.int p1), .val (.int p2), .val (.int p3), .val (.int p4), .val (.int p5), .val (.int p6), .val (.ref b1), .val (.int nn), .val (.ref b4), .val (.ref b11), .val (.long ((((0 : Int64) + (own_glt (own_sel c1 q0 q1) r1 (own_sel c1 u0 u1))) + (own_glt (own_sel c2 q0 q1) r2 (own_sel c2 u0 u1))) + (0 : Int64))), .second] [])) _
    refine XS.lload X15.here hx rfl (hb hby at_181) rfl ?_
    show Steps p.tables e below (T15.setTop (mkF m 183 #[.val (.int p1), .val (.int p2), .val (.int p3), .val (.int p4), .val (.int p5), .val (.int p6), .val (.ref b1), .val (.int nn), .val (.ref b4), .val (.ref b11), .val (.long ((((0 : Int64) + (own_glt (own_sel c1 q0 q1) r1 (own_sel c1 u0 u1))) + (own_glt (own_sel c2 q0 q1) r2 (own_sel c2 u0 u1))) + (0 : Int64))), .second] [(.long ((((0 : Int64) + (own_glt (own_sel c1 q0 q1) r1 (own_sel c1 u0 u1))) + (own_glt (own_sel c2 q0 q1) r2 (own_sel c2 u0 u1))) + (0 : Int64)))])) _
    refine XS.aload X15.here hx rfl (hb hby at_183) rfl rfl ?_
    show Steps p.tables e below (T15.setTop (mkF m 185 #[.val (.int p1), .val (.int p2), .val (.int p3), .val (.int p4), .val (.int p5), .val (.int p6), .val (.ref b1), .val (.int nn), .val (.ref b4), .val (.ref b11), .val (.long ((((0 : Int64) + (own_glt (own_sel c1 q0 q1) r1 (own_sel c1 u0 u1))) + (own_glt (own_sel c2 q0 q1) r2 (own_sel c2 u0 u1))) + (0 : Int64))), .second] [(.ref b11), (.long ((((0 : Int64) + (own_glt (own_sel c1 q0 q1) r1 (own_sel c1 u0 u1))) + (own_glt (own_sel c2 q0 q1) r2 (own_sel c2 u0 u1))) + (0 : Int64)))])) _
    refine XS.aload X15.here hx rfl (hb hby at_185) rfl rfl ?_
    show Steps p.tables e below (T15.setTop (mkF m 187 #[.val (.int p1), .val (.int p2), .val (.int p3), .val (.int p4), .val (.int p5), .val (.int p6), .val (.ref b1), .val (.int nn), .val (.ref b4), .val (.ref b11), .val (.long ((((0 : Int64) + (own_glt (own_sel c1 q0 q1) r1 (own_sel c1 u0 u1))) + (own_glt (own_sel c2 q0 q1) r2 (own_sel c2 u0 u1))) + (0 : Int64))), .second] [(.ref b1), (.ref b11), (.long ((((0 : Int64) + (own_glt (own_sel c1 q0 q1) r1 (own_sel c1 u0 u1))) + (own_glt (own_sel c2 q0 q1) r2 (own_sel c2 u0 u1))) + (0 : Int64)))])) _
    refine XS.aload X15.here hx rfl (hb hby at_187) rfl rfl ?_
    show Steps p.tables e below (T15.setTop (mkF m 189 #[.val (.int p1), .val (.int p2), .val (.int p3), .val (.int p4), .val (.int p5), .val (.int p6), .val (.ref b1), .val (.int nn), .val (.ref b4), .val (.ref b11), .val (.long ((((0 : Int64) + (own_glt (own_sel c1 q0 q1) r1 (own_sel c1 u0 u1))) + (own_glt (own_sel c2 q0 q1) r2 (own_sel c2 u0 u1))) + (0 : Int64))), .second] [(.ref b4), (.ref b1), (.ref b11), (.long ((((0 : Int64) + (own_glt (own_sel c1 q0 q1) r1 (own_sel c1 u0 u1))) + (own_glt (own_sel c2 q0 q1) r2 (own_sel c2 u0 u1))) + (0 : Int64)))])) _
    refine XS.iload X15.here hx rfl (hb hby at_189) rfl ?_
    show Steps p.tables e below (T15.setTop (mkF m 191 #[.val (.int p1), .val (.int p2), .val (.int p3), .val (.int p4), .val (.int p5), .val (.int p6), .val (.ref b1), .val (.int nn), .val (.ref b4), .val (.ref b11), .val (.long ((((0 : Int64) + (own_glt (own_sel c1 q0 q1) r1 (own_sel c1 u0 u1))) + (own_glt (own_sel c2 q0 q1) r2 (own_sel c2 u0 u1))) + (0 : Int64))), .second] [(.int nn), (.ref b4), (.ref b1), (.ref b11), (.long ((((0 : Int64) + (own_glt (own_sel c1 q0 q1) r1 (own_sel c1 u0 u1))) + (own_glt (own_sel c2 q0 q1) r2 (own_sel c2 u0 u1))) + (0 : Int64)))])) _
    refine XS.iconst X15.here hx rfl (hb hby at_191) ?_
    show Steps p.tables e below (T15.setTop (mkF m 192 #[.val (.int p1), .val (.int p2), .val (.int p3), .val (.int p4), .val (.int p5), .val (.int p6), .val (.ref b1), .val (.int nn), .val (.ref b4), .val (.ref b11), .val (.long ((((0 : Int64) + (own_glt (own_sel c1 q0 q1) r1 (own_sel c1 u0 u1))) + (own_glt (own_sel c2 q0 q1) r2 (own_sel c2 u0 u1))) + (0 : Int64))), .second] [(.int (3 : Int32)), (.int nn), (.ref b4), (.ref b1), (.ref b11), (.long ((((0 : Int64) + (own_glt (own_sel c1 q0 q1) r1 (own_sel c1 u0 u1))) + (own_glt (own_sel c2 q0 q1) r2 (own_sel c2 u0 u1))) + (0 : Int64)))])) _
    refine XS.icmpYes X15.here hx rfl (pc0 := 192) (pc' := 199) rfl (hb hby at_192) rfl (flt (hn3 : ¬ ((3 : Int32) < nn))).2.2.2 (by decide) (by decide) ?_
    show Steps p.tables e below (T15.setTop (mkF m 199 #[.val (.int p1), .val (.int p2), .val (.int p3), .val (.int p4), .val (.int p5), .val (.int p6), .val (.ref b1), .val (.int nn), .val (.ref b4), .val (.ref b11), .val (.long ((((0 : Int64) + (own_glt (own_sel c1 q0 q1) r1 (own_sel c1 u0 u1))) + (own_glt (own_sel c2 q0 q1) r2 (own_sel c2 u0 u1))) + (0 : Int64))), .second] [(.ref b4), (.ref b1), (.ref b11), (.long ((((0 : Int64) + (own_glt (own_sel c1 q0 q1) r1 (own_sel c1 u0 u1))) + (own_glt (own_sel c2 q0 q1) r2 (own_sel c2 u0 u1))) + (0 : Int64)))])) _
    refine XS.iconst X15.here hx rfl (hb hby at_199) ?_
    show Steps p.tables e below (T15.setTop (mkF m 200 #[.val (.int p1), .val (.int p2), .val (.int p3), .val (.int p4), .val (.int p5), .val (.int p6), .val (.ref b1), .val (.int nn), .val (.ref b4), .val (.ref b11), .val (.long ((((0 : Int64) + (own_glt (own_sel c1 q0 q1) r1 (own_sel c1 u0 u1))) + (own_glt (own_sel c2 q0 q1) r2 (own_sel c2 u0 u1))) + (0 : Int64))), .second] [(.int (0 : Int32)), (.ref b4), (.ref b1), (.ref b11), (.long ((((0 : Int64) + (own_glt (own_sel c1 q0 q1) r1 (own_sel c1 u0 u1))) + (own_glt (own_sel c2 q0 q1) r2 (own_sel c2 u0 u1))) + (0 : Int64)))])) _
    refine XS.iloadN X15.here hx rfl (hb hby at_200) rfl ?_
    show Steps p.tables e below (T15.setTop (mkF m 201 #[.val (.int p1), .val (.int p2), .val (.int p3), .val (.int p4), .val (.int p5), .val (.int p6), .val (.ref b1), .val (.int nn), .val (.ref b4), .val (.ref b11), .val (.long ((((0 : Int64) + (own_glt (own_sel c1 q0 q1) r1 (own_sel c1 u0 u1))) + (own_glt (own_sel c2 q0 q1) r2 (own_sel c2 u0 u1))) + (0 : Int64))), .second] [(.int p1), (.int (0 : Int32)), (.ref b4), (.ref b1), (.ref b11), (.long ((((0 : Int64) + (own_glt (own_sel c1 q0 q1) r1 (own_sel c1 u0 u1))) + (own_glt (own_sel c2 q0 q1) r2 (own_sel c2 u0 u1))) + (0 : Int64)))])) _
    refine XS.bipush X15.here hx rfl (hb hby at_201) ?_
    show Steps p.tables e below (T15.setTop (mkF m 203 #[.val (.int p1), .val (.int p2), .val (.int p3), .val (.int p4), .val (.int p5), .val (.int p6), .val (.ref b1), .val (.int nn), .val (.ref b4), .val (.ref b11), .val (.long ((((0 : Int64) + (own_glt (own_sel c1 q0 q1) r1 (own_sel c1 u0 u1))) + (own_glt (own_sel c2 q0 q1) r2 (own_sel c2 u0 u1))) + (0 : Int64))), .second] [(.int (15 : Int32)), (.int p1), (.int (0 : Int32)), (.ref b4), (.ref b1), (.ref b11), (.long ((((0 : Int64) + (own_glt (own_sel c1 q0 q1) r1 (own_sel c1 u0 u1))) + (own_glt (own_sel c2 q0 q1) r2 (own_sel c2 u0 u1))) + (0 : Int64)))])) _
    refine XS.iushr X15.here hx rfl (hb hby at_203) rfl ?_
    show Steps p.tables e below (T15.setTop (mkF m 204 #[.val (.int p1), .val (.int p2), .val (.int p3), .val (.int p4), .val (.int p5), .val (.int p6), .val (.ref b1), .val (.int nn), .val (.ref b4), .val (.ref b11), .val (.long ((((0 : Int64) + (own_glt (own_sel c1 q0 q1) r1 (own_sel c1 u0 u1))) + (own_glt (own_sel c2 q0 q1) r2 (own_sel c2 u0 u1))) + (0 : Int64))), .second] [(.int ((p1.toUInt32 >>> ((15 : Int32) &&& 31).toUInt32).toInt32)), (.int (0 : Int32)), (.ref b4), (.ref b1), (.ref b11), (.long ((((0 : Int64) + (own_glt (own_sel c1 q0 q1) r1 (own_sel c1 u0 u1))) + (own_glt (own_sel c2 q0 q1) r2 (own_sel c2 u0 u1))) + (0 : Int64)))])) _
    refine XS.iconst X15.here hx rfl (hb hby at_204) ?_
    show Steps p.tables e below (T15.setTop (mkF m 205 #[.val (.int p1), .val (.int p2), .val (.int p3), .val (.int p4), .val (.int p5), .val (.int p6), .val (.ref b1), .val (.int nn), .val (.ref b4), .val (.ref b11), .val (.long ((((0 : Int64) + (own_glt (own_sel c1 q0 q1) r1 (own_sel c1 u0 u1))) + (own_glt (own_sel c2 q0 q1) r2 (own_sel c2 u0 u1))) + (0 : Int64))), .second] [(.int (1 : Int32)), (.int ((p1.toUInt32 >>> ((15 : Int32) &&& 31).toUInt32).toInt32)), (.int (0 : Int32)), (.ref b4), (.ref b1), (.ref b11), (.long ((((0 : Int64) + (own_glt (own_sel c1 q0 q1) r1 (own_sel c1 u0 u1))) + (own_glt (own_sel c2 q0 q1) r2 (own_sel c2 u0 u1))) + (0 : Int64)))])) _
    refine XS.iand X15.here hx rfl (hb hby at_205) rfl ?_
    show Steps p.tables e below (T15.setTop (mkF m 206 #[.val (.int p1), .val (.int p2), .val (.int p3), .val (.int p4), .val (.int p5), .val (.int p6), .val (.ref b1), .val (.int nn), .val (.ref b4), .val (.ref b11), .val (.long ((((0 : Int64) + (own_glt (own_sel c1 q0 q1) r1 (own_sel c1 u0 u1))) + (own_glt (own_sel c2 q0 q1) r2 (own_sel c2 u0 u1))) + (0 : Int64))), .second] [(.int (((p1.toUInt32 >>> ((15 : Int32) &&& 31).toUInt32).toInt32) &&& (1 : Int32))), (.int (0 : Int32)), (.ref b4), (.ref b1), (.ref b11), (.long ((((0 : Int64) + (own_glt (own_sel c1 q0 q1) r1 (own_sel c1 u0 u1))) + (own_glt (own_sel c2 q0 q1) r2 (own_sel c2 u0 u1))) + (0 : Int64)))])) _
    refine castTop (g' := (mkF m 206 #[.val (.int p1), .val (.int p2), .val (.int p3), .val (.int p4), .val (.int p5), .val (.int p6), .val (.ref b1), .val (.int nn), .val (.ref b4), .val (.ref b11), .val (.long ((((0 : Int64) + (own_glt (own_sel c1 q0 q1) r1 (own_sel c1 u0 u1))) + (own_glt (own_sel c2 q0 q1) r2 (own_sel c2 u0 u1))) + (0 : Int64))), .second] [(.int c4), (.int (0 : Int32)), (.ref b4), (.ref b1), (.ref b11), (.long ((((0 : Int64) + (own_glt (own_sel c1 q0 q1) r1 (own_sel c1 u0 u1))) + (own_glt (own_sel c2 q0 q1) r2 (own_sel c2 u0 u1))) + (0 : Int64)))])) (by rw [hc4]) ?_
    show Steps p.tables e below (T15.setTop (mkF m 206 #[.val (.int p1), .val (.int p2), .val (.int p3), .val (.int p4), .val (.int p5), .val (.int p6), .val (.ref b1), .val (.int nn), .val (.ref b4), .val (.ref b11), .val (.long ((((0 : Int64) + (own_glt (own_sel c1 q0 q1) r1 (own_sel c1 u0 u1))) + (own_glt (own_sel c2 q0 q1) r2 (own_sel c2 u0 u1))) + (0 : Int64))), .second] [(.int c4), (.int (0 : Int32)), (.ref b4), (.ref b1), (.ref b11), (.long ((((0 : Int64) + (own_glt (own_sel c1 q0 q1) r1 (own_sel c1 u0 u1))) + (own_glt (own_sel c2 q0 q1) r2 (own_sel c2 u0 u1))) + (0 : Int64)))])) _
    refine XS.iload X15.here hx rfl (hb hby at_206) rfl ?_
    show Steps p.tables e below (T15.setTop (mkF m 208 #[.val (.int p1), .val (.int p2), .val (.int p3), .val (.int p4), .val (.int p5), .val (.int p6), .val (.ref b1), .val (.int nn), .val (.ref b4), .val (.ref b11), .val (.long ((((0 : Int64) + (own_glt (own_sel c1 q0 q1) r1 (own_sel c1 u0 u1))) + (own_glt (own_sel c2 q0 q1) r2 (own_sel c2 u0 u1))) + (0 : Int64))), .second] [(.int p5), (.int c4), (.int (0 : Int32)), (.ref b4), (.ref b1), (.ref b11), (.long ((((0 : Int64) + (own_glt (own_sel c1 q0 q1) r1 (own_sel c1 u0 u1))) + (own_glt (own_sel c2 q0 q1) r2 (own_sel c2 u0 u1))) + (0 : Int64)))])) _
    refine st16 _ ?_
    show Steps p.tables e below (T16.setTop (mkF m 211 #[.val (.int p1), .val (.int p2), .val (.int p3), .val (.int p4), .val (.int p5), .val (.int p6), .val (.ref b1), .val (.int nn), .val (.ref b4), .val (.ref b11), .val (.long ((((0 : Int64) + (own_glt (own_sel c1 q0 q1) r1 (own_sel c1 u0 u1))) + (own_glt (own_sel c2 q0 q1) r2 (own_sel c2 u0 u1))) + (0 : Int64))), .second] [(.long (0 : Int64)), (.long ((((0 : Int64) + (own_glt (own_sel c1 q0 q1) r1 (own_sel c1 u0 u1))) + (own_glt (own_sel c2 q0 q1) r2 (own_sel c2 u0 u1))) + (0 : Int64)))])) _
    refine XS.ladd X16.here hx rfl (hb hby at_211) rfl ?_
    show Steps p.tables e below (T16.setTop (mkF m 212 #[.val (.int p1), .val (.int p2), .val (.int p3), .val (.int p4), .val (.int p5), .val (.int p6), .val (.ref b1), .val (.int nn), .val (.ref b4), .val (.ref b11), .val (.long ((((0 : Int64) + (own_glt (own_sel c1 q0 q1) r1 (own_sel c1 u0 u1))) + (own_glt (own_sel c2 q0 q1) r2 (own_sel c2 u0 u1))) + (0 : Int64))), .second] [(.long (((((0 : Int64) + (own_glt (own_sel c1 q0 q1) r1 (own_sel c1 u0 u1))) + (own_glt (own_sel c2 q0 q1) r2 (own_sel c2 u0 u1))) + (0 : Int64)) + (0 : Int64)))])) _
    refine XS.lstore X16.here hx rfl (hb hby at_212) rfl (l' := #[.val (.int p1), .val (.int p2), .val (.int p3), .val (.int p4), .val (.int p5), .val (.int p6), .val (.ref b1), .val (.int nn), .val (.ref b4), .val (.ref b11), .val (.long (((((0 : Int64) + (own_glt (own_sel c1 q0 q1) r1 (own_sel c1 u0 u1))) + (own_glt (own_sel c2 q0 q1) r2 (own_sel c2 u0 u1))) + (0 : Int64)) + (0 : Int64))), .second]) rfl ?_
    show Steps p.tables e below (T16.setTop (mkF m 214 #[.val (.int p1), .val (.int p2), .val (.int p3), .val (.int p4), .val (.int p5), .val (.int p6), .val (.ref b1), .val (.int nn), .val (.ref b4), .val (.ref b11), .val (.long (((((0 : Int64) + (own_glt (own_sel c1 q0 q1) r1 (own_sel c1 u0 u1))) + (own_glt (own_sel c2 q0 q1) r2 (own_sel c2 u0 u1))) + (0 : Int64)) + (0 : Int64))), .second] [])) _
    refine XS.aload X16.here hx rfl (hb hby at_214) rfl rfl ?_
    show Steps p.tables e below (T16.setTop (mkF m 216 #[.val (.int p1), .val (.int p2), .val (.int p3), .val (.int p4), .val (.int p5), .val (.int p6), .val (.ref b1), .val (.int nn), .val (.ref b4), .val (.ref b11), .val (.long (((((0 : Int64) + (own_glt (own_sel c1 q0 q1) r1 (own_sel c1 u0 u1))) + (own_glt (own_sel c2 q0 q1) r2 (own_sel c2 u0 u1))) + (0 : Int64)) + (0 : Int64))), .second] [(.ref b11)])) _
    refine XS.aload X16.here hx rfl (hb hby at_216) rfl rfl ?_
    show Steps p.tables e below (T16.setTop (mkF m 218 #[.val (.int p1), .val (.int p2), .val (.int p3), .val (.int p4), .val (.int p5), .val (.int p6), .val (.ref b1), .val (.int nn), .val (.ref b4), .val (.ref b11), .val (.long (((((0 : Int64) + (own_glt (own_sel c1 q0 q1) r1 (own_sel c1 u0 u1))) + (own_glt (own_sel c2 q0 q1) r2 (own_sel c2 u0 u1))) + (0 : Int64)) + (0 : Int64))), .second] [(.ref b4), (.ref b11)])) _
    refine st17.trans ?_
    show Steps p.tables e below (T17.setTop (mkF m 221 #[.val (.int p1), .val (.int p2), .val (.int p3), .val (.int p4), .val (.int p5), .val (.int p6), .val (.ref b1), .val (.int nn), .val (.ref b4), .val (.ref b11), .val (.long (((((0 : Int64) + (own_glt (own_sel c1 q0 q1) r1 (own_sel c1 u0 u1))) + (own_glt (own_sel c2 q0 q1) r2 (own_sel c2 u0 u1))) + (0 : Int64)) + (0 : Int64))), .second] [(.long (own_cb u1 (own_gx1 (own_sel c2 q0 q1) c2 r2 (own_gx1 (own_sel c1 q0 q1) c1 r1 (2147483647 : Int32))) (own_gf1 (own_sel c2 q0 q1) c2 (q1 + (1 : Int32)) r2 (own_gf1 (own_sel c1 q0 q1) c1 (q1 + (1 : Int32)) r1 own_zero)) (own_cb u0 (own_gx0 (own_sel c2 q0 q1) c2 r2 (own_gx0 (own_sel c1 q0 q1) c1 r1 (2147483647 : Int32))) (own_gf0 (own_sel c2 q0 q1) c2 (q0 + (1 : Int32)) r2 (own_gf0 (own_sel c1 q0 q1) c1 (q0 + (1 : Int32)) r1 own_zero)) (0 : Int64))))])) _
    refine XS.lload X17.here hx rfl (hb hby at_221) rfl ?_
    show Steps p.tables e below (T17.setTop (mkF m 223 #[.val (.int p1), .val (.int p2), .val (.int p3), .val (.int p4), .val (.int p5), .val (.int p6), .val (.ref b1), .val (.int nn), .val (.ref b4), .val (.ref b11), .val (.long (((((0 : Int64) + (own_glt (own_sel c1 q0 q1) r1 (own_sel c1 u0 u1))) + (own_glt (own_sel c2 q0 q1) r2 (own_sel c2 u0 u1))) + (0 : Int64)) + (0 : Int64))), .second] [(.long (((((0 : Int64) + (own_glt (own_sel c1 q0 q1) r1 (own_sel c1 u0 u1))) + (own_glt (own_sel c2 q0 q1) r2 (own_sel c2 u0 u1))) + (0 : Int64)) + (0 : Int64))), (.long (own_cb u1 (own_gx1 (own_sel c2 q0 q1) c2 r2 (own_gx1 (own_sel c1 q0 q1) c1 r1 (2147483647 : Int32))) (own_gf1 (own_sel c2 q0 q1) c2 (q1 + (1 : Int32)) r2 (own_gf1 (own_sel c1 q0 q1) c1 (q1 + (1 : Int32)) r1 own_zero)) (own_cb u0 (own_gx0 (own_sel c2 q0 q1) c2 r2 (own_gx0 (own_sel c1 q0 q1) c1 r1 (2147483647 : Int32))) (own_gf0 (own_sel c2 q0 q1) c2 (q0 + (1 : Int32)) r2 (own_gf0 (own_sel c1 q0 q1) c1 (q0 + (1 : Int32)) r1 own_zero)) (0 : Int64))))])) _
    refine XS.lcmp X17.here hx rfl (hb hby at_223) rfl ?_
    show Steps p.tables e below (T17.setTop (mkF m 224 #[.val (.int p1), .val (.int p2), .val (.int p3), .val (.int p4), .val (.int p5), .val (.int p6), .val (.ref b1), .val (.int nn), .val (.ref b4), .val (.ref b11), .val (.long (((((0 : Int64) + (own_glt (own_sel c1 q0 q1) r1 (own_sel c1 u0 u1))) + (own_glt (own_sel c2 q0 q1) r2 (own_sel c2 u0 u1))) + (0 : Int64)) + (0 : Int64))), .second] [(.int (lcmpW (own_cb u1 (own_gx1 (own_sel c2 q0 q1) c2 r2 (own_gx1 (own_sel c1 q0 q1) c1 r1 (2147483647 : Int32))) (own_gf1 (own_sel c2 q0 q1) c2 (q1 + (1 : Int32)) r2 (own_gf1 (own_sel c1 q0 q1) c1 (q1 + (1 : Int32)) r1 own_zero)) (own_cb u0 (own_gx0 (own_sel c2 q0 q1) c2 r2 (own_gx0 (own_sel c1 q0 q1) c1 r1 (2147483647 : Int32))) (own_gf0 (own_sel c2 q0 q1) c2 (q0 + (1 : Int32)) r2 (own_gf0 (own_sel c1 q0 q1) c1 (q0 + (1 : Int32)) r1 own_zero)) (0 : Int64))) (((((0 : Int64) + (own_glt (own_sel c1 q0 q1) r1 (own_sel c1 u0 u1))) + (own_glt (own_sel c2 q0 q1) r2 (own_sel c2 u0 u1))) + (0 : Int64)) + (0 : Int64))))])) _
    refine castTop (g' := (mkF m 224 #[.val (.int p1), .val (.int p2), .val (.int p3), .val (.int p4), .val (.int p5), .val (.int p6), .val (.ref b1), .val (.int nn), .val (.ref b4), .val (.ref b11), .val (.long (((((0 : Int64) + (own_glt (own_sel c1 q0 q1) r1 (own_sel c1 u0 u1))) + (own_glt (own_sel c2 q0 q1) r2 (own_sel c2 u0 u1))) + (0 : Int64)) + (0 : Int64))), .second] [(.int (0 : Int32))])) (by rw [hfin]) ?_
    show Steps p.tables e below (T17.setTop (mkF m 224 #[.val (.int p1), .val (.int p2), .val (.int p3), .val (.int p4), .val (.int p5), .val (.int p6), .val (.ref b1), .val (.int nn), .val (.ref b4), .val (.ref b11), .val (.long (((((0 : Int64) + (own_glt (own_sel c1 q0 q1) r1 (own_sel c1 u0 u1))) + (own_glt (own_sel c2 q0 q1) r2 (own_sel c2 u0 u1))) + (0 : Int64)) + (0 : Int64))), .second] [(.int (0 : Int32))])) _
    refine XS.ifNo X17.here hx rfl (hb hby at_224) rfl (by decide) ?_
    show Steps p.tables e below (T17.setTop (mkF m 227 #[.val (.int p1), .val (.int p2), .val (.int p3), .val (.int p4), .val (.int p5), .val (.int p6), .val (.ref b1), .val (.int nn), .val (.ref b4), .val (.ref b11), .val (.long (((((0 : Int64) + (own_glt (own_sel c1 q0 q1) r1 (own_sel c1 u0 u1))) + (own_glt (own_sel c2 q0 q1) r2 (own_sel c2 u0 u1))) + (0 : Int64)) + (0 : Int64))), .second] [])) _
    refine XS.iconst X17.here hx rfl (hb hby at_227) ?_
    show Steps p.tables e below (T17.setTop (mkF m 228 #[.val (.int p1), .val (.int p2), .val (.int p3), .val (.int p4), .val (.int p5), .val (.int p6), .val (.ref b1), .val (.int nn), .val (.ref b4), .val (.ref b11), .val (.long (((((0 : Int64) + (own_glt (own_sel c1 q0 q1) r1 (own_sel c1 u0 u1))) + (own_glt (own_sel c2 q0 q1) r2 (own_sel c2 u0 u1))) + (0 : Int64)) + (0 : Int64))), .second] [(.int (1 : Int32))])) _
    refine XS.goto X17.here hx rfl (pc0 := 228) (pc' := 232) rfl (hb hby at_228) (by decide) (by decide) ?_
    show Steps p.tables e below (T17.setTop (mkF m 232 #[.val (.int p1), .val (.int p2), .val (.int p3), .val (.int p4), .val (.int p5), .val (.int p6), .val (.ref b1), .val (.int nn), .val (.ref b4), .val (.ref b11), .val (.long (((((0 : Int64) + (own_glt (own_sel c1 q0 q1) r1 (own_sel c1 u0 u1))) + (own_glt (own_sel c2 q0 q1) r2 (own_sel c2 u0 u1))) + (0 : Int64)) + (0 : Int64))), .second] [(.int (1 : Int32))])) _
    exact retN X17 hx (t := .boolean) Bd.returns (by simp) (hb hby at_232) hr
  · exact ⟨rfl, N17⟩
set_option maxRecDepth 65536 in
set_option maxHeartbeats 40000000 in
theorem own_law_3 (l : Launch) (Z : State) (a0 : Array Value) (hw : ∀ d ∈ tables_1, d.before a0 Z = true) (ws : List Jvm.Cond) (h0 : Heap) (n0 : Nat) (O0 : Old Z n0 h0) (p1 : Int32) (p2 : Int32) (p3 : Int32) (p4 : Int32) (p5 : Int32) (p6 : Int32) (q0 : Int32) (q1 : Int32) (nn : Int32) (c1 : Int32) (c2 : Int32) (c3 : Int32) (c4 : Int32) (r1 : Int32) (r2 : Int32) (r3 : Int32) (r4 : Int32) (u0 : Int32) (u1 : Int32) (hq0 : (p1 &&& (15 : Int32)) = q0) (hq1 : (((p1.toUInt32 >>> ((4 : Int32) &&& 31).toUInt32).toInt32) &&& (15 : Int32)) = q1) (hnn : (((p1.toUInt32 >>> ((8 : Int32) &&& 31).toUInt32).toInt32) &&& (7 : Int32)) = nn) (hn0 : (0 : Int32) < nn) (hn1 : (1 : Int32) < nn) (hn2 : (2 : Int32) < nn) (hn3 : ¬ ((3 : Int32) < nn)) (hc1 : (((p1.toUInt32 >>> ((12 : Int32) &&& 31).toUInt32).toInt32) &&& (1 : Int32)) = c1) (hc2 : (((p1.toUInt32 >>> ((13 : Int32) &&& 31).toUInt32).toInt32) &&& (1 : Int32)) = c2) (hc3 : (((p1.toUInt32 >>> ((14 : Int32) &&& 31).toUInt32).toInt32) &&& (1 : Int32)) = c3) (hc4 : (((p1.toUInt32 >>> ((15 : Int32) &&& 31).toUInt32).toInt32) &&& (1 : Int32)) = c4) (hb0 : ((p6 &&& (65535 : Int32)) % (q0 + (1 : Int32))) = u0) (hb1 : ((((p6.toUInt32 >>> ((16 : Int32) &&& 31).toUInt32).toInt32) &&& (65535 : Int32)) % (q1 + (1 : Int32))) = u1) (nn0 : ¬ ((q0 + (1 : Int32)) < (0 : Int32))) (mz0 : ¬ ((q0 + (1 : Int32)) = (0 : Int32))) (cp0 : (q0 + (1 : Int32)).toNatClampNeg ≤ 17) (dk0 : own_dnOk (q0 + (1 : Int32)) 6 u0 = true) (nn1 : ¬ ((q1 + (1 : Int32)) < (0 : Int32))) (mz1 : ¬ ((q1 + (1 : Int32)) = (0 : Int32))) (cp1 : (q1 + (1 : Int32)).toNatClampNeg ≤ 17) (dk1 : own_dnOk (q1 + (1 : Int32)) 6 u1 = true) (h011 : own_01 c1) (hr1 : (own_sel c1 q0 q1) = (0 : Int32) ∨ ((p2 &&& (2147483647 : Int32)) % (own_sel c1 q0 q1)) = r1) (uk1 : (own_sel c1 q0 q1) = (0 : Int32) ∨ own_upOk (own_sel c1 (q0 + (1 : Int32)) (q1 + (1 : Int32))) 6 (r1 + (1 : Int32)) = true) (h012 : own_01 c2) (hr2 : (own_sel c2 q0 q1) = (0 : Int32) ∨ ((p3 &&& (2147483647 : Int32)) % (own_sel c2 q0 q1)) = r2) (uk2 : (own_sel c2 q0 q1) = (0 : Int32) ∨ own_upOk (own_sel c2 (q0 + (1 : Int32)) (q1 + (1 : Int32))) 6 (r2 + (1 : Int32)) = true) (h013 : own_01 c3) (hr3 : (own_sel c3 q0 q1) = (0 : Int32) ∨ ((p4 &&& (2147483647 : Int32)) % (own_sel c3 q0 q1)) = r3) (uk3 : (own_sel c3 q0 q1) = (0 : Int32) ∨ own_upOk (own_sel c3 (q0 + (1 : Int32)) (q1 + (1 : Int32))) 6 (r3 + (1 : Int32)) = true) (h014 : own_01 c4) (hr4 : (own_sel c4 q0 q1) = (0 : Int32) ∨ ((p5 &&& (2147483647 : Int32)) % (own_sel c4 q0 q1)) = r4) (uk4 : (own_sel c4 q0 q1) = (0 : Int32) ∨ own_upOk (own_sel c4 (q0 + (1 : Int32)) (q1 + (1 : Int32))) 6 (r4 + (1 : Int32)) = true) (hfin : (lcmpW (own_cb u1 (own_gx1 (own_sel c3 q0 q1) c3 r3 (own_gx1 (own_sel c2 q0 q1) c2 r2 (own_gx1 (own_sel c1 q0 q1) c1 r1 (2147483647 : Int32)))) (own_gf1 (own_sel c3 q0 q1) c3 (q1 + (1 : Int32)) r3 (own_gf1 (own_sel c2 q0 q1) c2 (q1 + (1 : Int32)) r2 (own_gf1 (own_sel c1 q0 q1) c1 (q1 + (1 : Int32)) r1 own_zero))) (own_cb u0 (own_gx0 (own_sel c3 q0 q1) c3 r3 (own_gx0 (own_sel c2 q0 q1) c2 r2 (own_gx0 (own_sel c1 q0 q1) c1 r1 (2147483647 : Int32)))) (own_gf0 (own_sel c3 q0 q1) c3 (q0 + (1 : Int32)) r3 (own_gf0 (own_sel c2 q0 q1) c2 (q0 + (1 : Int32)) r2 (own_gf0 (own_sel c1 q0 q1) c1 (q0 + (1 : Int32)) r1 own_zero))) (0 : Int64))) (((((0 : Int64) + (own_glt (own_sel c1 q0 q1) r1 (own_sel c1 u0 u1))) + (own_glt (own_sel c2 q0 q1) r2 (own_sel c2 u0 u1))) + (own_glt (own_sel c3 q0 q1) r3 (own_sel c3 u0 u1))) + (0 : Int64))) = (0 : Int32)) :
    MetFree l x (head1 (Jvm.Cond.code x code maxLocals ret :: ws) room_1) (fun a U => a = #[(.int p1), (.int p2), (.int p3), (.int p4), (.int p5), (.int p6)] ∧ Z.Warmed39 U.vm ∧ U.heap = h0) (fun _ _ _ _ _ => True) (fun _ U o U' => ∃ v L, o = .returned v ∧ (v = some (.int 1) ∧ Fr n0 L) ∧ FrameEnd U o U' L room_1.cells room_1.slots) := by
  refine MetFree.of_bodySF (plainFor_of_name own_pn_4) hisR ?_
  intro p e s m args below meth c s₁ Bd hml0 hP hK
  obtain ⟨rfl, hZ, hh⟩ := hP
  have hx := Bd.exec
  have hby := Bd.bytes
  have hml : c.maxLocals = 12 := hml0
  have hown : s.vm.findClass "com/example/sober_broadcast/soberbroadcast/cli/PositionCountsCountBelowPinLaw" = some m.cls := findClass_of_methodNamed Bd.named
  have hnm := (name_of_methodNamed Bd.named Bd.method).1
  have X0 : Stand p l e room_1 s m #[(.int p1), (.int p2), (.int p3), (.int p4), (.int p5), (.int p6)] below meth c s₁ [] 0 0 := Stand.of_body Bd
  have e0 : s₁.heap = h0 := by rw [← hh, Bd.state]; rfl
  have N0 := Fr.nil n0
  have pre0 : ∀ t, Steps p.tables e below (s₁.setTop (mkF m 0 #[.val (.int p1), .val (.int p2), .val (.int p3), .val (.int p4), .val (.int p5), .val (.int p6), .unset, .unset, .unset, .unset, .unset, .unset] [])) t → Steps p.tables e below (s₁.setTop (entryFrame m #[(.int p1), (.int p2), (.int p3), (.int p4), (.int p5), (.int p6)] maxLocals)) t := fun t k => castTop (own_ef_0_IIIIII m p1 p2 p3 p4 p5 p6) k
  obtain ⟨T1, h1, k1, X1, e1, E1, A1, Ea1, st1⟩ := newPE X0 hx hZ (hw _ (List.mem_of_getElem? (i := 0) rfl)) e0 (g := (mkF m 1 #[.val (.int p1), .val (.int p2), .val (.int p3), .val (.int p4), .val (.int p5), .val (.int p6), .unset, .unset, .unset, .unset, .unset, .unset] [(.int (2 : Int32))])) rfl (hb hby at_1) rfl (by decide) (cap := 2) (by decide) (by decide) (by decide) (by decide) (ad := "[I") (by decide)
  obtain ⟨b1, g1⟩ : ∃ z, z = h0.size := ⟨_, rfl⟩
  rw [← g1] at A1 Ea1 st1
  have ge_b1 : n0 ≤ b1 := own_new O0 g1
  have sz_b1 : h0.size ≤ b1 := Nat.le_trans (Keep.refl h0 []).1 (Nat.le_of_eq g1.symm)
  have O1 := O0.ext E1
  have K1 := (Keep.refl h0 []).ext E1
  have V1 : Arv Z h1 b1 k1 .int (2 : Int32) [(.int (0 : Int32)), (.int (0 : Int32))] (.int (0 : Int32)) := (Arv.new A1 (by decide)).pad (pad_rep [] (.int (0 : Int32)) 2)
  obtain ⟨cl2, Ar2, qk2, Sz2, Nn2, Hs2, Gs2⟩ := id (V1)
  have hin2 : ¬ ((0 : Int32) < 0 ∨ cl2.slots.size ≤ ((0 : Int32)).toNatClampNeg) := inb_of Sz2 ⟨by decide, by decide⟩
  obtain ⟨T2, h2, X2, e2, W2, st2⟩ := stI X1 hx hZ e1 Ar2 (j := (0 : Int32)) hin2 (g := (mkF m 12 #[.val (.int p1), .val (.int p2), .val (.int p3), .val (.int p4), .val (.int p5), .val (.int p6), .val (.ref b1), .unset, .unset, .unset, .unset, .unset] [(.int q0), (.int (0 : Int32)), (.ref b1)])) rfl rfl (hb hby at_12)
  have V2 := Arv.set Ar2 qk2 Sz2 Nn2 Hs2 Gs2 rfl W2 0 rfl (Nat.le_of_ble_eq_true rfl)
  have f2_E_b1 := Ea1.wr W2
  have O2 := O1.wr W2 ge_b1
  have K2 := K1.wr W2 (Or.inr sz_b1)
  have N2 := Fr.snoc X2 N0 ge_b1
  obtain ⟨cl3, Ar3, qk3, Sz3, Nn3, Hs3, Gs3⟩ := id (V2)
  have hin3 : ¬ ((1 : Int32) < 0 ∨ cl3.slots.size ≤ ((1 : Int32)).toNatClampNeg) := inb_of Sz3 ⟨by decide, by decide⟩
  obtain ⟨T3, h3, X3, e3, W3, st3⟩ := stI X2 hx hZ e2 Ar3 (j := (1 : Int32)) hin3 (g := (mkF m 22 #[.val (.int p1), .val (.int p2), .val (.int p3), .val (.int p4), .val (.int p5), .val (.int p6), .val (.ref b1), .unset, .unset, .unset, .unset, .unset] [(.int q1), (.int (1 : Int32)), (.ref b1)])) rfl rfl (hb hby at_22)
  have V3 := Arv.set Ar3 qk3 Sz3 Nn3 Hs3 Gs3 rfl W3 1 rfl (Nat.le_of_ble_eq_true rfl)
  have f3_E_b1 := f2_E_b1.wr W3
  have O3 := O2.wr W3 ge_b1
  have K3 := K2.wr W3 (Or.inr sz_b1)
  have N3 := Fr.snoc X3 N2 ge_b1
  obtain ⟨T4, h4, k4, X4, e4, E4, A4, Ea4, st4⟩ := newPE X3 hx hZ (hw _ (List.mem_of_getElem? (i := 0) rfl)) e3 (g := (mkF m 33 #[.val (.int p1), .val (.int p2), .val (.int p3), .val (.int p4), .val (.int p5), .val (.int p6), .val (.ref b1), .val (.int nn), .unset, .unset, .unset, .unset] [(.int (2 : Int32))])) rfl (hb hby at_33) rfl (by decide) (cap := 2) (by decide) (by decide) (by decide) (by decide) (ad := "[I") (by decide)
  obtain ⟨b4, g4⟩ : ∃ z, z = h3.size := ⟨_, rfl⟩
  rw [← g4] at A4 Ea4 st4
  have ne_b1_b4 : b1 ≠ b4 := Nat.ne_of_lt (Nat.lt_of_lt_of_le f3_E_b1.lt (Nat.le_of_eq g4.symm))
  have ge_b4 : n0 ≤ b4 := own_new O3 g4
  have sz_b4 : h0.size ≤ b4 := Nat.le_trans K3.1 (Nat.le_of_eq g4.symm)
  have f4_E_b1 := f3_E_b1.ext E4
  have f4_V_b1 := V3.ext E4
  have O4 := O3.ext E4
  have K4 := K3.ext E4
  have V4 : Arv Z h4 b4 k4 .int (2 : Int32) [(.int (0 : Int32)), (.int (0 : Int32))] (.int (0 : Int32)) := (Arv.new A4 (by decide)).pad (pad_rep [] (.int (0 : Int32)) 2)
  obtain ⟨cl5, Ar5, qk5, Sz5, Nn5, Hs5, Gs5⟩ := id (f4_V_b1)
  have hin6 : ¬ ((0 : Int32) < 0 ∨ cl5.slots.size ≤ ((0 : Int32)).toNatClampNeg) := inb_of Sz5 ⟨by decide, by decide⟩
  have hat6 : cl5.slots[((0 : Int32)).toNatClampNeg]? = some (.int q0) := Hs5.at hin6 rfl
  obtain ⟨cl7, Ar7, qk7, Sz7, Nn7, Hs7, Gs7⟩ := id (V4)
  have hin7 : ¬ ((0 : Int32) < 0 ∨ cl7.slots.size ≤ ((0 : Int32)).toNatClampNeg) := inb_of Sz7 ⟨by decide, by decide⟩
  obtain ⟨T7, h7, X7, e7, W7, st7⟩ := stI X4 hx hZ e4 Ar7 (j := (0 : Int32)) hin7 (g := (mkF m 52 #[.val (.int p1), .val (.int p2), .val (.int p3), .val (.int p4), .val (.int p5), .val (.int p6), .val (.ref b1), .val (.int nn), .val (.ref b4), .unset, .unset, .unset] [(.int u0), (.int (0 : Int32)), (.ref b4)])) rfl rfl (hb hby at_52)
  have V7 := Arv.set Ar7 qk7 Sz7 Nn7 Hs7 Gs7 rfl W7 0 rfl (Nat.le_of_ble_eq_true rfl)
  have f7_E_b1 := f4_E_b1.wr W7
  have f7_V_b1 := f4_V_b1.other W7 ne_b1_b4
  have f7_E_b4 := Ea4.wr W7
  have O7 := O4.wr W7 ge_b4
  have K7 := K4.wr W7 (Or.inr sz_b4)
  have N7 := Fr.snoc X7 N3 ge_b4
  obtain ⟨cl8, Ar8, qk8, Sz8, Nn8, Hs8, Gs8⟩ := id (f7_V_b1)
  have hin9 : ¬ ((1 : Int32) < 0 ∨ cl8.slots.size ≤ ((1 : Int32)).toNatClampNeg) := inb_of Sz8 ⟨by decide, by decide⟩
  have hat9 : cl8.slots[((1 : Int32)).toNatClampNeg]? = some (.int q1) := Hs8.at hin9 rfl
  obtain ⟨cl10, Ar10, qk10, Sz10, Nn10, Hs10, Gs10⟩ := id (V7)
  have hin10 : ¬ ((1 : Int32) < 0 ∨ cl10.slots.size ≤ ((1 : Int32)).toNatClampNeg) := inb_of Sz10 ⟨by decide, by decide⟩
  obtain ⟨T10, h10, X10, e10, W10, st10⟩ := stI X7 hx hZ e7 Ar10 (j := (1 : Int32)) hin10 (g := (mkF m 71 #[.val (.int p1), .val (.int p2), .val (.int p3), .val (.int p4), .val (.int p5), .val (.int p6), .val (.ref b1), .val (.int nn), .val (.ref b4), .unset, .unset, .unset] [(.int u1), (.int (1 : Int32)), (.ref b4)])) rfl rfl (hb hby at_71)
  have V10 := Arv.set Ar10 qk10 Sz10 Nn10 Hs10 Gs10 rfl W10 1 rfl (Nat.le_of_ble_eq_true rfl)
  have f10_E_b1 := f7_E_b1.wr W10
  have f10_V_b1 := f7_V_b1.other W10 ne_b1_b4
  have f10_E_b4 := f7_E_b4.wr W10
  have O10 := O7.wr W10 ge_b4
  have K10 := K7.wr W10 (Or.inr sz_b4)
  have N10 := Fr.snoc X10 N7 ge_b4
  obtain ⟨T11, h11, X11, e11, E11, A11, D11, -, st11⟩ := newO X10 hx hZ hown (hw _ (List.mem_of_getElem? (i := 2) rfl)) (hw _ (List.mem_of_getElem? (i := 3) rfl)) (hw _ (List.mem_of_getElem? (i := 4) rfl)) e10 (g := (mkF m 72 #[.val (.int p1), .val (.int p2), .val (.int p3), .val (.int p4), .val (.int p5), .val (.int p6), .val (.ref b1), .val (.int nn), .val (.ref b4), .unset, .unset, .unset] [])) rfl (hb hby at_72) (by decide) (by decide)
  obtain ⟨b11, g11⟩ : ∃ z, z = h10.size := ⟨_, rfl⟩
  rw [← g11] at A11 D11 st11
  have ne_b1_b11 : b1 ≠ b11 := Nat.ne_of_lt (Nat.lt_of_lt_of_le f10_E_b1.lt (Nat.le_of_eq g11.symm))
  have ne_b4_b11 : b4 ≠ b11 := Nat.ne_of_lt (Nat.lt_of_lt_of_le f10_E_b4.lt (Nat.le_of_eq g11.symm))
  have ge_b11 : n0 ≤ b11 := own_new O10 g11
  have sz_b11 : h0.size ≤ b11 := Nat.le_trans K10.1 (Nat.le_of_eq g11.symm)
  have f11_E_b1 := f10_E_b1.ext E11
  have f11_V_b1 := f10_V_b1.ext E11
  have f11_E_b4 := f10_E_b4.ext E11
  have f11_V_b4 := V10.ext E11
  have O11 := O10.ext E11
  have K11 := K10.ext E11
  have F11_trees : Fld Z h11 b11 "com/example/sober_broadcast/soberbroadcast/cli/PositionCounts" "trees" "[[I" .null := D11 (Or.inr (hw _ (List.mem_of_getElem? (i := 14) rfl))) (ty := (.array (.array .int))) (by decide)
  have F11_lowest : Fld Z h11 b11 "com/example/sober_broadcast/soberbroadcast/cli/PositionCounts" "lowest" "[I" .null := D11 (Or.inr (hw _ (List.mem_of_getElem? (i := 17) rfl))) (ty := (.array .int)) (by decide)
  obtain ⟨_, _, ⟨T12, L12, k12, n12⟩, -, X12, ⟨Lc12, hQ12, l12, y12, z12⟩, st12⟩ := X11.specialBack hx (y := (⟨"com/example/sober_broadcast/soberbroadcast/cli/PositionCounts", "<init>", "([I)V"⟩ : MethodName)) rfl hown (mvT hZ (hw _ (List.mem_of_getElem? (i := 5) rfl))) (mvT hZ (hw _ (List.mem_of_getElem? (i := 6) rfl))) (mvT hZ (hw _ (List.mem_of_getElem? (i := 7) rfl))) (by decide) (backOf (W := 1) (own_init_0 l Z a0 hw [] h11 n0 O11 b11 b1 k1 q0 q1 nn0 mz0 cp0 nn1 mz1 cp1 (Ne.symm ne_b1_b11) ge_b11 ge_b1 A11 F11_trees F11_lowest f11_E_b1 f11_V_b1) hZ (hw _ (List.mem_of_getElem? (i := 7) rfl)) (hw _ (List.mem_of_getElem? (i := 4) rfl)) (by decide) (by decide)) (g := (mkF m 78 #[.val (.int p1), .val (.int p2), .val (.int p3), .val (.int p4), .val (.int p5), .val (.int p6), .val (.ref b1), .val (.int nn), .val (.ref b4), .unset, .unset, .unset] [(.ref b1), (.ref b11), (.ref b11)])) rfl (by rw [hml]; rfl) (Steps.refl _) (a := b11) (argsL := [(.ref b1)]) (rest := [(.ref b11)]) (lenOf own_pd_3 rfl) rfl (by show 2 * 0 + _ ≤ _; exact Nat.le_of_eq rfl) (hb hby at_78) (fun _ _ => ⟨rfl, e11, (by decide : 3 + 4 ≤ _), (by decide : 6 + 38 ≤ _)⟩)
  dsimp only [Pt.U, Pt.locs, Pt.cells, Pt.slots] at X12 l12 y12 z12 st12 hQ12
  subst l12 y12 z12
  obtain ⟨b3_12, b16_12, b8_12, b13_12, k3_12, k16_12, rfl, N12q, Kq12, ge_b3_12, ge_b16_12, ge_b8_12, ge_b13_12, sq_b3_12, sq_b16_12, sq_b8_12, sq_b13_12, ne_b3_12_b16_12, ne_b3_12_b8_12, ne_b3_12_b13_12, ne_b16_12_b8_12, ne_b16_12_b13_12, ne_b8_12_b13_12, q12_E_o1, q12_F_o1_trees, q12_F_o1_lowest, q12_E_b3, q12_E_b8, q12_A_b8, q12_E_b13, q12_A_b13, q12_V_b3, q12_E_b16, q12_V_b16, Ov_b3_12⟩ := hQ12
  have N12 := Fr.app N10 N12q
  have ne_b1_b3_12 : b1 ≠ b3_12 := Nat.ne_of_lt (Nat.lt_of_lt_of_le f11_E_b1.lt sq_b3_12)
  have ne_b11_b3_12 : b11 ≠ b3_12 := Nat.ne_of_lt (Nat.lt_of_lt_of_le A11.lt sq_b3_12)
  have ne_b4_b3_12 : b4 ≠ b3_12 := Nat.ne_of_lt (Nat.lt_of_lt_of_le f11_E_b4.lt sq_b3_12)
  have ne_b1_b16_12 : b1 ≠ b16_12 := Nat.ne_of_lt (Nat.lt_of_lt_of_le f11_E_b1.lt sq_b16_12)
  have ne_b11_b16_12 : b11 ≠ b16_12 := Nat.ne_of_lt (Nat.lt_of_lt_of_le A11.lt sq_b16_12)
  have ne_b4_b16_12 : b4 ≠ b16_12 := Nat.ne_of_lt (Nat.lt_of_lt_of_le f11_E_b4.lt sq_b16_12)
  have ne_b1_b8_12 : b1 ≠ b8_12 := Nat.ne_of_lt (Nat.lt_of_lt_of_le f11_E_b1.lt sq_b8_12)
  have ne_b11_b8_12 : b11 ≠ b8_12 := Nat.ne_of_lt (Nat.lt_of_lt_of_le A11.lt sq_b8_12)
  have ne_b4_b8_12 : b4 ≠ b8_12 := Nat.ne_of_lt (Nat.lt_of_lt_of_le f11_E_b4.lt sq_b8_12)
  have ne_b1_b13_12 : b1 ≠ b13_12 := Nat.ne_of_lt (Nat.lt_of_lt_of_le f11_E_b1.lt sq_b13_12)
  have ne_b11_b13_12 : b11 ≠ b13_12 := Nat.ne_of_lt (Nat.lt_of_lt_of_le A11.lt sq_b13_12)
  have ne_b4_b13_12 : b4 ≠ b13_12 := Nat.ne_of_lt (Nat.lt_of_lt_of_le f11_E_b4.lt sq_b13_12)
  have sz_b3_12 : h0.size ≤ b3_12 := Nat.le_trans K11.1 sq_b3_12
  have sz_b16_12 : h0.size ≤ b16_12 := Nat.le_trans K11.1 sq_b16_12
  have sz_b8_12 : h0.size ≤ b8_12 := Nat.le_trans K11.1 sq_b8_12
  have sz_b13_12 : h0.size ≤ b13_12 := Nat.le_trans K11.1 sq_b13_12
  have f12_E_b1 := f11_E_b1.keep Kq12
  have f12_V_b1 := f11_V_b1.keep Kq12 (ninS ne_b1_b11 nin0)
  have f12_E_b4 := f11_E_b4.keep Kq12
  have f12_V_b4 := f11_V_b4.keep Kq12 (ninS ne_b4_b11 nin0)
  have f12_E_b11 := A11.keep Kq12
  have O12 := O11.keep Kq12 (allS ge_b11 all0)
  have K12 := K11.trans Kq12 (allS (Or.inr sz_b11) all0)
  obtain ⟨_, _, ⟨T13, L13, k13, n13⟩, -, X13, ⟨Lc13, hQ13, l13, y13, z13⟩, st13⟩ := Jvm.LawKit.callS X12 hx (y := (⟨"com/example/sober_broadcast/soberbroadcast/cli/PositionCountsCountBelowPinLaw", "markOne", "(Lcom/example/sober_broadcast/soberbroadcast/cli/PositionCounts;[I[IZII)J"⟩ : MethodName)) hown (mvT hZ (hw _ (List.mem_of_getElem? (i := 23) rfl))) (mvT hZ (hw _ (List.mem_of_getElem? (i := 24) rfl))) (mvT hZ (hw _ (List.mem_of_getElem? (i := 25) rfl))) (mvT hZ (hw _ (List.mem_of_getElem? (i := 26) rfl))) (by decide) (backOf (W := 2) (own_moC l Z a0 hw [] T12.heap n0 O12 b11 b3_12 b16_12 b8_12 b13_12 k3_12 k16_12 (2147483647 : Int32) (2147483647 : Int32) (q0 + (1 : Int32)) (q1 + (1 : Int32)) own_zero own_zero b1 b4 k1 k4 q0 q1 u0 u1 p2 r1 c1 ne_b11_b3_12 ne_b11_b16_12 ne_b11_b8_12 ne_b11_b13_12 ne_b3_12_b16_12 ne_b3_12_b8_12 ne_b3_12_b13_12 ne_b16_12_b8_12 ne_b16_12_b13_12 ne_b8_12_b13_12 ne_b1_b16_12 ne_b1_b8_12 ne_b1_b13_12 ne_b4_b16_12 ne_b4_b8_12 ne_b4_b13_12 ge_b16_12 ge_b8_12 ge_b13_12 h011 hr1 uk1 q12_E_o1 q12_F_o1_trees q12_F_o1_lowest q12_V_b3 q12_V_b16 q12_A_b8 q12_A_b13 f12_V_b1 f12_V_b4) hZ (hw _ (List.mem_of_getElem? (i := 26) rfl)) (hw _ (List.mem_of_getElem? (i := 25) rfl)) (by decide) (by decide)) (g := (mkF m 111 #[.val (.int p1), .val (.int p2), .val (.int p3), .val (.int p4), .val (.int p5), .val (.int p6), .val (.ref b1), .val (.int nn), .val (.ref b4), .val (.ref b11), .val (.long (0 : Int64)), .second] [(.int p2), (.int c1), (.int (1 : Int32)), (.ref b4), (.ref b1), (.ref b11), (.long (0 : Int64))])) rfl (by rw [hml]; rfl) (argsL := [(.ref b11), (.ref b1), (.ref b4), (.int (1 : Int32)), (.int c1), (.int p2)]) (rest := [(.long (0 : Int64))]) (lenOf own_pd_4 rfl) rfl (by show 2 * 0 + _ ≤ _; exact Nat.le_of_eq rfl) (hb hby at_111) (fun _ _ => ⟨rfl, rfl, (by decide : 7 + 0 ≤ _), (by decide : 44 + 0 ≤ _)⟩)
  dsimp only [Pt.U, Pt.locs, Pt.cells, Pt.slots] at X13 l13 y13 z13 st13 hQ13
  subst l13 y13 z13
  obtain ⟨rfl, N13q, Kq13, q13_V_tL, q13_A_t0, q13_A_t1⟩ := hQ13
  have N13 := Fr.app N12 N13q
  have f13_E_b1 := f12_E_b1.keep Kq13
  have f13_V_b1 := f12_V_b1.keep Kq13 (ninS ne_b1_b16_12 (ninS ne_b1_b8_12 (ninS ne_b1_b13_12 nin0)))
  have f13_E_b4 := f12_E_b4.keep Kq13
  have f13_V_b4 := f12_V_b4.keep Kq13 (ninS ne_b4_b16_12 (ninS ne_b4_b8_12 (ninS ne_b4_b13_12 nin0)))
  have f13_E_b11 := q12_E_o1.keep Kq13
  have f13_F_b11_trees := q12_F_o1_trees.keep Kq13 (ninS ne_b11_b16_12 (ninS ne_b11_b8_12 (ninS ne_b11_b13_12 nin0)))
  have f13_F_b11_lowest := q12_F_o1_lowest.keep Kq13 (ninS ne_b11_b16_12 (ninS ne_b11_b8_12 (ninS ne_b11_b13_12 nin0)))
  have f13_E_b3_12 := q12_E_b3.keep Kq13
  have f13_E_b8_12 := q12_E_b8.keep Kq13
  have f13_E_b13_12 := q12_E_b13.keep Kq13
  have f13_V_b3_12 := q12_V_b3.keep Kq13 (ninS ne_b3_12_b16_12 (ninS ne_b3_12_b8_12 (ninS ne_b3_12_b13_12 nin0)))
  have f13_E_b16_12 := q12_E_b16.keep Kq13
  have O13 := O12.keep Kq13 (allS ge_b16_12 (allS ge_b8_12 (allS ge_b13_12 all0)))
  have K13 := K12.trans Kq13 (allS (Or.inr sz_b16_12) (allS (Or.inr sz_b8_12) (allS (Or.inr sz_b13_12) all0)))
  obtain ⟨_, _, ⟨T14, L14, k14, n14⟩, -, X14, ⟨Lc14, hQ14, l14, y14, z14⟩, st14⟩ := Jvm.LawKit.callS X13 hx (y := (⟨"com/example/sober_broadcast/soberbroadcast/cli/PositionCountsCountBelowPinLaw", "markOne", "(Lcom/example/sober_broadcast/soberbroadcast/cli/PositionCounts;[I[IZII)J"⟩ : MethodName)) hown (mvT hZ (hw _ (List.mem_of_getElem? (i := 23) rfl))) (mvT hZ (hw _ (List.mem_of_getElem? (i := 24) rfl))) (mvT hZ (hw _ (List.mem_of_getElem? (i := 25) rfl))) (mvT hZ (hw _ (List.mem_of_getElem? (i := 26) rfl))) (by decide) (backOf (W := 2) (own_moC l Z a0 hw [] T13.heap n0 O13 b11 b3_12 b16_12 b8_12 b13_12 k3_12 k16_12 (own_gx0 (own_sel c1 q0 q1) c1 r1 (2147483647 : Int32)) (own_gx1 (own_sel c1 q0 q1) c1 r1 (2147483647 : Int32)) (q0 + (1 : Int32)) (q1 + (1 : Int32)) (own_gf0 (own_sel c1 q0 q1) c1 (q0 + (1 : Int32)) r1 own_zero) (own_gf1 (own_sel c1 q0 q1) c1 (q1 + (1 : Int32)) r1 own_zero) b1 b4 k1 k4 q0 q1 u0 u1 p3 r2 c2 ne_b11_b3_12 ne_b11_b16_12 ne_b11_b8_12 ne_b11_b13_12 ne_b3_12_b16_12 ne_b3_12_b8_12 ne_b3_12_b13_12 ne_b16_12_b8_12 ne_b16_12_b13_12 ne_b8_12_b13_12 ne_b1_b16_12 ne_b1_b8_12 ne_b1_b13_12 ne_b4_b16_12 ne_b4_b8_12 ne_b4_b13_12 ge_b16_12 ge_b8_12 ge_b13_12 h012 hr2 uk2 f13_E_b11 f13_F_b11_trees f13_F_b11_lowest f13_V_b3_12 q13_V_tL q13_A_t0 q13_A_t1 f13_V_b1 f13_V_b4) hZ (hw _ (List.mem_of_getElem? (i := 26) rfl)) (hw _ (List.mem_of_getElem? (i := 25) rfl)) (by decide) (by decide)) (g := (mkF m 143 #[.val (.int p1), .val (.int p2), .val (.int p3), .val (.int p4), .val (.int p5), .val (.int p6), .val (.ref b1), .val (.int nn), .val (.ref b4), .val (.ref b11), .val (.long ((0 : Int64) + (own_glt (own_sel c1 q0 q1) r1 (own_sel c1 u0 u1)))), .second] [(.int p3), (.int c2), (.int (1 : Int32)), (.ref b4), (.ref b1), (.ref b11), (.long ((0 : Int64) + (own_glt (own_sel c1 q0 q1) r1 (own_sel c1 u0 u1))))])) rfl (by rw [hml]; rfl) (argsL := [(.ref b11), (.ref b1), (.ref b4), (.int (1 : Int32)), (.int c2), (.int p3)]) (rest := [(.long ((0 : Int64) + (own_glt (own_sel c1 q0 q1) r1 (own_sel c1 u0 u1))))]) (lenOf own_pd_4 rfl) rfl (by show 2 * 0 + _ ≤ _; exact Nat.le_of_eq rfl) (hb hby at_143) (fun _ _ => ⟨rfl, rfl, (by decide : 7 + 0 ≤ _), (by decide : 44 + 0 ≤ _)⟩)
  dsimp only [Pt.U, Pt.locs, Pt.cells, Pt.slots] at X14 l14 y14 z14 st14 hQ14
  subst l14 y14 z14
  obtain ⟨rfl, N14q, Kq14, q14_V_tL, q14_A_t0, q14_A_t1⟩ := hQ14
  have N14 := Fr.app N13 N14q
  have f14_E_b1 := f13_E_b1.keep Kq14
  have f14_V_b1 := f13_V_b1.keep Kq14 (ninS ne_b1_b16_12 (ninS ne_b1_b8_12 (ninS ne_b1_b13_12 nin0)))
  have f14_E_b4 := f13_E_b4.keep Kq14
  have f14_V_b4 := f13_V_b4.keep Kq14 (ninS ne_b4_b16_12 (ninS ne_b4_b8_12 (ninS ne_b4_b13_12 nin0)))
  have f14_E_b11 := f13_E_b11.keep Kq14
  have f14_F_b11_trees := f13_F_b11_trees.keep Kq14 (ninS ne_b11_b16_12 (ninS ne_b11_b8_12 (ninS ne_b11_b13_12 nin0)))
  have f14_F_b11_lowest := f13_F_b11_lowest.keep Kq14 (ninS ne_b11_b16_12 (ninS ne_b11_b8_12 (ninS ne_b11_b13_12 nin0)))
  have f14_E_b3_12 := f13_E_b3_12.keep Kq14
  have f14_E_b8_12 := f13_E_b8_12.keep Kq14
  have f14_E_b13_12 := f13_E_b13_12.keep Kq14
  have f14_V_b3_12 := f13_V_b3_12.keep Kq14 (ninS ne_b3_12_b16_12 (ninS ne_b3_12_b8_12 (ninS ne_b3_12_b13_12 nin0)))
  have f14_E_b16_12 := f13_E_b16_12.keep Kq14
  have O14 := O13.keep Kq14 (allS ge_b16_12 (allS ge_b8_12 (allS ge_b13_12 all0)))
  have K14 := K13.trans Kq14 (allS (Or.inr sz_b16_12) (allS (Or.inr sz_b8_12) (allS (Or.inr sz_b13_12) all0)))
  obtain ⟨_, _, ⟨T15, L15, k15, n15⟩, -, X15, ⟨Lc15, hQ15, l15, y15, z15⟩, st15⟩ := Jvm.LawKit.callS X14 hx (y := (⟨"com/example/sober_broadcast/soberbroadcast/cli/PositionCountsCountBelowPinLaw", "markOne", "(Lcom/example/sober_broadcast/soberbroadcast/cli/PositionCounts;[I[IZII)J"⟩ : MethodName)) hown (mvT hZ (hw _ (List.mem_of_getElem? (i := 23) rfl))) (mvT hZ (hw _ (List.mem_of_getElem? (i := 24) rfl))) (mvT hZ (hw _ (List.mem_of_getElem? (i := 25) rfl))) (mvT hZ (hw _ (List.mem_of_getElem? (i := 26) rfl))) (by decide) (backOf (W := 2) (own_moC l Z a0 hw [] T14.heap n0 O14 b11 b3_12 b16_12 b8_12 b13_12 k3_12 k16_12 (own_gx0 (own_sel c2 q0 q1) c2 r2 (own_gx0 (own_sel c1 q0 q1) c1 r1 (2147483647 : Int32))) (own_gx1 (own_sel c2 q0 q1) c2 r2 (own_gx1 (own_sel c1 q0 q1) c1 r1 (2147483647 : Int32))) (q0 + (1 : Int32)) (q1 + (1 : Int32)) (own_gf0 (own_sel c2 q0 q1) c2 (q0 + (1 : Int32)) r2 (own_gf0 (own_sel c1 q0 q1) c1 (q0 + (1 : Int32)) r1 own_zero)) (own_gf1 (own_sel c2 q0 q1) c2 (q1 + (1 : Int32)) r2 (own_gf1 (own_sel c1 q0 q1) c1 (q1 + (1 : Int32)) r1 own_zero)) b1 b4 k1 k4 q0 q1 u0 u1 p4 r3 c3 ne_b11_b3_12 ne_b11_b16_12 ne_b11_b8_12 ne_b11_b13_12 ne_b3_12_b16_12 ne_b3_12_b8_12 ne_b3_12_b13_12 ne_b16_12_b8_12 ne_b16_12_b13_12 ne_b8_12_b13_12 ne_b1_b16_12 ne_b1_b8_12 ne_b1_b13_12 ne_b4_b16_12 ne_b4_b8_12 ne_b4_b13_12 ge_b16_12 ge_b8_12 ge_b13_12 h013 hr3 uk3 f14_E_b11 f14_F_b11_trees f14_F_b11_lowest f14_V_b3_12 q14_V_tL q14_A_t0 q14_A_t1 f14_V_b1 f14_V_b4) hZ (hw _ (List.mem_of_getElem? (i := 26) rfl)) (hw _ (List.mem_of_getElem? (i := 25) rfl)) (by decide) (by decide)) (g := (mkF m 175 #[.val (.int p1), .val (.int p2), .val (.int p3), .val (.int p4), .val (.int p5), .val (.int p6), .val (.ref b1), .val (.int nn), .val (.ref b4), .val (.ref b11), .val (.long (((0 : Int64) + (own_glt (own_sel c1 q0 q1) r1 (own_sel c1 u0 u1))) + (own_glt (own_sel c2 q0 q1) r2 (own_sel c2 u0 u1)))), .second] [(.int p4), (.int c3), (.int (1 : Int32)), (.ref b4), (.ref b1), (.ref b11), (.long (((0 : Int64) + (own_glt (own_sel c1 q0 q1) r1 (own_sel c1 u0 u1))) + (own_glt (own_sel c2 q0 q1) r2 (own_sel c2 u0 u1))))])) rfl (by rw [hml]; rfl) (argsL := [(.ref b11), (.ref b1), (.ref b4), (.int (1 : Int32)), (.int c3), (.int p4)]) (rest := [(.long (((0 : Int64) + (own_glt (own_sel c1 q0 q1) r1 (own_sel c1 u0 u1))) + (own_glt (own_sel c2 q0 q1) r2 (own_sel c2 u0 u1))))]) (lenOf own_pd_4 rfl) rfl (by show 2 * 0 + _ ≤ _; exact Nat.le_of_eq rfl) (hb hby at_175) (fun _ _ => ⟨rfl, rfl, (by decide : 7 + 0 ≤ _), (by decide : 44 + 0 ≤ _)⟩)
  dsimp only [Pt.U, Pt.locs, Pt.cells, Pt.slots] at X15 l15 y15 z15 st15 hQ15
  subst l15 y15 z15
  obtain ⟨rfl, N15q, Kq15, q15_V_tL, q15_A_t0, q15_A_t1⟩ := hQ15
  have N15 := Fr.app N14 N15q
  have f15_E_b1 := f14_E_b1.keep Kq15
  have f15_V_b1 := f14_V_b1.keep Kq15 (ninS ne_b1_b16_12 (ninS ne_b1_b8_12 (ninS ne_b1_b13_12 nin0)))
  have f15_E_b4 := f14_E_b4.keep Kq15
  have f15_V_b4 := f14_V_b4.keep Kq15 (ninS ne_b4_b16_12 (ninS ne_b4_b8_12 (ninS ne_b4_b13_12 nin0)))
  have f15_E_b11 := f14_E_b11.keep Kq15
  have f15_F_b11_trees := f14_F_b11_trees.keep Kq15 (ninS ne_b11_b16_12 (ninS ne_b11_b8_12 (ninS ne_b11_b13_12 nin0)))
  have f15_F_b11_lowest := f14_F_b11_lowest.keep Kq15 (ninS ne_b11_b16_12 (ninS ne_b11_b8_12 (ninS ne_b11_b13_12 nin0)))
  have f15_E_b3_12 := f14_E_b3_12.keep Kq15
  have f15_E_b8_12 := f14_E_b8_12.keep Kq15
  have f15_E_b13_12 := f14_E_b13_12.keep Kq15
  have f15_V_b3_12 := f14_V_b3_12.keep Kq15 (ninS ne_b3_12_b16_12 (ninS ne_b3_12_b8_12 (ninS ne_b3_12_b13_12 nin0)))
  have f15_E_b16_12 := f14_E_b16_12.keep Kq15
  have O15 := O14.keep Kq15 (allS ge_b16_12 (allS ge_b8_12 (allS ge_b13_12 all0)))
  have K15 := K14.trans Kq15 (allS (Or.inr sz_b16_12) (allS (Or.inr sz_b8_12) (allS (Or.inr sz_b13_12) all0)))
  obtain ⟨_, _, ⟨T16, L16, k16, n16⟩, -, X16, ⟨Lc16, hQ16, l16, y16, z16⟩, st16⟩ := Jvm.LawKit.callS X15 hx (y := (⟨"com/example/sober_broadcast/soberbroadcast/cli/PositionCountsCountBelowPinLaw", "markOne", "(Lcom/example/sober_broadcast/soberbroadcast/cli/PositionCounts;[I[IZII)J"⟩ : MethodName)) hown (mvT hZ (hw _ (List.mem_of_getElem? (i := 23) rfl))) (mvT hZ (hw _ (List.mem_of_getElem? (i := 24) rfl))) (mvT hZ (hw _ (List.mem_of_getElem? (i := 25) rfl))) (mvT hZ (hw _ (List.mem_of_getElem? (i := 26) rfl))) (by decide) (backOf (W := 2) (own_mo_off l Z a0 hw [] T15.heap n0 O15 b11 b1 b4 c4 p5) hZ (hw _ (List.mem_of_getElem? (i := 26) rfl)) (hw _ (List.mem_of_getElem? (i := 25) rfl)) (by decide) (by decide)) (g := (mkF m 208 #[.val (.int p1), .val (.int p2), .val (.int p3), .val (.int p4), .val (.int p5), .val (.int p6), .val (.ref b1), .val (.int nn), .val (.ref b4), .val (.ref b11), .val (.long ((((0 : Int64) + (own_glt (own_sel c1 q0 q1) r1 (own_sel c1 u0 u1))) + (own_glt (own_sel c2 q0 q1) r2 (own_sel c2 u0 u1))) + (own_glt (own_sel c3 q0 q1) r3 (own_sel c3 u0 u1)))), .second] [(.int p5), (.int c4), (.int (0 : Int32)), (.ref b4), (.ref b1), (.ref b11), (.long ((((0 : Int64) + (own_glt (own_sel c1 q0 q1) r1 (own_sel c1 u0 u1))) + (own_glt (own_sel c2 q0 q1) r2 (own_sel c2 u0 u1))) + (own_glt (own_sel c3 q0 q1) r3 (own_sel c3 u0 u1))))])) rfl (by rw [hml]; rfl) (argsL := [(.ref b11), (.ref b1), (.ref b4), (.int (0 : Int32)), (.int c4), (.int p5)]) (rest := [(.long ((((0 : Int64) + (own_glt (own_sel c1 q0 q1) r1 (own_sel c1 u0 u1))) + (own_glt (own_sel c2 q0 q1) r2 (own_sel c2 u0 u1))) + (own_glt (own_sel c3 q0 q1) r3 (own_sel c3 u0 u1))))]) (lenOf own_pd_4 rfl) rfl (by show 2 * 0 + _ ≤ _; exact Nat.le_of_eq rfl) (hb hby at_208) (fun _ _ => ⟨rfl, rfl, (by decide : 7 + 0 ≤ _), (by decide : 44 + 0 ≤ _)⟩)
  dsimp only [Pt.U, Pt.locs, Pt.cells, Pt.slots] at X16 l16 y16 z16 st16 hQ16
  subst l16 y16 z16
  obtain ⟨rfl, N16q, e16⟩ := hQ16
  have N16 := Fr.app N15 N16q
  obtain ⟨cq17, kq17, q17a, q17b, q17c⟩ := isOf hZ e16 f15_E_b11
  obtain ⟨_, _, ⟨T17, L17, k17, n17⟩, -, X17, ⟨Lc17, hQ17, l17, y17, z17⟩, st17⟩ := X16.virtualBack hx (y := (⟨"com/example/sober_broadcast/soberbroadcast/cli/PositionCounts", "countBelow", "([I)J"⟩ : MethodName)) (z := (⟨"com/example/sober_broadcast/soberbroadcast/cli/PositionCounts", "countBelow", "([I)J"⟩ : MethodName)) hown (mvT hZ (hw _ (List.mem_of_getElem? (i := 27) rfl))) (mvT hZ (hw _ (List.mem_of_getElem? (i := 28) rfl))) (notFace_of_selects (args := #[]) (mvT hZ (hw _ (List.mem_of_getElem? (i := 30) rfl)))) (mvT hZ (hw _ (List.mem_of_getElem? (i := 30) rfl))) (mvT hZ (hw _ (List.mem_of_getElem? (i := 29) rfl))) (by decide) (backOf (W := 0) (own_cbC l Z a0 hw [] T15.heap n0 O15 b11 b4 b3_12 b16_12 b8_12 b13_12 k3_12 k16_12 k4 u0 u1 (own_gx0 (own_sel c3 q0 q1) c3 r3 (own_gx0 (own_sel c2 q0 q1) c2 r2 (own_gx0 (own_sel c1 q0 q1) c1 r1 (2147483647 : Int32)))) (own_gx1 (own_sel c3 q0 q1) c3 r3 (own_gx1 (own_sel c2 q0 q1) c2 r2 (own_gx1 (own_sel c1 q0 q1) c1 r1 (2147483647 : Int32)))) (q0 + (1 : Int32)) (q1 + (1 : Int32)) (own_gf0 (own_sel c3 q0 q1) c3 (q0 + (1 : Int32)) r3 (own_gf0 (own_sel c2 q0 q1) c2 (q0 + (1 : Int32)) r2 (own_gf0 (own_sel c1 q0 q1) c1 (q0 + (1 : Int32)) r1 own_zero))) (own_gf1 (own_sel c3 q0 q1) c3 (q1 + (1 : Int32)) r3 (own_gf1 (own_sel c2 q0 q1) c2 (q1 + (1 : Int32)) r2 (own_gf1 (own_sel c1 q0 q1) c1 (q1 + (1 : Int32)) r1 own_zero))) dk0 dk1 f15_E_b11 f15_F_b11_trees f15_F_b11_lowest f15_V_b3_12 q15_V_tL q15_A_t0 q15_A_t1 f15_V_b4) hZ (hw _ (List.mem_of_getElem? (i := 31) rfl)) (hw _ (List.mem_of_getElem? (i := 4) rfl)) (by decide) (by decide)) q17a q17c (g := (mkF m 218 #[.val (.int p1), .val (.int p2), .val (.int p3), .val (.int p4), .val (.int p5), .val (.int p6), .val (.ref b1), .val (.int nn), .val (.ref b4), .val (.ref b11), .val (.long (((((0 : Int64) + (own_glt (own_sel c1 q0 q1) r1 (own_sel c1 u0 u1))) + (own_glt (own_sel c2 q0 q1) r2 (own_sel c2 u0 u1))) + (own_glt (own_sel c3 q0 q1) r3 (own_sel c3 u0 u1))) + (0 : Int64))), .second] [(.ref b4), (.ref b11)])) rfl (by rw [hml]; rfl) (Steps.refl _) (argsL := [(.ref b4)]) (rest := []) (lenOf own_pd_5 rfl) rfl (by show 2 * 0 + _ ≤ _; exact Nat.le_of_eq rfl) (hb hby at_218) (fun _ _ => ⟨rfl, e16, (by decide : 7 + 0 ≤ _), (by decide : 44 + 0 ≤ _)⟩)
  dsimp only [Pt.U, Pt.locs, Pt.cells, Pt.slots] at X17 l17 y17 z17 st17 hQ17
  subst l17 y17 z17
  obtain ⟨rfl, N17q, e17⟩ := hQ17
  have N17 := Fr.app N16 N17q
  obtain ⟨fs, hr, hrun, hended, hW, hsame⟩ := X17.leave (v := some (.int (1 : Int32))) (fun h => by rw [Bd.returns] at h; cases h)
  refine ⟨_, _, pre0 _ ?_, hrun, hended, _, _, rfl, ?_, ⟨_, rfl⟩, hW, hsame.mono (by decide) (by decide)⟩
  · show Steps p.tables e below (s₁.setTop (mkF m 0 #[.val (.int p1), .val (.int p2), .val (.int p3), .val (.int p4), .val (.int p5), .val (.int p6), .unset, .unset, .unset, .unset, .unset, .unset] [])) _
    refine XS.iconst X0.here hx rfl (hb hby at_0) ?_
    show Steps p.tables e below (s₁.setTop (mkF m 1 #[.val (.int p1), .val (.int p2), .val (.int p3), .val (.int p4), .val (.int p5), .val (.int p6), .unset, .unset, .unset, .unset, .unset, .unset] [(.int (2 : Int32))])) _
    refine st1 _ ?_
    show Steps p.tables e below (T1.setTop (mkF m 3 #[.val (.int p1), .val (.int p2), .val (.int p3), .val (.int p4), .val (.int p5), .val (.int p6), .unset, .unset, .unset, .unset, .unset, .unset] [(.ref b1)])) _
    refine XS.astore X1.here hx rfl (hb hby at_3) rfl rfl (l' := #[.val (.int p1), .val (.int p2), .val (.int p3), .val (.int p4), .val (.int p5), .val (.int p6), .val (.ref b1), .unset, .unset, .unset, .unset, .unset]) rfl ?_
    show Steps p.tables e below (T1.setTop (mkF m 5 #[.val (.int p1), .val (.int p2), .val (.int p3), .val (.int p4), .val (.int p5), .val (.int p6), .val (.ref b1), .unset, .unset, .unset, .unset, .unset] [])) _
    refine XS.aload X1.here hx rfl (hb hby at_5) rfl rfl ?_
    show Steps p.tables e below (T1.setTop (mkF m 7 #[.val (.int p1), .val (.int p2), .val (.int p3), .val (.int p4), .val (.int p5), .val (.int p6), .val (.ref b1), .unset, .unset, .unset, .unset, .unset] [(.ref b1)])) _
    refine XS.iconst X1.here hx rfl (hb hby at_7) ?_
    show Steps p.tables e below (T1.setTop (mkF m 8 #[.val (.int p1), .val (.int p2), .val (.int p3), .val (.int p4), .val (.int p5), .val (.int p6), .val (.ref b1), .unset, .unset, .unset, .unset, .unset] [(.int (0 : Int32)), (.ref b1)])) _
    refine XS.iloadN X1.here hx rfl (hb hby at_8) rfl ?_
    show Steps p.tables e below (T1.setTop (mkF m 9 #[.val (.int p1), .val (.int p2), .val (.int p3), .val (.int p4), .val (.int p5), .val (.int p6), .val (.ref b1), .unset, .unset, .unset, .unset, .unset] [(.int p1), (.int (0 : Int32)), (.ref b1)])) _
    refine XS.bipush X1.here hx rfl (hb hby at_9) ?_
    show Steps p.tables e below (T1.setTop (mkF m 11 #[.val (.int p1), .val (.int p2), .val (.int p3), .val (.int p4), .val (.int p5), .val (.int p6), .val (.ref b1), .unset, .unset, .unset, .unset, .unset] [(.int (15 : Int32)), (.int p1), (.int (0 : Int32)), (.ref b1)])) _
    refine XS.iand X1.here hx rfl (hb hby at_11) rfl ?_
    show Steps p.tables e below (T1.setTop (mkF m 12 #[.val (.int p1), .val (.int p2), .val (.int p3), .val (.int p4), .val (.int p5), .val (.int p6), .val (.ref b1), .unset, .unset, .unset, .unset, .unset] [(.int (p1 &&& (15 : Int32))), (.int (0 : Int32)), (.ref b1)])) _
    refine castTop (g' := (mkF m 12 #[.val (.int p1), .val (.int p2), .val (.int p3), .val (.int p4), .val (.int p5), .val (.int p6), .val (.ref b1), .unset, .unset, .unset, .unset, .unset] [(.int q0), (.int (0 : Int32)), (.ref b1)])) (by rw [hq0]) ?_
    show Steps p.tables e below (T1.setTop (mkF m 12 #[.val (.int p1), .val (.int p2), .val (.int p3), .val (.int p4), .val (.int p5), .val (.int p6), .val (.ref b1), .unset, .unset, .unset, .unset, .unset] [(.int q0), (.int (0 : Int32)), (.ref b1)])) _
    refine st2 _ ?_
    show Steps p.tables e below (T2.setTop (mkF m 13 #[.val (.int p1), .val (.int p2), .val (.int p3), .val (.int p4), .val (.int p5), .val (.int p6), .val (.ref b1), .unset, .unset, .unset, .unset, .unset] [])) _
    refine XS.aload X2.here hx rfl (hb hby at_13) rfl rfl ?_
    show Steps p.tables e below (T2.setTop (mkF m 15 #[.val (.int p1), .val (.int p2), .val (.int p3), .val (.int p4), .val (.int p5), .val (.int p6), .val (.ref b1), .unset, .unset, .unset, .unset, .unset] [(.ref b1)])) _
    refine XS.iconst X2.here hx rfl (hb hby at_15) ?_
    show Steps p.tables e below (T2.setTop (mkF m 16 #[.val (.int p1), .val (.int p2), .val (.int p3), .val (.int p4), .val (.int p5), .val (.int p6), .val (.ref b1), .unset, .unset, .unset, .unset, .unset] [(.int (1 : Int32)), (.ref b1)])) _
    refine XS.iloadN X2.here hx rfl (hb hby at_16) rfl ?_
    show Steps p.tables e below (T2.setTop (mkF m 17 #[.val (.int p1), .val (.int p2), .val (.int p3), .val (.int p4), .val (.int p5), .val (.int p6), .val (.ref b1), .unset, .unset, .unset, .unset, .unset] [(.int p1), (.int (1 : Int32)), (.ref b1)])) _
    refine XS.iconst X2.here hx rfl (hb hby at_17) ?_
    show Steps p.tables e below (T2.setTop (mkF m 18 #[.val (.int p1), .val (.int p2), .val (.int p3), .val (.int p4), .val (.int p5), .val (.int p6), .val (.ref b1), .unset, .unset, .unset, .unset, .unset] [(.int (4 : Int32)), (.int p1), (.int (1 : Int32)), (.ref b1)])) _
    refine XS.iushr X2.here hx rfl (hb hby at_18) rfl ?_
    show Steps p.tables e below (T2.setTop (mkF m 19 #[.val (.int p1), .val (.int p2), .val (.int p3), .val (.int p4), .val (.int p5), .val (.int p6), .val (.ref b1), .unset, .unset, .unset, .unset, .unset] [(.int ((p1.toUInt32 >>> ((4 : Int32) &&& 31).toUInt32).toInt32)), (.int (1 : Int32)), (.ref b1)])) _
    refine XS.bipush X2.here hx rfl (hb hby at_19) ?_
    show Steps p.tables e below (T2.setTop (mkF m 21 #[.val (.int p1), .val (.int p2), .val (.int p3), .val (.int p4), .val (.int p5), .val (.int p6), .val (.ref b1), .unset, .unset, .unset, .unset, .unset] [(.int (15 : Int32)), (.int ((p1.toUInt32 >>> ((4 : Int32) &&& 31).toUInt32).toInt32)), (.int (1 : Int32)), (.ref b1)])) _
    refine XS.iand X2.here hx rfl (hb hby at_21) rfl ?_
    show Steps p.tables e below (T2.setTop (mkF m 22 #[.val (.int p1), .val (.int p2), .val (.int p3), .val (.int p4), .val (.int p5), .val (.int p6), .val (.ref b1), .unset, .unset, .unset, .unset, .unset] [(.int (((p1.toUInt32 >>> ((4 : Int32) &&& 31).toUInt32).toInt32) &&& (15 : Int32))), (.int (1 : Int32)), (.ref b1)])) _
    refine castTop (g' := (mkF m 22 #[.val (.int p1), .val (.int p2), .val (.int p3), .val (.int p4), .val (.int p5), .val (.int p6), .val (.ref b1), .unset, .unset, .unset, .unset, .unset] [(.int q1), (.int (1 : Int32)), (.ref b1)])) (by rw [hq1]) ?_
    show Steps p.tables e below (T2.setTop (mkF m 22 #[.val (.int p1), .val (.int p2), .val (.int p3), .val (.int p4), .val (.int p5), .val (.int p6), .val (.ref b1), .unset, .unset, .unset, .unset, .unset] [(.int q1), (.int (1 : Int32)), (.ref b1)])) _
    refine st3 _ ?_
    show Steps p.tables e below (T3.setTop (mkF m 23 #[.val (.int p1), .val (.int p2), .val (.int p3), .val (.int p4), .val (.int p5), .val (.int p6), .val (.ref b1), .unset, .unset, .unset, .unset, .unset] [])) _
    refine XS.iloadN X3.here hx rfl (hb hby at_23) rfl ?_
    show Steps p.tables e below (T3.setTop (mkF m 24 #[.val (.int p1), .val (.int p2), .val (.int p3), .val (.int p4), .val (.int p5), .val (.int p6), .val (.ref b1), .unset, .unset, .unset, .unset, .unset] [(.int p1)])) _
    refine XS.bipush X3.here hx rfl (hb hby at_24) ?_
    show Steps p.tables e below (T3.setTop (mkF m 26 #[.val (.int p1), .val (.int p2), .val (.int p3), .val (.int p4), .val (.int p5), .val (.int p6), .val (.ref b1), .unset, .unset, .unset, .unset, .unset] [(.int (8 : Int32)), (.int p1)])) _
    refine XS.iushr X3.here hx rfl (hb hby at_26) rfl ?_
    show Steps p.tables e below (T3.setTop (mkF m 27 #[.val (.int p1), .val (.int p2), .val (.int p3), .val (.int p4), .val (.int p5), .val (.int p6), .val (.ref b1), .unset, .unset, .unset, .unset, .unset] [(.int ((p1.toUInt32 >>> ((8 : Int32) &&& 31).toUInt32).toInt32))])) _
    refine XS.bipush X3.here hx rfl (hb hby at_27) ?_
    show Steps p.tables e below (T3.setTop (mkF m 29 #[.val (.int p1), .val (.int p2), .val (.int p3), .val (.int p4), .val (.int p5), .val (.int p6), .val (.ref b1), .unset, .unset, .unset, .unset, .unset] [(.int (7 : Int32)), (.int ((p1.toUInt32 >>> ((8 : Int32) &&& 31).toUInt32).toInt32))])) _
    refine XS.iand X3.here hx rfl (hb hby at_29) rfl ?_
    show Steps p.tables e below (T3.setTop (mkF m 30 #[.val (.int p1), .val (.int p2), .val (.int p3), .val (.int p4), .val (.int p5), .val (.int p6), .val (.ref b1), .unset, .unset, .unset, .unset, .unset] [(.int (((p1.toUInt32 >>> ((8 : Int32) &&& 31).toUInt32).toInt32) &&& (7 : Int32)))])) _
    refine castTop (g' := (mkF m 30 #[.val (.int p1), .val (.int p2), .val (.int p3), .val (.int p4), .val (.int p5), .val (.int p6), .val (.ref b1), .unset, .unset, .unset, .unset, .unset] [(.int nn)])) (by rw [hnn]) ?_
    show Steps p.tables e below (T3.setTop (mkF m 30 #[.val (.int p1), .val (.int p2), .val (.int p3), .val (.int p4), .val (.int p5), .val (.int p6), .val (.ref b1), .unset, .unset, .unset, .unset, .unset] [(.int nn)])) _
    refine XS.istore X3.here hx rfl (hb hby at_30) rfl (l' := #[.val (.int p1), .val (.int p2), .val (.int p3), .val (.int p4), .val (.int p5), .val (.int p6), .val (.ref b1), .val (.int nn), .unset, .unset, .unset, .unset]) rfl ?_
    show Steps p.tables e below (T3.setTop (mkF m 32 #[.val (.int p1), .val (.int p2), .val (.int p3), .val (.int p4), .val (.int p5), .val (.int p6), .val (.ref b1), .val (.int nn), .unset, .unset, .unset, .unset] [])) _
    refine XS.iconst X3.here hx rfl (hb hby at_32) ?_
    show Steps p.tables e below (T3.setTop (mkF m 33 #[.val (.int p1), .val (.int p2), .val (.int p3), .val (.int p4), .val (.int p5), .val (.int p6), .val (.ref b1), .val (.int nn), .unset, .unset, .unset, .unset] [(.int (2 : Int32))])) _
    refine st4 _ ?_
    show Steps p.tables e below (T4.setTop (mkF m 35 #[.val (.int p1), .val (.int p2), .val (.int p3), .val (.int p4), .val (.int p5), .val (.int p6), .val (.ref b1), .val (.int nn), .unset, .unset, .unset, .unset] [(.ref b4)])) _
    refine XS.astore X4.here hx rfl (hb hby at_35) rfl rfl (l' := #[.val (.int p1), .val (.int p2), .val (.int p3), .val (.int p4), .val (.int p5), .val (.int p6), .val (.ref b1), .val (.int nn), .val (.ref b4), .unset, .unset, .unset]) rfl ?_
    show Steps p.tables e below (T4.setTop (mkF m 37 #[.val (.int p1), .val (.int p2), .val (.int p3), .val (.int p4), .val (.int p5), .val (.int p6), .val (.ref b1), .val (.int nn), .val (.ref b4), .unset, .unset, .unset] [])) _
    refine XS.aload X4.here hx rfl (hb hby at_37) rfl rfl ?_
    show Steps p.tables e below (T4.setTop (mkF m 39 #[.val (.int p1), .val (.int p2), .val (.int p3), .val (.int p4), .val (.int p5), .val (.int p6), .val (.ref b1), .val (.int nn), .val (.ref b4), .unset, .unset, .unset] [(.ref b4)])) _
    refine XS.iconst X4.here hx rfl (hb hby at_39) ?_
    show Steps p.tables e below (T4.setTop (mkF m 40 #[.val (.int p1), .val (.int p2), .val (.int p3), .val (.int p4), .val (.int p5), .val (.int p6), .val (.ref b1), .val (.int nn), .val (.ref b4), .unset, .unset, .unset] [(.int (0 : Int32)), (.ref b4)])) _
    refine XS.iload X4.here hx rfl (hb hby at_40) rfl ?_
    show Steps p.tables e below (T4.setTop (mkF m 42 #[.val (.int p1), .val (.int p2), .val (.int p3), .val (.int p4), .val (.int p5), .val (.int p6), .val (.ref b1), .val (.int nn), .val (.ref b4), .unset, .unset, .unset] [(.int p6), (.int (0 : Int32)), (.ref b4)])) _
    refine Jvm.Stand.ldcI X4 hx hown (mvT hZ (hw _ (List.mem_of_getElem? (i := 1) rfl))) rfl (hb hby at_42) ?_
    show Steps p.tables e below (T4.setTop (mkF m 44 #[.val (.int p1), .val (.int p2), .val (.int p3), .val (.int p4), .val (.int p5), .val (.int p6), .val (.ref b1), .val (.int nn), .val (.ref b4), .unset, .unset, .unset] [(.int (65535 : Int32)), (.int p6), (.int (0 : Int32)), (.ref b4)])) _
    refine XS.iand X4.here hx rfl (hb hby at_44) rfl ?_
    show Steps p.tables e below (T4.setTop (mkF m 45 #[.val (.int p1), .val (.int p2), .val (.int p3), .val (.int p4), .val (.int p5), .val (.int p6), .val (.ref b1), .val (.int nn), .val (.ref b4), .unset, .unset, .unset] [(.int (p6 &&& (65535 : Int32))), (.int (0 : Int32)), (.ref b4)])) _
    refine XS.aload X4.here hx rfl (hb hby at_45) rfl rfl ?_
    show Steps p.tables e below (T4.setTop (mkF m 47 #[.val (.int p1), .val (.int p2), .val (.int p3), .val (.int p4), .val (.int p5), .val (.int p6), .val (.ref b1), .val (.int nn), .val (.ref b4), .unset, .unset, .unset] [(.ref b1), (.int (p6 &&& (65535 : Int32))), (.int (0 : Int32)), (.ref b4)])) _
    refine XS.iconst X4.here hx rfl (hb hby at_47) ?_
    show Steps p.tables e below (T4.setTop (mkF m 48 #[.val (.int p1), .val (.int p2), .val (.int p3), .val (.int p4), .val (.int p5), .val (.int p6), .val (.ref b1), .val (.int nn), .val (.ref b4), .unset, .unset, .unset] [(.int (0 : Int32)), (.ref b1), (.int (p6 &&& (65535 : Int32))), (.int (0 : Int32)), (.ref b4)])) _
    refine X4.iaload hx (j := (0 : Int32)) (v := (.int q0)) (by rw [e4]; exact Ar5.1) (State.isArrayOf_alike hZ.alike Ar5.2.1) Ar5.2.2 hin6 hat6 (g := (mkF m 48 #[.val (.int p1), .val (.int p2), .val (.int p3), .val (.int p4), .val (.int p5), .val (.int p6), .val (.ref b1), .val (.int nn), .val (.ref b4), .unset, .unset, .unset] [(.int (0 : Int32)), (.ref b1), (.int (p6 &&& (65535 : Int32))), (.int (0 : Int32)), (.ref b4)])) rfl rfl (hb hby at_48) _ ?_
    show Steps p.tables e below (T4.setTop (mkF m 49 #[.val (.int p1), .val (.int p2), .val (.int p3), .val (.int p4), .val (.int p5), .val (.int p6), .val (.ref b1), .val (.int nn), .val (.ref b4), .unset, .unset, .unset] [(.int q0), (.int (p6 &&& (65535 : Int32))), (.int (0 : Int32)), (.ref b4)])) _
    refine XS.iconst X4.here hx rfl (hb hby at_49) ?_
    show Steps p.tables e below (T4.setTop (mkF m 50 #[.val (.int p1), .val (.int p2), .val (.int p3), .val (.int p4), .val (.int p5), .val (.int p6), .val (.ref b1), .val (.int nn), .val (.ref b4), .unset, .unset, .unset] [(.int (1 : Int32)), (.int q0), (.int (p6 &&& (65535 : Int32))), (.int (0 : Int32)), (.ref b4)])) _
    refine XS.iadd X4.here hx rfl (hb hby at_50) rfl ?_
    show Steps p.tables e below (T4.setTop (mkF m 51 #[.val (.int p1), .val (.int p2), .val (.int p3), .val (.int p4), .val (.int p5), .val (.int p6), .val (.ref b1), .val (.int nn), .val (.ref b4), .unset, .unset, .unset] [(.int (q0 + (1 : Int32))), (.int (p6 &&& (65535 : Int32))), (.int (0 : Int32)), (.ref b4)])) _
    refine iremM X4 hx rfl (hb hby at_51) rfl mz0 ?_
    show Steps p.tables e below (T4.setTop (mkF m 52 #[.val (.int p1), .val (.int p2), .val (.int p3), .val (.int p4), .val (.int p5), .val (.int p6), .val (.ref b1), .val (.int nn), .val (.ref b4), .unset, .unset, .unset] [(.int ((p6 &&& (65535 : Int32)) % (q0 + (1 : Int32)))), (.int (0 : Int32)), (.ref b4)])) _
    refine castTop (g' := (mkF m 52 #[.val (.int p1), .val (.int p2), .val (.int p3), .val (.int p4), .val (.int p5), .val (.int p6), .val (.ref b1), .val (.int nn), .val (.ref b4), .unset, .unset, .unset] [(.int u0), (.int (0 : Int32)), (.ref b4)])) (by rw [hb0]) ?_
    show Steps p.tables e below (T4.setTop (mkF m 52 #[.val (.int p1), .val (.int p2), .val (.int p3), .val (.int p4), .val (.int p5), .val (.int p6), .val (.ref b1), .val (.int nn), .val (.ref b4), .unset, .unset, .unset] [(.int u0), (.int (0 : Int32)), (.ref b4)])) _
    refine st7 _ ?_
    show Steps p.tables e below (T7.setTop (mkF m 53 #[.val (.int p1), .val (.int p2), .val (.int p3), .val (.int p4), .val (.int p5), .val (.int p6), .val (.ref b1), .val (.int nn), .val (.ref b4), .unset, .unset, .unset] [])) _
    refine XS.aload X7.here hx rfl (hb hby at_53) rfl rfl ?_
    show Steps p.tables e below (T7.setTop (mkF m 55 #[.val (.int p1), .val (.int p2), .val (.int p3), .val (.int p4), .val (.int p5), .val (.int p6), .val (.ref b1), .val (.int nn), .val (.ref b4), .unset, .unset, .unset] [(.ref b4)])) _
    refine XS.iconst X7.here hx rfl (hb hby at_55) ?_
    show Steps p.tables e below (T7.setTop (mkF m 56 #[.val (.int p1), .val (.int p2), .val (.int p3), .val (.int p4), .val (.int p5), .val (.int p6), .val (.ref b1), .val (.int nn), .val (.ref b4), .unset, .unset, .unset] [(.int (1 : Int32)), (.ref b4)])) _
    refine XS.iload X7.here hx rfl (hb hby at_56) rfl ?_
    show Steps p.tables e below (T7.setTop (mkF m 58 #[.val (.int p1), .val (.int p2), .val (.int p3), .val (.int p4), .val (.int p5), .val (.int p6), .val (.ref b1), .val (.int nn), .val (.ref b4), .unset, .unset, .unset] [(.int p6), (.int (1 : Int32)), (.ref b4)])) _
    refine XS.bipush X7.here hx rfl (hb hby at_58) ?_
    show Steps p.tables e below (T7.setTop (mkF m 60 #[.val (.int p1), .val (.int p2), .val (.int p3), .val (.int p4), .val (.int p5), .val (.int p6), .val (.ref b1), .val (.int nn), .val (.ref b4), .unset, .unset, .unset] [(.int (16 : Int32)), (.int p6), (.int (1 : Int32)), (.ref b4)])) _
    refine XS.iushr X7.here hx rfl (hb hby at_60) rfl ?_
    show Steps p.tables e below (T7.setTop (mkF m 61 #[.val (.int p1), .val (.int p2), .val (.int p3), .val (.int p4), .val (.int p5), .val (.int p6), .val (.ref b1), .val (.int nn), .val (.ref b4), .unset, .unset, .unset] [(.int ((p6.toUInt32 >>> ((16 : Int32) &&& 31).toUInt32).toInt32)), (.int (1 : Int32)), (.ref b4)])) _
    refine Jvm.Stand.ldcI X7 hx hown (mvT hZ (hw _ (List.mem_of_getElem? (i := 1) rfl))) rfl (hb hby at_61) ?_
    show Steps p.tables e below (T7.setTop (mkF m 63 #[.val (.int p1), .val (.int p2), .val (.int p3), .val (.int p4), .val (.int p5), .val (.int p6), .val (.ref b1), .val (.int nn), .val (.ref b4), .unset, .unset, .unset] [(.int (65535 : Int32)), (.int ((p6.toUInt32 >>> ((16 : Int32) &&& 31).toUInt32).toInt32)), (.int (1 : Int32)), (.ref b4)])) _
    refine XS.iand X7.here hx rfl (hb hby at_63) rfl ?_
    show Steps p.tables e below (T7.setTop (mkF m 64 #[.val (.int p1), .val (.int p2), .val (.int p3), .val (.int p4), .val (.int p5), .val (.int p6), .val (.ref b1), .val (.int nn), .val (.ref b4), .unset, .unset, .unset] [(.int (((p6.toUInt32 >>> ((16 : Int32) &&& 31).toUInt32).toInt32) &&& (65535 : Int32))), (.int (1 : Int32)), (.ref b4)])) _
    refine XS.aload X7.here hx rfl (hb hby at_64) rfl rfl ?_
    show Steps p.tables e below (T7.setTop (mkF m 66 #[.val (.int p1), .val (.int p2), .val (.int p3), .val (.int p4), .val (.int p5), .val (.int p6), .val (.ref b1), .val (.int nn), .val (.ref b4), .unset, .unset, .unset] [(.ref b1), (.int (((p6.toUInt32 >>> ((16 : Int32) &&& 31).toUInt32).toInt32) &&& (65535 : Int32))), (.int (1 : Int32)), (.ref b4)])) _
    refine XS.iconst X7.here hx rfl (hb hby at_66) ?_
    show Steps p.tables e below (T7.setTop (mkF m 67 #[.val (.int p1), .val (.int p2), .val (.int p3), .val (.int p4), .val (.int p5), .val (.int p6), .val (.ref b1), .val (.int nn), .val (.ref b4), .unset, .unset, .unset] [(.int (1 : Int32)), (.ref b1), (.int (((p6.toUInt32 >>> ((16 : Int32) &&& 31).toUInt32).toInt32) &&& (65535 : Int32))), (.int (1 : Int32)), (.ref b4)])) _
    refine X7.iaload hx (j := (1 : Int32)) (v := (.int q1)) (by rw [e7]; exact Ar8.1) (State.isArrayOf_alike hZ.alike Ar8.2.1) Ar8.2.2 hin9 hat9 (g := (mkF m 67 #[.val (.int p1), .val (.int p2), .val (.int p3), .val (.int p4), .val (.int p5), .val (.int p6), .val (.ref b1), .val (.int nn), .val (.ref b4), .unset, .unset, .unset] [(.int (1 : Int32)), (.ref b1), (.int (((p6.toUInt32 >>> ((16 : Int32) &&& 31).toUInt32).toInt32) &&& (65535 : Int32))), (.int (1 : Int32)), (.ref b4)])) rfl rfl (hb hby at_67) _ ?_
    show Steps p.tables e below (T7.setTop (mkF m 68 #[.val (.int p1), .val (.int p2), .val (.int p3), .val (.int p4), .val (.int p5), .val (.int p6), .val (.ref b1), .val (.int nn), .val (.ref b4), .unset, .unset, .unset] [(.int q1), (.int (((p6.toUInt32 >>> ((16 : Int32) &&& 31).toUInt32).toInt32) &&& (65535 : Int32))), (.int (1 : Int32)), (.ref b4)])) _
    refine XS.iconst X7.here hx rfl (hb hby at_68) ?_
    show Steps p.tables e below (T7.setTop (mkF m 69 #[.val (.int p1), .val (.int p2), .val (.int p3), .val (.int p4), .val (.int p5), .val (.int p6), .val (.ref b1), .val (.int nn), .val (.ref b4), .unset, .unset, .unset] [(.int (1 : Int32)), (.int q1), (.int (((p6.toUInt32 >>> ((16 : Int32) &&& 31).toUInt32).toInt32) &&& (65535 : Int32))), (.int (1 : Int32)), (.ref b4)])) _
    refine XS.iadd X7.here hx rfl (hb hby at_69) rfl ?_
    show Steps p.tables e below (T7.setTop (mkF m 70 #[.val (.int p1), .val (.int p2), .val (.int p3), .val (.int p4), .val (.int p5), .val (.int p6), .val (.ref b1), .val (.int nn), .val (.ref b4), .unset, .unset, .unset] [(.int (q1 + (1 : Int32))), (.int (((p6.toUInt32 >>> ((16 : Int32) &&& 31).toUInt32).toInt32) &&& (65535 : Int32))), (.int (1 : Int32)), (.ref b4)])) _
    refine iremM X7 hx rfl (hb hby at_70) rfl mz1 ?_
    show Steps p.tables e below (T7.setTop (mkF m 71 #[.val (.int p1), .val (.int p2), .val (.int p3), .val (.int p4), .val (.int p5), .val (.int p6), .val (.ref b1), .val (.int nn), .val (.ref b4), .unset, .unset, .unset] [(.int ((((p6.toUInt32 >>> ((16 : Int32) &&& 31).toUInt32).toInt32) &&& (65535 : Int32)) % (q1 + (1 : Int32)))), (.int (1 : Int32)), (.ref b4)])) _
    refine castTop (g' := (mkF m 71 #[.val (.int p1), .val (.int p2), .val (.int p3), .val (.int p4), .val (.int p5), .val (.int p6), .val (.ref b1), .val (.int nn), .val (.ref b4), .unset, .unset, .unset] [(.int u1), (.int (1 : Int32)), (.ref b4)])) (by rw [hb1]) ?_
    show Steps p.tables e below (T7.setTop (mkF m 71 #[.val (.int p1), .val (.int p2), .val (.int p3), .val (.int p4), .val (.int p5), .val (.int p6), .val (.ref b1), .val (.int nn), .val (.ref b4), .unset, .unset, .unset] [(.int u1), (.int (1 : Int32)), (.ref b4)])) _
    refine st10 _ ?_
    show Steps p.tables e below (T10.setTop (mkF m 72 #[.val (.int p1), .val (.int p2), .val (.int p3), .val (.int p4), .val (.int p5), .val (.int p6), .val (.ref b1), .val (.int nn), .val (.ref b4), .unset, .unset, .unset] [])) _
    refine st11 _ ?_
    show Steps p.tables e below (T11.setTop (mkF m 75 #[.val (.int p1), .val (.int p2), .val (.int p3), .val (.int p4), .val (.int p5), .val (.int p6), .val (.ref b1), .val (.int nn), .val (.ref b4), .unset, .unset, .unset] [(.ref b11)])) _
    refine XS.dup X11.here hx rfl (hb hby at_75) rfl rfl ?_
    show Steps p.tables e below (T11.setTop (mkF m 76 #[.val (.int p1), .val (.int p2), .val (.int p3), .val (.int p4), .val (.int p5), .val (.int p6), .val (.ref b1), .val (.int nn), .val (.ref b4), .unset, .unset, .unset] [(.ref b11), (.ref b11)])) _
    refine XS.aload X11.here hx rfl (hb hby at_76) rfl rfl ?_
    show Steps p.tables e below (T11.setTop (mkF m 78 #[.val (.int p1), .val (.int p2), .val (.int p3), .val (.int p4), .val (.int p5), .val (.int p6), .val (.ref b1), .val (.int nn), .val (.ref b4), .unset, .unset, .unset] [(.ref b1), (.ref b11), (.ref b11)])) _
    refine st12.trans ?_
    show Steps p.tables e below (T12.setTop (mkF m 81 #[.val (.int p1), .val (.int p2), .val (.int p3), .val (.int p4), .val (.int p5), .val (.int p6), .val (.ref b1), .val (.int nn), .val (.ref b4), .unset, .unset, .unset] [(.ref b11)])) _
    refine XS.astore X12.here hx rfl (hb hby at_81) rfl rfl (l' := #[.val (.int p1), .val (.int p2), .val (.int p3), .val (.int p4), .val (.int p5), .val (.int p6), .val (.ref b1), .val (.int nn), .val (.ref b4), .val (.ref b11), .unset, .unset]) rfl ?_
    show Steps p.tables e below (T12.setTop (mkF m 83 #[.val (.int p1), .val (.int p2), .val (.int p3), .val (.int p4), .val (.int p5), .val (.int p6), .val (.ref b1), .val (.int nn), .val (.ref b4), .val (.ref b11), .unset, .unset] [])) _
    refine XS.lconst X12.here hx rfl (hb hby at_83) ?_
    show Steps p.tables e below (T12.setTop (mkF m 84 #[.val (.int p1), .val (.int p2), .val (.int p3), .val (.int p4), .val (.int p5), .val (.int p6), .val (.ref b1), .val (.int nn), .val (.ref b4), .val (.ref b11), .unset, .unset] [(.long (0 : Int64))])) _
    refine XS.lstore X12.here hx rfl (hb hby at_84) rfl (l' := #[.val (.int p1), .val (.int p2), .val (.int p3), .val (.int p4), .val (.int p5), .val (.int p6), .val (.ref b1), .val (.int nn), .val (.ref b4), .val (.ref b11), .val (.long (0 : Int64)), .second]) rfl ?_
    show Steps p.tables e below (T12.setTop (mkF m 86 #[.val (.int p1), .val (.int p2), .val (.int p3), .val (.int p4), .val (.int p5), .val (.int p6), .val (.ref b1), .val (.int nn), .val (.ref b4), .val (.ref b11), .val (.long (0 : Int64)), .second] [])) _
    refine XS.lload X12.here hx rfl (hb hby at_86) rfl ?_
    show Steps p.tables e below (T12.setTop (mkF m 88 #[.val (.int p1), .val (.int p2), .val (.int p3), .val (.int p4), .val (.int p5), .val (.int p6), .val (.ref b1), .val (.int nn), .val (.ref b4), .val (.ref b11), .val (.long (0 : Int64)), .second] [(.long (0 : Int64))])) _
    refine XS.aload X12.here hx rfl (hb hby at_88) rfl rfl ?_
    show Steps p.tables e below (T12.setTop (mkF m 90 #[.val (.int p1), .val (.int p2), .val (.int p3), .val (.int p4), .val (.int p5), .val (.int p6), .val (.ref b1), .val (.int nn), .val (.ref b4), .val (.ref b11), .val (.long (0 : Int64)), .second] [(.ref b11), (.long (0 : Int64))])) _
    refine XS.aload X12.here hx rfl (hb hby at_90) rfl rfl ?_
    show Steps p.tables e below (T12.setTop (mkF m 92 #[.val (.int p1), .val (.int p2), .val (.int p3), .val (.int p4), .val (.int p5), .val (.int p6), .val (.ref b1), .val (.int nn), .val (.ref b4), .val (.ref b11), .val (.long (0 : Int64)), .second] [(.ref b1), (.ref b11), (.long (0 : Int64))])) _
    refine XS.aload X12.here hx rfl (hb hby at_92) rfl rfl ?_
    show Steps p.tables e below (T12.setTop (mkF m 94 #[.val (.int p1), .val (.int p2), .val (.int p3), .val (.int p4), .val (.int p5), .val (.int p6), .val (.ref b1), .val (.int nn), .val (.ref b4), .val (.ref b11), .val (.long (0 : Int64)), .second] [(.ref b4), (.ref b1), (.ref b11), (.long (0 : Int64))])) _
    refine XS.iload X12.here hx rfl (hb hby at_94) rfl ?_
    show Steps p.tables e below (T12.setTop (mkF m 96 #[.val (.int p1), .val (.int p2), .val (.int p3), .val (.int p4), .val (.int p5), .val (.int p6), .val (.ref b1), .val (.int nn), .val (.ref b4), .val (.ref b11), .val (.long (0 : Int64)), .second] [(.int nn), (.ref b4), (.ref b1), (.ref b11), (.long (0 : Int64))])) _
    refine XS.ifNo X12.here hx rfl (hb hby at_96) rfl ((if0 _ _).trans (tlt (hn0 : (0 : Int32) < nn)).2.2.2) ?_
    show Steps p.tables e below (T12.setTop (mkF m 99 #[.val (.int p1), .val (.int p2), .val (.int p3), .val (.int p4), .val (.int p5), .val (.int p6), .val (.ref b1), .val (.int nn), .val (.ref b4), .val (.ref b11), .val (.long (0 : Int64)), .second] [(.ref b4), (.ref b1), (.ref b11), (.long (0 : Int64))])) _
    refine XS.iconst X12.here hx rfl (hb hby at_99) ?_
    show Steps p.tables e below (T12.setTop (mkF m 100 #[.val (.int p1), .val (.int p2), .val (.int p3), .val (.int p4), .val (.int p5), .val (.int p6), .val (.ref b1), .val (.int nn), .val (.ref b4), .val (.ref b11), .val (.long (0 : Int64)), .second] [(.int (1 : Int32)), (.ref b4), (.ref b1), (.ref b11), (.long (0 : Int64))])) _
    refine XS.goto X12.here hx rfl (pc0 := 100) (pc' := 104) rfl (hb hby at_100) (by decide) (by decide) ?_
    show Steps p.tables e below (T12.setTop (mkF m 104 #[.val (.int p1), .val (.int p2), .val (.int p3), .val (.int p4), .val (.int p5), .val (.int p6), .val (.ref b1), .val (.int nn), .val (.ref b4), .val (.ref b11), .val (.long (0 : Int64)), .second] [(.int (1 : Int32)), (.ref b4), (.ref b1), (.ref b11), (.long (0 : Int64))])) _
    refine XS.iloadN X12.here hx rfl (hb hby at_104) rfl ?_
    show Steps p.tables e below (T12.setTop (mkF m 105 #[.val (.int p1), .val (.int p2), .val (.int p3), .val (.int p4), .val (.int p5), .val (.int p6), .val (.ref b1), .val (.int nn), .val (.ref b4), .val (.ref b11), .val (.long (0 : Int64)), .second] [(.int p1), (.int (1 : Int32)), (.ref b4), (.ref b1), (.ref b11), (.long (0 : Int64))])) _
    refine XS.bipush X12.here hx rfl (hb hby at_105) ?_
    show Steps p.tables e below (T12.setTop (mkF m 107 #[.val (.int p1), .val (.int p2), .val (.int p3), .val (.int p4), .val (.int p5), .val (.int p6), .val (.ref b1), .val (.int nn), .val (.ref b4), .val (.ref b11), .val (.long (0 : Int64)), .second] [(.int (12 : Int32)), (.int p1), (.int (1 : Int32)), (.ref b4), (.ref b1), (.ref b11), (.long (0 : Int64))])) _
    refine XS.iushr X12.here hx rfl (hb hby at_107) rfl ?_
    show Steps p.tables e below (T12.setTop (mkF m 108 #[.val (.int p1), .val (.int p2), .val (.int p3), .val (.int p4), .val (.int p5), .val (.int p6), .val (.ref b1), .val (.int nn), .val (.ref b4), .val (.ref b11), .val (.long (0 : Int64)), .second] [(.int ((p1.toUInt32 >>> ((12 : Int32) &&& 31).toUInt32).toInt32)), (.int (1 : Int32)), (.ref b4), (.ref b1), (.ref b11), (.long (0 : Int64))])) _
    refine XS.iconst X12.here hx rfl (hb hby at_108) ?_
    show Steps p.tables e below (T12.setTop (mkF m 109 #[.val (.int p1), .val (.int p2), .val (.int p3), .val (.int p4), .val (.int p5), .val (.int p6), .val (.ref b1), .val (.int nn), .val (.ref b4), .val (.ref b11), .val (.long (0 : Int64)), .second] [(.int (1 : Int32)), (.int ((p1.toUInt32 >>> ((12 : Int32) &&& 31).toUInt32).toInt32)), (.int (1 : Int32)), (.ref b4), (.ref b1), (.ref b11), (.long (0 : Int64))])) _
    refine XS.iand X12.here hx rfl (hb hby at_109) rfl ?_
    show Steps p.tables e below (T12.setTop (mkF m 110 #[.val (.int p1), .val (.int p2), .val (.int p3), .val (.int p4), .val (.int p5), .val (.int p6), .val (.ref b1), .val (.int nn), .val (.ref b4), .val (.ref b11), .val (.long (0 : Int64)), .second] [(.int (((p1.toUInt32 >>> ((12 : Int32) &&& 31).toUInt32).toInt32) &&& (1 : Int32))), (.int (1 : Int32)), (.ref b4), (.ref b1), (.ref b11), (.long (0 : Int64))])) _
    refine castTop (g' := (mkF m 110 #[.val (.int p1), .val (.int p2), .val (.int p3), .val (.int p4), .val (.int p5), .val (.int p6), .val (.ref b1), .val (.int nn), .val (.ref b4), .val (.ref b11), .val (.long (0 : Int64)), .second] [(.int c1), (.int (1 : Int32)), (.ref b4), (.ref b1), (.ref b11), (.long (0 : Int64))])) (by rw [hc1]) ?_
    show Steps p.tables e below (T12.setTop (mkF m 110 #[.val (.int p1), .val (.int p2), .val (.int p3), .val (.int p4), .val (.int p5), .val (.int p6), .val (.ref b1), .val (.int nn), .val (.ref b4), .val (.ref b11), .val (.long (0 : Int64)), .second] [(.int c1), (.int (1 : Int32)), (.ref b4), (.ref b1), (.ref b11), (.long (0 : Int64))])) _
    refine XS.iloadN X12.here hx rfl (hb hby at_110) rfl ?_
    show Steps p.tables e below (T12.setTop (mkF m 111 #[.val (.int p1), .val (.int p2), .val (.int p3), .val (.int p4), .val (.int p5), .val (.int p6), .val (.ref b1), .val (.int nn), .val (.ref b4), .val (.ref b11), .val (.long (0 : Int64)), .second] [(.int p2), (.int c1), (.int (1 : Int32)), (.ref b4), (.ref b1), (.ref b11), (.long (0 : Int64))])) _
    refine st13 _ ?_
    show Steps p.tables e below (T13.setTop (mkF m 114 #[.val (.int p1), .val (.int p2), .val (.int p3), .val (.int p4), .val (.int p5), .val (.int p6), .val (.ref b1), .val (.int nn), .val (.ref b4), .val (.ref b11), .val (.long (0 : Int64)), .second] [(.long (own_glt (own_sel c1 q0 q1) r1 (own_sel c1 u0 u1))), (.long (0 : Int64))])) _
    refine XS.ladd X13.here hx rfl (hb hby at_114) rfl ?_
    show Steps p.tables e below (T13.setTop (mkF m 115 #[.val (.int p1), .val (.int p2), .val (.int p3), .val (.int p4), .val (.int p5), .val (.int p6), .val (.ref b1), .val (.int nn), .val (.ref b4), .val (.ref b11), .val (.long (0 : Int64)), .second] [(.long ((0 : Int64) + (own_glt (own_sel c1 q0 q1) r1 (own_sel c1 u0 u1))))])) _
    refine XS.lstore X13.here hx rfl (hb hby at_115) rfl (l' := #[.val (.int p1), .val (.int p2), .val (.int p3), .val (.int p4), .val (.int p5), .val (.int p6), .val (.ref b1), .val (.int nn), .val (.ref b4), .val (.ref b11), .val (.long ((0 : Int64) + (own_glt (own_sel c1 q0 q1) r1 (own_sel c1 u0 u1)))), .second]) rfl ?_
    show Steps p.tables e below (T13.setTop (mkF m 117 #[.val (.int p1), .val (.int p2), .val (.int p3), .val (.int p4), .val (.int p5), .val (.int p6), .val (.ref b1), .val (.int nn), .val (.ref b4), .val (.ref b11), .val (.long ((0 : Int64) + (own_glt (own_sel c1 q0 q1) r1 (own_sel c1 u0 u1)))), .second] [])) _
    refine XS.lload X13.here hx rfl (hb hby at_117) rfl ?_
    show Steps p.tables e below (T13.setTop (mkF m 119 #[.val (.int p1), .val (.int p2), .val (.int p3), .val (.int p4), .val (.int p5), .val (.int p6), .val (.ref b1), .val (.int nn), .val (.ref b4), .val (.ref b11), .val (.long ((0 : Int64) + (own_glt (own_sel c1 q0 q1) r1 (own_sel c1 u0 u1)))), .second] [(.long ((0 : Int64) + (own_glt (own_sel c1 q0 q1) r1 (own_sel c1 u0 u1))))])) _
    refine XS.aload X13.here hx rfl (hb hby at_119) rfl rfl ?_
    show Steps p.tables e below (T13.setTop (mkF m 121 #[.val (.int p1), .val (.int p2), .val (.int p3), .val (.int p4), .val (.int p5), .val (.int p6), .val (.ref b1), .val (.int nn), .val (.ref b4), .val (.ref b11), .val (.long ((0 : Int64) + (own_glt (own_sel c1 q0 q1) r1 (own_sel c1 u0 u1)))), .second] [(.ref b11), (.long ((0 : Int64) + (own_glt (own_sel c1 q0 q1) r1 (own_sel c1 u0 u1))))])) _
    refine XS.aload X13.here hx rfl (hb hby at_121) rfl rfl ?_
    show Steps p.tables e below (T13.setTop (mkF m 123 #[.val (.int p1), .val (.int p2), .val (.int p3), .val (.int p4), .val (.int p5), .val (.int p6), .val (.ref b1), .val (.int nn), .val (.ref b4), .val (.ref b11), .val (.long ((0 : Int64) + (own_glt (own_sel c1 q0 q1) r1 (own_sel c1 u0 u1)))), .second] [(.ref b1), (.ref b11), (.long ((0 : Int64) + (own_glt (own_sel c1 q0 q1) r1 (own_sel c1 u0 u1))))])) _
    refine XS.aload X13.here hx rfl (hb hby at_123) rfl rfl ?_
    show Steps p.tables e below (T13.setTop (mkF m 125 #[.val (.int p1), .val (.int p2), .val (.int p3), .val (.int p4), .val (.int p5), .val (.int p6), .val (.ref b1), .val (.int nn), .val (.ref b4), .val (.ref b11), .val (.long ((0 : Int64) + (own_glt (own_sel c1 q0 q1) r1 (own_sel c1 u0 u1)))), .second] [(.ref b4), (.ref b1), (.ref b11), (.long ((0 : Int64) + (own_glt (own_sel c1 q0 q1) r1 (own_sel c1 u0 u1))))])) _
    refine XS.iload X13.here hx rfl (hb hby at_125) rfl ?_
    show Steps p.tables e below (T13.setTop (mkF m 127 #[.val (.int p1), .val (.int p2), .val (.int p3), .val (.int p4), .val (.int p5), .val (.int p6), .val (.ref b1), .val (.int nn), .val (.ref b4), .val (.ref b11), .val (.long ((0 : Int64) + (own_glt (own_sel c1 q0 q1) r1 (own_sel c1 u0 u1)))), .second] [(.int nn), (.ref b4), (.ref b1), (.ref b11), (.long ((0 : Int64) + (own_glt (own_sel c1 q0 q1) r1 (own_sel c1 u0 u1))))])) _
    refine XS.iconst X13.here hx rfl (hb hby at_127) ?_
    show Steps p.tables e below (T13.setTop (mkF m 128 #[.val (.int p1), .val (.int p2), .val (.int p3), .val (.int p4), .val (.int p5), .val (.int p6), .val (.ref b1), .val (.int nn), .val (.ref b4), .val (.ref b11), .val (.long ((0 : Int64) + (own_glt (own_sel c1 q0 q1) r1 (own_sel c1 u0 u1)))), .second] [(.int (1 : Int32)), (.int nn), (.ref b4), (.ref b1), (.ref b11), (.long ((0 : Int64) + (own_glt (own_sel c1 q0 q1) r1 (own_sel c1 u0 u1))))])) _
    refine XS.icmpNo X13.here hx rfl (hb hby at_128) rfl (tlt (hn1 : (1 : Int32) < nn)).2.2.2 ?_
    show Steps p.tables e below (T13.setTop (mkF m 131 #[.val (.int p1), .val (.int p2), .val (.int p3), .val (.int p4), .val (.int p5), .val (.int p6), .val (.ref b1), .val (.int nn), .val (.ref b4), .val (.ref b11), .val (.long ((0 : Int64) + (own_glt (own_sel c1 q0 q1) r1 (own_sel c1 u0 u1)))), .second] [(.ref b4), (.ref b1), (.ref b11), (.long ((0 : Int64) + (own_glt (own_sel c1 q0 q1) r1 (own_sel c1 u0 u1))))])) _
    refine XS.iconst X13.here hx rfl (hb hby at_131) ?_
    show Steps p.tables e below (T13.setTop (mkF m 132 #[.val (.int p1), .val (.int p2), .val (.int p3), .val (.int p4), .val (.int p5), .val (.int p6), .val (.ref b1), .val (.int nn), .val (.ref b4), .val (.ref b11), .val (.long ((0 : Int64) + (own_glt (own_sel c1 q0 q1) r1 (own_sel c1 u0 u1)))), .second] [(.int (1 : Int32)), (.ref b4), (.ref b1), (.ref b11), (.long ((0 : Int64) + (own_glt (own_sel c1 q0 q1) r1 (own_sel c1 u0 u1))))])) _
    refine XS.goto X13.here hx rfl (pc0 := 132) (pc' := 136) rfl (hb hby at_132) (by decide) (by decide) ?_
    show Steps p.tables e below (T13.setTop (mkF m 136 #[.val (.int p1), .val (.int p2), .val (.int p3), .val (.int p4), .val (.int p5), .val (.int p6), .val (.ref b1), .val (.int nn), .val (.ref b4), .val (.ref b11), .val (.long ((0 : Int64) + (own_glt (own_sel c1 q0 q1) r1 (own_sel c1 u0 u1)))), .second] [(.int (1 : Int32)), (.ref b4), (.ref b1), (.ref b11), (.long ((0 : Int64) + (own_glt (own_sel c1 q0 q1) r1 (own_sel c1 u0 u1))))])) _
    refine XS.iloadN X13.here hx rfl (hb hby at_136) rfl ?_
    show Steps p.tables e below (T13.setTop (mkF m 137 #[.val (.int p1), .val (.int p2), .val (.int p3), .val (.int p4), .val (.int p5), .val (.int p6), .val (.ref b1), .val (.int nn), .val (.ref b4), .val (.ref b11), .val (.long ((0 : Int64) + (own_glt (own_sel c1 q0 q1) r1 (own_sel c1 u0 u1)))), .second] [(.int p1), (.int (1 : Int32)), (.ref b4), (.ref b1), (.ref b11), (.long ((0 : Int64) + (own_glt (own_sel c1 q0 q1) r1 (own_sel c1 u0 u1))))])) _
    refine XS.bipush X13.here hx rfl (hb hby at_137) ?_
    show Steps p.tables e below (T13.setTop (mkF m 139 #[.val (.int p1), .val (.int p2), .val (.int p3), .val (.int p4), .val (.int p5), .val (.int p6), .val (.ref b1), .val (.int nn), .val (.ref b4), .val (.ref b11), .val (.long ((0 : Int64) + (own_glt (own_sel c1 q0 q1) r1 (own_sel c1 u0 u1)))), .second] [(.int (13 : Int32)), (.int p1), (.int (1 : Int32)), (.ref b4), (.ref b1), (.ref b11), (.long ((0 : Int64) + (own_glt (own_sel c1 q0 q1) r1 (own_sel c1 u0 u1))))])) _
    refine XS.iushr X13.here hx rfl (hb hby at_139) rfl ?_
    show Steps p.tables e below (T13.setTop (mkF m 140 #[.val (.int p1), .val (.int p2), .val (.int p3), .val (.int p4), .val (.int p5), .val (.int p6), .val (.ref b1), .val (.int nn), .val (.ref b4), .val (.ref b11), .val (.long ((0 : Int64) + (own_glt (own_sel c1 q0 q1) r1 (own_sel c1 u0 u1)))), .second] [(.int ((p1.toUInt32 >>> ((13 : Int32) &&& 31).toUInt32).toInt32)), (.int (1 : Int32)), (.ref b4), (.ref b1), (.ref b11), (.long ((0 : Int64) + (own_glt (own_sel c1 q0 q1) r1 (own_sel c1 u0 u1))))])) _
    refine XS.iconst X13.here hx rfl (hb hby at_140) ?_
    show Steps p.tables e below (T13.setTop (mkF m 141 #[.val (.int p1), .val (.int p2), .val (.int p3), .val (.int p4), .val (.int p5), .val (.int p6), .val (.ref b1), .val (.int nn), .val (.ref b4), .val (.ref b11), .val (.long ((0 : Int64) + (own_glt (own_sel c1 q0 q1) r1 (own_sel c1 u0 u1)))), .second] [(.int (1 : Int32)), (.int ((p1.toUInt32 >>> ((13 : Int32) &&& 31).toUInt32).toInt32)), (.int (1 : Int32)), (.ref b4), (.ref b1), (.ref b11), (.long ((0 : Int64) + (own_glt (own_sel c1 q0 q1) r1 (own_sel c1 u0 u1))))])) _
    refine XS.iand X13.here hx rfl (hb hby at_141) rfl ?_
    show Steps p.tables e below (T13.setTop (mkF m 142 #[.val (.int p1), .val (.int p2), .val (.int p3), .val (.int p4), .val (.int p5), .val (.int p6), .val (.ref b1), .val (.int nn), .val (.ref b4), .val (.ref b11), .val (.long ((0 : Int64) + (own_glt (own_sel c1 q0 q1) r1 (own_sel c1 u0 u1)))), .second] [(.int (((p1.toUInt32 >>> ((13 : Int32) &&& 31).toUInt32).toInt32) &&& (1 : Int32))), (.int (1 : Int32)), (.ref b4), (.ref b1), (.ref b11), (.long ((0 : Int64) + (own_glt (own_sel c1 q0 q1) r1 (own_sel c1 u0 u1))))])) _
    refine castTop (g' := (mkF m 142 #[.val (.int p1), .val (.int p2), .val (.int p3), .val (.int p4), .val (.int p5), .val (.int p6), .val (.ref b1), .val (.int nn), .val (.ref b4), .val (.ref b11), .val (.long ((0 : Int64) + (own_glt (own_sel c1 q0 q1) r1 (own_sel c1 u0 u1)))), .second] [(.int c2), (.int (1 : Int32)), (.ref b4), (.ref b1), (.ref b11), (.long ((0 : Int64) + (own_glt (own_sel c1 q0 q1) r1 (own_sel c1 u0 u1))))])) (by rw [hc2]) ?_
    show Steps p.tables e below (T13.setTop (mkF m 142 #[.val (.int p1), .val (.int p2), .val (.int p3), .val (.int p4), .val (.int p5), .val (.int p6), .val (.ref b1), .val (.int nn), .val (.ref b4), .val (.ref b11), .val (.long ((0 : Int64) + (own_glt (own_sel c1 q0 q1) r1 (own_sel c1 u0 u1)))), .second] [(.int c2), (.int (1 : Int32)), (.ref b4), (.ref b1), (.ref b11), (.long ((0 : Int64) + (own_glt (own_sel c1 q0 q1) r1 (own_sel c1 u0 u1))))])) _
    refine XS.iloadN X13.here hx rfl (hb hby at_142) rfl ?_
    show Steps p.tables e below (T13.setTop (mkF m 143 #[.val (.int p1), .val (.int p2), .val (.int p3), .val (.int p4), .val (.int p5), .val (.int p6), .val (.ref b1), .val (.int nn), .val (.ref b4), .val (.ref b11), .val (.long ((0 : Int64) + (own_glt (own_sel c1 q0 q1) r1 (own_sel c1 u0 u1)))), .second] [(.int p3), (.int c2), (.int (1 : Int32)), (.ref b4), (.ref b1), (.ref b11), (.long ((0 : Int64) + (own_glt (own_sel c1 q0 q1) r1 (own_sel c1 u0 u1))))])) _
    refine st14 _ ?_
    show Steps p.tables e below (T14.setTop (mkF m 146 #[.val (.int p1), .val (.int p2), .val (.int p3), .val (.int p4), .val (.int p5), .val (.int p6), .val (.ref b1), .val (.int nn), .val (.ref b4), .val (.ref b11), .val (.long ((0 : Int64) + (own_glt (own_sel c1 q0 q1) r1 (own_sel c1 u0 u1)))), .second] [(.long (own_glt (own_sel c2 q0 q1) r2 (own_sel c2 u0 u1))), (.long ((0 : Int64) + (own_glt (own_sel c1 q0 q1) r1 (own_sel c1 u0 u1))))])) _
    refine XS.ladd X14.here hx rfl (hb hby at_146) rfl ?_
    show Steps p.tables e below (T14.setTop (mkF m 147 #[.val (.int p1), .val (.int p2), .val (.int p3), .val (.int p4), .val (.int p5), .val (.int p6), .val (.ref b1), .val (.int nn), .val (.ref b4), .val (.ref b11), .val (.long ((0 : Int64) + (own_glt (own_sel c1 q0 q1) r1 (own_sel c1 u0 u1)))), .second] [(.long (((0 : Int64) + (own_glt (own_sel c1 q0 q1) r1 (own_sel c1 u0 u1))) + (own_glt (own_sel c2 q0 q1) r2 (own_sel c2 u0 u1))))])) _
    refine XS.lstore X14.here hx rfl (hb hby at_147) rfl (l' := #[.val (.int p1), .val (.int p2), .val (.int p3), .val (.int p4), .val (.int p5), .val (.int p6), .val (.ref b1), .val (.int nn), .val (.ref b4), .val (.ref b11), .val (.long (((0 : Int64) + (own_glt (own_sel c1 q0 q1) r1 (own_sel c1 u0 u1))) + (own_glt (own_sel c2 q0 q1) r2 (own_sel c2 u0 u1)))), .second]) rfl ?_
    show Steps p.tables e below (T14.setTop (mkF m 149 #[.val (.int p1), .val (.int p2), .val (.int p3), .val (.int p4), .val (.int p5), .val (.int p6), .val (.ref b1), .val (.int nn), .val (.ref b4), .val (.ref b11), .val (.long (((0 : Int64) + (own_glt (own_sel c1 q0 q1) r1 (own_sel c1 u0 u1))) + (own_glt (own_sel c2 q0 q1) r2 (own_sel c2 u0 u1)))), .second] [])) _
    refine XS.lload X14.here hx rfl (hb hby at_149) rfl ?_
    show Steps p.tables e below (T14.setTop (mkF m 151 #[.val (.int p1), .val (.int p2), .val (.int p3), .val (.int p4), .val (.int p5), .val (.int p6), .val (.ref b1), .val (.int nn), .val (.ref b4), .val (.ref b11), .val (.long (((0 : Int64) + (own_glt (own_sel c1 q0 q1) r1 (own_sel c1 u0 u1))) + (own_glt (own_sel c2 q0 q1) r2 (own_sel c2 u0 u1)))), .second] [(.long (((0 : Int64) + (own_glt (own_sel c1 q0 q1) r1 (own_sel c1 u0 u1))) + (own_glt (own_sel c2 q0 q1) r2 (own_sel c2 u0 u1))))])) _
    refine XS.aload X14.here hx rfl (hb hby at_151) rfl rfl ?_
    show Steps p.tables e below (T14.setTop (mkF m 153 #[.val (.int p1), .val (.int p2), .val (.int p3), .val (.int p4), .val (.int p5), .val (.int p6), .val (.ref b1), .val (.int nn), .val (.ref b4), .val (.ref b11), .val (.long (((0 : Int64) + (own_glt (own_sel c1 q0 q1) r1 (own_sel c1 u0 u1))) + (own_glt (own_sel c2 q0 q1) r2 (own_sel c2 u0 u1)))), .second] [(.ref b11), (.long (((0 : Int64) + (own_glt (own_sel c1 q0 q1) r1 (own_sel c1 u0 u1))) + (own_glt (own_sel c2 q0 q1) r2 (own_sel c2 u0 u1))))])) _
    refine XS.aload X14.here hx rfl (hb hby at_153) rfl rfl ?_
    show Steps p.tables e below (T14.setTop (mkF m 155 #[.val (.int p1), .val (.int p2), .val (.int p3), .val (.int p4), .val (.int p5), .val (.int p6), .val (.ref b1), .val (.int nn), .val (.ref b4), .val (.ref b11), .val (.long (((0 : Int64) + (own_glt (own_sel c1 q0 q1) r1 (own_sel c1 u0 u1))) + (own_glt (own_sel c2 q0 q1) r2 (own_sel c2 u0 u1)))), .second] [(.ref b1), (.ref b11), (.long (((0 : Int64) + (own_glt (own_sel c1 q0 q1) r1 (own_sel c1 u0 u1))) + (own_glt (own_sel c2 q0 q1) r2 (own_sel c2 u0 u1))))])) _
    refine XS.aload X14.here hx rfl (hb hby at_155) rfl rfl ?_
    show Steps p.tables e below (T14.setTop (mkF m 157 #[.val (.int p1), .val (.int p2), .val (.int p3), .val (.int p4), .val (.int p5), .val (.int p6), .val (.ref b1), .val (.int nn), .val (.ref b4), .val (.ref b11), .val (.long (((0 : Int64) + (own_glt (own_sel c1 q0 q1) r1 (own_sel c1 u0 u1))) + (own_glt (own_sel c2 q0 q1) r2 (own_sel c2 u0 u1)))), .second] [(.ref b4), (.ref b1), (.ref b11), (.long (((0 : Int64) + (own_glt (own_sel c1 q0 q1) r1 (own_sel c1 u0 u1))) + (own_glt (own_sel c2 q0 q1) r2 (own_sel c2 u0 u1))))])) _
    refine XS.iload X14.here hx rfl (hb hby at_157) rfl ?_
    show Steps p.tables e below (T14.setTop (mkF m 159 #[.val (.int p1), .val (.int p2), .val (.int p3), .val (.int p4), .val (.int p5), .val (.int p6), .val (.ref b1), .val (.int nn), .val (.ref b4), .val (.ref b11), .val (.long (((0 : Int64) + (own_glt (own_sel c1 q0 q1) r1 (own_sel c1 u0 u1))) + (own_glt (own_sel c2 q0 q1) r2 (own_sel c2 u0 u1)))), .second] [(.int nn), (.ref b4), (.ref b1), (.ref b11), (.long (((0 : Int64) + (own_glt (own_sel c1 q0 q1) r1 (own_sel c1 u0 u1))) + (own_glt (own_sel c2 q0 q1) r2 (own_sel c2 u0 u1))))])) _
    refine XS.iconst X14.here hx rfl (hb hby at_159) ?_
    show Steps p.tables e below (T14.setTop (mkF m 160 #[.val (.int p1), .val (.int p2), .val (.int p3), .val (.int p4), .val (.int p5), .val (.int p6), .val (.ref b1), .val (.int nn), .val (.ref b4), .val (.ref b11), .val (.long (((0 : Int64) + (own_glt (own_sel c1 q0 q1) r1 (own_sel c1 u0 u1))) + (own_glt (own_sel c2 q0 q1) r2 (own_sel c2 u0 u1)))), .second] [(.int (2 : Int32)), (.int nn), (.ref b4), (.ref b1), (.ref b11), (.long (((0 : Int64) + (own_glt (own_sel c1 q0 q1) r1 (own_sel c1 u0 u1))) + (own_glt (own_sel c2 q0 q1) r2 (own_sel c2 u0 u1))))])) _
    refine XS.icmpNo X14.here hx rfl (hb hby at_160) rfl (tlt (hn2 : (2 : Int32) < nn)).2.2.2 ?_
    show Steps p.tables e below (T14.setTop (mkF m 163 #[.val (.int p1), .val (.int p2), .val (.int p3), .val (.int p4), .val (.int p5), .val (.int p6), .val (.ref b1), .val (.int nn), .val (.ref b4), .val (.ref b11), .val (.long (((0 : Int64) + (own_glt (own_sel c1 q0 q1) r1 (own_sel c1 u0 u1))) + (own_glt (own_sel c2 q0 q1) r2 (own_sel c2 u0 u1)))), .second] [(.ref b4), (.ref b1), (.ref b11), (.long (((0 : Int64) + (own_glt (own_sel c1 q0 q1) r1 (own_sel c1 u0 u1))) + (own_glt (own_sel c2 q0 q1) r2 (own_sel c2 u0 u1))))])) _
    refine XS.iconst X14.here hx rfl (hb hby at_163) ?_
    show Steps p.tables e below (T14.setTop (mkF m 164 #[.val (.int p1), .val (.int p2), .val (.int p3), .val (.int p4), .val (.int p5), .val (.int p6), .val (.ref b1), .val (.int nn), .val (.ref b4), .val (.ref b11), .val (.long (((0 : Int64) + (own_glt (own_sel c1 q0 q1) r1 (own_sel c1 u0 u1))) + (own_glt (own_sel c2 q0 q1) r2 (own_sel c2 u0 u1)))), .second] [(.int (1 : Int32)), (.ref b4), (.ref b1), (.ref b11), (.long (((0 : Int64) + (own_glt (own_sel c1 q0 q1) r1 (own_sel c1 u0 u1))) + (own_glt (own_sel c2 q0 q1) r2 (own_sel c2 u0 u1))))])) _
    refine XS.goto X14.here hx rfl (pc0 := 164) (pc' := 168) rfl (hb hby at_164) (by decide) (by decide) ?_
    show Steps p.tables e below (T14.setTop (mkF m 168 #[.val (.int p1), .val (.int p2), .val (.int p3), .val (.int p4), .val (.int p5), .val (.int p6), .val (.ref b1), .val (.int nn), .val (.ref b4), .val (.ref b11), .val (.long (((0 : Int64) + (own_glt (own_sel c1 q0 q1) r1 (own_sel c1 u0 u1))) + (own_glt (own_sel c2 q0 q1) r2 (own_sel c2 u0 u1)))), .second] [(.int (1 : Int32)), (.ref b4), (.ref b1), (.ref b11), (.long (((0 : Int64) + (own_glt (own_sel c1 q0 q1) r1 (own_sel c1 u0 u1))) + (own_glt (own_sel c2 q0 q1) r2 (own_sel c2 u0 u1))))])) _
    refine XS.iloadN X14.here hx rfl (hb hby at_168) rfl ?_
    show Steps p.tables e below (T14.setTop (mkF m 169 #[.val (.int p1), .val (.int p2), .val (.int p3), .val (.int p4), .val (.int p5), .val (.int p6), .val (.ref b1), .val (.int nn), .val (.ref b4), .val (.ref b11), .val (.long (((0 : Int64) + (own_glt (own_sel c1 q0 q1) r1 (own_sel c1 u0 u1))) + (own_glt (own_sel c2 q0 q1) r2 (own_sel c2 u0 u1)))), .second] [(.int p1), (.int (1 : Int32)), (.ref b4), (.ref b1), (.ref b11), (.long (((0 : Int64) + (own_glt (own_sel c1 q0 q1) r1 (own_sel c1 u0 u1))) + (own_glt (own_sel c2 q0 q1) r2 (own_sel c2 u0 u1))))])) _
    refine XS.bipush X14.here hx rfl (hb hby at_169) ?_
    show Steps p.tables e below (T14.setTop (mkF m 171 #[.val (.int p1), .val (.int p2), .val (.int p3), .val (.int p4), .val (.int p5), .val (.int p6), .val (.ref b1), .val (.int nn), .val (.ref b4), .val (.ref b11), .val (.long (((0 : Int64) + (own_glt (own_sel c1 q0 q1) r1 (own_sel c1 u0 u1))) + (own_glt (own_sel c2 q0 q1) r2 (own_sel c2 u0 u1)))), .second] [(.int (14 : Int32)), (.int p1), (.int (1 : Int32)), (.ref b4), (.ref b1), (.ref b11), (.long (((0 : Int64) + (own_glt (own_sel c1 q0 q1) r1 (own_sel c1 u0 u1))) + (own_glt (own_sel c2 q0 q1) r2 (own_sel c2 u0 u1))))])) _
    refine XS.iushr X14.here hx rfl (hb hby at_171) rfl ?_
    show Steps p.tables e below (T14.setTop (mkF m 172 #[.val (.int p1), .val (.int p2), .val (.int p3), .val (.int p4), .val (.int p5), .val (.int p6), .val (.ref b1), .val (.int nn), .val (.ref b4), .val (.ref b11), .val (.long (((0 : Int64) + (own_glt (own_sel c1 q0 q1) r1 (own_sel c1 u0 u1))) + (own_glt (own_sel c2 q0 q1) r2 (own_sel c2 u0 u1)))), .second] [(.int ((p1.toUInt32 >>> ((14 : Int32) &&& 31).toUInt32).toInt32)), (.int (1 : Int32)), (.ref b4), (.ref b1), (.ref b11), (.long (((0 : Int64) + (own_glt (own_sel c1 q0 q1) r1 (own_sel c1 u0 u1))) + (own_glt (own_sel c2 q0 q1) r2 (own_sel c2 u0 u1))))])) _
    refine XS.iconst X14.here hx rfl (hb hby at_172) ?_
    show Steps p.tables e below (T14.setTop (mkF m 173 #[.val (.int p1), .val (.int p2), .val (.int p3), .val (.int p4), .val (.int p5), .val (.int p6), .val (.ref b1), .val (.int nn), .val (.ref b4), .val (.ref b11), .val (.long (((0 : Int64) + (own_glt (own_sel c1 q0 q1) r1 (own_sel c1 u0 u1))) + (own_glt (own_sel c2 q0 q1) r2 (own_sel c2 u0 u1)))), .second] [(.int (1 : Int32)), (.int ((p1.toUInt32 >>> ((14 : Int32) &&& 31).toUInt32).toInt32)), (.int (1 : Int32)), (.ref b4), (.ref b1), (.ref b11), (.long (((0 : Int64) + (own_glt (own_sel c1 q0 q1) r1 (own_sel c1 u0 u1))) + (own_glt (own_sel c2 q0 q1) r2 (own_sel c2 u0 u1))))])) _
    refine XS.iand X14.here hx rfl (hb hby at_173) rfl ?_
    show Steps p.tables e below (T14.setTop (mkF m 174 #[.val (.int p1), .val (.int p2), .val (.int p3), .val (.int p4), .val (.int p5), .val (.int p6), .val (.ref b1), .val (.int nn), .val (.ref b4), .val (.ref b11), .val (.long (((0 : Int64) + (own_glt (own_sel c1 q0 q1) r1 (own_sel c1 u0 u1))) + (own_glt (own_sel c2 q0 q1) r2 (own_sel c2 u0 u1)))), .second] [(.int (((p1.toUInt32 >>> ((14 : Int32) &&& 31).toUInt32).toInt32) &&& (1 : Int32))), (.int (1 : Int32)), (.ref b4), (.ref b1), (.ref b11), (.long (((0 : Int64) + (own_glt (own_sel c1 q0 q1) r1 (own_sel c1 u0 u1))) + (own_glt (own_sel c2 q0 q1) r2 (own_sel c2 u0 u1))))])) _
    refine castTop (g' := (mkF m 174 #[.val (.int p1), .val (.int p2), .val (.int p3), .val (.int p4), .val (.int p5), .val (.int p6), .val (.ref b1), .val (.int nn), .val (.ref b4), .val (.ref b11), .val (.long (((0 : Int64) + (own_glt (own_sel c1 q0 q1) r1 (own_sel c1 u0 u1))) + (own_glt (own_sel c2 q0 q1) r2 (own_sel c2 u0 u1)))), .second] [(.int c3), (.int (1 : Int32)), (.ref b4), (.ref b1), (.ref b11), (.long (((0 : Int64) + (own_glt (own_sel c1 q0 q1) r1 (own_sel c1 u0 u1))) + (own_glt (own_sel c2 q0 q1) r2 (own_sel c2 u0 u1))))])) (by rw [hc3]) ?_
    show Steps p.tables e below (T14.setTop (mkF m 174 #[.val (.int p1), .val (.int p2), .val (.int p3), .val (.int p4), .val (.int p5), .val (.int p6), .val (.ref b1), .val (.int nn), .val (.ref b4), .val (.ref b11), .val (.long (((0 : Int64) + (own_glt (own_sel c1 q0 q1) r1 (own_sel c1 u0 u1))) + (own_glt (own_sel c2 q0 q1) r2 (own_sel c2 u0 u1)))), .second] [(.int c3), (.int (1 : Int32)), (.ref b4), (.ref b1), (.ref b11), (.long (((0 : Int64) + (own_glt (own_sel c1 q0 q1) r1 (own_sel c1 u0 u1))) + (own_glt (own_sel c2 q0 q1) r2 (own_sel c2 u0 u1))))])) _
    refine XS.iloadN X14.here hx rfl (hb hby at_174) rfl ?_
    show Steps p.tables e below (T14.setTop (mkF m 175 #[.val (.int p1), .val (.int p2), .val (.int p3), .val (.int p4), .val (.int p5), .val (.int p6), .val (.ref b1), .val (.int nn), .val (.ref b4), .val (.ref b11), .val (.long (((0 : Int64) + (own_glt (own_sel c1 q0 q1) r1 (own_sel c1 u0 u1))) + (own_glt (own_sel c2 q0 q1) r2 (own_sel c2 u0 u1)))), .second] [(.int p4), (.int c3), (.int (1 : Int32)), (.ref b4), (.ref b1), (.ref b11), (.long (((0 : Int64) + (own_glt (own_sel c1 q0 q1) r1 (own_sel c1 u0 u1))) + (own_glt (own_sel c2 q0 q1) r2 (own_sel c2 u0 u1))))])) _
    refine st15 _ ?_
    show Steps p.tables e below (T15.setTop (mkF m 178 #[.val (.int p1), .val (.int p2), .val (.int p3), .val (.int p4), .val (.int p5), .val (.int p6), .val (.ref b1), .val (.int nn), .val (.ref b4), .val (.ref b11), .val (.long (((0 : Int64) + (own_glt (own_sel c1 q0 q1) r1 (own_sel c1 u0 u1))) + (own_glt (own_sel c2 q0 q1) r2 (own_sel c2 u0 u1)))), .second] [(.long (own_glt (own_sel c3 q0 q1) r3 (own_sel c3 u0 u1))), (.long (((0 : Int64) + (own_glt (own_sel c1 q0 q1) r1 (own_sel c1 u0 u1))) + (own_glt (own_sel c2 q0 q1) r2 (own_sel c2 u0 u1))))])) _
    refine XS.ladd X15.here hx rfl (hb hby at_178) rfl ?_
    show Steps p.tables e below (T15.setTop (mkF m 179 #[.val (.int p1), .val (.int p2), .val (.int p3), .val (.int p4), .val (.int p5), .val (.int p6), .val (.ref b1), .val (.int nn), .val (.ref b4), .val (.ref b11), .val (.long (((0 : Int64) + (own_glt (own_sel c1 q0 q1) r1 (own_sel c1 u0 u1))) + (own_glt (own_sel c2 q0 q1) r2 (own_sel c2 u0 u1)))), .second] [(.long ((((0 : Int64) + (own_glt (own_sel c1 q0 q1) r1 (own_sel c1 u0 u1))) + (own_glt (own_sel c2 q0 q1) r2 (own_sel c2 u0 u1))) + (own_glt (own_sel c3 q0 q1) r3 (own_sel c3 u0 u1))))])) _
    refine XS.lstore X15.here hx rfl (hb hby at_179) rfl (l' := #[.val (.int p1), .val (.int p2), .val (.int p3), .val (.int p4), .val (.int p5), .val (.int p6), .val (.ref b1), .val (.int nn), .val (.ref b4), .val (.ref b11), .val (.long ((((0 : Int64) + (own_glt (own_sel c1 q0 q1) r1 (own_sel c1 u0 u1))) + (own_glt (own_sel c2 q0 q1) r2 (own_sel c2 u0 u1))) + (own_glt (own_sel c3 q0 q1) r3 (own_sel c3 u0 u1)))), .second]) rfl ?_
    show Steps p.tables e below (T15.setTop (mkF m 181 #[.val (.int p1), .val (.int p2), .val (.int p3), .val (.int p4), .val (.int p5), .val (.int p6), .val (.ref b1), .val (.int nn), .val (.ref b4), .val (.ref b11), .val (.long ((((0 : Int64) + (own_glt (own_sel c1 q0 q1) r1 (own_sel c1 u0 u1))) + (own_glt (own_sel c2 q0 q1) r2 (own_sel c2 u0 u1))) + (own_glt (own_sel c3 q0 q1) r3 (own_sel c3 u0 u1)))), .second] [])) _
    refine XS.lload X15.here hx rfl (hb hby at_181) rfl ?_
    show Steps p.tables e below (T15.setTop (mkF m 183 #[.val (.int p1), .val (.int p2), .val (.int p3), .val (.int p4), .val (.int p5), .val (.int p6), .val (.ref b1), .val (.int nn), .val (.ref b4), .val (.ref b11), .val (.long ((((0 : Int64) + (own_glt (own_sel c1 q0 q1) r1 (own_sel c1 u0 u1))) + (own_glt (own_sel c2 q0 q1) r2 (own_sel c2 u0 u1))) + (own_glt (own_sel c3 q0 q1) r3 (own_sel c3 u0 u1)))), .second] [(.long ((((0 : Int64) + (own_glt (own_sel c1 q0 q1) r1 (own_sel c1 u0 u1))) + (own_glt (own_sel c2 q0 q1) r2 (own_sel c2 u0 u1))) + (own_glt (own_sel c3 q0 q1) r3 (own_sel c3 u0 u1))))])) _
    refine XS.aload X15.here hx rfl (hb hby at_183) rfl rfl ?_
    show Steps p.tables e below (T15.setTop (mkF m 185 #[.val (.int p1), .val (.int p2), .val (.int p3), .val (.int p4), .val (.int p5), .val (.int p6), .val (.ref b1), .val (.int nn), .val (.ref b4), .val (.ref b11), .val (.long ((((0 : Int64) + (own_glt (own_sel c1 q0 q1) r1 (own_sel c1 u0 u1))) + (own_glt (own_sel c2 q0 q1) r2 (own_sel c2 u0 u1))) + (own_glt (own_sel c3 q0 q1) r3 (own_sel c3 u0 u1)))), .second] [(.ref b11), (.long ((((0 : Int64) + (own_glt (own_sel c1 q0 q1) r1 (own_sel c1 u0 u1))) + (own_glt (own_sel c2 q0 q1) r2 (own_sel c2 u0 u1))) + (own_glt (own_sel c3 q0 q1) r3 (own_sel c3 u0 u1))))])) _
    refine XS.aload X15.here hx rfl (hb hby at_185) rfl rfl ?_
    show Steps p.tables e below (T15.setTop (mkF m 187 #[.val (.int p1), .val (.int p2), .val (.int p3), .val (.int p4), .val (.int p5), .val (.int p6), .val (.ref b1), .val (.int nn), .val (.ref b4), .val (.ref b11), .val (.long ((((0 : Int64) + (own_glt (own_sel c1 q0 q1) r1 (own_sel c1 u0 u1))) + (own_glt (own_sel c2 q0 q1) r2 (own_sel c2 u0 u1))) + (own_glt (own_sel c3 q0 q1) r3 (own_sel c3 u0 u1)))), .second] [(.ref b1), (.ref b11), (.long ((((0 : Int64) + (own_glt (own_sel c1 q0 q1) r1 (own_sel c1 u0 u1))) + (own_glt (own_sel c2 q0 q1) r2 (own_sel c2 u0 u1))) + (own_glt (own_sel c3 q0 q1) r3 (own_sel c3 u0 u1))))])) _
    refine XS.aload X15.here hx rfl (hb hby at_187) rfl rfl ?_
    show Steps p.tables e below (T15.setTop (mkF m 189 #[.val (.int p1), .val (.int p2), .val (.int p3), .val (.int p4), .val (.int p5), .val (.int p6), .val (.ref b1), .val (.int nn), .val (.ref b4), .val (.ref b11), .val (.long ((((0 : Int64) + (own_glt (own_sel c1 q0 q1) r1 (own_sel c1 u0 u1))) + (own_glt (own_sel c2 q0 q1) r2 (own_sel c2 u0 u1))) + (own_glt (own_sel c3 q0 q1) r3 (own_sel c3 u0 u1)))), .second] [(.ref b4), (.ref b1), (.ref b11), (.long ((((0 : Int64) + (own_glt (own_sel c1 q0 q1) r1 (own_sel c1 u0 u1))) + (own_glt (own_sel c2 q0 q1) r2 (own_sel c2 u0 u1))) + (own_glt (own_sel c3 q0 q1) r3 (own_sel c3 u0 u1))))])) _
    refine XS.iload X15.here hx rfl (hb hby at_189) rfl ?_
    show Steps p.tables e below (T15.setTop (mkF m 191 #[.val (.int p1), .val (.int p2), .val (.int p3), .val (.int p4), .val (.int p5), .val (.int p6), .val (.ref b1), .val (.int nn), .val (.ref b4), .val (.ref b11), .val (.long ((((0 : Int64) + (own_glt (own_sel c1 q0 q1) r1 (own_sel c1 u0 u1))) + (own_glt (own_sel c2 q0 q1) r2 (own_sel c2 u0 u1))) + (own_glt (own_sel c3 q0 q1) r3 (own_sel c3 u0 u1)))), .second] [(.int nn), (.ref b4), (.ref b1), (.ref b11), (.long ((((0 : Int64) + (own_glt (own_sel c1 q0 q1) r1 (own_sel c1 u0 u1))) + (own_glt (own_sel c2 q0 q1) r2 (own_sel c2 u0 u1))) + (own_glt (own_sel c3 q0 q1) r3 (own_sel c3 u0 u1))))])) _
    refine XS.iconst X15.here hx rfl (hb hby at_191) ?_
    show Steps p.tables e below (T15.setTop (mkF m 192 #[.val (.int p1), .val (.int p2), .val (.int p3), .val (.int p4), .val (.int p5), .val (.int p6), .val (.ref b1), .val (.int nn), .val (.ref b4), .val (.ref b11), .val (.long ((((0 : Int64) + (own_glt (own_sel c1 q0 q1) r1 (own_sel c1 u0 u1))) + (own_glt (own_sel c2 q0 q1) r2 (own_sel c2 u0 u1))) + (own_glt (own_sel c3 q0 q1) r3 (own_sel c3 u0 u1)))), .second] [(.int (3 : Int32)), (.int nn), (.ref b4), (.ref b1), (.ref b11), (.long ((((0 : Int64) + (own_glt (own_sel c1 q0 q1) r1 (own_sel c1 u0 u1))) + (own_glt (own_sel c2 q0 q1) r2 (own_sel c2 u0 u1))) + (own_glt (own_sel c3 q0 q1) r3 (own_sel c3 u0 u1))))])) _
    refine XS.icmpYes X15.here hx rfl (pc0 := 192) (pc' := 199) rfl (hb hby at_192) rfl (flt (hn3 : ¬ ((3 : Int32) < nn))).2.2.2 (by decide) (by decide) ?_
    show Steps p.tables e below (T15.setTop (mkF m 199 #[.val (.int p1), .val (.int p2), .val (.int p3), .val (.int p4), .val (.int p5), .val (.int p6), .val (.ref b1), .val (.int nn), .val (.ref b4), .val (.ref b11), .val (.long ((((0 : Int64) + (own_glt (own_sel c1 q0 q1) r1 (own_sel c1 u0 u1))) + (own_glt (own_sel c2 q0 q1) r2 (own_sel c2 u0 u1))) + (own_glt (own_sel c3 q0 q1) r3 (own_sel c3 u0 u1)))), .second] [(.ref b4), (.ref b1), (.ref b11), (.long ((((0 : Int64) + (own_glt (own_sel c1 q0 q1) r1 (own_sel c1 u0 u1))) + (own_glt (own_sel c2 q0 q1) r2 (own_sel c2 u0 u1))) + (own_glt (own_sel c3 q0 q1) r3 (own_sel c3 u0 u1))))])) _
    refine XS.iconst X15.here hx rfl (hb hby at_199) ?_
    show Steps p.tables e below (T15.setTop (mkF m 200 #[.val (.int p1), .val (.int p2), .val (.int p3), .val (.int p4), .val (.int p5), .val (.int p6), .val (.ref b1), .val (.int nn), .val (.ref b4), .val (.ref b11), .val (.long ((((0 : Int64) + (own_glt (own_sel c1 q0 q1) r1 (own_sel c1 u0 u1))) + (own_glt (own_sel c2 q0 q1) r2 (own_sel c2 u0 u1))) + (own_glt (own_sel c3 q0 q1) r3 (own_sel c3 u0 u1)))), .second] [(.int (0 : Int32)), (.ref b4), (.ref b1), (.ref b11), (.long ((((0 : Int64) + (own_glt (own_sel c1 q0 q1) r1 (own_sel c1 u0 u1))) + (own_glt (own_sel c2 q0 q1) r2 (own_sel c2 u0 u1))) + (own_glt (own_sel c3 q0 q1) r3 (own_sel c3 u0 u1))))])) _
    refine XS.iloadN X15.here hx rfl (hb hby at_200) rfl ?_
    show Steps p.tables e below (T15.setTop (mkF m 201 #[.val (.int p1), .val (.int p2), .val (.int p3), .val (.int p4), .val (.int p5), .val (.int p6), .val (.ref b1), .val (.int nn), .val (.ref b4), .val (.ref b11), .val (.long ((((0 : Int64) + (own_glt (own_sel c1 q0 q1) r1 (own_sel c1 u0 u1))) + (own_glt (own_sel c2 q0 q1) r2 (own_sel c2 u0 u1))) + (own_glt (own_sel c3 q0 q1) r3 (own_sel c3 u0 u1)))), .second] [(.int p1), (.int (0 : Int32)), (.ref b4), (.ref b1), (.ref b11), (.long ((((0 : Int64) + (own_glt (own_sel c1 q0 q1) r1 (own_sel c1 u0 u1))) + (own_glt (own_sel c2 q0 q1) r2 (own_sel c2 u0 u1))) + (own_glt (own_sel c3 q0 q1) r3 (own_sel c3 u0 u1))))])) _
    refine XS.bipush X15.here hx rfl (hb hby at_201) ?_
    show Steps p.tables e below (T15.setTop (mkF m 203 #[.val (.int p1), .val (.int p2), .val (.int p3), .val (.int p4), .val (.int p5), .val (.int p6), .val (.ref b1), .val (.int nn), .val (.ref b4), .val (.ref b11), .val (.long ((((0 : Int64) + (own_glt (own_sel c1 q0 q1) r1 (own_sel c1 u0 u1))) + (own_glt (own_sel c2 q0 q1) r2 (own_sel c2 u0 u1))) + (own_glt (own_sel c3 q0 q1) r3 (own_sel c3 u0 u1)))), .second] [(.int (15 : Int32)), (.int p1), (.int (0 : Int32)), (.ref b4), (.ref b1), (.ref b11), (.long ((((0 : Int64) + (own_glt (own_sel c1 q0 q1) r1 (own_sel c1 u0 u1))) + (own_glt (own_sel c2 q0 q1) r2 (own_sel c2 u0 u1))) + (own_glt (own_sel c3 q0 q1) r3 (own_sel c3 u0 u1))))])) _
    refine XS.iushr X15.here hx rfl (hb hby at_203) rfl ?_
    show Steps p.tables e below (T15.setTop (mkF m 204 #[.val (.int p1), .val (.int p2), .val (.int p3), .val (.int p4), .val (.int p5), .val (.int p6), .val (.ref b1), .val (.int nn), .val (.ref b4), .val (.ref b11), .val (.long ((((0 : Int64) + (own_glt (own_sel c1 q0 q1) r1 (own_sel c1 u0 u1))) + (own_glt (own_sel c2 q0 q1) r2 (own_sel c2 u0 u1))) + (own_glt (own_sel c3 q0 q1) r3 (own_sel c3 u0 u1)))), .second] [(.int ((p1.toUInt32 >>> ((15 : Int32) &&& 31).toUInt32).toInt32)), (.int (0 : Int32)), (.ref b4), (.ref b1), (.ref b11), (.long ((((0 : Int64) + (own_glt (own_sel c1 q0 q1) r1 (own_sel c1 u0 u1))) + (own_glt (own_sel c2 q0 q1) r2 (own_sel c2 u0 u1))) + (own_glt (own_sel c3 q0 q1) r3 (own_sel c3 u0 u1))))])) _
    refine XS.iconst X15.here hx rfl (hb hby at_204) ?_
    show Steps p.tables e below (T15.setTop (mkF m 205 #[.val (.int p1), .val (.int p2), .val (.int p3), .val (.int p4), .val (.int p5), .val (.int p6), .val (.ref b1), .val (.int nn), .val (.ref b4), .val (.ref b11), .val (.long ((((0 : Int64) + (own_glt (own_sel c1 q0 q1) r1 (own_sel c1 u0 u1))) + (own_glt (own_sel c2 q0 q1) r2 (own_sel c2 u0 u1))) + (own_glt (own_sel c3 q0 q1) r3 (own_sel c3 u0 u1)))), .second] [(.int (1 : Int32)), (.int ((p1.toUInt32 >>> ((15 : Int32) &&& 31).toUInt32).toInt32)), (.int (0 : Int32)), (.ref b4), (.ref b1), (.ref b11), (.long ((((0 : Int64) + (own_glt (own_sel c1 q0 q1) r1 (own_sel c1 u0 u1))) + (own_glt (own_sel c2 q0 q1) r2 (own_sel c2 u0 u1))) + (own_glt (own_sel c3 q0 q1) r3 (own_sel c3 u0 u1))))])) _
    refine XS.iand X15.here hx rfl (hb hby at_205) rfl ?_
    show Steps p.tables e below (T15.setTop (mkF m 206 #[.val (.int p1), .val (.int p2), .val (.int p3), .val (.int p4), .val (.int p5), .val (.int p6), .val (.ref b1), .val (.int nn), .val (.ref b4), .val (.ref b11), .val (.long ((((0 : Int64) + (own_glt (own_sel c1 q0 q1) r1 (own_sel c1 u0 u1))) + (own_glt (own_sel c2 q0 q1) r2 (own_sel c2 u0 u1))) + (own_glt (own_sel c3 q0 q1) r3 (own_sel c3 u0 u1)))), .second] [(.int (((p1.toUInt32 >>> ((15 : Int32) &&& 31).toUInt32).toInt32) &&& (1 : Int32))), (.int (0 : Int32)), (.ref b4), (.ref b1), (.ref b11), (.long ((((0 : Int64) + (own_glt (own_sel c1 q0 q1) r1 (own_sel c1 u0 u1))) + (own_glt (own_sel c2 q0 q1) r2 (own_sel c2 u0 u1))) + (own_glt (own_sel c3 q0 q1) r3 (own_sel c3 u0 u1))))])) _
    refine castTop (g' := (mkF m 206 #[.val (.int p1), .val (.int p2), .val (.int p3), .val (.int p4), .val (.int p5), .val (.int p6), .val (.ref b1), .val (.int nn), .val (.ref b4), .val (.ref b11), .val (.long ((((0 : Int64) + (own_glt (own_sel c1 q0 q1) r1 (own_sel c1 u0 u1))) + (own_glt (own_sel c2 q0 q1) r2 (own_sel c2 u0 u1))) + (own_glt (own_sel c3 q0 q1) r3 (own_sel c3 u0 u1)))), .second] [(.int c4), (.int (0 : Int32)), (.ref b4), (.ref b1), (.ref b11), (.long ((((0 : Int64) + (own_glt (own_sel c1 q0 q1) r1 (own_sel c1 u0 u1))) + (own_glt (own_sel c2 q0 q1) r2 (own_sel c2 u0 u1))) + (own_glt (own_sel c3 q0 q1) r3 (own_sel c3 u0 u1))))])) (by rw [hc4]) ?_
    show Steps p.tables e below (T15.setTop (mkF m 206 #[.val (.int p1), .val (.int p2), .val (.int p3), .val (.int p4), .val (.int p5), .val (.int p6), .val (.ref b1), .val (.int nn), .val (.ref b4), .val (.ref b11), .val (.long ((((0 : Int64) + (own_glt (own_sel c1 q0 q1) r1 (own_sel c1 u0 u1))) + (own_glt (own_sel c2 q0 q1) r2 (own_sel c2 u0 u1))) + (own_glt (own_sel c3 q0 q1) r3 (own_sel c3 u0 u1)))), .second] [(.int c4), (.int (0 : Int32)), (.ref b4), (.ref b1), (.ref b11), (.long ((((0 : Int64) + (own_glt (own_sel c1 q0 q1) r1 (own_sel c1 u0 u1))) + (own_glt (own_sel c2 q0 q1) r2 (own_sel c2 u0 u1))) + (own_glt (own_sel c3 q0 q1) r3 (own_sel c3 u0 u1))))])) _
    refine XS.iload X15.here hx rfl (hb hby at_206) rfl ?_
    show Steps p.tables e below (T15.setTop (mkF m 208 #[.val (.int p1), .val (.int p2), .val (.int p3), .val (.int p4), .val (.int p5), .val (.int p6), .val (.ref b1), .val (.int nn), .val (.ref b4), .val (.ref b11), .val (.long ((((0 : Int64) + (own_glt (own_sel c1 q0 q1) r1 (own_sel c1 u0 u1))) + (own_glt (own_sel c2 q0 q1) r2 (own_sel c2 u0 u1))) + (own_glt (own_sel c3 q0 q1) r3 (own_sel c3 u0 u1)))), .second] [(.int p5), (.int c4), (.int (0 : Int32)), (.ref b4), (.ref b1), (.ref b11), (.long ((((0 : Int64) + (own_glt (own_sel c1 q0 q1) r1 (own_sel c1 u0 u1))) + (own_glt (own_sel c2 q0 q1) r2 (own_sel c2 u0 u1))) + (own_glt (own_sel c3 q0 q1) r3 (own_sel c3 u0 u1))))])) _
    refine st16 _ ?_
    show Steps p.tables e below (T16.setTop (mkF m 211 #[.val (.int p1), .val (.int p2), .val (.int p3), .val (.int p4), .val (.int p5), .val (.int p6), .val (.ref b1), .val (.int nn), .val (.ref b4), .val (.ref b11), .val (.long ((((0 : Int64) + (own_glt (own_sel c1 q0 q1) r1 (own_sel c1 u0 u1))) + (own_glt (own_sel c2 q0 q1) r2 (own_sel c2 u0 u1))) + (own_glt (own_sel c3 q0 q1) r3 (own_sel c3 u0 u1)))), .second] [(.long (0 : Int64)), (.long ((((0 : Int64) + (own_glt (own_sel c1 q0 q1) r1 (own_sel c1 u0 u1))) + (own_glt (own_sel c2 q0 q1) r2 (own_sel c2 u0 u1))) + (own_glt (own_sel c3 q0 q1) r3 (own_sel c3 u0 u1))))])) _
    refine XS.ladd X16.here hx rfl (hb hby at_211) rfl ?_
    show Steps p.tables e below (T16.setTop (mkF m 212 #[.val (.int p1), .val (.int p2), .val (.int p3), .val (.int p4), .val (.int p5), .val (.int p6), .val (.ref b1), .val (.int nn), .val (.ref b4), .val (.ref b11), .val (.long ((((0 : Int64) + (own_glt (own_sel c1 q0 q1) r1 (own_sel c1 u0 u1))) + (own_glt (own_sel c2 q0 q1) r2 (own_sel c2 u0 u1))) + (own_glt (own_sel c3 q0 q1) r3 (own_sel c3 u0 u1)))), .second] [(.long (((((0 : Int64) + (own_glt (own_sel c1 q0 q1) r1 (own_sel c1 u0 u1))) + (own_glt (own_sel c2 q0 q1) r2 (own_sel c2 u0 u1))) + (own_glt (own_sel c3 q0 q1) r3 (own_sel c3 u0 u1))) + (0 : Int64)))])) _
    refine XS.lstore X16.here hx rfl (hb hby at_212) rfl (l' := #[.val (.int p1), .val (.int p2), .val (.int p3), .val (.int p4), .val (.int p5), .val (.int p6), .val (.ref b1), .val (.int nn), .val (.ref b4), .val (.ref b11), .val (.long (((((0 : Int64) + (own_glt (own_sel c1 q0 q1) r1 (own_sel c1 u0 u1))) + (own_glt (own_sel c2 q0 q1) r2 (own_sel c2 u0 u1))) + (own_glt (own_sel c3 q0 q1) r3 (own_sel c3 u0 u1))) + (0 : Int64))), .second]) rfl ?_
    show Steps p.tables e below (T16.setTop (mkF m 214 #[.val (.int p1), .val (.int p2), .val (.int p3), .val (.int p4), .val (.int p5), .val (.int p6), .val (.ref b1), .val (.int nn), .val (.ref b4), .val (.ref b11), .val (.long (((((0 : Int64) + (own_glt (own_sel c1 q0 q1) r1 (own_sel c1 u0 u1))) + (own_glt (own_sel c2 q0 q1) r2 (own_sel c2 u0 u1))) + (own_glt (own_sel c3 q0 q1) r3 (own_sel c3 u0 u1))) + (0 : Int64))), .second] [])) _
    refine XS.aload X16.here hx rfl (hb hby at_214) rfl rfl ?_
    show Steps p.tables e below (T16.setTop (mkF m 216 #[.val (.int p1), .val (.int p2), .val (.int p3), .val (.int p4), .val (.int p5), .val (.int p6), .val (.ref b1), .val (.int nn), .val (.ref b4), .val (.ref b11), .val (.long (((((0 : Int64) + (own_glt (own_sel c1 q0 q1) r1 (own_sel c1 u0 u1))) + (own_glt (own_sel c2 q0 q1) r2 (own_sel c2 u0 u1))) + (own_glt (own_sel c3 q0 q1) r3 (own_sel c3 u0 u1))) + (0 : Int64))), .second] [(.ref b11)])) _
    refine XS.aload X16.here hx rfl (hb hby at_216) rfl rfl ?_
    show Steps p.tables e below (T16.setTop (mkF m 218 #[.val (.int p1), .val (.int p2), .val (.int p3), .val (.int p4), .val (.int p5), .val (.int p6), .val (.ref b1), .val (.int nn), .val (.ref b4), .val (.ref b11), .val (.long (((((0 : Int64) + (own_glt (own_sel c1 q0 q1) r1 (own_sel c1 u0 u1))) + (own_glt (own_sel c2 q0 q1) r2 (own_sel c2 u0 u1))) + (own_glt (own_sel c3 q0 q1) r3 (own_sel c3 u0 u1))) + (0 : Int64))), .second] [(.ref b4), (.ref b11)])) _
    refine st17.trans ?_
    show Steps p.tables e below (T17.setTop (mkF m 221 #[.val (.int p1), .val (.int p2), .val (.int p3), .val (.int p4), .val (.int p5), .val (.int p6), .val (.ref b1), .val (.int nn), .val (.ref b4), .val (.ref b11), .val (.long (((((0 : Int64) + (own_glt (own_sel c1 q0 q1) r1 (own_sel c1 u0 u1))) + (own_glt (own_sel c2 q0 q1) r2 (own_sel c2 u0 u1))) + (own_glt (own_sel c3 q0 q1) r3 (own_sel c3 u0 u1))) + (0 : Int64))), .second] [(.long (own_cb u1 (own_gx1 (own_sel c3 q0 q1) c3 r3 (own_gx1 (own_sel c2 q0 q1) c2 r2 (own_gx1 (own_sel c1 q0 q1) c1 r1 (2147483647 : Int32)))) (own_gf1 (own_sel c3 q0 q1) c3 (q1 + (1 : Int32)) r3 (own_gf1 (own_sel c2 q0 q1) c2 (q1 + (1 : Int32)) r2 (own_gf1 (own_sel c1 q0 q1) c1 (q1 + (1 : Int32)) r1 own_zero))) (own_cb u0 (own_gx0 (own_sel c3 q0 q1) c3 r3 (own_gx0 (own_sel c2 q0 q1) c2 r2 (own_gx0 (own_sel c1 q0 q1) c1 r1 (2147483647 : Int32)))) (own_gf0 (own_sel c3 q0 q1) c3 (q0 + (1 : Int32)) r3 (own_gf0 (own_sel c2 q0 q1) c2 (q0 + (1 : Int32)) r2 (own_gf0 (own_sel c1 q0 q1) c1 (q0 + (1 : Int32)) r1 own_zero))) (0 : Int64))))])) _
    refine XS.lload X17.here hx rfl (hb hby at_221) rfl ?_
    show Steps p.tables e below (T17.setTop (mkF m 223 #[.val (.int p1), .val (.int p2), .val (.int p3), .val (.int p4), .val (.int p5), .val (.int p6), .val (.ref b1), .val (.int nn), .val (.ref b4), .val (.ref b11), .val (.long (((((0 : Int64) + (own_glt (own_sel c1 q0 q1) r1 (own_sel c1 u0 u1))) + (own_glt (own_sel c2 q0 q1) r2 (own_sel c2 u0 u1))) + (own_glt (own_sel c3 q0 q1) r3 (own_sel c3 u0 u1))) + (0 : Int64))), .second] [(.long (((((0 : Int64) + (own_glt (own_sel c1 q0 q1) r1 (own_sel c1 u0 u1))) + (own_glt (own_sel c2 q0 q1) r2 (own_sel c2 u0 u1))) + (own_glt (own_sel c3 q0 q1) r3 (own_sel c3 u0 u1))) + (0 : Int64))), (.long (own_cb u1 (own_gx1 (own_sel c3 q0 q1) c3 r3 (own_gx1 (own_sel c2 q0 q1) c2 r2 (own_gx1 (own_sel c1 q0 q1) c1 r1 (2147483647 : Int32)))) (own_gf1 (own_sel c3 q0 q1) c3 (q1 + (1 : Int32)) r3 (own_gf1 (own_sel c2 q0 q1) c2 (q1 + (1 : Int32)) r2 (own_gf1 (own_sel c1 q0 q1) c1 (q1 + (1 : Int32)) r1 own_zero))) (own_cb u0 (own_gx0 (own_sel c3 q0 q1) c3 r3 (own_gx0 (own_sel c2 q0 q1) c2 r2 (own_gx0 (own_sel c1 q0 q1) c1 r1 (2147483647 : Int32)))) (own_gf0 (own_sel c3 q0 q1) c3 (q0 + (1 : Int32)) r3 (own_gf0 (own_sel c2 q0 q1) c2 (q0 + (1 : Int32)) r2 (own_gf0 (own_sel c1 q0 q1) c1 (q0 + (1 : Int32)) r1 own_zero))) (0 : Int64))))])) _
    refine XS.lcmp X17.here hx rfl (hb hby at_223) rfl ?_
    show Steps p.tables e below (T17.setTop (mkF m 224 #[.val (.int p1), .val (.int p2), .val (.int p3), .val (.int p4), .val (.int p5), .val (.int p6), .val (.ref b1), .val (.int nn), .val (.ref b4), .val (.ref b11), .val (.long (((((0 : Int64) + (own_glt (own_sel c1 q0 q1) r1 (own_sel c1 u0 u1))) + (own_glt (own_sel c2 q0 q1) r2 (own_sel c2 u0 u1))) + (own_glt (own_sel c3 q0 q1) r3 (own_sel c3 u0 u1))) + (0 : Int64))), .second] [(.int (lcmpW (own_cb u1 (own_gx1 (own_sel c3 q0 q1) c3 r3 (own_gx1 (own_sel c2 q0 q1) c2 r2 (own_gx1 (own_sel c1 q0 q1) c1 r1 (2147483647 : Int32)))) (own_gf1 (own_sel c3 q0 q1) c3 (q1 + (1 : Int32)) r3 (own_gf1 (own_sel c2 q0 q1) c2 (q1 + (1 : Int32)) r2 (own_gf1 (own_sel c1 q0 q1) c1 (q1 + (1 : Int32)) r1 own_zero))) (own_cb u0 (own_gx0 (own_sel c3 q0 q1) c3 r3 (own_gx0 (own_sel c2 q0 q1) c2 r2 (own_gx0 (own_sel c1 q0 q1) c1 r1 (2147483647 : Int32)))) (own_gf0 (own_sel c3 q0 q1) c3 (q0 + (1 : Int32)) r3 (own_gf0 (own_sel c2 q0 q1) c2 (q0 + (1 : Int32)) r2 (own_gf0 (own_sel c1 q0 q1) c1 (q0 + (1 : Int32)) r1 own_zero))) (0 : Int64))) (((((0 : Int64) + (own_glt (own_sel c1 q0 q1) r1 (own_sel c1 u0 u1))) + (own_glt (own_sel c2 q0 q1) r2 (own_sel c2 u0 u1))) + (own_glt (own_sel c3 q0 q1) r3 (own_sel c3 u0 u1))) + (0 : Int64))))])) _
    refine castTop (g' := (mkF m 224 #[.val (.int p1), .val (.int p2), .val (.int p3), .val (.int p4), .val (.int p5), .val (.int p6), .val (.ref b1), .val (.int nn), .val (.ref b4), .val (.ref b11), .val (.long (((((0 : Int64) + (own_glt (own_sel c1 q0 q1) r1 (own_sel c1 u0 u1))) + (own_glt (own_sel c2 q0 q1) r2 (own_sel c2 u0 u1))) + (own_glt (own_sel c3 q0 q1) r3 (own_sel c3 u0 u1))) + (0 : Int64))), .second] [(.int (0 : Int32))])) (by rw [hfin]) ?_
    show Steps p.tables e below (T17.setTop (mkF m 224 #[.val (.int p1), .val (.int p2), .val (.int p3), .val (.int p4), .val (.int p5), .val (.int p6), .val (.ref b1), .val (.int nn), .val (.ref b4), .val (.ref b11), .val (.long (((((0 : Int64) + (own_glt (own_sel c1 q0 q1) r1 (own_sel c1 u0 u1))) + (own_glt (own_sel c2 q0 q1) r2 (own_sel c2 u0 u1))) + (own_glt (own_sel c3 q0 q1) r3 (own_sel c3 u0 u1))) + (0 : Int64))), .second] [(.int (0 : Int32))])) _
    refine XS.ifNo X17.here hx rfl (hb hby at_224) rfl (by decide) ?_
    show Steps p.tables e below (T17.setTop (mkF m 227 #[.val (.int p1), .val (.int p2), .val (.int p3), .val (.int p4), .val (.int p5), .val (.int p6), .val (.ref b1), .val (.int nn), .val (.ref b4), .val (.ref b11), .val (.long (((((0 : Int64) + (own_glt (own_sel c1 q0 q1) r1 (own_sel c1 u0 u1))) + (own_glt (own_sel c2 q0 q1) r2 (own_sel c2 u0 u1))) + (own_glt (own_sel c3 q0 q1) r3 (own_sel c3 u0 u1))) + (0 : Int64))), .second] [])) _
    refine XS.iconst X17.here hx rfl (hb hby at_227) ?_
    show Steps p.tables e below (T17.setTop (mkF m 228 #[.val (.int p1), .val (.int p2), .val (.int p3), .val (.int p4), .val (.int p5), .val (.int p6), .val (.ref b1), .val (.int nn), .val (.ref b4), .val (.ref b11), .val (.long (((((0 : Int64) + (own_glt (own_sel c1 q0 q1) r1 (own_sel c1 u0 u1))) + (own_glt (own_sel c2 q0 q1) r2 (own_sel c2 u0 u1))) + (own_glt (own_sel c3 q0 q1) r3 (own_sel c3 u0 u1))) + (0 : Int64))), .second] [(.int (1 : Int32))])) _
    refine XS.goto X17.here hx rfl (pc0 := 228) (pc' := 232) rfl (hb hby at_228) (by decide) (by decide) ?_
    show Steps p.tables e below (T17.setTop (mkF m 232 #[.val (.int p1), .val (.int p2), .val (.int p3), .val (.int p4), .val (.int p5), .val (.int p6), .val (.ref b1), .val (.int nn), .val (.ref b4), .val (.ref b11), .val (.long (((((0 : Int64) + (own_glt (own_sel c1 q0 q1) r1 (own_sel c1 u0 u1))) + (own_glt (own_sel c2 q0 q1) r2 (own_sel c2 u0 u1))) + (own_glt (own_sel c3 q0 q1) r3 (own_sel c3 u0 u1))) + (0 : Int64))), .second] [(.int (1 : Int32))])) _
    exact retN X17 hx (t := .boolean) Bd.returns (by simp) (hb hby at_232) hr
  · exact ⟨rfl, N17⟩
set_option maxRecDepth 65536 in
set_option maxHeartbeats 40000000 in
theorem own_law_4 (l : Launch) (Z : State) (a0 : Array Value) (hw : ∀ d ∈ tables_1, d.before a0 Z = true) (ws : List Jvm.Cond) (h0 : Heap) (n0 : Nat) (O0 : Old Z n0 h0) (p1 : Int32) (p2 : Int32) (p3 : Int32) (p4 : Int32) (p5 : Int32) (p6 : Int32) (q0 : Int32) (q1 : Int32) (nn : Int32) (c1 : Int32) (c2 : Int32) (c3 : Int32) (c4 : Int32) (r1 : Int32) (r2 : Int32) (r3 : Int32) (r4 : Int32) (u0 : Int32) (u1 : Int32) (hq0 : (p1 &&& (15 : Int32)) = q0) (hq1 : (((p1.toUInt32 >>> ((4 : Int32) &&& 31).toUInt32).toInt32) &&& (15 : Int32)) = q1) (hnn : (((p1.toUInt32 >>> ((8 : Int32) &&& 31).toUInt32).toInt32) &&& (7 : Int32)) = nn) (hn0 : (0 : Int32) < nn) (hn1 : (1 : Int32) < nn) (hn2 : (2 : Int32) < nn) (hn3 : (3 : Int32) < nn) (hc1 : (((p1.toUInt32 >>> ((12 : Int32) &&& 31).toUInt32).toInt32) &&& (1 : Int32)) = c1) (hc2 : (((p1.toUInt32 >>> ((13 : Int32) &&& 31).toUInt32).toInt32) &&& (1 : Int32)) = c2) (hc3 : (((p1.toUInt32 >>> ((14 : Int32) &&& 31).toUInt32).toInt32) &&& (1 : Int32)) = c3) (hc4 : (((p1.toUInt32 >>> ((15 : Int32) &&& 31).toUInt32).toInt32) &&& (1 : Int32)) = c4) (hb0 : ((p6 &&& (65535 : Int32)) % (q0 + (1 : Int32))) = u0) (hb1 : ((((p6.toUInt32 >>> ((16 : Int32) &&& 31).toUInt32).toInt32) &&& (65535 : Int32)) % (q1 + (1 : Int32))) = u1) (nn0 : ¬ ((q0 + (1 : Int32)) < (0 : Int32))) (mz0 : ¬ ((q0 + (1 : Int32)) = (0 : Int32))) (cp0 : (q0 + (1 : Int32)).toNatClampNeg ≤ 17) (dk0 : own_dnOk (q0 + (1 : Int32)) 6 u0 = true) (nn1 : ¬ ((q1 + (1 : Int32)) < (0 : Int32))) (mz1 : ¬ ((q1 + (1 : Int32)) = (0 : Int32))) (cp1 : (q1 + (1 : Int32)).toNatClampNeg ≤ 17) (dk1 : own_dnOk (q1 + (1 : Int32)) 6 u1 = true) (h011 : own_01 c1) (hr1 : (own_sel c1 q0 q1) = (0 : Int32) ∨ ((p2 &&& (2147483647 : Int32)) % (own_sel c1 q0 q1)) = r1) (uk1 : (own_sel c1 q0 q1) = (0 : Int32) ∨ own_upOk (own_sel c1 (q0 + (1 : Int32)) (q1 + (1 : Int32))) 6 (r1 + (1 : Int32)) = true) (h012 : own_01 c2) (hr2 : (own_sel c2 q0 q1) = (0 : Int32) ∨ ((p3 &&& (2147483647 : Int32)) % (own_sel c2 q0 q1)) = r2) (uk2 : (own_sel c2 q0 q1) = (0 : Int32) ∨ own_upOk (own_sel c2 (q0 + (1 : Int32)) (q1 + (1 : Int32))) 6 (r2 + (1 : Int32)) = true) (h013 : own_01 c3) (hr3 : (own_sel c3 q0 q1) = (0 : Int32) ∨ ((p4 &&& (2147483647 : Int32)) % (own_sel c3 q0 q1)) = r3) (uk3 : (own_sel c3 q0 q1) = (0 : Int32) ∨ own_upOk (own_sel c3 (q0 + (1 : Int32)) (q1 + (1 : Int32))) 6 (r3 + (1 : Int32)) = true) (h014 : own_01 c4) (hr4 : (own_sel c4 q0 q1) = (0 : Int32) ∨ ((p5 &&& (2147483647 : Int32)) % (own_sel c4 q0 q1)) = r4) (uk4 : (own_sel c4 q0 q1) = (0 : Int32) ∨ own_upOk (own_sel c4 (q0 + (1 : Int32)) (q1 + (1 : Int32))) 6 (r4 + (1 : Int32)) = true) (hfin : (lcmpW (own_cb u1 (own_gx1 (own_sel c4 q0 q1) c4 r4 (own_gx1 (own_sel c3 q0 q1) c3 r3 (own_gx1 (own_sel c2 q0 q1) c2 r2 (own_gx1 (own_sel c1 q0 q1) c1 r1 (2147483647 : Int32))))) (own_gf1 (own_sel c4 q0 q1) c4 (q1 + (1 : Int32)) r4 (own_gf1 (own_sel c3 q0 q1) c3 (q1 + (1 : Int32)) r3 (own_gf1 (own_sel c2 q0 q1) c2 (q1 + (1 : Int32)) r2 (own_gf1 (own_sel c1 q0 q1) c1 (q1 + (1 : Int32)) r1 own_zero)))) (own_cb u0 (own_gx0 (own_sel c4 q0 q1) c4 r4 (own_gx0 (own_sel c3 q0 q1) c3 r3 (own_gx0 (own_sel c2 q0 q1) c2 r2 (own_gx0 (own_sel c1 q0 q1) c1 r1 (2147483647 : Int32))))) (own_gf0 (own_sel c4 q0 q1) c4 (q0 + (1 : Int32)) r4 (own_gf0 (own_sel c3 q0 q1) c3 (q0 + (1 : Int32)) r3 (own_gf0 (own_sel c2 q0 q1) c2 (q0 + (1 : Int32)) r2 (own_gf0 (own_sel c1 q0 q1) c1 (q0 + (1 : Int32)) r1 own_zero)))) (0 : Int64))) (((((0 : Int64) + (own_glt (own_sel c1 q0 q1) r1 (own_sel c1 u0 u1))) + (own_glt (own_sel c2 q0 q1) r2 (own_sel c2 u0 u1))) + (own_glt (own_sel c3 q0 q1) r3 (own_sel c3 u0 u1))) + (own_glt (own_sel c4 q0 q1) r4 (own_sel c4 u0 u1)))) = (0 : Int32)) :
    MetFree l x (head1 (Jvm.Cond.code x code maxLocals ret :: ws) room_1) (fun a U => a = #[(.int p1), (.int p2), (.int p3), (.int p4), (.int p5), (.int p6)] ∧ Z.Warmed39 U.vm ∧ U.heap = h0) (fun _ _ _ _ _ => True) (fun _ U o U' => ∃ v L, o = .returned v ∧ (v = some (.int 1) ∧ Fr n0 L) ∧ FrameEnd U o U' L room_1.cells room_1.slots) := by
  refine MetFree.of_bodySF (plainFor_of_name own_pn_4) hisR ?_
  intro p e s m args below meth c s₁ Bd hml0 hP hK
  obtain ⟨rfl, hZ, hh⟩ := hP
  have hx := Bd.exec
  have hby := Bd.bytes
  have hml : c.maxLocals = 12 := hml0
  have hown : s.vm.findClass "com/example/sober_broadcast/soberbroadcast/cli/PositionCountsCountBelowPinLaw" = some m.cls := findClass_of_methodNamed Bd.named
  have hnm := (name_of_methodNamed Bd.named Bd.method).1
  have X0 : Stand p l e room_1 s m #[(.int p1), (.int p2), (.int p3), (.int p4), (.int p5), (.int p6)] below meth c s₁ [] 0 0 := Stand.of_body Bd
  have e0 : s₁.heap = h0 := by rw [← hh, Bd.state]; rfl
  have N0 := Fr.nil n0
  have pre0 : ∀ t, Steps p.tables e below (s₁.setTop (mkF m 0 #[.val (.int p1), .val (.int p2), .val (.int p3), .val (.int p4), .val (.int p5), .val (.int p6), .unset, .unset, .unset, .unset, .unset, .unset] [])) t → Steps p.tables e below (s₁.setTop (entryFrame m #[(.int p1), (.int p2), (.int p3), (.int p4), (.int p5), (.int p6)] maxLocals)) t := fun t k => castTop (own_ef_0_IIIIII m p1 p2 p3 p4 p5 p6) k
  obtain ⟨T1, h1, k1, X1, e1, E1, A1, Ea1, st1⟩ := newPE X0 hx hZ (hw _ (List.mem_of_getElem? (i := 0) rfl)) e0 (g := (mkF m 1 #[.val (.int p1), .val (.int p2), .val (.int p3), .val (.int p4), .val (.int p5), .val (.int p6), .unset, .unset, .unset, .unset, .unset, .unset] [(.int (2 : Int32))])) rfl (hb hby at_1) rfl (by decide) (cap := 2) (by decide) (by decide) (by decide) (by decide) (ad := "[I") (by decide)
  obtain ⟨b1, g1⟩ : ∃ z, z = h0.size := ⟨_, rfl⟩
  rw [← g1] at A1 Ea1 st1
  have ge_b1 : n0 ≤ b1 := own_new O0 g1
  have sz_b1 : h0.size ≤ b1 := Nat.le_trans (Keep.refl h0 []).1 (Nat.le_of_eq g1.symm)
  have O1 := O0.ext E1
  have K1 := (Keep.refl h0 []).ext E1
  have V1 : Arv Z h1 b1 k1 .int (2 : Int32) [(.int (0 : Int32)), (.int (0 : Int32))] (.int (0 : Int32)) := (Arv.new A1 (by decide)).pad (pad_rep [] (.int (0 : Int32)) 2)
  obtain ⟨cl2, Ar2, qk2, Sz2, Nn2, Hs2, Gs2⟩ := id (V1)
  have hin2 : ¬ ((0 : Int32) < 0 ∨ cl2.slots.size ≤ ((0 : Int32)).toNatClampNeg) := inb_of Sz2 ⟨by decide, by decide⟩
  obtain ⟨T2, h2, X2, e2, W2, st2⟩ := stI X1 hx hZ e1 Ar2 (j := (0 : Int32)) hin2 (g := (mkF m 12 #[.val (.int p1), .val (.int p2), .val (.int p3), .val (.int p4), .val (.int p5), .val (.int p6), .val (.ref b1), .unset, .unset, .unset, .unset, .unset] [(.int q0), (.int (0 : Int32)), (.ref b1)])) rfl rfl (hb hby at_12)
  have V2 := Arv.set Ar2 qk2 Sz2 Nn2 Hs2 Gs2 rfl W2 0 rfl (Nat.le_of_ble_eq_true rfl)
  have f2_E_b1 := Ea1.wr W2
  have O2 := O1.wr W2 ge_b1
  have K2 := K1.wr W2 (Or.inr sz_b1)
  have N2 := Fr.snoc X2 N0 ge_b1
  obtain ⟨cl3, Ar3, qk3, Sz3, Nn3, Hs3, Gs3⟩ := id (V2)
  have hin3 : ¬ ((1 : Int32) < 0 ∨ cl3.slots.size ≤ ((1 : Int32)).toNatClampNeg) := inb_of Sz3 ⟨by decide, by decide⟩
  obtain ⟨T3, h3, X3, e3, W3, st3⟩ := stI X2 hx hZ e2 Ar3 (j := (1 : Int32)) hin3 (g := (mkF m 22 #[.val (.int p1), .val (.int p2), .val (.int p3), .val (.int p4), .val (.int p5), .val (.int p6), .val (.ref b1), .unset, .unset, .unset, .unset, .unset] [(.int q1), (.int (1 : Int32)), (.ref b1)])) rfl rfl (hb hby at_22)
  have V3 := Arv.set Ar3 qk3 Sz3 Nn3 Hs3 Gs3 rfl W3 1 rfl (Nat.le_of_ble_eq_true rfl)
  have f3_E_b1 := f2_E_b1.wr W3
  have O3 := O2.wr W3 ge_b1
  have K3 := K2.wr W3 (Or.inr sz_b1)
  have N3 := Fr.snoc X3 N2 ge_b1
  obtain ⟨T4, h4, k4, X4, e4, E4, A4, Ea4, st4⟩ := newPE X3 hx hZ (hw _ (List.mem_of_getElem? (i := 0) rfl)) e3 (g := (mkF m 33 #[.val (.int p1), .val (.int p2), .val (.int p3), .val (.int p4), .val (.int p5), .val (.int p6), .val (.ref b1), .val (.int nn), .unset, .unset, .unset, .unset] [(.int (2 : Int32))])) rfl (hb hby at_33) rfl (by decide) (cap := 2) (by decide) (by decide) (by decide) (by decide) (ad := "[I") (by decide)
  obtain ⟨b4, g4⟩ : ∃ z, z = h3.size := ⟨_, rfl⟩
  rw [← g4] at A4 Ea4 st4
  have ne_b1_b4 : b1 ≠ b4 := Nat.ne_of_lt (Nat.lt_of_lt_of_le f3_E_b1.lt (Nat.le_of_eq g4.symm))
  have ge_b4 : n0 ≤ b4 := own_new O3 g4
  have sz_b4 : h0.size ≤ b4 := Nat.le_trans K3.1 (Nat.le_of_eq g4.symm)
  have f4_E_b1 := f3_E_b1.ext E4
  have f4_V_b1 := V3.ext E4
  have O4 := O3.ext E4
  have K4 := K3.ext E4
  have V4 : Arv Z h4 b4 k4 .int (2 : Int32) [(.int (0 : Int32)), (.int (0 : Int32))] (.int (0 : Int32)) := (Arv.new A4 (by decide)).pad (pad_rep [] (.int (0 : Int32)) 2)
  obtain ⟨cl5, Ar5, qk5, Sz5, Nn5, Hs5, Gs5⟩ := id (f4_V_b1)
  have hin6 : ¬ ((0 : Int32) < 0 ∨ cl5.slots.size ≤ ((0 : Int32)).toNatClampNeg) := inb_of Sz5 ⟨by decide, by decide⟩
  have hat6 : cl5.slots[((0 : Int32)).toNatClampNeg]? = some (.int q0) := Hs5.at hin6 rfl
  obtain ⟨cl7, Ar7, qk7, Sz7, Nn7, Hs7, Gs7⟩ := id (V4)
  have hin7 : ¬ ((0 : Int32) < 0 ∨ cl7.slots.size ≤ ((0 : Int32)).toNatClampNeg) := inb_of Sz7 ⟨by decide, by decide⟩
  obtain ⟨T7, h7, X7, e7, W7, st7⟩ := stI X4 hx hZ e4 Ar7 (j := (0 : Int32)) hin7 (g := (mkF m 52 #[.val (.int p1), .val (.int p2), .val (.int p3), .val (.int p4), .val (.int p5), .val (.int p6), .val (.ref b1), .val (.int nn), .val (.ref b4), .unset, .unset, .unset] [(.int u0), (.int (0 : Int32)), (.ref b4)])) rfl rfl (hb hby at_52)
  have V7 := Arv.set Ar7 qk7 Sz7 Nn7 Hs7 Gs7 rfl W7 0 rfl (Nat.le_of_ble_eq_true rfl)
  have f7_E_b1 := f4_E_b1.wr W7
  have f7_V_b1 := f4_V_b1.other W7 ne_b1_b4
  have f7_E_b4 := Ea4.wr W7
  have O7 := O4.wr W7 ge_b4
  have K7 := K4.wr W7 (Or.inr sz_b4)
  have N7 := Fr.snoc X7 N3 ge_b4
  obtain ⟨cl8, Ar8, qk8, Sz8, Nn8, Hs8, Gs8⟩ := id (f7_V_b1)
  have hin9 : ¬ ((1 : Int32) < 0 ∨ cl8.slots.size ≤ ((1 : Int32)).toNatClampNeg) := inb_of Sz8 ⟨by decide, by decide⟩
  have hat9 : cl8.slots[((1 : Int32)).toNatClampNeg]? = some (.int q1) := Hs8.at hin9 rfl
  obtain ⟨cl10, Ar10, qk10, Sz10, Nn10, Hs10, Gs10⟩ := id (V7)
  have hin10 : ¬ ((1 : Int32) < 0 ∨ cl10.slots.size ≤ ((1 : Int32)).toNatClampNeg) := inb_of Sz10 ⟨by decide, by decide⟩
  obtain ⟨T10, h10, X10, e10, W10, st10⟩ := stI X7 hx hZ e7 Ar10 (j := (1 : Int32)) hin10 (g := (mkF m 71 #[.val (.int p1), .val (.int p2), .val (.int p3), .val (.int p4), .val (.int p5), .val (.int p6), .val (.ref b1), .val (.int nn), .val (.ref b4), .unset, .unset, .unset] [(.int u1), (.int (1 : Int32)), (.ref b4)])) rfl rfl (hb hby at_71)
  have V10 := Arv.set Ar10 qk10 Sz10 Nn10 Hs10 Gs10 rfl W10 1 rfl (Nat.le_of_ble_eq_true rfl)
  have f10_E_b1 := f7_E_b1.wr W10
  have f10_V_b1 := f7_V_b1.other W10 ne_b1_b4
  have f10_E_b4 := f7_E_b4.wr W10
  have O10 := O7.wr W10 ge_b4
  have K10 := K7.wr W10 (Or.inr sz_b4)
  have N10 := Fr.snoc X10 N7 ge_b4
  obtain ⟨T11, h11, X11, e11, E11, A11, D11, -, st11⟩ := newO X10 hx hZ hown (hw _ (List.mem_of_getElem? (i := 2) rfl)) (hw _ (List.mem_of_getElem? (i := 3) rfl)) (hw _ (List.mem_of_getElem? (i := 4) rfl)) e10 (g := (mkF m 72 #[.val (.int p1), .val (.int p2), .val (.int p3), .val (.int p4), .val (.int p5), .val (.int p6), .val (.ref b1), .val (.int nn), .val (.ref b4), .unset, .unset, .unset] [])) rfl (hb hby at_72) (by decide) (by decide)
  obtain ⟨b11, g11⟩ : ∃ z, z = h10.size := ⟨_, rfl⟩
  rw [← g11] at A11 D11 st11
  have ne_b1_b11 : b1 ≠ b11 := Nat.ne_of_lt (Nat.lt_of_lt_of_le f10_E_b1.lt (Nat.le_of_eq g11.symm))
  have ne_b4_b11 : b4 ≠ b11 := Nat.ne_of_lt (Nat.lt_of_lt_of_le f10_E_b4.lt (Nat.le_of_eq g11.symm))
  have ge_b11 : n0 ≤ b11 := own_new O10 g11
  have sz_b11 : h0.size ≤ b11 := Nat.le_trans K10.1 (Nat.le_of_eq g11.symm)
  have f11_E_b1 := f10_E_b1.ext E11
  have f11_V_b1 := f10_V_b1.ext E11
  have f11_E_b4 := f10_E_b4.ext E11
  have f11_V_b4 := V10.ext E11
  have O11 := O10.ext E11
  have K11 := K10.ext E11
  have F11_trees : Fld Z h11 b11 "com/example/sober_broadcast/soberbroadcast/cli/PositionCounts" "trees" "[[I" .null := D11 (Or.inr (hw _ (List.mem_of_getElem? (i := 14) rfl))) (ty := (.array (.array .int))) (by decide)
  have F11_lowest : Fld Z h11 b11 "com/example/sober_broadcast/soberbroadcast/cli/PositionCounts" "lowest" "[I" .null := D11 (Or.inr (hw _ (List.mem_of_getElem? (i := 17) rfl))) (ty := (.array .int)) (by decide)
  obtain ⟨_, _, ⟨T12, L12, k12, n12⟩, -, X12, ⟨Lc12, hQ12, l12, y12, z12⟩, st12⟩ := X11.specialBack hx (y := (⟨"com/example/sober_broadcast/soberbroadcast/cli/PositionCounts", "<init>", "([I)V"⟩ : MethodName)) rfl hown (mvT hZ (hw _ (List.mem_of_getElem? (i := 5) rfl))) (mvT hZ (hw _ (List.mem_of_getElem? (i := 6) rfl))) (mvT hZ (hw _ (List.mem_of_getElem? (i := 7) rfl))) (by decide) (backOf (W := 1) (own_init_0 l Z a0 hw [] h11 n0 O11 b11 b1 k1 q0 q1 nn0 mz0 cp0 nn1 mz1 cp1 (Ne.symm ne_b1_b11) ge_b11 ge_b1 A11 F11_trees F11_lowest f11_E_b1 f11_V_b1) hZ (hw _ (List.mem_of_getElem? (i := 7) rfl)) (hw _ (List.mem_of_getElem? (i := 4) rfl)) (by decide) (by decide)) (g := (mkF m 78 #[.val (.int p1), .val (.int p2), .val (.int p3), .val (.int p4), .val (.int p5), .val (.int p6), .val (.ref b1), .val (.int nn), .val (.ref b4), .unset, .unset, .unset] [(.ref b1), (.ref b11), (.ref b11)])) rfl (by rw [hml]; rfl) (Steps.refl _) (a := b11) (argsL := [(.ref b1)]) (rest := [(.ref b11)]) (lenOf own_pd_3 rfl) rfl (by show 2 * 0 + _ ≤ _; exact Nat.le_of_eq rfl) (hb hby at_78) (fun _ _ => ⟨rfl, e11, (by decide : 3 + 4 ≤ _), (by decide : 6 + 38 ≤ _)⟩)
  dsimp only [Pt.U, Pt.locs, Pt.cells, Pt.slots] at X12 l12 y12 z12 st12 hQ12
  subst l12 y12 z12
  obtain ⟨b3_12, b16_12, b8_12, b13_12, k3_12, k16_12, rfl, N12q, Kq12, ge_b3_12, ge_b16_12, ge_b8_12, ge_b13_12, sq_b3_12, sq_b16_12, sq_b8_12, sq_b13_12, ne_b3_12_b16_12, ne_b3_12_b8_12, ne_b3_12_b13_12, ne_b16_12_b8_12, ne_b16_12_b13_12, ne_b8_12_b13_12, q12_E_o1, q12_F_o1_trees, q12_F_o1_lowest, q12_E_b3, q12_E_b8, q12_A_b8, q12_E_b13, q12_A_b13, q12_V_b3, q12_E_b16, q12_V_b16, Ov_b3_12⟩ := hQ12
  have N12 := Fr.app N10 N12q
  have ne_b1_b3_12 : b1 ≠ b3_12 := Nat.ne_of_lt (Nat.lt_of_lt_of_le f11_E_b1.lt sq_b3_12)
  have ne_b11_b3_12 : b11 ≠ b3_12 := Nat.ne_of_lt (Nat.lt_of_lt_of_le A11.lt sq_b3_12)
  have ne_b4_b3_12 : b4 ≠ b3_12 := Nat.ne_of_lt (Nat.lt_of_lt_of_le f11_E_b4.lt sq_b3_12)
  have ne_b1_b16_12 : b1 ≠ b16_12 := Nat.ne_of_lt (Nat.lt_of_lt_of_le f11_E_b1.lt sq_b16_12)
  have ne_b11_b16_12 : b11 ≠ b16_12 := Nat.ne_of_lt (Nat.lt_of_lt_of_le A11.lt sq_b16_12)
  have ne_b4_b16_12 : b4 ≠ b16_12 := Nat.ne_of_lt (Nat.lt_of_lt_of_le f11_E_b4.lt sq_b16_12)
  have ne_b1_b8_12 : b1 ≠ b8_12 := Nat.ne_of_lt (Nat.lt_of_lt_of_le f11_E_b1.lt sq_b8_12)
  have ne_b11_b8_12 : b11 ≠ b8_12 := Nat.ne_of_lt (Nat.lt_of_lt_of_le A11.lt sq_b8_12)
  have ne_b4_b8_12 : b4 ≠ b8_12 := Nat.ne_of_lt (Nat.lt_of_lt_of_le f11_E_b4.lt sq_b8_12)
  have ne_b1_b13_12 : b1 ≠ b13_12 := Nat.ne_of_lt (Nat.lt_of_lt_of_le f11_E_b1.lt sq_b13_12)
  have ne_b11_b13_12 : b11 ≠ b13_12 := Nat.ne_of_lt (Nat.lt_of_lt_of_le A11.lt sq_b13_12)
  have ne_b4_b13_12 : b4 ≠ b13_12 := Nat.ne_of_lt (Nat.lt_of_lt_of_le f11_E_b4.lt sq_b13_12)
  have sz_b3_12 : h0.size ≤ b3_12 := Nat.le_trans K11.1 sq_b3_12
  have sz_b16_12 : h0.size ≤ b16_12 := Nat.le_trans K11.1 sq_b16_12
  have sz_b8_12 : h0.size ≤ b8_12 := Nat.le_trans K11.1 sq_b8_12
  have sz_b13_12 : h0.size ≤ b13_12 := Nat.le_trans K11.1 sq_b13_12
  have f12_E_b1 := f11_E_b1.keep Kq12
  have f12_V_b1 := f11_V_b1.keep Kq12 (ninS ne_b1_b11 nin0)
  have f12_E_b4 := f11_E_b4.keep Kq12
  have f12_V_b4 := f11_V_b4.keep Kq12 (ninS ne_b4_b11 nin0)
  have f12_E_b11 := A11.keep Kq12
  have O12 := O11.keep Kq12 (allS ge_b11 all0)
  have K12 := K11.trans Kq12 (allS (Or.inr sz_b11) all0)
  obtain ⟨_, _, ⟨T13, L13, k13, n13⟩, -, X13, ⟨Lc13, hQ13, l13, y13, z13⟩, st13⟩ := Jvm.LawKit.callS X12 hx (y := (⟨"com/example/sober_broadcast/soberbroadcast/cli/PositionCountsCountBelowPinLaw", "markOne", "(Lcom/example/sober_broadcast/soberbroadcast/cli/PositionCounts;[I[IZII)J"⟩ : MethodName)) hown (mvT hZ (hw _ (List.mem_of_getElem? (i := 23) rfl))) (mvT hZ (hw _ (List.mem_of_getElem? (i := 24) rfl))) (mvT hZ (hw _ (List.mem_of_getElem? (i := 25) rfl))) (mvT hZ (hw _ (List.mem_of_getElem? (i := 26) rfl))) (by decide) (backOf (W := 2) (own_moC l Z a0 hw [] T12.heap n0 O12 b11 b3_12 b16_12 b8_12 b13_12 k3_12 k16_12 (2147483647 : Int32) (2147483647 : Int32) (q0 + (1 : Int32)) (q1 + (1 : Int32)) own_zero own_zero b1 b4 k1 k4 q0 q1 u0 u1 p2 r1 c1 ne_b11_b3_12 ne_b11_b16_12 ne_b11_b8_12 ne_b11_b13_12 ne_b3_12_b16_12 ne_b3_12_b8_12 ne_b3_12_b13_12 ne_b16_12_b8_12 ne_b16_12_b13_12 ne_b8_12_b13_12 ne_b1_b16_12 ne_b1_b8_12 ne_b1_b13_12 ne_b4_b16_12 ne_b4_b8_12 ne_b4_b13_12 ge_b16_12 ge_b8_12 ge_b13_12 h011 hr1 uk1 q12_E_o1 q12_F_o1_trees q12_F_o1_lowest q12_V_b3 q12_V_b16 q12_A_b8 q12_A_b13 f12_V_b1 f12_V_b4) hZ (hw _ (List.mem_of_getElem? (i := 26) rfl)) (hw _ (List.mem_of_getElem? (i := 25) rfl)) (by decide) (by decide)) (g := (mkF m 111 #[.val (.int p1), .val (.int p2), .val (.int p3), .val (.int p4), .val (.int p5), .val (.int p6), .val (.ref b1), .val (.int nn), .val (.ref b4), .val (.ref b11), .val (.long (0 : Int64)), .second] [(.int p2), (.int c1), (.int (1 : Int32)), (.ref b4), (.ref b1), (.ref b11), (.long (0 : Int64))])) rfl (by rw [hml]; rfl) (argsL := [(.ref b11), (.ref b1), (.ref b4), (.int (1 : Int32)), (.int c1), (.int p2)]) (rest := [(.long (0 : Int64))]) (lenOf own_pd_4 rfl) rfl (by show 2 * 0 + _ ≤ _; exact Nat.le_of_eq rfl) (hb hby at_111) (fun _ _ => ⟨rfl, rfl, (by decide : 7 + 0 ≤ _), (by decide : 44 + 0 ≤ _)⟩)
  dsimp only [Pt.U, Pt.locs, Pt.cells, Pt.slots] at X13 l13 y13 z13 st13 hQ13
  subst l13 y13 z13
  obtain ⟨rfl, N13q, Kq13, q13_V_tL, q13_A_t0, q13_A_t1⟩ := hQ13
  have N13 := Fr.app N12 N13q
  have f13_E_b1 := f12_E_b1.keep Kq13
  have f13_V_b1 := f12_V_b1.keep Kq13 (ninS ne_b1_b16_12 (ninS ne_b1_b8_12 (ninS ne_b1_b13_12 nin0)))
  have f13_E_b4 := f12_E_b4.keep Kq13
  have f13_V_b4 := f12_V_b4.keep Kq13 (ninS ne_b4_b16_12 (ninS ne_b4_b8_12 (ninS ne_b4_b13_12 nin0)))
  have f13_E_b11 := q12_E_o1.keep Kq13
  have f13_F_b11_trees := q12_F_o1_trees.keep Kq13 (ninS ne_b11_b16_12 (ninS ne_b11_b8_12 (ninS ne_b11_b13_12 nin0)))
  have f13_F_b11_lowest := q12_F_o1_lowest.keep Kq13 (ninS ne_b11_b16_12 (ninS ne_b11_b8_12 (ninS ne_b11_b13_12 nin0)))
  have f13_E_b3_12 := q12_E_b3.keep Kq13
  have f13_E_b8_12 := q12_E_b8.keep Kq13
  have f13_E_b13_12 := q12_E_b13.keep Kq13
  have f13_V_b3_12 := q12_V_b3.keep Kq13 (ninS ne_b3_12_b16_12 (ninS ne_b3_12_b8_12 (ninS ne_b3_12_b13_12 nin0)))
  have f13_E_b16_12 := q12_E_b16.keep Kq13
  have O13 := O12.keep Kq13 (allS ge_b16_12 (allS ge_b8_12 (allS ge_b13_12 all0)))
  have K13 := K12.trans Kq13 (allS (Or.inr sz_b16_12) (allS (Or.inr sz_b8_12) (allS (Or.inr sz_b13_12) all0)))
  obtain ⟨_, _, ⟨T14, L14, k14, n14⟩, -, X14, ⟨Lc14, hQ14, l14, y14, z14⟩, st14⟩ := Jvm.LawKit.callS X13 hx (y := (⟨"com/example/sober_broadcast/soberbroadcast/cli/PositionCountsCountBelowPinLaw", "markOne", "(Lcom/example/sober_broadcast/soberbroadcast/cli/PositionCounts;[I[IZII)J"⟩ : MethodName)) hown (mvT hZ (hw _ (List.mem_of_getElem? (i := 23) rfl))) (mvT hZ (hw _ (List.mem_of_getElem? (i := 24) rfl))) (mvT hZ (hw _ (List.mem_of_getElem? (i := 25) rfl))) (mvT hZ (hw _ (List.mem_of_getElem? (i := 26) rfl))) (by decide) (backOf (W := 2) (own_moC l Z a0 hw [] T13.heap n0 O13 b11 b3_12 b16_12 b8_12 b13_12 k3_12 k16_12 (own_gx0 (own_sel c1 q0 q1) c1 r1 (2147483647 : Int32)) (own_gx1 (own_sel c1 q0 q1) c1 r1 (2147483647 : Int32)) (q0 + (1 : Int32)) (q1 + (1 : Int32)) (own_gf0 (own_sel c1 q0 q1) c1 (q0 + (1 : Int32)) r1 own_zero) (own_gf1 (own_sel c1 q0 q1) c1 (q1 + (1 : Int32)) r1 own_zero) b1 b4 k1 k4 q0 q1 u0 u1 p3 r2 c2 ne_b11_b3_12 ne_b11_b16_12 ne_b11_b8_12 ne_b11_b13_12 ne_b3_12_b16_12 ne_b3_12_b8_12 ne_b3_12_b13_12 ne_b16_12_b8_12 ne_b16_12_b13_12 ne_b8_12_b13_12 ne_b1_b16_12 ne_b1_b8_12 ne_b1_b13_12 ne_b4_b16_12 ne_b4_b8_12 ne_b4_b13_12 ge_b16_12 ge_b8_12 ge_b13_12 h012 hr2 uk2 f13_E_b11 f13_F_b11_trees f13_F_b11_lowest f13_V_b3_12 q13_V_tL q13_A_t0 q13_A_t1 f13_V_b1 f13_V_b4) hZ (hw _ (List.mem_of_getElem? (i := 26) rfl)) (hw _ (List.mem_of_getElem? (i := 25) rfl)) (by decide) (by decide)) (g := (mkF m 143 #[.val (.int p1), .val (.int p2), .val (.int p3), .val (.int p4), .val (.int p5), .val (.int p6), .val (.ref b1), .val (.int nn), .val (.ref b4), .val (.ref b11), .val (.long ((0 : Int64) + (own_glt (own_sel c1 q0 q1) r1 (own_sel c1 u0 u1)))), .second] [(.int p3), (.int c2), (.int (1 : Int32)), (.ref b4), (.ref b1), (.ref b11), (.long ((0 : Int64) + (own_glt (own_sel c1 q0 q1) r1 (own_sel c1 u0 u1))))])) rfl (by rw [hml]; rfl) (argsL := [(.ref b11), (.ref b1), (.ref b4), (.int (1 : Int32)), (.int c2), (.int p3)]) (rest := [(.long ((0 : Int64) + (own_glt (own_sel c1 q0 q1) r1 (own_sel c1 u0 u1))))]) (lenOf own_pd_4 rfl) rfl (by show 2 * 0 + _ ≤ _; exact Nat.le_of_eq rfl) (hb hby at_143) (fun _ _ => ⟨rfl, rfl, (by decide : 7 + 0 ≤ _), (by decide : 44 + 0 ≤ _)⟩)
  dsimp only [Pt.U, Pt.locs, Pt.cells, Pt.slots] at X14 l14 y14 z14 st14 hQ14
  subst l14 y14 z14
  obtain ⟨rfl, N14q, Kq14, q14_V_tL, q14_A_t0, q14_A_t1⟩ := hQ14
  have N14 := Fr.app N13 N14q
  have f14_E_b1 := f13_E_b1.keep Kq14
  have f14_V_b1 := f13_V_b1.keep Kq14 (ninS ne_b1_b16_12 (ninS ne_b1_b8_12 (ninS ne_b1_b13_12 nin0)))
  have f14_E_b4 := f13_E_b4.keep Kq14
  have f14_V_b4 := f13_V_b4.keep Kq14 (ninS ne_b4_b16_12 (ninS ne_b4_b8_12 (ninS ne_b4_b13_12 nin0)))
  have f14_E_b11 := f13_E_b11.keep Kq14
  have f14_F_b11_trees := f13_F_b11_trees.keep Kq14 (ninS ne_b11_b16_12 (ninS ne_b11_b8_12 (ninS ne_b11_b13_12 nin0)))
  have f14_F_b11_lowest := f13_F_b11_lowest.keep Kq14 (ninS ne_b11_b16_12 (ninS ne_b11_b8_12 (ninS ne_b11_b13_12 nin0)))
  have f14_E_b3_12 := f13_E_b3_12.keep Kq14
  have f14_E_b8_12 := f13_E_b8_12.keep Kq14
  have f14_E_b13_12 := f13_E_b13_12.keep Kq14
  have f14_V_b3_12 := f13_V_b3_12.keep Kq14 (ninS ne_b3_12_b16_12 (ninS ne_b3_12_b8_12 (ninS ne_b3_12_b13_12 nin0)))
  have f14_E_b16_12 := f13_E_b16_12.keep Kq14
  have O14 := O13.keep Kq14 (allS ge_b16_12 (allS ge_b8_12 (allS ge_b13_12 all0)))
  have K14 := K13.trans Kq14 (allS (Or.inr sz_b16_12) (allS (Or.inr sz_b8_12) (allS (Or.inr sz_b13_12) all0)))
  obtain ⟨_, _, ⟨T15, L15, k15, n15⟩, -, X15, ⟨Lc15, hQ15, l15, y15, z15⟩, st15⟩ := Jvm.LawKit.callS X14 hx (y := (⟨"com/example/sober_broadcast/soberbroadcast/cli/PositionCountsCountBelowPinLaw", "markOne", "(Lcom/example/sober_broadcast/soberbroadcast/cli/PositionCounts;[I[IZII)J"⟩ : MethodName)) hown (mvT hZ (hw _ (List.mem_of_getElem? (i := 23) rfl))) (mvT hZ (hw _ (List.mem_of_getElem? (i := 24) rfl))) (mvT hZ (hw _ (List.mem_of_getElem? (i := 25) rfl))) (mvT hZ (hw _ (List.mem_of_getElem? (i := 26) rfl))) (by decide) (backOf (W := 2) (own_moC l Z a0 hw [] T14.heap n0 O14 b11 b3_12 b16_12 b8_12 b13_12 k3_12 k16_12 (own_gx0 (own_sel c2 q0 q1) c2 r2 (own_gx0 (own_sel c1 q0 q1) c1 r1 (2147483647 : Int32))) (own_gx1 (own_sel c2 q0 q1) c2 r2 (own_gx1 (own_sel c1 q0 q1) c1 r1 (2147483647 : Int32))) (q0 + (1 : Int32)) (q1 + (1 : Int32)) (own_gf0 (own_sel c2 q0 q1) c2 (q0 + (1 : Int32)) r2 (own_gf0 (own_sel c1 q0 q1) c1 (q0 + (1 : Int32)) r1 own_zero)) (own_gf1 (own_sel c2 q0 q1) c2 (q1 + (1 : Int32)) r2 (own_gf1 (own_sel c1 q0 q1) c1 (q1 + (1 : Int32)) r1 own_zero)) b1 b4 k1 k4 q0 q1 u0 u1 p4 r3 c3 ne_b11_b3_12 ne_b11_b16_12 ne_b11_b8_12 ne_b11_b13_12 ne_b3_12_b16_12 ne_b3_12_b8_12 ne_b3_12_b13_12 ne_b16_12_b8_12 ne_b16_12_b13_12 ne_b8_12_b13_12 ne_b1_b16_12 ne_b1_b8_12 ne_b1_b13_12 ne_b4_b16_12 ne_b4_b8_12 ne_b4_b13_12 ge_b16_12 ge_b8_12 ge_b13_12 h013 hr3 uk3 f14_E_b11 f14_F_b11_trees f14_F_b11_lowest f14_V_b3_12 q14_V_tL q14_A_t0 q14_A_t1 f14_V_b1 f14_V_b4) hZ (hw _ (List.mem_of_getElem? (i := 26) rfl)) (hw _ (List.mem_of_getElem? (i := 25) rfl)) (by decide) (by decide)) (g := (mkF m 175 #[.val (.int p1), .val (.int p2), .val (.int p3), .val (.int p4), .val (.int p5), .val (.int p6), .val (.ref b1), .val (.int nn), .val (.ref b4), .val (.ref b11), .val (.long (((0 : Int64) + (own_glt (own_sel c1 q0 q1) r1 (own_sel c1 u0 u1))) + (own_glt (own_sel c2 q0 q1) r2 (own_sel c2 u0 u1)))), .second] [(.int p4), (.int c3), (.int (1 : Int32)), (.ref b4), (.ref b1), (.ref b11), (.long (((0 : Int64) + (own_glt (own_sel c1 q0 q1) r1 (own_sel c1 u0 u1))) + (own_glt (own_sel c2 q0 q1) r2 (own_sel c2 u0 u1))))])) rfl (by rw [hml]; rfl) (argsL := [(.ref b11), (.ref b1), (.ref b4), (.int (1 : Int32)), (.int c3), (.int p4)]) (rest := [(.long (((0 : Int64) + (own_glt (own_sel c1 q0 q1) r1 (own_sel c1 u0 u1))) + (own_glt (own_sel c2 q0 q1) r2 (own_sel c2 u0 u1))))]) (lenOf own_pd_4 rfl) rfl (by show 2 * 0 + _ ≤ _; exact Nat.le_of_eq rfl) (hb hby at_175) (fun _ _ => ⟨rfl, rfl, (by decide : 7 + 0 ≤ _), (by decide : 44 + 0 ≤ _)⟩)
  dsimp only [Pt.U, Pt.locs, Pt.cells, Pt.slots] at X15 l15 y15 z15 st15 hQ15
  subst l15 y15 z15
  obtain ⟨rfl, N15q, Kq15, q15_V_tL, q15_A_t0, q15_A_t1⟩ := hQ15
  have N15 := Fr.app N14 N15q
  have f15_E_b1 := f14_E_b1.keep Kq15
  have f15_V_b1 := f14_V_b1.keep Kq15 (ninS ne_b1_b16_12 (ninS ne_b1_b8_12 (ninS ne_b1_b13_12 nin0)))
  have f15_E_b4 := f14_E_b4.keep Kq15
  have f15_V_b4 := f14_V_b4.keep Kq15 (ninS ne_b4_b16_12 (ninS ne_b4_b8_12 (ninS ne_b4_b13_12 nin0)))
  have f15_E_b11 := f14_E_b11.keep Kq15
  have f15_F_b11_trees := f14_F_b11_trees.keep Kq15 (ninS ne_b11_b16_12 (ninS ne_b11_b8_12 (ninS ne_b11_b13_12 nin0)))
  have f15_F_b11_lowest := f14_F_b11_lowest.keep Kq15 (ninS ne_b11_b16_12 (ninS ne_b11_b8_12 (ninS ne_b11_b13_12 nin0)))
  have f15_E_b3_12 := f14_E_b3_12.keep Kq15
  have f15_E_b8_12 := f14_E_b8_12.keep Kq15
  have f15_E_b13_12 := f14_E_b13_12.keep Kq15
  have f15_V_b3_12 := f14_V_b3_12.keep Kq15 (ninS ne_b3_12_b16_12 (ninS ne_b3_12_b8_12 (ninS ne_b3_12_b13_12 nin0)))
  have f15_E_b16_12 := f14_E_b16_12.keep Kq15
  have O15 := O14.keep Kq15 (allS ge_b16_12 (allS ge_b8_12 (allS ge_b13_12 all0)))
  have K15 := K14.trans Kq15 (allS (Or.inr sz_b16_12) (allS (Or.inr sz_b8_12) (allS (Or.inr sz_b13_12) all0)))
  obtain ⟨_, _, ⟨T16, L16, k16, n16⟩, -, X16, ⟨Lc16, hQ16, l16, y16, z16⟩, st16⟩ := Jvm.LawKit.callS X15 hx (y := (⟨"com/example/sober_broadcast/soberbroadcast/cli/PositionCountsCountBelowPinLaw", "markOne", "(Lcom/example/sober_broadcast/soberbroadcast/cli/PositionCounts;[I[IZII)J"⟩ : MethodName)) hown (mvT hZ (hw _ (List.mem_of_getElem? (i := 23) rfl))) (mvT hZ (hw _ (List.mem_of_getElem? (i := 24) rfl))) (mvT hZ (hw _ (List.mem_of_getElem? (i := 25) rfl))) (mvT hZ (hw _ (List.mem_of_getElem? (i := 26) rfl))) (by decide) (backOf (W := 2) (own_moC l Z a0 hw [] T15.heap n0 O15 b11 b3_12 b16_12 b8_12 b13_12 k3_12 k16_12 (own_gx0 (own_sel c3 q0 q1) c3 r3 (own_gx0 (own_sel c2 q0 q1) c2 r2 (own_gx0 (own_sel c1 q0 q1) c1 r1 (2147483647 : Int32)))) (own_gx1 (own_sel c3 q0 q1) c3 r3 (own_gx1 (own_sel c2 q0 q1) c2 r2 (own_gx1 (own_sel c1 q0 q1) c1 r1 (2147483647 : Int32)))) (q0 + (1 : Int32)) (q1 + (1 : Int32)) (own_gf0 (own_sel c3 q0 q1) c3 (q0 + (1 : Int32)) r3 (own_gf0 (own_sel c2 q0 q1) c2 (q0 + (1 : Int32)) r2 (own_gf0 (own_sel c1 q0 q1) c1 (q0 + (1 : Int32)) r1 own_zero))) (own_gf1 (own_sel c3 q0 q1) c3 (q1 + (1 : Int32)) r3 (own_gf1 (own_sel c2 q0 q1) c2 (q1 + (1 : Int32)) r2 (own_gf1 (own_sel c1 q0 q1) c1 (q1 + (1 : Int32)) r1 own_zero))) b1 b4 k1 k4 q0 q1 u0 u1 p5 r4 c4 ne_b11_b3_12 ne_b11_b16_12 ne_b11_b8_12 ne_b11_b13_12 ne_b3_12_b16_12 ne_b3_12_b8_12 ne_b3_12_b13_12 ne_b16_12_b8_12 ne_b16_12_b13_12 ne_b8_12_b13_12 ne_b1_b16_12 ne_b1_b8_12 ne_b1_b13_12 ne_b4_b16_12 ne_b4_b8_12 ne_b4_b13_12 ge_b16_12 ge_b8_12 ge_b13_12 h014 hr4 uk4 f15_E_b11 f15_F_b11_trees f15_F_b11_lowest f15_V_b3_12 q15_V_tL q15_A_t0 q15_A_t1 f15_V_b1 f15_V_b4) hZ (hw _ (List.mem_of_getElem? (i := 26) rfl)) (hw _ (List.mem_of_getElem? (i := 25) rfl)) (by decide) (by decide)) (g := (mkF m 208 #[.val (.int p1), .val (.int p2), .val (.int p3), .val (.int p4), .val (.int p5), .val (.int p6), .val (.ref b1), .val (.int nn), .val (.ref b4), .val (.ref b11), .val (.long ((((0 : Int64) + (own_glt (own_sel c1 q0 q1) r1 (own_sel c1 u0 u1))) + (own_glt (own_sel c2 q0 q1) r2 (own_sel c2 u0 u1))) + (own_glt (own_sel c3 q0 q1) r3 (own_sel c3 u0 u1)))), .second] [(.int p5), (.int c4), (.int (1 : Int32)), (.ref b4), (.ref b1), (.ref b11), (.long ((((0 : Int64) + (own_glt (own_sel c1 q0 q1) r1 (own_sel c1 u0 u1))) + (own_glt (own_sel c2 q0 q1) r2 (own_sel c2 u0 u1))) + (own_glt (own_sel c3 q0 q1) r3 (own_sel c3 u0 u1))))])) rfl (by rw [hml]; rfl) (argsL := [(.ref b11), (.ref b1), (.ref b4), (.int (1 : Int32)), (.int c4), (.int p5)]) (rest := [(.long ((((0 : Int64) + (own_glt (own_sel c1 q0 q1) r1 (own_sel c1 u0 u1))) + (own_glt (own_sel c2 q0 q1) r2 (own_sel c2 u0 u1))) + (own_glt (own_sel c3 q0 q1) r3 (own_sel c3 u0 u1))))]) (lenOf own_pd_4 rfl) rfl (by show 2 * 0 + _ ≤ _; exact Nat.le_of_eq rfl) (hb hby at_208) (fun _ _ => ⟨rfl, rfl, (by decide : 7 + 0 ≤ _), (by decide : 44 + 0 ≤ _)⟩)
  dsimp only [Pt.U, Pt.locs, Pt.cells, Pt.slots] at X16 l16 y16 z16 st16 hQ16
  subst l16 y16 z16
  obtain ⟨rfl, N16q, Kq16, q16_V_tL, q16_A_t0, q16_A_t1⟩ := hQ16
  have N16 := Fr.app N15 N16q
  have f16_E_b1 := f15_E_b1.keep Kq16
  have f16_V_b1 := f15_V_b1.keep Kq16 (ninS ne_b1_b16_12 (ninS ne_b1_b8_12 (ninS ne_b1_b13_12 nin0)))
  have f16_E_b4 := f15_E_b4.keep Kq16
  have f16_V_b4 := f15_V_b4.keep Kq16 (ninS ne_b4_b16_12 (ninS ne_b4_b8_12 (ninS ne_b4_b13_12 nin0)))
  have f16_E_b11 := f15_E_b11.keep Kq16
  have f16_F_b11_trees := f15_F_b11_trees.keep Kq16 (ninS ne_b11_b16_12 (ninS ne_b11_b8_12 (ninS ne_b11_b13_12 nin0)))
  have f16_F_b11_lowest := f15_F_b11_lowest.keep Kq16 (ninS ne_b11_b16_12 (ninS ne_b11_b8_12 (ninS ne_b11_b13_12 nin0)))
  have f16_E_b3_12 := f15_E_b3_12.keep Kq16
  have f16_E_b8_12 := f15_E_b8_12.keep Kq16
  have f16_E_b13_12 := f15_E_b13_12.keep Kq16
  have f16_V_b3_12 := f15_V_b3_12.keep Kq16 (ninS ne_b3_12_b16_12 (ninS ne_b3_12_b8_12 (ninS ne_b3_12_b13_12 nin0)))
  have f16_E_b16_12 := f15_E_b16_12.keep Kq16
  have O16 := O15.keep Kq16 (allS ge_b16_12 (allS ge_b8_12 (allS ge_b13_12 all0)))
  have K16 := K15.trans Kq16 (allS (Or.inr sz_b16_12) (allS (Or.inr sz_b8_12) (allS (Or.inr sz_b13_12) all0)))
  obtain ⟨cq17, kq17, q17a, q17b, q17c⟩ := isOf hZ rfl f16_E_b11
  obtain ⟨_, _, ⟨T17, L17, k17, n17⟩, -, X17, ⟨Lc17, hQ17, l17, y17, z17⟩, st17⟩ := X16.virtualBack hx (y := (⟨"com/example/sober_broadcast/soberbroadcast/cli/PositionCounts", "countBelow", "([I)J"⟩ : MethodName)) (z := (⟨"com/example/sober_broadcast/soberbroadcast/cli/PositionCounts", "countBelow", "([I)J"⟩ : MethodName)) hown (mvT hZ (hw _ (List.mem_of_getElem? (i := 27) rfl))) (mvT hZ (hw _ (List.mem_of_getElem? (i := 28) rfl))) (notFace_of_selects (args := #[]) (mvT hZ (hw _ (List.mem_of_getElem? (i := 30) rfl)))) (mvT hZ (hw _ (List.mem_of_getElem? (i := 30) rfl))) (mvT hZ (hw _ (List.mem_of_getElem? (i := 29) rfl))) (by decide) (backOf (W := 0) (own_cbC l Z a0 hw [] T16.heap n0 O16 b11 b4 b3_12 b16_12 b8_12 b13_12 k3_12 k16_12 k4 u0 u1 (own_gx0 (own_sel c4 q0 q1) c4 r4 (own_gx0 (own_sel c3 q0 q1) c3 r3 (own_gx0 (own_sel c2 q0 q1) c2 r2 (own_gx0 (own_sel c1 q0 q1) c1 r1 (2147483647 : Int32))))) (own_gx1 (own_sel c4 q0 q1) c4 r4 (own_gx1 (own_sel c3 q0 q1) c3 r3 (own_gx1 (own_sel c2 q0 q1) c2 r2 (own_gx1 (own_sel c1 q0 q1) c1 r1 (2147483647 : Int32))))) (q0 + (1 : Int32)) (q1 + (1 : Int32)) (own_gf0 (own_sel c4 q0 q1) c4 (q0 + (1 : Int32)) r4 (own_gf0 (own_sel c3 q0 q1) c3 (q0 + (1 : Int32)) r3 (own_gf0 (own_sel c2 q0 q1) c2 (q0 + (1 : Int32)) r2 (own_gf0 (own_sel c1 q0 q1) c1 (q0 + (1 : Int32)) r1 own_zero)))) (own_gf1 (own_sel c4 q0 q1) c4 (q1 + (1 : Int32)) r4 (own_gf1 (own_sel c3 q0 q1) c3 (q1 + (1 : Int32)) r3 (own_gf1 (own_sel c2 q0 q1) c2 (q1 + (1 : Int32)) r2 (own_gf1 (own_sel c1 q0 q1) c1 (q1 + (1 : Int32)) r1 own_zero)))) dk0 dk1 f16_E_b11 f16_F_b11_trees f16_F_b11_lowest f16_V_b3_12 q16_V_tL q16_A_t0 q16_A_t1 f16_V_b4) hZ (hw _ (List.mem_of_getElem? (i := 31) rfl)) (hw _ (List.mem_of_getElem? (i := 4) rfl)) (by decide) (by decide)) q17a q17c (g := (mkF m 218 #[.val (.int p1), .val (.int p2), .val (.int p3), .val (.int p4), .val (.int p5), .val (.int p6), .val (.ref b1), .val (.int nn), .val (.ref b4), .val (.ref b11), .val (.long (((((0 : Int64) + (own_glt (own_sel c1 q0 q1) r1 (own_sel c1 u0 u1))) + (own_glt (own_sel c2 q0 q1) r2 (own_sel c2 u0 u1))) + (own_glt (own_sel c3 q0 q1) r3 (own_sel c3 u0 u1))) + (own_glt (own_sel c4 q0 q1) r4 (own_sel c4 u0 u1)))), .second] [(.ref b4), (.ref b11)])) rfl (by rw [hml]; rfl) (Steps.refl _) (argsL := [(.ref b4)]) (rest := []) (lenOf own_pd_5 rfl) rfl (by show 2 * 0 + _ ≤ _; exact Nat.le_of_eq rfl) (hb hby at_218) (fun _ _ => ⟨rfl, rfl, (by decide : 7 + 0 ≤ _), (by decide : 44 + 0 ≤ _)⟩)
  dsimp only [Pt.U, Pt.locs, Pt.cells, Pt.slots] at X17 l17 y17 z17 st17 hQ17
  subst l17 y17 z17
  obtain ⟨rfl, N17q, e17⟩ := hQ17
  have N17 := Fr.app N16 N17q
  obtain ⟨fs, hr, hrun, hended, hW, hsame⟩ := X17.leave (v := some (.int (1 : Int32))) (fun h => by rw [Bd.returns] at h; cases h)
  refine ⟨_, _, pre0 _ ?_, hrun, hended, _, _, rfl, ?_, ⟨_, rfl⟩, hW, hsame.mono (by decide) (by decide)⟩
  · show Steps p.tables e below (s₁.setTop (mkF m 0 #[.val (.int p1), .val (.int p2), .val (.int p3), .val (.int p4), .val (.int p5), .val (.int p6), .unset, .unset, .unset, .unset, .unset, .unset] [])) _
    refine XS.iconst X0.here hx rfl (hb hby at_0) ?_
    show Steps p.tables e below (s₁.setTop (mkF m 1 #[.val (.int p1), .val (.int p2), .val (.int p3), .val (.int p4), .val (.int p5), .val (.int p6), .unset, .unset, .unset, .unset, .unset, .unset] [(.int (2 : Int32))])) _
    refine st1 _ ?_
    show Steps p.tables e below (T1.setTop (mkF m 3 #[.val (.int p1), .val (.int p2), .val (.int p3), .val (.int p4), .val (.int p5), .val (.int p6), .unset, .unset, .unset, .unset, .unset, .unset] [(.ref b1)])) _
    refine XS.astore X1.here hx rfl (hb hby at_3) rfl rfl (l' := #[.val (.int p1), .val (.int p2), .val (.int p3), .val (.int p4), .val (.int p5), .val (.int p6), .val (.ref b1), .unset, .unset, .unset, .unset, .unset]) rfl ?_
    show Steps p.tables e below (T1.setTop (mkF m 5 #[.val (.int p1), .val (.int p2), .val (.int p3), .val (.int p4), .val (.int p5), .val (.int p6), .val (.ref b1), .unset, .unset, .unset, .unset, .unset] [])) _
    refine XS.aload X1.here hx rfl (hb hby at_5) rfl rfl ?_
    show Steps p.tables e below (T1.setTop (mkF m 7 #[.val (.int p1), .val (.int p2), .val (.int p3), .val (.int p4), .val (.int p5), .val (.int p6), .val (.ref b1), .unset, .unset, .unset, .unset, .unset] [(.ref b1)])) _
    refine XS.iconst X1.here hx rfl (hb hby at_7) ?_
    show Steps p.tables e below (T1.setTop (mkF m 8 #[.val (.int p1), .val (.int p2), .val (.int p3), .val (.int p4), .val (.int p5), .val (.int p6), .val (.ref b1), .unset, .unset, .unset, .unset, .unset] [(.int (0 : Int32)), (.ref b1)])) _
    refine XS.iloadN X1.here hx rfl (hb hby at_8) rfl ?_
    show Steps p.tables e below (T1.setTop (mkF m 9 #[.val (.int p1), .val (.int p2), .val (.int p3), .val (.int p4), .val (.int p5), .val (.int p6), .val (.ref b1), .unset, .unset, .unset, .unset, .unset] [(.int p1), (.int (0 : Int32)), (.ref b1)])) _
    refine XS.bipush X1.here hx rfl (hb hby at_9) ?_
    show Steps p.tables e below (T1.setTop (mkF m 11 #[.val (.int p1), .val (.int p2), .val (.int p3), .val (.int p4), .val (.int p5), .val (.int p6), .val (.ref b1), .unset, .unset, .unset, .unset, .unset] [(.int (15 : Int32)), (.int p1), (.int (0 : Int32)), (.ref b1)])) _
    refine XS.iand X1.here hx rfl (hb hby at_11) rfl ?_
    show Steps p.tables e below (T1.setTop (mkF m 12 #[.val (.int p1), .val (.int p2), .val (.int p3), .val (.int p4), .val (.int p5), .val (.int p6), .val (.ref b1), .unset, .unset, .unset, .unset, .unset] [(.int (p1 &&& (15 : Int32))), (.int (0 : Int32)), (.ref b1)])) _
    refine castTop (g' := (mkF m 12 #[.val (.int p1), .val (.int p2), .val (.int p3), .val (.int p4), .val (.int p5), .val (.int p6), .val (.ref b1), .unset, .unset, .unset, .unset, .unset] [(.int q0), (.int (0 : Int32)), (.ref b1)])) (by rw [hq0]) ?_
    show Steps p.tables e below (T1.setTop (mkF m 12 #[.val (.int p1), .val (.int p2), .val (.int p3), .val (.int p4), .val (.int p5), .val (.int p6), .val (.ref b1), .unset, .unset, .unset, .unset, .unset] [(.int q0), (.int (0 : Int32)), (.ref b1)])) _
    refine st2 _ ?_
    show Steps p.tables e below (T2.setTop (mkF m 13 #[.val (.int p1), .val (.int p2), .val (.int p3), .val (.int p4), .val (.int p5), .val (.int p6), .val (.ref b1), .unset, .unset, .unset, .unset, .unset] [])) _
    refine XS.aload X2.here hx rfl (hb hby at_13) rfl rfl ?_
    show Steps p.tables e below (T2.setTop (mkF m 15 #[.val (.int p1), .val (.int p2), .val (.int p3), .val (.int p4), .val (.int p5), .val (.int p6), .val (.ref b1), .unset, .unset, .unset, .unset, .unset] [(.ref b1)])) _
    refine XS.iconst X2.here hx rfl (hb hby at_15) ?_
    show Steps p.tables e below (T2.setTop (mkF m 16 #[.val (.int p1), .val (.int p2), .val (.int p3), .val (.int p4), .val (.int p5), .val (.int p6), .val (.ref b1), .unset, .unset, .unset, .unset, .unset] [(.int (1 : Int32)), (.ref b1)])) _
    refine XS.iloadN X2.here hx rfl (hb hby at_16) rfl ?_
    show Steps p.tables e below (T2.setTop (mkF m 17 #[.val (.int p1), .val (.int p2), .val (.int p3), .val (.int p4), .val (.int p5), .val (.int p6), .val (.ref b1), .unset, .unset, .unset, .unset, .unset] [(.int p1), (.int (1 : Int32)), (.ref b1)])) _
    refine XS.iconst X2.here hx rfl (hb hby at_17) ?_
    show Steps p.tables e below (T2.setTop (mkF m 18 #[.val (.int p1), .val (.int p2), .val (.int p3), .val (.int p4), .val (.int p5), .val (.int p6), .val (.ref b1), .unset, .unset, .unset, .unset, .unset] [(.int (4 : Int32)), (.int p1), (.int (1 : Int32)), (.ref b1)])) _
    refine XS.iushr X2.here hx rfl (hb hby at_18) rfl ?_
    show Steps p.tables e below (T2.setTop (mkF m 19 #[.val (.int p1), .val (.int p2), .val (.int p3), .val (.int p4), .val (.int p5), .val (.int p6), .val (.ref b1), .unset, .unset, .unset, .unset, .unset] [(.int ((p1.toUInt32 >>> ((4 : Int32) &&& 31).toUInt32).toInt32)), (.int (1 : Int32)), (.ref b1)])) _
    refine XS.bipush X2.here hx rfl (hb hby at_19) ?_
    show Steps p.tables e below (T2.setTop (mkF m 21 #[.val (.int p1), .val (.int p2), .val (.int p3), .val (.int p4), .val (.int p5), .val (.int p6), .val (.ref b1), .unset, .unset, .unset, .unset, .unset] [(.int (15 : Int32)), (.int ((p1.toUInt32 >>> ((4 : Int32) &&& 31).toUInt32).toInt32)), (.int (1 : Int32)), (.ref b1)])) _
    refine XS.iand X2.here hx rfl (hb hby at_21) rfl ?_
    show Steps p.tables e below (T2.setTop (mkF m 22 #[.val (.int p1), .val (.int p2), .val (.int p3), .val (.int p4), .val (.int p5), .val (.int p6), .val (.ref b1), .unset, .unset, .unset, .unset, .unset] [(.int (((p1.toUInt32 >>> ((4 : Int32) &&& 31).toUInt32).toInt32) &&& (15 : Int32))), (.int (1 : Int32)), (.ref b1)])) _
    refine castTop (g' := (mkF m 22 #[.val (.int p1), .val (.int p2), .val (.int p3), .val (.int p4), .val (.int p5), .val (.int p6), .val (.ref b1), .unset, .unset, .unset, .unset, .unset] [(.int q1), (.int (1 : Int32)), (.ref b1)])) (by rw [hq1]) ?_
    show Steps p.tables e below (T2.setTop (mkF m 22 #[.val (.int p1), .val (.int p2), .val (.int p3), .val (.int p4), .val (.int p5), .val (.int p6), .val (.ref b1), .unset, .unset, .unset, .unset, .unset] [(.int q1), (.int (1 : Int32)), (.ref b1)])) _
    refine st3 _ ?_
    show Steps p.tables e below (T3.setTop (mkF m 23 #[.val (.int p1), .val (.int p2), .val (.int p3), .val (.int p4), .val (.int p5), .val (.int p6), .val (.ref b1), .unset, .unset, .unset, .unset, .unset] [])) _
    refine XS.iloadN X3.here hx rfl (hb hby at_23) rfl ?_
    show Steps p.tables e below (T3.setTop (mkF m 24 #[.val (.int p1), .val (.int p2), .val (.int p3), .val (.int p4), .val (.int p5), .val (.int p6), .val (.ref b1), .unset, .unset, .unset, .unset, .unset] [(.int p1)])) _
    refine XS.bipush X3.here hx rfl (hb hby at_24) ?_
    show Steps p.tables e below (T3.setTop (mkF m 26 #[.val (.int p1), .val (.int p2), .val (.int p3), .val (.int p4), .val (.int p5), .val (.int p6), .val (.ref b1), .unset, .unset, .unset, .unset, .unset] [(.int (8 : Int32)), (.int p1)])) _
    refine XS.iushr X3.here hx rfl (hb hby at_26) rfl ?_
    show Steps p.tables e below (T3.setTop (mkF m 27 #[.val (.int p1), .val (.int p2), .val (.int p3), .val (.int p4), .val (.int p5), .val (.int p6), .val (.ref b1), .unset, .unset, .unset, .unset, .unset] [(.int ((p1.toUInt32 >>> ((8 : Int32) &&& 31).toUInt32).toInt32))])) _
    refine XS.bipush X3.here hx rfl (hb hby at_27) ?_
    show Steps p.tables e below (T3.setTop (mkF m 29 #[.val (.int p1), .val (.int p2), .val (.int p3), .val (.int p4), .val (.int p5), .val (.int p6), .val (.ref b1), .unset, .unset, .unset, .unset, .unset] [(.int (7 : Int32)), (.int ((p1.toUInt32 >>> ((8 : Int32) &&& 31).toUInt32).toInt32))])) _
    refine XS.iand X3.here hx rfl (hb hby at_29) rfl ?_
    show Steps p.tables e below (T3.setTop (mkF m 30 #[.val (.int p1), .val (.int p2), .val (.int p3), .val (.int p4), .val (.int p5), .val (.int p6), .val (.ref b1), .unset, .unset, .unset, .unset, .unset] [(.int (((p1.toUInt32 >>> ((8 : Int32) &&& 31).toUInt32).toInt32) &&& (7 : Int32)))])) _
    refine castTop (g' := (mkF m 30 #[.val (.int p1), .val (.int p2), .val (.int p3), .val (.int p4), .val (.int p5), .val (.int p6), .val (.ref b1), .unset, .unset, .unset, .unset, .unset] [(.int nn)])) (by rw [hnn]) ?_
    show Steps p.tables e below (T3.setTop (mkF m 30 #[.val (.int p1), .val (.int p2), .val (.int p3), .val (.int p4), .val (.int p5), .val (.int p6), .val (.ref b1), .unset, .unset, .unset, .unset, .unset] [(.int nn)])) _
    refine XS.istore X3.here hx rfl (hb hby at_30) rfl (l' := #[.val (.int p1), .val (.int p2), .val (.int p3), .val (.int p4), .val (.int p5), .val (.int p6), .val (.ref b1), .val (.int nn), .unset, .unset, .unset, .unset]) rfl ?_
    show Steps p.tables e below (T3.setTop (mkF m 32 #[.val (.int p1), .val (.int p2), .val (.int p3), .val (.int p4), .val (.int p5), .val (.int p6), .val (.ref b1), .val (.int nn), .unset, .unset, .unset, .unset] [])) _
    refine XS.iconst X3.here hx rfl (hb hby at_32) ?_
    show Steps p.tables e below (T3.setTop (mkF m 33 #[.val (.int p1), .val (.int p2), .val (.int p3), .val (.int p4), .val (.int p5), .val (.int p6), .val (.ref b1), .val (.int nn), .unset, .unset, .unset, .unset] [(.int (2 : Int32))])) _
    refine st4 _ ?_
    show Steps p.tables e below (T4.setTop (mkF m 35 #[.val (.int p1), .val (.int p2), .val (.int p3), .val (.int p4), .val (.int p5), .val (.int p6), .val (.ref b1), .val (.int nn), .unset, .unset, .unset, .unset] [(.ref b4)])) _
    refine XS.astore X4.here hx rfl (hb hby at_35) rfl rfl (l' := #[.val (.int p1), .val (.int p2), .val (.int p3), .val (.int p4), .val (.int p5), .val (.int p6), .val (.ref b1), .val (.int nn), .val (.ref b4), .unset, .unset, .unset]) rfl ?_
    show Steps p.tables e below (T4.setTop (mkF m 37 #[.val (.int p1), .val (.int p2), .val (.int p3), .val (.int p4), .val (.int p5), .val (.int p6), .val (.ref b1), .val (.int nn), .val (.ref b4), .unset, .unset, .unset] [])) _
    refine XS.aload X4.here hx rfl (hb hby at_37) rfl rfl ?_
    show Steps p.tables e below (T4.setTop (mkF m 39 #[.val (.int p1), .val (.int p2), .val (.int p3), .val (.int p4), .val (.int p5), .val (.int p6), .val (.ref b1), .val (.int nn), .val (.ref b4), .unset, .unset, .unset] [(.ref b4)])) _
    refine XS.iconst X4.here hx rfl (hb hby at_39) ?_
    show Steps p.tables e below (T4.setTop (mkF m 40 #[.val (.int p1), .val (.int p2), .val (.int p3), .val (.int p4), .val (.int p5), .val (.int p6), .val (.ref b1), .val (.int nn), .val (.ref b4), .unset, .unset, .unset] [(.int (0 : Int32)), (.ref b4)])) _
    refine XS.iload X4.here hx rfl (hb hby at_40) rfl ?_
    show Steps p.tables e below (T4.setTop (mkF m 42 #[.val (.int p1), .val (.int p2), .val (.int p3), .val (.int p4), .val (.int p5), .val (.int p6), .val (.ref b1), .val (.int nn), .val (.ref b4), .unset, .unset, .unset] [(.int p6), (.int (0 : Int32)), (.ref b4)])) _
    refine Jvm.Stand.ldcI X4 hx hown (mvT hZ (hw _ (List.mem_of_getElem? (i := 1) rfl))) rfl (hb hby at_42) ?_
    show Steps p.tables e below (T4.setTop (mkF m 44 #[.val (.int p1), .val (.int p2), .val (.int p3), .val (.int p4), .val (.int p5), .val (.int p6), .val (.ref b1), .val (.int nn), .val (.ref b4), .unset, .unset, .unset] [(.int (65535 : Int32)), (.int p6), (.int (0 : Int32)), (.ref b4)])) _
    refine XS.iand X4.here hx rfl (hb hby at_44) rfl ?_
    show Steps p.tables e below (T4.setTop (mkF m 45 #[.val (.int p1), .val (.int p2), .val (.int p3), .val (.int p4), .val (.int p5), .val (.int p6), .val (.ref b1), .val (.int nn), .val (.ref b4), .unset, .unset, .unset] [(.int (p6 &&& (65535 : Int32))), (.int (0 : Int32)), (.ref b4)])) _
    refine XS.aload X4.here hx rfl (hb hby at_45) rfl rfl ?_
    show Steps p.tables e below (T4.setTop (mkF m 47 #[.val (.int p1), .val (.int p2), .val (.int p3), .val (.int p4), .val (.int p5), .val (.int p6), .val (.ref b1), .val (.int nn), .val (.ref b4), .unset, .unset, .unset] [(.ref b1), (.int (p6 &&& (65535 : Int32))), (.int (0 : Int32)), (.ref b4)])) _
    refine XS.iconst X4.here hx rfl (hb hby at_47) ?_
    show Steps p.tables e below (T4.setTop (mkF m 48 #[.val (.int p1), .val (.int p2), .val (.int p3), .val (.int p4), .val (.int p5), .val (.int p6), .val (.ref b1), .val (.int nn), .val (.ref b4), .unset, .unset, .unset] [(.int (0 : Int32)), (.ref b1), (.int (p6 &&& (65535 : Int32))), (.int (0 : Int32)), (.ref b4)])) _
    refine X4.iaload hx (j := (0 : Int32)) (v := (.int q0)) (by rw [e4]; exact Ar5.1) (State.isArrayOf_alike hZ.alike Ar5.2.1) Ar5.2.2 hin6 hat6 (g := (mkF m 48 #[.val (.int p1), .val (.int p2), .val (.int p3), .val (.int p4), .val (.int p5), .val (.int p6), .val (.ref b1), .val (.int nn), .val (.ref b4), .unset, .unset, .unset] [(.int (0 : Int32)), (.ref b1), (.int (p6 &&& (65535 : Int32))), (.int (0 : Int32)), (.ref b4)])) rfl rfl (hb hby at_48) _ ?_
    show Steps p.tables e below (T4.setTop (mkF m 49 #[.val (.int p1), .val (.int p2), .val (.int p3), .val (.int p4), .val (.int p5), .val (.int p6), .val (.ref b1), .val (.int nn), .val (.ref b4), .unset, .unset, .unset] [(.int q0), (.int (p6 &&& (65535 : Int32))), (.int (0 : Int32)), (.ref b4)])) _
    refine XS.iconst X4.here hx rfl (hb hby at_49) ?_
    show Steps p.tables e below (T4.setTop (mkF m 50 #[.val (.int p1), .val (.int p2), .val (.int p3), .val (.int p4), .val (.int p5), .val (.int p6), .val (.ref b1), .val (.int nn), .val (.ref b4), .unset, .unset, .unset] [(.int (1 : Int32)), (.int q0), (.int (p6 &&& (65535 : Int32))), (.int (0 : Int32)), (.ref b4)])) _
    refine XS.iadd X4.here hx rfl (hb hby at_50) rfl ?_
    show Steps p.tables e below (T4.setTop (mkF m 51 #[.val (.int p1), .val (.int p2), .val (.int p3), .val (.int p4), .val (.int p5), .val (.int p6), .val (.ref b1), .val (.int nn), .val (.ref b4), .unset, .unset, .unset] [(.int (q0 + (1 : Int32))), (.int (p6 &&& (65535 : Int32))), (.int (0 : Int32)), (.ref b4)])) _
    refine iremM X4 hx rfl (hb hby at_51) rfl mz0 ?_
    show Steps p.tables e below (T4.setTop (mkF m 52 #[.val (.int p1), .val (.int p2), .val (.int p3), .val (.int p4), .val (.int p5), .val (.int p6), .val (.ref b1), .val (.int nn), .val (.ref b4), .unset, .unset, .unset] [(.int ((p6 &&& (65535 : Int32)) % (q0 + (1 : Int32)))), (.int (0 : Int32)), (.ref b4)])) _
    refine castTop (g' := (mkF m 52 #[.val (.int p1), .val (.int p2), .val (.int p3), .val (.int p4), .val (.int p5), .val (.int p6), .val (.ref b1), .val (.int nn), .val (.ref b4), .unset, .unset, .unset] [(.int u0), (.int (0 : Int32)), (.ref b4)])) (by rw [hb0]) ?_
    show Steps p.tables e below (T4.setTop (mkF m 52 #[.val (.int p1), .val (.int p2), .val (.int p3), .val (.int p4), .val (.int p5), .val (.int p6), .val (.ref b1), .val (.int nn), .val (.ref b4), .unset, .unset, .unset] [(.int u0), (.int (0 : Int32)), (.ref b4)])) _
    refine st7 _ ?_
    show Steps p.tables e below (T7.setTop (mkF m 53 #[.val (.int p1), .val (.int p2), .val (.int p3), .val (.int p4), .val (.int p5), .val (.int p6), .val (.ref b1), .val (.int nn), .val (.ref b4), .unset, .unset, .unset] [])) _
    refine XS.aload X7.here hx rfl (hb hby at_53) rfl rfl ?_
    show Steps p.tables e below (T7.setTop (mkF m 55 #[.val (.int p1), .val (.int p2), .val (.int p3), .val (.int p4), .val (.int p5), .val (.int p6), .val (.ref b1), .val (.int nn), .val (.ref b4), .unset, .unset, .unset] [(.ref b4)])) _
    refine XS.iconst X7.here hx rfl (hb hby at_55) ?_
    show Steps p.tables e below (T7.setTop (mkF m 56 #[.val (.int p1), .val (.int p2), .val (.int p3), .val (.int p4), .val (.int p5), .val (.int p6), .val (.ref b1), .val (.int nn), .val (.ref b4), .unset, .unset, .unset] [(.int (1 : Int32)), (.ref b4)])) _
    refine XS.iload X7.here hx rfl (hb hby at_56) rfl ?_
    show Steps p.tables e below (T7.setTop (mkF m 58 #[.val (.int p1), .val (.int p2), .val (.int p3), .val (.int p4), .val (.int p5), .val (.int p6), .val (.ref b1), .val (.int nn), .val (.ref b4), .unset, .unset, .unset] [(.int p6), (.int (1 : Int32)), (.ref b4)])) _
    refine XS.bipush X7.here hx rfl (hb hby at_58) ?_
    show Steps p.tables e below (T7.setTop (mkF m 60 #[.val (.int p1), .val (.int p2), .val (.int p3), .val (.int p4), .val (.int p5), .val (.int p6), .val (.ref b1), .val (.int nn), .val (.ref b4), .unset, .unset, .unset] [(.int (16 : Int32)), (.int p6), (.int (1 : Int32)), (.ref b4)])) _
    refine XS.iushr X7.here hx rfl (hb hby at_60) rfl ?_
    show Steps p.tables e below (T7.setTop (mkF m 61 #[.val (.int p1), .val (.int p2), .val (.int p3), .val (.int p4), .val (.int p5), .val (.int p6), .val (.ref b1), .val (.int nn), .val (.ref b4), .unset, .unset, .unset] [(.int ((p6.toUInt32 >>> ((16 : Int32) &&& 31).toUInt32).toInt32)), (.int (1 : Int32)), (.ref b4)])) _
    refine Jvm.Stand.ldcI X7 hx hown (mvT hZ (hw _ (List.mem_of_getElem? (i := 1) rfl))) rfl (hb hby at_61) ?_
    show Steps p.tables e below (T7.setTop (mkF m 63 #[.val (.int p1), .val (.int p2), .val (.int p3), .val (.int p4), .val (.int p5), .val (.int p6), .val (.ref b1), .val (.int nn), .val (.ref b4), .unset, .unset, .unset] [(.int (65535 : Int32)), (.int ((p6.toUInt32 >>> ((16 : Int32) &&& 31).toUInt32).toInt32)), (.int (1 : Int32)), (.ref b4)])) _
    refine XS.iand X7.here hx rfl (hb hby at_63) rfl ?_
    show Steps p.tables e below (T7.setTop (mkF m 64 #[.val (.int p1), .val (.int p2), .val (.int p3), .val (.int p4), .val (.int p5), .val (.int p6), .val (.ref b1), .val (.int nn), .val (.ref b4), .unset, .unset, .unset] [(.int (((p6.toUInt32 >>> ((16 : Int32) &&& 31).toUInt32).toInt32) &&& (65535 : Int32))), (.int (1 : Int32)), (.ref b4)])) _
    refine XS.aload X7.here hx rfl (hb hby at_64) rfl rfl ?_
    show Steps p.tables e below (T7.setTop (mkF m 66 #[.val (.int p1), .val (.int p2), .val (.int p3), .val (.int p4), .val (.int p5), .val (.int p6), .val (.ref b1), .val (.int nn), .val (.ref b4), .unset, .unset, .unset] [(.ref b1), (.int (((p6.toUInt32 >>> ((16 : Int32) &&& 31).toUInt32).toInt32) &&& (65535 : Int32))), (.int (1 : Int32)), (.ref b4)])) _
    refine XS.iconst X7.here hx rfl (hb hby at_66) ?_
    show Steps p.tables e below (T7.setTop (mkF m 67 #[.val (.int p1), .val (.int p2), .val (.int p3), .val (.int p4), .val (.int p5), .val (.int p6), .val (.ref b1), .val (.int nn), .val (.ref b4), .unset, .unset, .unset] [(.int (1 : Int32)), (.ref b1), (.int (((p6.toUInt32 >>> ((16 : Int32) &&& 31).toUInt32).toInt32) &&& (65535 : Int32))), (.int (1 : Int32)), (.ref b4)])) _
    refine X7.iaload hx (j := (1 : Int32)) (v := (.int q1)) (by rw [e7]; exact Ar8.1) (State.isArrayOf_alike hZ.alike Ar8.2.1) Ar8.2.2 hin9 hat9 (g := (mkF m 67 #[.val (.int p1), .val (.int p2), .val (.int p3), .val (.int p4), .val (.int p5), .val (.int p6), .val (.ref b1), .val (.int nn), .val (.ref b4), .unset, .unset, .unset] [(.int (1 : Int32)), (.ref b1), (.int (((p6.toUInt32 >>> ((16 : Int32) &&& 31).toUInt32).toInt32) &&& (65535 : Int32))), (.int (1 : Int32)), (.ref b4)])) rfl rfl (hb hby at_67) _ ?_
    show Steps p.tables e below (T7.setTop (mkF m 68 #[.val (.int p1), .val (.int p2), .val (.int p3), .val (.int p4), .val (.int p5), .val (.int p6), .val (.ref b1), .val (.int nn), .val (.ref b4), .unset, .unset, .unset] [(.int q1), (.int (((p6.toUInt32 >>> ((16 : Int32) &&& 31).toUInt32).toInt32) &&& (65535 : Int32))), (.int (1 : Int32)), (.ref b4)])) _
    refine XS.iconst X7.here hx rfl (hb hby at_68) ?_
    show Steps p.tables e below (T7.setTop (mkF m 69 #[.val (.int p1), .val (.int p2), .val (.int p3), .val (.int p4), .val (.int p5), .val (.int p6), .val (.ref b1), .val (.int nn), .val (.ref b4), .unset, .unset, .unset] [(.int (1 : Int32)), (.int q1), (.int (((p6.toUInt32 >>> ((16 : Int32) &&& 31).toUInt32).toInt32) &&& (65535 : Int32))), (.int (1 : Int32)), (.ref b4)])) _
    refine XS.iadd X7.here hx rfl (hb hby at_69) rfl ?_
    show Steps p.tables e below (T7.setTop (mkF m 70 #[.val (.int p1), .val (.int p2), .val (.int p3), .val (.int p4), .val (.int p5), .val (.int p6), .val (.ref b1), .val (.int nn), .val (.ref b4), .unset, .unset, .unset] [(.int (q1 + (1 : Int32))), (.int (((p6.toUInt32 >>> ((16 : Int32) &&& 31).toUInt32).toInt32) &&& (65535 : Int32))), (.int (1 : Int32)), (.ref b4)])) _
    refine iremM X7 hx rfl (hb hby at_70) rfl mz1 ?_
    show Steps p.tables e below (T7.setTop (mkF m 71 #[.val (.int p1), .val (.int p2), .val (.int p3), .val (.int p4), .val (.int p5), .val (.int p6), .val (.ref b1), .val (.int nn), .val (.ref b4), .unset, .unset, .unset] [(.int ((((p6.toUInt32 >>> ((16 : Int32) &&& 31).toUInt32).toInt32) &&& (65535 : Int32)) % (q1 + (1 : Int32)))), (.int (1 : Int32)), (.ref b4)])) _
    refine castTop (g' := (mkF m 71 #[.val (.int p1), .val (.int p2), .val (.int p3), .val (.int p4), .val (.int p5), .val (.int p6), .val (.ref b1), .val (.int nn), .val (.ref b4), .unset, .unset, .unset] [(.int u1), (.int (1 : Int32)), (.ref b4)])) (by rw [hb1]) ?_
    show Steps p.tables e below (T7.setTop (mkF m 71 #[.val (.int p1), .val (.int p2), .val (.int p3), .val (.int p4), .val (.int p5), .val (.int p6), .val (.ref b1), .val (.int nn), .val (.ref b4), .unset, .unset, .unset] [(.int u1), (.int (1 : Int32)), (.ref b4)])) _
    refine st10 _ ?_
    show Steps p.tables e below (T10.setTop (mkF m 72 #[.val (.int p1), .val (.int p2), .val (.int p3), .val (.int p4), .val (.int p5), .val (.int p6), .val (.ref b1), .val (.int nn), .val (.ref b4), .unset, .unset, .unset] [])) _
    refine st11 _ ?_
    show Steps p.tables e below (T11.setTop (mkF m 75 #[.val (.int p1), .val (.int p2), .val (.int p3), .val (.int p4), .val (.int p5), .val (.int p6), .val (.ref b1), .val (.int nn), .val (.ref b4), .unset, .unset, .unset] [(.ref b11)])) _
    refine XS.dup X11.here hx rfl (hb hby at_75) rfl rfl ?_
    show Steps p.tables e below (T11.setTop (mkF m 76 #[.val (.int p1), .val (.int p2), .val (.int p3), .val (.int p4), .val (.int p5), .val (.int p6), .val (.ref b1), .val (.int nn), .val (.ref b4), .unset, .unset, .unset] [(.ref b11), (.ref b11)])) _
    refine XS.aload X11.here hx rfl (hb hby at_76) rfl rfl ?_
    show Steps p.tables e below (T11.setTop (mkF m 78 #[.val (.int p1), .val (.int p2), .val (.int p3), .val (.int p4), .val (.int p5), .val (.int p6), .val (.ref b1), .val (.int nn), .val (.ref b4), .unset, .unset, .unset] [(.ref b1), (.ref b11), (.ref b11)])) _
    refine st12.trans ?_
    show Steps p.tables e below (T12.setTop (mkF m 81 #[.val (.int p1), .val (.int p2), .val (.int p3), .val (.int p4), .val (.int p5), .val (.int p6), .val (.ref b1), .val (.int nn), .val (.ref b4), .unset, .unset, .unset] [(.ref b11)])) _
    refine XS.astore X12.here hx rfl (hb hby at_81) rfl rfl (l' := #[.val (.int p1), .val (.int p2), .val (.int p3), .val (.int p4), .val (.int p5), .val (.int p6), .val (.ref b1), .val (.int nn), .val (.ref b4), .val (.ref b11), .unset, .unset]) rfl ?_
    show Steps p.tables e below (T12.setTop (mkF m 83 #[.val (.int p1), .val (.int p2), .val (.int p3), .val (.int p4), .val (.int p5), .val (.int p6), .val (.ref b1), .val (.int nn), .val (.ref b4), .val (.ref b11), .unset, .unset] [])) _
    refine XS.lconst X12.here hx rfl (hb hby at_83) ?_
    show Steps p.tables e below (T12.setTop (mkF m 84 #[.val (.int p1), .val (.int p2), .val (.int p3), .val (.int p4), .val (.int p5), .val (.int p6), .val (.ref b1), .val (.int nn), .val (.ref b4), .val (.ref b11), .unset, .unset] [(.long (0 : Int64))])) _
    refine XS.lstore X12.here hx rfl (hb hby at_84) rfl (l' := #[.val (.int p1), .val (.int p2), .val (.int p3), .val (.int p4), .val (.int p5), .val (.int p6), .val (.ref b1), .val (.int nn), .val (.ref b4), .val (.ref b11), .val (.long (0 : Int64)), .second]) rfl ?_
    show Steps p.tables e below (T12.setTop (mkF m 86 #[.val (.int p1), .val (.int p2), .val (.int p3), .val (.int p4), .val (.int p5), .val (.int p6), .val (.ref b1), .val (.int nn), .val (.ref b4), .val (.ref b11), .val (.long (0 : Int64)), .second] [])) _
    refine XS.lload X12.here hx rfl (hb hby at_86) rfl ?_
    show Steps p.tables e below (T12.setTop (mkF m 88 #[.val (.int p1), .val (.int p2), .val (.int p3), .val (.int p4), .val (.int p5), .val (.int p6), .val (.ref b1), .val (.int nn), .val (.ref b4), .val (.ref b11), .val (.long (0 : Int64)), .second] [(.long (0 : Int64))])) _
    refine XS.aload X12.here hx rfl (hb hby at_88) rfl rfl ?_
    show Steps p.tables e below (T12.setTop (mkF m 90 #[.val (.int p1), .val (.int p2), .val (.int p3), .val (.int p4), .val (.int p5), .val (.int p6), .val (.ref b1), .val (.int nn), .val (.ref b4), .val (.ref b11), .val (.long (0 : Int64)), .second] [(.ref b11), (.long (0 : Int64))])) _
    refine XS.aload X12.here hx rfl (hb hby at_90) rfl rfl ?_
    show Steps p.tables e below (T12.setTop (mkF m 92 #[.val (.int p1), .val (.int p2), .val (.int p3), .val (.int p4), .val (.int p5), .val (.int p6), .val (.ref b1), .val (.int nn), .val (.ref b4), .val (.ref b11), .val (.long (0 : Int64)), .second] [(.ref b1), (.ref b11), (.long (0 : Int64))])) _
    refine XS.aload X12.here hx rfl (hb hby at_92) rfl rfl ?_
    show Steps p.tables e below (T12.setTop (mkF m 94 #[.val (.int p1), .val (.int p2), .val (.int p3), .val (.int p4), .val (.int p5), .val (.int p6), .val (.ref b1), .val (.int nn), .val (.ref b4), .val (.ref b11), .val (.long (0 : Int64)), .second] [(.ref b4), (.ref b1), (.ref b11), (.long (0 : Int64))])) _
    refine XS.iload X12.here hx rfl (hb hby at_94) rfl ?_
    show Steps p.tables e below (T12.setTop (mkF m 96 #[.val (.int p1), .val (.int p2), .val (.int p3), .val (.int p4), .val (.int p5), .val (.int p6), .val (.ref b1), .val (.int nn), .val (.ref b4), .val (.ref b11), .val (.long (0 : Int64)), .second] [(.int nn), (.ref b4), (.ref b1), (.ref b11), (.long (0 : Int64))])) _
    refine XS.ifNo X12.here hx rfl (hb hby at_96) rfl ((if0 _ _).trans (tlt (hn0 : (0 : Int32) < nn)).2.2.2) ?_
    show Steps p.tables e below (T12.setTop (mkF m 99 #[.val (.int p1), .val (.int p2), .val (.int p3), .val (.int p4), .val (.int p5), .val (.int p6), .val (.ref b1), .val (.int nn), .val (.ref b4), .val (.ref b11), .val (.long (0 : Int64)), .second] [(.ref b4), (.ref b1), (.ref b11), (.long (0 : Int64))])) _
    refine XS.iconst X12.here hx rfl (hb hby at_99) ?_
    show Steps p.tables e below (T12.setTop (mkF m 100 #[.val (.int p1), .val (.int p2), .val (.int p3), .val (.int p4), .val (.int p5), .val (.int p6), .val (.ref b1), .val (.int nn), .val (.ref b4), .val (.ref b11), .val (.long (0 : Int64)), .second] [(.int (1 : Int32)), (.ref b4), (.ref b1), (.ref b11), (.long (0 : Int64))])) _
    refine XS.goto X12.here hx rfl (pc0 := 100) (pc' := 104) rfl (hb hby at_100) (by decide) (by decide) ?_
    show Steps p.tables e below (T12.setTop (mkF m 104 #[.val (.int p1), .val (.int p2), .val (.int p3), .val (.int p4), .val (.int p5), .val (.int p6), .val (.ref b1), .val (.int nn), .val (.ref b4), .val (.ref b11), .val (.long (0 : Int64)), .second] [(.int (1 : Int32)), (.ref b4), (.ref b1), (.ref b11), (.long (0 : Int64))])) _
    refine XS.iloadN X12.here hx rfl (hb hby at_104) rfl ?_
    show Steps p.tables e below (T12.setTop (mkF m 105 #[.val (.int p1), .val (.int p2), .val (.int p3), .val (.int p4), .val (.int p5), .val (.int p6), .val (.ref b1), .val (.int nn), .val (.ref b4), .val (.ref b11), .val (.long (0 : Int64)), .second] [(.int p1), (.int (1 : Int32)), (.ref b4), (.ref b1), (.ref b11), (.long (0 : Int64))])) _
    refine XS.bipush X12.here hx rfl (hb hby at_105) ?_
    show Steps p.tables e below (T12.setTop (mkF m 107 #[.val (.int p1), .val (.int p2), .val (.int p3), .val (.int p4), .val (.int p5), .val (.int p6), .val (.ref b1), .val (.int nn), .val (.ref b4), .val (.ref b11), .val (.long (0 : Int64)), .second] [(.int (12 : Int32)), (.int p1), (.int (1 : Int32)), (.ref b4), (.ref b1), (.ref b11), (.long (0 : Int64))])) _
    refine XS.iushr X12.here hx rfl (hb hby at_107) rfl ?_
    show Steps p.tables e below (T12.setTop (mkF m 108 #[.val (.int p1), .val (.int p2), .val (.int p3), .val (.int p4), .val (.int p5), .val (.int p6), .val (.ref b1), .val (.int nn), .val (.ref b4), .val (.ref b11), .val (.long (0 : Int64)), .second] [(.int ((p1.toUInt32 >>> ((12 : Int32) &&& 31).toUInt32).toInt32)), (.int (1 : Int32)), (.ref b4), (.ref b1), (.ref b11), (.long (0 : Int64))])) _
    refine XS.iconst X12.here hx rfl (hb hby at_108) ?_
    show Steps p.tables e below (T12.setTop (mkF m 109 #[.val (.int p1), .val (.int p2), .val (.int p3), .val (.int p4), .val (.int p5), .val (.int p6), .val (.ref b1), .val (.int nn), .val (.ref b4), .val (.ref b11), .val (.long (0 : Int64)), .second] [(.int (1 : Int32)), (.int ((p1.toUInt32 >>> ((12 : Int32) &&& 31).toUInt32).toInt32)), (.int (1 : Int32)), (.ref b4), (.ref b1), (.ref b11), (.long (0 : Int64))])) _
    refine XS.iand X12.here hx rfl (hb hby at_109) rfl ?_
    show Steps p.tables e below (T12.setTop (mkF m 110 #[.val (.int p1), .val (.int p2), .val (.int p3), .val (.int p4), .val (.int p5), .val (.int p6), .val (.ref b1), .val (.int nn), .val (.ref b4), .val (.ref b11), .val (.long (0 : Int64)), .second] [(.int (((p1.toUInt32 >>> ((12 : Int32) &&& 31).toUInt32).toInt32) &&& (1 : Int32))), (.int (1 : Int32)), (.ref b4), (.ref b1), (.ref b11), (.long (0 : Int64))])) _
    refine castTop (g' := (mkF m 110 #[.val (.int p1), .val (.int p2), .val (.int p3), .val (.int p4), .val (.int p5), .val (.int p6), .val (.ref b1), .val (.int nn), .val (.ref b4), .val (.ref b11), .val (.long (0 : Int64)), .second] [(.int c1), (.int (1 : Int32)), (.ref b4), (.ref b1), (.ref b11), (.long (0 : Int64))])) (by rw [hc1]) ?_
    show Steps p.tables e below (T12.setTop (mkF m 110 #[.val (.int p1), .val (.int p2), .val (.int p3), .val (.int p4), .val (.int p5), .val (.int p6), .val (.ref b1), .val (.int nn), .val (.ref b4), .val (.ref b11), .val (.long (0 : Int64)), .second] [(.int c1), (.int (1 : Int32)), (.ref b4), (.ref b1), (.ref b11), (.long (0 : Int64))])) _
    refine XS.iloadN X12.here hx rfl (hb hby at_110) rfl ?_
    show Steps p.tables e below (T12.setTop (mkF m 111 #[.val (.int p1), .val (.int p2), .val (.int p3), .val (.int p4), .val (.int p5), .val (.int p6), .val (.ref b1), .val (.int nn), .val (.ref b4), .val (.ref b11), .val (.long (0 : Int64)), .second] [(.int p2), (.int c1), (.int (1 : Int32)), (.ref b4), (.ref b1), (.ref b11), (.long (0 : Int64))])) _
    refine st13 _ ?_
    show Steps p.tables e below (T13.setTop (mkF m 114 #[.val (.int p1), .val (.int p2), .val (.int p3), .val (.int p4), .val (.int p5), .val (.int p6), .val (.ref b1), .val (.int nn), .val (.ref b4), .val (.ref b11), .val (.long (0 : Int64)), .second] [(.long (own_glt (own_sel c1 q0 q1) r1 (own_sel c1 u0 u1))), (.long (0 : Int64))])) _
    refine XS.ladd X13.here hx rfl (hb hby at_114) rfl ?_
    show Steps p.tables e below (T13.setTop (mkF m 115 #[.val (.int p1), .val (.int p2), .val (.int p3), .val (.int p4), .val (.int p5), .val (.int p6), .val (.ref b1), .val (.int nn), .val (.ref b4), .val (.ref b11), .val (.long (0 : Int64)), .second] [(.long ((0 : Int64) + (own_glt (own_sel c1 q0 q1) r1 (own_sel c1 u0 u1))))])) _
    refine XS.lstore X13.here hx rfl (hb hby at_115) rfl (l' := #[.val (.int p1), .val (.int p2), .val (.int p3), .val (.int p4), .val (.int p5), .val (.int p6), .val (.ref b1), .val (.int nn), .val (.ref b4), .val (.ref b11), .val (.long ((0 : Int64) + (own_glt (own_sel c1 q0 q1) r1 (own_sel c1 u0 u1)))), .second]) rfl ?_
    show Steps p.tables e below (T13.setTop (mkF m 117 #[.val (.int p1), .val (.int p2), .val (.int p3), .val (.int p4), .val (.int p5), .val (.int p6), .val (.ref b1), .val (.int nn), .val (.ref b4), .val (.ref b11), .val (.long ((0 : Int64) + (own_glt (own_sel c1 q0 q1) r1 (own_sel c1 u0 u1)))), .second] [])) _
    refine XS.lload X13.here hx rfl (hb hby at_117) rfl ?_
    show Steps p.tables e below (T13.setTop (mkF m 119 #[.val (.int p1), .val (.int p2), .val (.int p3), .val (.int p4), .val (.int p5), .val (.int p6), .val (.ref b1), .val (.int nn), .val (.ref b4), .val (.ref b11), .val (.long ((0 : Int64) + (own_glt (own_sel c1 q0 q1) r1 (own_sel c1 u0 u1)))), .second] [(.long ((0 : Int64) + (own_glt (own_sel c1 q0 q1) r1 (own_sel c1 u0 u1))))])) _
    refine XS.aload X13.here hx rfl (hb hby at_119) rfl rfl ?_
    show Steps p.tables e below (T13.setTop (mkF m 121 #[.val (.int p1), .val (.int p2), .val (.int p3), .val (.int p4), .val (.int p5), .val (.int p6), .val (.ref b1), .val (.int nn), .val (.ref b4), .val (.ref b11), .val (.long ((0 : Int64) + (own_glt (own_sel c1 q0 q1) r1 (own_sel c1 u0 u1)))), .second] [(.ref b11), (.long ((0 : Int64) + (own_glt (own_sel c1 q0 q1) r1 (own_sel c1 u0 u1))))])) _
    refine XS.aload X13.here hx rfl (hb hby at_121) rfl rfl ?_
    show Steps p.tables e below (T13.setTop (mkF m 123 #[.val (.int p1), .val (.int p2), .val (.int p3), .val (.int p4), .val (.int p5), .val (.int p6), .val (.ref b1), .val (.int nn), .val (.ref b4), .val (.ref b11), .val (.long ((0 : Int64) + (own_glt (own_sel c1 q0 q1) r1 (own_sel c1 u0 u1)))), .second] [(.ref b1), (.ref b11), (.long ((0 : Int64) + (own_glt (own_sel c1 q0 q1) r1 (own_sel c1 u0 u1))))])) _
    refine XS.aload X13.here hx rfl (hb hby at_123) rfl rfl ?_
    show Steps p.tables e below (T13.setTop (mkF m 125 #[.val (.int p1), .val (.int p2), .val (.int p3), .val (.int p4), .val (.int p5), .val (.int p6), .val (.ref b1), .val (.int nn), .val (.ref b4), .val (.ref b11), .val (.long ((0 : Int64) + (own_glt (own_sel c1 q0 q1) r1 (own_sel c1 u0 u1)))), .second] [(.ref b4), (.ref b1), (.ref b11), (.long ((0 : Int64) + (own_glt (own_sel c1 q0 q1) r1 (own_sel c1 u0 u1))))])) _
    refine XS.iload X13.here hx rfl (hb hby at_125) rfl ?_
    show Steps p.tables e below (T13.setTop (mkF m 127 #[.val (.int p1), .val (.int p2), .val (.int p3), .val (.int p4), .val (.int p5), .val (.int p6), .val (.ref b1), .val (.int nn), .val (.ref b4), .val (.ref b11), .val (.long ((0 : Int64) + (own_glt (own_sel c1 q0 q1) r1 (own_sel c1 u0 u1)))), .second] [(.int nn), (.ref b4), (.ref b1), (.ref b11), (.long ((0 : Int64) + (own_glt (own_sel c1 q0 q1) r1 (own_sel c1 u0 u1))))])) _
    refine XS.iconst X13.here hx rfl (hb hby at_127) ?_
    show Steps p.tables e below (T13.setTop (mkF m 128 #[.val (.int p1), .val (.int p2), .val (.int p3), .val (.int p4), .val (.int p5), .val (.int p6), .val (.ref b1), .val (.int nn), .val (.ref b4), .val (.ref b11), .val (.long ((0 : Int64) + (own_glt (own_sel c1 q0 q1) r1 (own_sel c1 u0 u1)))), .second] [(.int (1 : Int32)), (.int nn), (.ref b4), (.ref b1), (.ref b11), (.long ((0 : Int64) + (own_glt (own_sel c1 q0 q1) r1 (own_sel c1 u0 u1))))])) _
    refine XS.icmpNo X13.here hx rfl (hb hby at_128) rfl (tlt (hn1 : (1 : Int32) < nn)).2.2.2 ?_
    show Steps p.tables e below (T13.setTop (mkF m 131 #[.val (.int p1), .val (.int p2), .val (.int p3), .val (.int p4), .val (.int p5), .val (.int p6), .val (.ref b1), .val (.int nn), .val (.ref b4), .val (.ref b11), .val (.long ((0 : Int64) + (own_glt (own_sel c1 q0 q1) r1 (own_sel c1 u0 u1)))), .second] [(.ref b4), (.ref b1), (.ref b11), (.long ((0 : Int64) + (own_glt (own_sel c1 q0 q1) r1 (own_sel c1 u0 u1))))])) _
    refine XS.iconst X13.here hx rfl (hb hby at_131) ?_
    show Steps p.tables e below (T13.setTop (mkF m 132 #[.val (.int p1), .val (.int p2), .val (.int p3), .val (.int p4), .val (.int p5), .val (.int p6), .val (.ref b1), .val (.int nn), .val (.ref b4), .val (.ref b11), .val (.long ((0 : Int64) + (own_glt (own_sel c1 q0 q1) r1 (own_sel c1 u0 u1)))), .second] [(.int (1 : Int32)), (.ref b4), (.ref b1), (.ref b11), (.long ((0 : Int64) + (own_glt (own_sel c1 q0 q1) r1 (own_sel c1 u0 u1))))])) _
    refine XS.goto X13.here hx rfl (pc0 := 132) (pc' := 136) rfl (hb hby at_132) (by decide) (by decide) ?_
    show Steps p.tables e below (T13.setTop (mkF m 136 #[.val (.int p1), .val (.int p2), .val (.int p3), .val (.int p4), .val (.int p5), .val (.int p6), .val (.ref b1), .val (.int nn), .val (.ref b4), .val (.ref b11), .val (.long ((0 : Int64) + (own_glt (own_sel c1 q0 q1) r1 (own_sel c1 u0 u1)))), .second] [(.int (1 : Int32)), (.ref b4), (.ref b1), (.ref b11), (.long ((0 : Int64) + (own_glt (own_sel c1 q0 q1) r1 (own_sel c1 u0 u1))))])) _
    refine XS.iloadN X13.here hx rfl (hb hby at_136) rfl ?_
    show Steps p.tables e below (T13.setTop (mkF m 137 #[.val (.int p1), .val (.int p2), .val (.int p3), .val (.int p4), .val (.int p5), .val (.int p6), .val (.ref b1), .val (.int nn), .val (.ref b4), .val (.ref b11), .val (.long ((0 : Int64) + (own_glt (own_sel c1 q0 q1) r1 (own_sel c1 u0 u1)))), .second] [(.int p1), (.int (1 : Int32)), (.ref b4), (.ref b1), (.ref b11), (.long ((0 : Int64) + (own_glt (own_sel c1 q0 q1) r1 (own_sel c1 u0 u1))))])) _
    refine XS.bipush X13.here hx rfl (hb hby at_137) ?_
    show Steps p.tables e below (T13.setTop (mkF m 139 #[.val (.int p1), .val (.int p2), .val (.int p3), .val (.int p4), .val (.int p5), .val (.int p6), .val (.ref b1), .val (.int nn), .val (.ref b4), .val (.ref b11), .val (.long ((0 : Int64) + (own_glt (own_sel c1 q0 q1) r1 (own_sel c1 u0 u1)))), .second] [(.int (13 : Int32)), (.int p1), (.int (1 : Int32)), (.ref b4), (.ref b1), (.ref b11), (.long ((0 : Int64) + (own_glt (own_sel c1 q0 q1) r1 (own_sel c1 u0 u1))))])) _
    refine XS.iushr X13.here hx rfl (hb hby at_139) rfl ?_
    show Steps p.tables e below (T13.setTop (mkF m 140 #[.val (.int p1), .val (.int p2), .val (.int p3), .val (.int p4), .val (.int p5), .val (.int p6), .val (.ref b1), .val (.int nn), .val (.ref b4), .val (.ref b11), .val (.long ((0 : Int64) + (own_glt (own_sel c1 q0 q1) r1 (own_sel c1 u0 u1)))), .second] [(.int ((p1.toUInt32 >>> ((13 : Int32) &&& 31).toUInt32).toInt32)), (.int (1 : Int32)), (.ref b4), (.ref b1), (.ref b11), (.long ((0 : Int64) + (own_glt (own_sel c1 q0 q1) r1 (own_sel c1 u0 u1))))])) _
    refine XS.iconst X13.here hx rfl (hb hby at_140) ?_
    show Steps p.tables e below (T13.setTop (mkF m 141 #[.val (.int p1), .val (.int p2), .val (.int p3), .val (.int p4), .val (.int p5), .val (.int p6), .val (.ref b1), .val (.int nn), .val (.ref b4), .val (.ref b11), .val (.long ((0 : Int64) + (own_glt (own_sel c1 q0 q1) r1 (own_sel c1 u0 u1)))), .second] [(.int (1 : Int32)), (.int ((p1.toUInt32 >>> ((13 : Int32) &&& 31).toUInt32).toInt32)), (.int (1 : Int32)), (.ref b4), (.ref b1), (.ref b11), (.long ((0 : Int64) + (own_glt (own_sel c1 q0 q1) r1 (own_sel c1 u0 u1))))])) _
    refine XS.iand X13.here hx rfl (hb hby at_141) rfl ?_
    show Steps p.tables e below (T13.setTop (mkF m 142 #[.val (.int p1), .val (.int p2), .val (.int p3), .val (.int p4), .val (.int p5), .val (.int p6), .val (.ref b1), .val (.int nn), .val (.ref b4), .val (.ref b11), .val (.long ((0 : Int64) + (own_glt (own_sel c1 q0 q1) r1 (own_sel c1 u0 u1)))), .second] [(.int (((p1.toUInt32 >>> ((13 : Int32) &&& 31).toUInt32).toInt32) &&& (1 : Int32))), (.int (1 : Int32)), (.ref b4), (.ref b1), (.ref b11), (.long ((0 : Int64) + (own_glt (own_sel c1 q0 q1) r1 (own_sel c1 u0 u1))))])) _
    refine castTop (g' := (mkF m 142 #[.val (.int p1), .val (.int p2), .val (.int p3), .val (.int p4), .val (.int p5), .val (.int p6), .val (.ref b1), .val (.int nn), .val (.ref b4), .val (.ref b11), .val (.long ((0 : Int64) + (own_glt (own_sel c1 q0 q1) r1 (own_sel c1 u0 u1)))), .second] [(.int c2), (.int (1 : Int32)), (.ref b4), (.ref b1), (.ref b11), (.long ((0 : Int64) + (own_glt (own_sel c1 q0 q1) r1 (own_sel c1 u0 u1))))])) (by rw [hc2]) ?_
    show Steps p.tables e below (T13.setTop (mkF m 142 #[.val (.int p1), .val (.int p2), .val (.int p3), .val (.int p4), .val (.int p5), .val (.int p6), .val (.ref b1), .val (.int nn), .val (.ref b4), .val (.ref b11), .val (.long ((0 : Int64) + (own_glt (own_sel c1 q0 q1) r1 (own_sel c1 u0 u1)))), .second] [(.int c2), (.int (1 : Int32)), (.ref b4), (.ref b1), (.ref b11), (.long ((0 : Int64) + (own_glt (own_sel c1 q0 q1) r1 (own_sel c1 u0 u1))))])) _
    refine XS.iloadN X13.here hx rfl (hb hby at_142) rfl ?_
    show Steps p.tables e below (T13.setTop (mkF m 143 #[.val (.int p1), .val (.int p2), .val (.int p3), .val (.int p4), .val (.int p5), .val (.int p6), .val (.ref b1), .val (.int nn), .val (.ref b4), .val (.ref b11), .val (.long ((0 : Int64) + (own_glt (own_sel c1 q0 q1) r1 (own_sel c1 u0 u1)))), .second] [(.int p3), (.int c2), (.int (1 : Int32)), (.ref b4), (.ref b1), (.ref b11), (.long ((0 : Int64) + (own_glt (own_sel c1 q0 q1) r1 (own_sel c1 u0 u1))))])) _
    refine st14 _ ?_
    show Steps p.tables e below (T14.setTop (mkF m 146 #[.val (.int p1), .val (.int p2), .val (.int p3), .val (.int p4), .val (.int p5), .val (.int p6), .val (.ref b1), .val (.int nn), .val (.ref b4), .val (.ref b11), .val (.long ((0 : Int64) + (own_glt (own_sel c1 q0 q1) r1 (own_sel c1 u0 u1)))), .second] [(.long (own_glt (own_sel c2 q0 q1) r2 (own_sel c2 u0 u1))), (.long ((0 : Int64) + (own_glt (own_sel c1 q0 q1) r1 (own_sel c1 u0 u1))))])) _
    refine XS.ladd X14.here hx rfl (hb hby at_146) rfl ?_
    show Steps p.tables e below (T14.setTop (mkF m 147 #[.val (.int p1), .val (.int p2), .val (.int p3), .val (.int p4), .val (.int p5), .val (.int p6), .val (.ref b1), .val (.int nn), .val (.ref b4), .val (.ref b11), .val (.long ((0 : Int64) + (own_glt (own_sel c1 q0 q1) r1 (own_sel c1 u0 u1)))), .second] [(.long (((0 : Int64) + (own_glt (own_sel c1 q0 q1) r1 (own_sel c1 u0 u1))) + (own_glt (own_sel c2 q0 q1) r2 (own_sel c2 u0 u1))))])) _
    refine XS.lstore X14.here hx rfl (hb hby at_147) rfl (l' := #[.val (.int p1), .val (.int p2), .val (.int p3), .val (.int p4), .val (.int p5), .val (.int p6), .val (.ref b1), .val (.int nn), .val (.ref b4), .val (.ref b11), .val (.long (((0 : Int64) + (own_glt (own_sel c1 q0 q1) r1 (own_sel c1 u0 u1))) + (own_glt (own_sel c2 q0 q1) r2 (own_sel c2 u0 u1)))), .second]) rfl ?_
    show Steps p.tables e below (T14.setTop (mkF m 149 #[.val (.int p1), .val (.int p2), .val (.int p3), .val (.int p4), .val (.int p5), .val (.int p6), .val (.ref b1), .val (.int nn), .val (.ref b4), .val (.ref b11), .val (.long (((0 : Int64) + (own_glt (own_sel c1 q0 q1) r1 (own_sel c1 u0 u1))) + (own_glt (own_sel c2 q0 q1) r2 (own_sel c2 u0 u1)))), .second] [])) _
    refine XS.lload X14.here hx rfl (hb hby at_149) rfl ?_
    show Steps p.tables e below (T14.setTop (mkF m 151 #[.val (.int p1), .val (.int p2), .val (.int p3), .val (.int p4), .val (.int p5), .val (.int p6), .val (.ref b1), .val (.int nn), .val (.ref b4), .val (.ref b11), .val (.long (((0 : Int64) + (own_glt (own_sel c1 q0 q1) r1 (own_sel c1 u0 u1))) + (own_glt (own_sel c2 q0 q1) r2 (own_sel c2 u0 u1)))), .second] [(.long (((0 : Int64) + (own_glt (own_sel c1 q0 q1) r1 (own_sel c1 u0 u1))) + (own_glt (own_sel c2 q0 q1) r2 (own_sel c2 u0 u1))))])) _
    refine XS.aload X14.here hx rfl (hb hby at_151) rfl rfl ?_
    show Steps p.tables e below (T14.setTop (mkF m 153 #[.val (.int p1), .val (.int p2), .val (.int p3), .val (.int p4), .val (.int p5), .val (.int p6), .val (.ref b1), .val (.int nn), .val (.ref b4), .val (.ref b11), .val (.long (((0 : Int64) + (own_glt (own_sel c1 q0 q1) r1 (own_sel c1 u0 u1))) + (own_glt (own_sel c2 q0 q1) r2 (own_sel c2 u0 u1)))), .second] [(.ref b11), (.long (((0 : Int64) + (own_glt (own_sel c1 q0 q1) r1 (own_sel c1 u0 u1))) + (own_glt (own_sel c2 q0 q1) r2 (own_sel c2 u0 u1))))])) _
    refine XS.aload X14.here hx rfl (hb hby at_153) rfl rfl ?_
    show Steps p.tables e below (T14.setTop (mkF m 155 #[.val (.int p1), .val (.int p2), .val (.int p3), .val (.int p4), .val (.int p5), .val (.int p6), .val (.ref b1), .val (.int nn), .val (.ref b4), .val (.ref b11), .val (.long (((0 : Int64) + (own_glt (own_sel c1 q0 q1) r1 (own_sel c1 u0 u1))) + (own_glt (own_sel c2 q0 q1) r2 (own_sel c2 u0 u1)))), .second] [(.ref b1), (.ref b11), (.long (((0 : Int64) + (own_glt (own_sel c1 q0 q1) r1 (own_sel c1 u0 u1))) + (own_glt (own_sel c2 q0 q1) r2 (own_sel c2 u0 u1))))])) _
    refine XS.aload X14.here hx rfl (hb hby at_155) rfl rfl ?_
    show Steps p.tables e below (T14.setTop (mkF m 157 #[.val (.int p1), .val (.int p2), .val (.int p3), .val (.int p4), .val (.int p5), .val (.int p6), .val (.ref b1), .val (.int nn), .val (.ref b4), .val (.ref b11), .val (.long (((0 : Int64) + (own_glt (own_sel c1 q0 q1) r1 (own_sel c1 u0 u1))) + (own_glt (own_sel c2 q0 q1) r2 (own_sel c2 u0 u1)))), .second] [(.ref b4), (.ref b1), (.ref b11), (.long (((0 : Int64) + (own_glt (own_sel c1 q0 q1) r1 (own_sel c1 u0 u1))) + (own_glt (own_sel c2 q0 q1) r2 (own_sel c2 u0 u1))))])) _
    refine XS.iload X14.here hx rfl (hb hby at_157) rfl ?_
    show Steps p.tables e below (T14.setTop (mkF m 159 #[.val (.int p1), .val (.int p2), .val (.int p3), .val (.int p4), .val (.int p5), .val (.int p6), .val (.ref b1), .val (.int nn), .val (.ref b4), .val (.ref b11), .val (.long (((0 : Int64) + (own_glt (own_sel c1 q0 q1) r1 (own_sel c1 u0 u1))) + (own_glt (own_sel c2 q0 q1) r2 (own_sel c2 u0 u1)))), .second] [(.int nn), (.ref b4), (.ref b1), (.ref b11), (.long (((0 : Int64) + (own_glt (own_sel c1 q0 q1) r1 (own_sel c1 u0 u1))) + (own_glt (own_sel c2 q0 q1) r2 (own_sel c2 u0 u1))))])) _
    refine XS.iconst X14.here hx rfl (hb hby at_159) ?_
    show Steps p.tables e below (T14.setTop (mkF m 160 #[.val (.int p1), .val (.int p2), .val (.int p3), .val (.int p4), .val (.int p5), .val (.int p6), .val (.ref b1), .val (.int nn), .val (.ref b4), .val (.ref b11), .val (.long (((0 : Int64) + (own_glt (own_sel c1 q0 q1) r1 (own_sel c1 u0 u1))) + (own_glt (own_sel c2 q0 q1) r2 (own_sel c2 u0 u1)))), .second] [(.int (2 : Int32)), (.int nn), (.ref b4), (.ref b1), (.ref b11), (.long (((0 : Int64) + (own_glt (own_sel c1 q0 q1) r1 (own_sel c1 u0 u1))) + (own_glt (own_sel c2 q0 q1) r2 (own_sel c2 u0 u1))))])) _
    refine XS.icmpNo X14.here hx rfl (hb hby at_160) rfl (tlt (hn2 : (2 : Int32) < nn)).2.2.2 ?_
    show Steps p.tables e below (T14.setTop (mkF m 163 #[.val (.int p1), .val (.int p2), .val (.int p3), .val (.int p4), .val (.int p5), .val (.int p6), .val (.ref b1), .val (.int nn), .val (.ref b4), .val (.ref b11), .val (.long (((0 : Int64) + (own_glt (own_sel c1 q0 q1) r1 (own_sel c1 u0 u1))) + (own_glt (own_sel c2 q0 q1) r2 (own_sel c2 u0 u1)))), .second] [(.ref b4), (.ref b1), (.ref b11), (.long (((0 : Int64) + (own_glt (own_sel c1 q0 q1) r1 (own_sel c1 u0 u1))) + (own_glt (own_sel c2 q0 q1) r2 (own_sel c2 u0 u1))))])) _
    refine XS.iconst X14.here hx rfl (hb hby at_163) ?_
    show Steps p.tables e below (T14.setTop (mkF m 164 #[.val (.int p1), .val (.int p2), .val (.int p3), .val (.int p4), .val (.int p5), .val (.int p6), .val (.ref b1), .val (.int nn), .val (.ref b4), .val (.ref b11), .val (.long (((0 : Int64) + (own_glt (own_sel c1 q0 q1) r1 (own_sel c1 u0 u1))) + (own_glt (own_sel c2 q0 q1) r2 (own_sel c2 u0 u1)))), .second] [(.int (1 : Int32)), (.ref b4), (.ref b1), (.ref b11), (.long (((0 : Int64) + (own_glt (own_sel c1 q0 q1) r1 (own_sel c1 u0 u1))) + (own_glt (own_sel c2 q0 q1) r2 (own_sel c2 u0 u1))))])) _
    refine XS.goto X14.here hx rfl (pc0 := 164) (pc' := 168) rfl (hb hby at_164) (by decide) (by decide) ?_
    show Steps p.tables e below (T14.setTop (mkF m 168 #[.val (.int p1), .val (.int p2), .val (.int p3), .val (.int p4), .val (.int p5), .val (.int p6), .val (.ref b1), .val (.int nn), .val (.ref b4), .val (.ref b11), .val (.long (((0 : Int64) + (own_glt (own_sel c1 q0 q1) r1 (own_sel c1 u0 u1))) + (own_glt (own_sel c2 q0 q1) r2 (own_sel c2 u0 u1)))), .second] [(.int (1 : Int32)), (.ref b4), (.ref b1), (.ref b11), (.long (((0 : Int64) + (own_glt (own_sel c1 q0 q1) r1 (own_sel c1 u0 u1))) + (own_glt (own_sel c2 q0 q1) r2 (own_sel c2 u0 u1))))])) _
    refine XS.iloadN X14.here hx rfl (hb hby at_168) rfl ?_
    show Steps p.tables e below (T14.setTop (mkF m 169 #[.val (.int p1), .val (.int p2), .val (.int p3), .val (.int p4), .val (.int p5), .val (.int p6), .val (.ref b1), .val (.int nn), .val (.ref b4), .val (.ref b11), .val (.long (((0 : Int64) + (own_glt (own_sel c1 q0 q1) r1 (own_sel c1 u0 u1))) + (own_glt (own_sel c2 q0 q1) r2 (own_sel c2 u0 u1)))), .second] [(.int p1), (.int (1 : Int32)), (.ref b4), (.ref b1), (.ref b11), (.long (((0 : Int64) + (own_glt (own_sel c1 q0 q1) r1 (own_sel c1 u0 u1))) + (own_glt (own_sel c2 q0 q1) r2 (own_sel c2 u0 u1))))])) _
    refine XS.bipush X14.here hx rfl (hb hby at_169) ?_
    show Steps p.tables e below (T14.setTop (mkF m 171 #[.val (.int p1), .val (.int p2), .val (.int p3), .val (.int p4), .val (.int p5), .val (.int p6), .val (.ref b1), .val (.int nn), .val (.ref b4), .val (.ref b11), .val (.long (((0 : Int64) + (own_glt (own_sel c1 q0 q1) r1 (own_sel c1 u0 u1))) + (own_glt (own_sel c2 q0 q1) r2 (own_sel c2 u0 u1)))), .second] [(.int (14 : Int32)), (.int p1), (.int (1 : Int32)), (.ref b4), (.ref b1), (.ref b11), (.long (((0 : Int64) + (own_glt (own_sel c1 q0 q1) r1 (own_sel c1 u0 u1))) + (own_glt (own_sel c2 q0 q1) r2 (own_sel c2 u0 u1))))])) _
    refine XS.iushr X14.here hx rfl (hb hby at_171) rfl ?_
    show Steps p.tables e below (T14.setTop (mkF m 172 #[.val (.int p1), .val (.int p2), .val (.int p3), .val (.int p4), .val (.int p5), .val (.int p6), .val (.ref b1), .val (.int nn), .val (.ref b4), .val (.ref b11), .val (.long (((0 : Int64) + (own_glt (own_sel c1 q0 q1) r1 (own_sel c1 u0 u1))) + (own_glt (own_sel c2 q0 q1) r2 (own_sel c2 u0 u1)))), .second] [(.int ((p1.toUInt32 >>> ((14 : Int32) &&& 31).toUInt32).toInt32)), (.int (1 : Int32)), (.ref b4), (.ref b1), (.ref b11), (.long (((0 : Int64) + (own_glt (own_sel c1 q0 q1) r1 (own_sel c1 u0 u1))) + (own_glt (own_sel c2 q0 q1) r2 (own_sel c2 u0 u1))))])) _
    refine XS.iconst X14.here hx rfl (hb hby at_172) ?_
    show Steps p.tables e below (T14.setTop (mkF m 173 #[.val (.int p1), .val (.int p2), .val (.int p3), .val (.int p4), .val (.int p5), .val (.int p6), .val (.ref b1), .val (.int nn), .val (.ref b4), .val (.ref b11), .val (.long (((0 : Int64) + (own_glt (own_sel c1 q0 q1) r1 (own_sel c1 u0 u1))) + (own_glt (own_sel c2 q0 q1) r2 (own_sel c2 u0 u1)))), .second] [(.int (1 : Int32)), (.int ((p1.toUInt32 >>> ((14 : Int32) &&& 31).toUInt32).toInt32)), (.int (1 : Int32)), (.ref b4), (.ref b1), (.ref b11), (.long (((0 : Int64) + (own_glt (own_sel c1 q0 q1) r1 (own_sel c1 u0 u1))) + (own_glt (own_sel c2 q0 q1) r2 (own_sel c2 u0 u1))))])) _
    refine XS.iand X14.here hx rfl (hb hby at_173) rfl ?_
    show Steps p.tables e below (T14.setTop (mkF m 174 #[.val (.int p1), .val (.int p2), .val (.int p3), .val (.int p4), .val (.int p5), .val (.int p6), .val (.ref b1), .val (.int nn), .val (.ref b4), .val (.ref b11), .val (.long (((0 : Int64) + (own_glt (own_sel c1 q0 q1) r1 (own_sel c1 u0 u1))) + (own_glt (own_sel c2 q0 q1) r2 (own_sel c2 u0 u1)))), .second] [(.int (((p1.toUInt32 >>> ((14 : Int32) &&& 31).toUInt32).toInt32) &&& (1 : Int32))), (.int (1 : Int32)), (.ref b4), (.ref b1), (.ref b11), (.long (((0 : Int64) + (own_glt (own_sel c1 q0 q1) r1 (own_sel c1 u0 u1))) + (own_glt (own_sel c2 q0 q1) r2 (own_sel c2 u0 u1))))])) _
    refine castTop (g' := (mkF m 174 #[.val (.int p1), .val (.int p2), .val (.int p3), .val (.int p4), .val (.int p5), .val (.int p6), .val (.ref b1), .val (.int nn), .val (.ref b4), .val (.ref b11), .val (.long (((0 : Int64) + (own_glt (own_sel c1 q0 q1) r1 (own_sel c1 u0 u1))) + (own_glt (own_sel c2 q0 q1) r2 (own_sel c2 u0 u1)))), .second] [(.int c3), (.int (1 : Int32)), (.ref b4), (.ref b1), (.ref b11), (.long (((0 : Int64) + (own_glt (own_sel c1 q0 q1) r1 (own_sel c1 u0 u1))) + (own_glt (own_sel c2 q0 q1) r2 (own_sel c2 u0 u1))))])) (by rw [hc3]) ?_
    show Steps p.tables e below (T14.setTop (mkF m 174 #[.val (.int p1), .val (.int p2), .val (.int p3), .val (.int p4), .val (.int p5), .val (.int p6), .val (.ref b1), .val (.int nn), .val (.ref b4), .val (.ref b11), .val (.long (((0 : Int64) + (own_glt (own_sel c1 q0 q1) r1 (own_sel c1 u0 u1))) + (own_glt (own_sel c2 q0 q1) r2 (own_sel c2 u0 u1)))), .second] [(.int c3), (.int (1 : Int32)), (.ref b4), (.ref b1), (.ref b11), (.long (((0 : Int64) + (own_glt (own_sel c1 q0 q1) r1 (own_sel c1 u0 u1))) + (own_glt (own_sel c2 q0 q1) r2 (own_sel c2 u0 u1))))])) _
    refine XS.iloadN X14.here hx rfl (hb hby at_174) rfl ?_
    show Steps p.tables e below (T14.setTop (mkF m 175 #[.val (.int p1), .val (.int p2), .val (.int p3), .val (.int p4), .val (.int p5), .val (.int p6), .val (.ref b1), .val (.int nn), .val (.ref b4), .val (.ref b11), .val (.long (((0 : Int64) + (own_glt (own_sel c1 q0 q1) r1 (own_sel c1 u0 u1))) + (own_glt (own_sel c2 q0 q1) r2 (own_sel c2 u0 u1)))), .second] [(.int p4), (.int c3), (.int (1 : Int32)), (.ref b4), (.ref b1), (.ref b11), (.long (((0 : Int64) + (own_glt (own_sel c1 q0 q1) r1 (own_sel c1 u0 u1))) + (own_glt (own_sel c2 q0 q1) r2 (own_sel c2 u0 u1))))])) _
    refine st15 _ ?_
    show Steps p.tables e below (T15.setTop (mkF m 178 #[.val (.int p1), .val (.int p2), .val (.int p3), .val (.int p4), .val (.int p5), .val (.int p6), .val (.ref b1), .val (.int nn), .val (.ref b4), .val (.ref b11), .val (.long (((0 : Int64) + (own_glt (own_sel c1 q0 q1) r1 (own_sel c1 u0 u1))) + (own_glt (own_sel c2 q0 q1) r2 (own_sel c2 u0 u1)))), .second] [(.long (own_glt (own_sel c3 q0 q1) r3 (own_sel c3 u0 u1))), (.long (((0 : Int64) + (own_glt (own_sel c1 q0 q1) r1 (own_sel c1 u0 u1))) + (own_glt (own_sel c2 q0 q1) r2 (own_sel c2 u0 u1))))])) _
    refine XS.ladd X15.here hx rfl (hb hby at_178) rfl ?_
    show Steps p.tables e below (T15.setTop (mkF m 179 #[.val (.int p1), .val (.int p2), .val (.int p3), .val (.int p4), .val (.int p5), .val (.int p6), .val (.ref b1), .val (.int nn), .val (.ref b4), .val (.ref b11), .val (.long (((0 : Int64) + (own_glt (own_sel c1 q0 q1) r1 (own_sel c1 u0 u1))) + (own_glt (own_sel c2 q0 q1) r2 (own_sel c2 u0 u1)))), .second] [(.long ((((0 : Int64) + (own_glt (own_sel c1 q0 q1) r1 (own_sel c1 u0 u1))) + (own_glt (own_sel c2 q0 q1) r2 (own_sel c2 u0 u1))) + (own_glt (own_sel c3 q0 q1) r3 (own_sel c3 u0 u1))))])) _
    refine XS.lstore X15.here hx rfl (hb hby at_179) rfl (l' := #[.val (.int p1), .val (.int p2), .val (.int p3), .val (.int p4), .val (.int p5), .val (.int p6), .val (.ref b1), .val (.int nn), .val (.ref b4), .val (.ref b11), .val (.long ((((0 : Int64) + (own_glt (own_sel c1 q0 q1) r1 (own_sel c1 u0 u1))) + (own_glt (own_sel c2 q0 q1) r2 (own_sel c2 u0 u1))) + (own_glt (own_sel c3 q0 q1) r3 (own_sel c3 u0 u1)))), .second]) rfl ?_
    show Steps p.tables e below (T15.setTop (mkF m 181 #[.val (.int p1), .val (.int p2), .val (.int p3), .val (.int p4), .val (.int p5), .val (.int p6), .val (.ref b1), .val (.int nn), .val (.ref b4), .val (.ref b11), .val (.long ((((0 : Int64) + (own_glt (own_sel c1 q0 q1) r1 (own_sel c1 u0 u1))) + (own_glt (own_sel c2 q0 q1) r2 (own_sel c2 u0 u1))) + (own_glt (own_sel c3 q0 q1) r3 (own_sel c3 u0 u1)))), .second] [])) _
    refine XS.lload X15.here hx rfl (hb hby at_181) rfl ?_
    show Steps p.tables e below (T15.setTop (mkF m 183 #[.val (.int p1), .val (.int p2), .val (.int p3), .val (.int p4), .val (.int p5), .val (.int p6), .val (.ref b1), .val (.int nn), .val (.ref b4), .val (.ref b11), .val (.long ((((0 : Int64) + (own_glt (own_sel c1 q0 q1) r1 (own_sel c1 u0 u1))) + (own_glt (own_sel c2 q0 q1) r2 (own_sel c2 u0 u1))) + (own_glt (own_sel c3 q0 q1) r3 (own_sel c3 u0 u1)))), .second] [(.long ((((0 : Int64) + (own_glt (own_sel c1 q0 q1) r1 (own_sel c1 u0 u1))) + (own_glt (own_sel c2 q0 q1) r2 (own_sel c2 u0 u1))) + (own_glt (own_sel c3 q0 q1) r3 (own_sel c3 u0 u1))))])) _
    refine XS.aload X15.here hx rfl (hb hby at_183) rfl rfl ?_
    show Steps p.tables e below (T15.setTop (mkF m 185 #[.val (.int p1), .val (.int p2), .val (.int p3), .val (.int p4), .val (.int p5), .val (.int p6), .val (.ref b1), .val (.int nn), .val (.ref b4), .val (.ref b11), .val (.long ((((0 : Int64) + (own_glt (own_sel c1 q0 q1) r1 (own_sel c1 u0 u1))) + (own_glt (own_sel c2 q0 q1) r2 (own_sel c2 u0 u1))) + (own_glt (own_sel c3 q0 q1) r3 (own_sel c3 u0 u1)))), .second] [(.ref b11), (.long ((((0 : Int64) + (own_glt (own_sel c1 q0 q1) r1 (own_sel c1 u0 u1))) + (own_glt (own_sel c2 q0 q1) r2 (own_sel c2 u0 u1))) + (own_glt (own_sel c3 q0 q1) r3 (own_sel c3 u0 u1))))])) _
    refine XS.aload X15.here hx rfl (hb hby at_185) rfl rfl ?_
    show Steps p.tables e below (T15.setTop (mkF m 187 #[.val (.int p1), .val (.int p2), .val (.int p3), .val (.int p4), .val (.int p5), .val (.int p6), .val (.ref b1), .val (.int nn), .val (.ref b4), .val (.ref b11), .val (.long ((((0 : Int64) + (own_glt (own_sel c1 q0 q1) r1 (own_sel c1 u0 u1))) + (own_glt (own_sel c2 q0 q1) r2 (own_sel c2 u0 u1))) + (own_glt (own_sel c3 q0 q1) r3 (own_sel c3 u0 u1)))), .second] [(.ref b1), (.ref b11), (.long ((((0 : Int64) + (own_glt (own_sel c1 q0 q1) r1 (own_sel c1 u0 u1))) + (own_glt (own_sel c2 q0 q1) r2 (own_sel c2 u0 u1))) + (own_glt (own_sel c3 q0 q1) r3 (own_sel c3 u0 u1))))])) _
    refine XS.aload X15.here hx rfl (hb hby at_187) rfl rfl ?_
    show Steps p.tables e below (T15.setTop (mkF m 189 #[.val (.int p1), .val (.int p2), .val (.int p3), .val (.int p4), .val (.int p5), .val (.int p6), .val (.ref b1), .val (.int nn), .val (.ref b4), .val (.ref b11), .val (.long ((((0 : Int64) + (own_glt (own_sel c1 q0 q1) r1 (own_sel c1 u0 u1))) + (own_glt (own_sel c2 q0 q1) r2 (own_sel c2 u0 u1))) + (own_glt (own_sel c3 q0 q1) r3 (own_sel c3 u0 u1)))), .second] [(.ref b4), (.ref b1), (.ref b11), (.long ((((0 : Int64) + (own_glt (own_sel c1 q0 q1) r1 (own_sel c1 u0 u1))) + (own_glt (own_sel c2 q0 q1) r2 (own_sel c2 u0 u1))) + (own_glt (own_sel c3 q0 q1) r3 (own_sel c3 u0 u1))))])) _
    refine XS.iload X15.here hx rfl (hb hby at_189) rfl ?_
    show Steps p.tables e below (T15.setTop (mkF m 191 #[.val (.int p1), .val (.int p2), .val (.int p3), .val (.int p4), .val (.int p5), .val (.int p6), .val (.ref b1), .val (.int nn), .val (.ref b4), .val (.ref b11), .val (.long ((((0 : Int64) + (own_glt (own_sel c1 q0 q1) r1 (own_sel c1 u0 u1))) + (own_glt (own_sel c2 q0 q1) r2 (own_sel c2 u0 u1))) + (own_glt (own_sel c3 q0 q1) r3 (own_sel c3 u0 u1)))), .second] [(.int nn), (.ref b4), (.ref b1), (.ref b11), (.long ((((0 : Int64) + (own_glt (own_sel c1 q0 q1) r1 (own_sel c1 u0 u1))) + (own_glt (own_sel c2 q0 q1) r2 (own_sel c2 u0 u1))) + (own_glt (own_sel c3 q0 q1) r3 (own_sel c3 u0 u1))))])) _
    refine XS.iconst X15.here hx rfl (hb hby at_191) ?_
    show Steps p.tables e below (T15.setTop (mkF m 192 #[.val (.int p1), .val (.int p2), .val (.int p3), .val (.int p4), .val (.int p5), .val (.int p6), .val (.ref b1), .val (.int nn), .val (.ref b4), .val (.ref b11), .val (.long ((((0 : Int64) + (own_glt (own_sel c1 q0 q1) r1 (own_sel c1 u0 u1))) + (own_glt (own_sel c2 q0 q1) r2 (own_sel c2 u0 u1))) + (own_glt (own_sel c3 q0 q1) r3 (own_sel c3 u0 u1)))), .second] [(.int (3 : Int32)), (.int nn), (.ref b4), (.ref b1), (.ref b11), (.long ((((0 : Int64) + (own_glt (own_sel c1 q0 q1) r1 (own_sel c1 u0 u1))) + (own_glt (own_sel c2 q0 q1) r2 (own_sel c2 u0 u1))) + (own_glt (own_sel c3 q0 q1) r3 (own_sel c3 u0 u1))))])) _
    refine XS.icmpNo X15.here hx rfl (hb hby at_192) rfl (tlt (hn3 : (3 : Int32) < nn)).2.2.2 ?_
    show Steps p.tables e below (T15.setTop (mkF m 195 #[.val (.int p1), .val (.int p2), .val (.int p3), .val (.int p4), .val (.int p5), .val (.int p6), .val (.ref b1), .val (.int nn), .val (.ref b4), .val (.ref b11), .val (.long ((((0 : Int64) + (own_glt (own_sel c1 q0 q1) r1 (own_sel c1 u0 u1))) + (own_glt (own_sel c2 q0 q1) r2 (own_sel c2 u0 u1))) + (own_glt (own_sel c3 q0 q1) r3 (own_sel c3 u0 u1)))), .second] [(.ref b4), (.ref b1), (.ref b11), (.long ((((0 : Int64) + (own_glt (own_sel c1 q0 q1) r1 (own_sel c1 u0 u1))) + (own_glt (own_sel c2 q0 q1) r2 (own_sel c2 u0 u1))) + (own_glt (own_sel c3 q0 q1) r3 (own_sel c3 u0 u1))))])) _
    refine XS.iconst X15.here hx rfl (hb hby at_195) ?_
    show Steps p.tables e below (T15.setTop (mkF m 196 #[.val (.int p1), .val (.int p2), .val (.int p3), .val (.int p4), .val (.int p5), .val (.int p6), .val (.ref b1), .val (.int nn), .val (.ref b4), .val (.ref b11), .val (.long ((((0 : Int64) + (own_glt (own_sel c1 q0 q1) r1 (own_sel c1 u0 u1))) + (own_glt (own_sel c2 q0 q1) r2 (own_sel c2 u0 u1))) + (own_glt (own_sel c3 q0 q1) r3 (own_sel c3 u0 u1)))), .second] [(.int (1 : Int32)), (.ref b4), (.ref b1), (.ref b11), (.long ((((0 : Int64) + (own_glt (own_sel c1 q0 q1) r1 (own_sel c1 u0 u1))) + (own_glt (own_sel c2 q0 q1) r2 (own_sel c2 u0 u1))) + (own_glt (own_sel c3 q0 q1) r3 (own_sel c3 u0 u1))))])) _
    refine XS.goto X15.here hx rfl (pc0 := 196) (pc' := 200) rfl (hb hby at_196) (by decide) (by decide) ?_
    show Steps p.tables e below (T15.setTop (mkF m 200 #[.val (.int p1), .val (.int p2), .val (.int p3), .val (.int p4), .val (.int p5), .val (.int p6), .val (.ref b1), .val (.int nn), .val (.ref b4), .val (.ref b11), .val (.long ((((0 : Int64) + (own_glt (own_sel c1 q0 q1) r1 (own_sel c1 u0 u1))) + (own_glt (own_sel c2 q0 q1) r2 (own_sel c2 u0 u1))) + (own_glt (own_sel c3 q0 q1) r3 (own_sel c3 u0 u1)))), .second] [(.int (1 : Int32)), (.ref b4), (.ref b1), (.ref b11), (.long ((((0 : Int64) + (own_glt (own_sel c1 q0 q1) r1 (own_sel c1 u0 u1))) + (own_glt (own_sel c2 q0 q1) r2 (own_sel c2 u0 u1))) + (own_glt (own_sel c3 q0 q1) r3 (own_sel c3 u0 u1))))])) _
    refine XS.iloadN X15.here hx rfl (hb hby at_200) rfl ?_
    show Steps p.tables e below (T15.setTop (mkF m 201 #[.val (.int p1), .val (.int p2), .val (.int p3), .val (.int p4), .val (.int p5), .val (.int p6), .val (.ref b1), .val (.int nn), .val (.ref b4), .val (.ref b11), .val (.long ((((0 : Int64) + (own_glt (own_sel c1 q0 q1) r1 (own_sel c1 u0 u1))) + (own_glt (own_sel c2 q0 q1) r2 (own_sel c2 u0 u1))) + (own_glt (own_sel c3 q0 q1) r3 (own_sel c3 u0 u1)))), .second] [(.int p1), (.int (1 : Int32)), (.ref b4), (.ref b1), (.ref b11), (.long ((((0 : Int64) + (own_glt (own_sel c1 q0 q1) r1 (own_sel c1 u0 u1))) + (own_glt (own_sel c2 q0 q1) r2 (own_sel c2 u0 u1))) + (own_glt (own_sel c3 q0 q1) r3 (own_sel c3 u0 u1))))])) _
    refine XS.bipush X15.here hx rfl (hb hby at_201) ?_
    show Steps p.tables e below (T15.setTop (mkF m 203 #[.val (.int p1), .val (.int p2), .val (.int p3), .val (.int p4), .val (.int p5), .val (.int p6), .val (.ref b1), .val (.int nn), .val (.ref b4), .val (.ref b11), .val (.long ((((0 : Int64) + (own_glt (own_sel c1 q0 q1) r1 (own_sel c1 u0 u1))) + (own_glt (own_sel c2 q0 q1) r2 (own_sel c2 u0 u1))) + (own_glt (own_sel c3 q0 q1) r3 (own_sel c3 u0 u1)))), .second] [(.int (15 : Int32)), (.int p1), (.int (1 : Int32)), (.ref b4), (.ref b1), (.ref b11), (.long ((((0 : Int64) + (own_glt (own_sel c1 q0 q1) r1 (own_sel c1 u0 u1))) + (own_glt (own_sel c2 q0 q1) r2 (own_sel c2 u0 u1))) + (own_glt (own_sel c3 q0 q1) r3 (own_sel c3 u0 u1))))])) _
    refine XS.iushr X15.here hx rfl (hb hby at_203) rfl ?_
    show Steps p.tables e below (T15.setTop (mkF m 204 #[.val (.int p1), .val (.int p2), .val (.int p3), .val (.int p4), .val (.int p5), .val (.int p6), .val (.ref b1), .val (.int nn), .val (.ref b4), .val (.ref b11), .val (.long ((((0 : Int64) + (own_glt (own_sel c1 q0 q1) r1 (own_sel c1 u0 u1))) + (own_glt (own_sel c2 q0 q1) r2 (own_sel c2 u0 u1))) + (own_glt (own_sel c3 q0 q1) r3 (own_sel c3 u0 u1)))), .second] [(.int ((p1.toUInt32 >>> ((15 : Int32) &&& 31).toUInt32).toInt32)), (.int (1 : Int32)), (.ref b4), (.ref b1), (.ref b11), (.long ((((0 : Int64) + (own_glt (own_sel c1 q0 q1) r1 (own_sel c1 u0 u1))) + (own_glt (own_sel c2 q0 q1) r2 (own_sel c2 u0 u1))) + (own_glt (own_sel c3 q0 q1) r3 (own_sel c3 u0 u1))))])) _
    refine XS.iconst X15.here hx rfl (hb hby at_204) ?_
    show Steps p.tables e below (T15.setTop (mkF m 205 #[.val (.int p1), .val (.int p2), .val (.int p3), .val (.int p4), .val (.int p5), .val (.int p6), .val (.ref b1), .val (.int nn), .val (.ref b4), .val (.ref b11), .val (.long ((((0 : Int64) + (own_glt (own_sel c1 q0 q1) r1 (own_sel c1 u0 u1))) + (own_glt (own_sel c2 q0 q1) r2 (own_sel c2 u0 u1))) + (own_glt (own_sel c3 q0 q1) r3 (own_sel c3 u0 u1)))), .second] [(.int (1 : Int32)), (.int ((p1.toUInt32 >>> ((15 : Int32) &&& 31).toUInt32).toInt32)), (.int (1 : Int32)), (.ref b4), (.ref b1), (.ref b11), (.long ((((0 : Int64) + (own_glt (own_sel c1 q0 q1) r1 (own_sel c1 u0 u1))) + (own_glt (own_sel c2 q0 q1) r2 (own_sel c2 u0 u1))) + (own_glt (own_sel c3 q0 q1) r3 (own_sel c3 u0 u1))))])) _
    refine XS.iand X15.here hx rfl (hb hby at_205) rfl ?_
    show Steps p.tables e below (T15.setTop (mkF m 206 #[.val (.int p1), .val (.int p2), .val (.int p3), .val (.int p4), .val (.int p5), .val (.int p6), .val (.ref b1), .val (.int nn), .val (.ref b4), .val (.ref b11), .val (.long ((((0 : Int64) + (own_glt (own_sel c1 q0 q1) r1 (own_sel c1 u0 u1))) + (own_glt (own_sel c2 q0 q1) r2 (own_sel c2 u0 u1))) + (own_glt (own_sel c3 q0 q1) r3 (own_sel c3 u0 u1)))), .second] [(.int (((p1.toUInt32 >>> ((15 : Int32) &&& 31).toUInt32).toInt32) &&& (1 : Int32))), (.int (1 : Int32)), (.ref b4), (.ref b1), (.ref b11), (.long ((((0 : Int64) + (own_glt (own_sel c1 q0 q1) r1 (own_sel c1 u0 u1))) + (own_glt (own_sel c2 q0 q1) r2 (own_sel c2 u0 u1))) + (own_glt (own_sel c3 q0 q1) r3 (own_sel c3 u0 u1))))])) _
    refine castTop (g' := (mkF m 206 #[.val (.int p1), .val (.int p2), .val (.int p3), .val (.int p4), .val (.int p5), .val (.int p6), .val (.ref b1), .val (.int nn), .val (.ref b4), .val (.ref b11), .val (.long ((((0 : Int64) + (own_glt (own_sel c1 q0 q1) r1 (own_sel c1 u0 u1))) + (own_glt (own_sel c2 q0 q1) r2 (own_sel c2 u0 u1))) + (own_glt (own_sel c3 q0 q1) r3 (own_sel c3 u0 u1)))), .second] [(.int c4), (.int (1 : Int32)), (.ref b4), (.ref b1), (.ref b11), (.long ((((0 : Int64) + (own_glt (own_sel c1 q0 q1) r1 (own_sel c1 u0 u1))) + (own_glt (own_sel c2 q0 q1) r2 (own_sel c2 u0 u1))) + (own_glt (own_sel c3 q0 q1) r3 (own_sel c3 u0 u1))))])) (by rw [hc4]) ?_
    show Steps p.tables e below (T15.setTop (mkF m 206 #[.val (.int p1), .val (.int p2), .val (.int p3), .val (.int p4), .val (.int p5), .val (.int p6), .val (.ref b1), .val (.int nn), .val (.ref b4), .val (.ref b11), .val (.long ((((0 : Int64) + (own_glt (own_sel c1 q0 q1) r1 (own_sel c1 u0 u1))) + (own_glt (own_sel c2 q0 q1) r2 (own_sel c2 u0 u1))) + (own_glt (own_sel c3 q0 q1) r3 (own_sel c3 u0 u1)))), .second] [(.int c4), (.int (1 : Int32)), (.ref b4), (.ref b1), (.ref b11), (.long ((((0 : Int64) + (own_glt (own_sel c1 q0 q1) r1 (own_sel c1 u0 u1))) + (own_glt (own_sel c2 q0 q1) r2 (own_sel c2 u0 u1))) + (own_glt (own_sel c3 q0 q1) r3 (own_sel c3 u0 u1))))])) _
    refine XS.iload X15.here hx rfl (hb hby at_206) rfl ?_
    show Steps p.tables e below (T15.setTop (mkF m 208 #[.val (.int p1), .val (.int p2), .val (.int p3), .val (.int p4), .val (.int p5), .val (.int p6), .val (.ref b1), .val (.int nn), .val (.ref b4), .val (.ref b11), .val (.long ((((0 : Int64) + (own_glt (own_sel c1 q0 q1) r1 (own_sel c1 u0 u1))) + (own_glt (own_sel c2 q0 q1) r2 (own_sel c2 u0 u1))) + (own_glt (own_sel c3 q0 q1) r3 (own_sel c3 u0 u1)))), .second] [(.int p5), (.int c4), (.int (1 : Int32)), (.ref b4), (.ref b1), (.ref b11), (.long ((((0 : Int64) + (own_glt (own_sel c1 q0 q1) r1 (own_sel c1 u0 u1))) + (own_glt (own_sel c2 q0 q1) r2 (own_sel c2 u0 u1))) + (own_glt (own_sel c3 q0 q1) r3 (own_sel c3 u0 u1))))])) _
    refine st16 _ ?_
    show Steps p.tables e below (T16.setTop (mkF m 211 #[.val (.int p1), .val (.int p2), .val (.int p3), .val (.int p4), .val (.int p5), .val (.int p6), .val (.ref b1), .val (.int nn), .val (.ref b4), .val (.ref b11), .val (.long ((((0 : Int64) + (own_glt (own_sel c1 q0 q1) r1 (own_sel c1 u0 u1))) + (own_glt (own_sel c2 q0 q1) r2 (own_sel c2 u0 u1))) + (own_glt (own_sel c3 q0 q1) r3 (own_sel c3 u0 u1)))), .second] [(.long (own_glt (own_sel c4 q0 q1) r4 (own_sel c4 u0 u1))), (.long ((((0 : Int64) + (own_glt (own_sel c1 q0 q1) r1 (own_sel c1 u0 u1))) + (own_glt (own_sel c2 q0 q1) r2 (own_sel c2 u0 u1))) + (own_glt (own_sel c3 q0 q1) r3 (own_sel c3 u0 u1))))])) _
    refine XS.ladd X16.here hx rfl (hb hby at_211) rfl ?_
    show Steps p.tables e below (T16.setTop (mkF m 212 #[.val (.int p1), .val (.int p2), .val (.int p3), .val (.int p4), .val (.int p5), .val (.int p6), .val (.ref b1), .val (.int nn), .val (.ref b4), .val (.ref b11), .val (.long ((((0 : Int64) + (own_glt (own_sel c1 q0 q1) r1 (own_sel c1 u0 u1))) + (own_glt (own_sel c2 q0 q1) r2 (own_sel c2 u0 u1))) + (own_glt (own_sel c3 q0 q1) r3 (own_sel c3 u0 u1)))), .second] [(.long (((((0 : Int64) + (own_glt (own_sel c1 q0 q1) r1 (own_sel c1 u0 u1))) + (own_glt (own_sel c2 q0 q1) r2 (own_sel c2 u0 u1))) + (own_glt (own_sel c3 q0 q1) r3 (own_sel c3 u0 u1))) + (own_glt (own_sel c4 q0 q1) r4 (own_sel c4 u0 u1))))])) _
    refine XS.lstore X16.here hx rfl (hb hby at_212) rfl (l' := #[.val (.int p1), .val (.int p2), .val (.int p3), .val (.int p4), .val (.int p5), .val (.int p6), .val (.ref b1), .val (.int nn), .val (.ref b4), .val (.ref b11), .val (.long (((((0 : Int64) + (own_glt (own_sel c1 q0 q1) r1 (own_sel c1 u0 u1))) + (own_glt (own_sel c2 q0 q1) r2 (own_sel c2 u0 u1))) + (own_glt (own_sel c3 q0 q1) r3 (own_sel c3 u0 u1))) + (own_glt (own_sel c4 q0 q1) r4 (own_sel c4 u0 u1)))), .second]) rfl ?_
    show Steps p.tables e below (T16.setTop (mkF m 214 #[.val (.int p1), .val (.int p2), .val (.int p3), .val (.int p4), .val (.int p5), .val (.int p6), .val (.ref b1), .val (.int nn), .val (.ref b4), .val (.ref b11), .val (.long (((((0 : Int64) + (own_glt (own_sel c1 q0 q1) r1 (own_sel c1 u0 u1))) + (own_glt (own_sel c2 q0 q1) r2 (own_sel c2 u0 u1))) + (own_glt (own_sel c3 q0 q1) r3 (own_sel c3 u0 u1))) + (own_glt (own_sel c4 q0 q1) r4 (own_sel c4 u0 u1)))), .second] [])) _
    refine XS.aload X16.here hx rfl (hb hby at_214) rfl rfl ?_
    show Steps p.tables e below (T16.setTop (mkF m 216 #[.val (.int p1), .val (.int p2), .val (.int p3), .val (.int p4), .val (.int p5), .val (.int p6), .val (.ref b1), .val (.int nn), .val (.ref b4), .val (.ref b11), .val (.long (((((0 : Int64) + (own_glt (own_sel c1 q0 q1) r1 (own_sel c1 u0 u1))) + (own_glt (own_sel c2 q0 q1) r2 (own_sel c2 u0 u1))) + (own_glt (own_sel c3 q0 q1) r3 (own_sel c3 u0 u1))) + (own_glt (own_sel c4 q0 q1) r4 (own_sel c4 u0 u1)))), .second] [(.ref b11)])) _
    refine XS.aload X16.here hx rfl (hb hby at_216) rfl rfl ?_
    show Steps p.tables e below (T16.setTop (mkF m 218 #[.val (.int p1), .val (.int p2), .val (.int p3), .val (.int p4), .val (.int p5), .val (.int p6), .val (.ref b1), .val (.int nn), .val (.ref b4), .val (.ref b11), .val (.long (((((0 : Int64) + (own_glt (own_sel c1 q0 q1) r1 (own_sel c1 u0 u1))) + (own_glt (own_sel c2 q0 q1) r2 (own_sel c2 u0 u1))) + (own_glt (own_sel c3 q0 q1) r3 (own_sel c3 u0 u1))) + (own_glt (own_sel c4 q0 q1) r4 (own_sel c4 u0 u1)))), .second] [(.ref b4), (.ref b11)])) _
    refine st17.trans ?_
    show Steps p.tables e below (T17.setTop (mkF m 221 #[.val (.int p1), .val (.int p2), .val (.int p3), .val (.int p4), .val (.int p5), .val (.int p6), .val (.ref b1), .val (.int nn), .val (.ref b4), .val (.ref b11), .val (.long (((((0 : Int64) + (own_glt (own_sel c1 q0 q1) r1 (own_sel c1 u0 u1))) + (own_glt (own_sel c2 q0 q1) r2 (own_sel c2 u0 u1))) + (own_glt (own_sel c3 q0 q1) r3 (own_sel c3 u0 u1))) + (own_glt (own_sel c4 q0 q1) r4 (own_sel c4 u0 u1)))), .second] [(.long (own_cb u1 (own_gx1 (own_sel c4 q0 q1) c4 r4 (own_gx1 (own_sel c3 q0 q1) c3 r3 (own_gx1 (own_sel c2 q0 q1) c2 r2 (own_gx1 (own_sel c1 q0 q1) c1 r1 (2147483647 : Int32))))) (own_gf1 (own_sel c4 q0 q1) c4 (q1 + (1 : Int32)) r4 (own_gf1 (own_sel c3 q0 q1) c3 (q1 + (1 : Int32)) r3 (own_gf1 (own_sel c2 q0 q1) c2 (q1 + (1 : Int32)) r2 (own_gf1 (own_sel c1 q0 q1) c1 (q1 + (1 : Int32)) r1 own_zero)))) (own_cb u0 (own_gx0 (own_sel c4 q0 q1) c4 r4 (own_gx0 (own_sel c3 q0 q1) c3 r3 (own_gx0 (own_sel c2 q0 q1) c2 r2 (own_gx0 (own_sel c1 q0 q1) c1 r1 (2147483647 : Int32))))) (own_gf0 (own_sel c4 q0 q1) c4 (q0 + (1 : Int32)) r4 (own_gf0 (own_sel c3 q0 q1) c3 (q0 + (1 : Int32)) r3 (own_gf0 (own_sel c2 q0 q1) c2 (q0 + (1 : Int32)) r2 (own_gf0 (own_sel c1 q0 q1) c1 (q0 + (1 : Int32)) r1 own_zero)))) (0 : Int64))))])) _
    refine XS.lload X17.here hx rfl (hb hby at_221) rfl ?_
    show Steps p.tables e below (T17.setTop (mkF m 223 #[.val (.int p1), .val (.int p2), .val (.int p3), .val (.int p4), .val (.int p5), .val (.int p6), .val (.ref b1), .val (.int nn), .val (.ref b4), .val (.ref b11), .val (.long (((((0 : Int64) + (own_glt (own_sel c1 q0 q1) r1 (own_sel c1 u0 u1))) + (own_glt (own_sel c2 q0 q1) r2 (own_sel c2 u0 u1))) + (own_glt (own_sel c3 q0 q1) r3 (own_sel c3 u0 u1))) + (own_glt (own_sel c4 q0 q1) r4 (own_sel c4 u0 u1)))), .second] [(.long (((((0 : Int64) + (own_glt (own_sel c1 q0 q1) r1 (own_sel c1 u0 u1))) + (own_glt (own_sel c2 q0 q1) r2 (own_sel c2 u0 u1))) + (own_glt (own_sel c3 q0 q1) r3 (own_sel c3 u0 u1))) + (own_glt (own_sel c4 q0 q1) r4 (own_sel c4 u0 u1)))), (.long (own_cb u1 (own_gx1 (own_sel c4 q0 q1) c4 r4 (own_gx1 (own_sel c3 q0 q1) c3 r3 (own_gx1 (own_sel c2 q0 q1) c2 r2 (own_gx1 (own_sel c1 q0 q1) c1 r1 (2147483647 : Int32))))) (own_gf1 (own_sel c4 q0 q1) c4 (q1 + (1 : Int32)) r4 (own_gf1 (own_sel c3 q0 q1) c3 (q1 + (1 : Int32)) r3 (own_gf1 (own_sel c2 q0 q1) c2 (q1 + (1 : Int32)) r2 (own_gf1 (own_sel c1 q0 q1) c1 (q1 + (1 : Int32)) r1 own_zero)))) (own_cb u0 (own_gx0 (own_sel c4 q0 q1) c4 r4 (own_gx0 (own_sel c3 q0 q1) c3 r3 (own_gx0 (own_sel c2 q0 q1) c2 r2 (own_gx0 (own_sel c1 q0 q1) c1 r1 (2147483647 : Int32))))) (own_gf0 (own_sel c4 q0 q1) c4 (q0 + (1 : Int32)) r4 (own_gf0 (own_sel c3 q0 q1) c3 (q0 + (1 : Int32)) r3 (own_gf0 (own_sel c2 q0 q1) c2 (q0 + (1 : Int32)) r2 (own_gf0 (own_sel c1 q0 q1) c1 (q0 + (1 : Int32)) r1 own_zero)))) (0 : Int64))))])) _
    refine XS.lcmp X17.here hx rfl (hb hby at_223) rfl ?_
    show Steps p.tables e below (T17.setTop (mkF m 224 #[.val (.int p1), .val (.int p2), .val (.int p3), .val (.int p4), .val (.int p5), .val (.int p6), .val (.ref b1), .val (.int nn), .val (.ref b4), .val (.ref b11), .val (.long (((((0 : Int64) + (own_glt (own_sel c1 q0 q1) r1 (own_sel c1 u0 u1))) + (own_glt (own_sel c2 q0 q1) r2 (own_sel c2 u0 u1))) + (own_glt (own_sel c3 q0 q1) r3 (own_sel c3 u0 u1))) + (own_glt (own_sel c4 q0 q1) r4 (own_sel c4 u0 u1)))), .second] [(.int (lcmpW (own_cb u1 (own_gx1 (own_sel c4 q0 q1) c4 r4 (own_gx1 (own_sel c3 q0 q1) c3 r3 (own_gx1 (own_sel c2 q0 q1) c2 r2 (own_gx1 (own_sel c1 q0 q1) c1 r1 (2147483647 : Int32))))) (own_gf1 (own_sel c4 q0 q1) c4 (q1 + (1 : Int32)) r4 (own_gf1 (own_sel c3 q0 q1) c3 (q1 + (1 : Int32)) r3 (own_gf1 (own_sel c2 q0 q1) c2 (q1 + (1 : Int32)) r2 (own_gf1 (own_sel c1 q0 q1) c1 (q1 + (1 : Int32)) r1 own_zero)))) (own_cb u0 (own_gx0 (own_sel c4 q0 q1) c4 r4 (own_gx0 (own_sel c3 q0 q1) c3 r3 (own_gx0 (own_sel c2 q0 q1) c2 r2 (own_gx0 (own_sel c1 q0 q1) c1 r1 (2147483647 : Int32))))) (own_gf0 (own_sel c4 q0 q1) c4 (q0 + (1 : Int32)) r4 (own_gf0 (own_sel c3 q0 q1) c3 (q0 + (1 : Int32)) r3 (own_gf0 (own_sel c2 q0 q1) c2 (q0 + (1 : Int32)) r2 (own_gf0 (own_sel c1 q0 q1) c1 (q0 + (1 : Int32)) r1 own_zero)))) (0 : Int64))) (((((0 : Int64) + (own_glt (own_sel c1 q0 q1) r1 (own_sel c1 u0 u1))) + (own_glt (own_sel c2 q0 q1) r2 (own_sel c2 u0 u1))) + (own_glt (own_sel c3 q0 q1) r3 (own_sel c3 u0 u1))) + (own_glt (own_sel c4 q0 q1) r4 (own_sel c4 u0 u1)))))])) _
    refine castTop (g' := (mkF m 224 #[.val (.int p1), .val (.int p2), .val (.int p3), .val (.int p4), .val (.int p5), .val (.int p6), .val (.ref b1), .val (.int nn), .val (.ref b4), .val (.ref b11), .val (.long (((((0 : Int64) + (own_glt (own_sel c1 q0 q1) r1 (own_sel c1 u0 u1))) + (own_glt (own_sel c2 q0 q1) r2 (own_sel c2 u0 u1))) + (own_glt (own_sel c3 q0 q1) r3 (own_sel c3 u0 u1))) + (own_glt (own_sel c4 q0 q1) r4 (own_sel c4 u0 u1)))), .second] [(.int (0 : Int32))])) (by rw [hfin]) ?_
    show Steps p.tables e below (T17.setTop (mkF m 224 #[.val (.int p1), .val (.int p2), .val (.int p3), .val (.int p4), .val (.int p5), .val (.int p6), .val (.ref b1), .val (.int nn), .val (.ref b4), .val (.ref b11), .val (.long (((((0 : Int64) + (own_glt (own_sel c1 q0 q1) r1 (own_sel c1 u0 u1))) + (own_glt (own_sel c2 q0 q1) r2 (own_sel c2 u0 u1))) + (own_glt (own_sel c3 q0 q1) r3 (own_sel c3 u0 u1))) + (own_glt (own_sel c4 q0 q1) r4 (own_sel c4 u0 u1)))), .second] [(.int (0 : Int32))])) _
    refine XS.ifNo X17.here hx rfl (hb hby at_224) rfl (by decide) ?_
    show Steps p.tables e below (T17.setTop (mkF m 227 #[.val (.int p1), .val (.int p2), .val (.int p3), .val (.int p4), .val (.int p5), .val (.int p6), .val (.ref b1), .val (.int nn), .val (.ref b4), .val (.ref b11), .val (.long (((((0 : Int64) + (own_glt (own_sel c1 q0 q1) r1 (own_sel c1 u0 u1))) + (own_glt (own_sel c2 q0 q1) r2 (own_sel c2 u0 u1))) + (own_glt (own_sel c3 q0 q1) r3 (own_sel c3 u0 u1))) + (own_glt (own_sel c4 q0 q1) r4 (own_sel c4 u0 u1)))), .second] [])) _
    refine XS.iconst X17.here hx rfl (hb hby at_227) ?_
    show Steps p.tables e below (T17.setTop (mkF m 228 #[.val (.int p1), .val (.int p2), .val (.int p3), .val (.int p4), .val (.int p5), .val (.int p6), .val (.ref b1), .val (.int nn), .val (.ref b4), .val (.ref b11), .val (.long (((((0 : Int64) + (own_glt (own_sel c1 q0 q1) r1 (own_sel c1 u0 u1))) + (own_glt (own_sel c2 q0 q1) r2 (own_sel c2 u0 u1))) + (own_glt (own_sel c3 q0 q1) r3 (own_sel c3 u0 u1))) + (own_glt (own_sel c4 q0 q1) r4 (own_sel c4 u0 u1)))), .second] [(.int (1 : Int32))])) _
    refine XS.goto X17.here hx rfl (pc0 := 228) (pc' := 232) rfl (hb hby at_228) (by decide) (by decide) ?_
    show Steps p.tables e below (T17.setTop (mkF m 232 #[.val (.int p1), .val (.int p2), .val (.int p3), .val (.int p4), .val (.int p5), .val (.int p6), .val (.ref b1), .val (.int nn), .val (.ref b4), .val (.ref b11), .val (.long (((((0 : Int64) + (own_glt (own_sel c1 q0 q1) r1 (own_sel c1 u0 u1))) + (own_glt (own_sel c2 q0 q1) r2 (own_sel c2 u0 u1))) + (own_glt (own_sel c3 q0 q1) r3 (own_sel c3 u0 u1))) + (own_glt (own_sel c4 q0 q1) r4 (own_sel c4 u0 u1)))), .second] [(.int (1 : Int32))])) _
    exact retN X17 hx (t := .boolean) Bd.returns (by simp) (hb hby at_232) hr
  · exact ⟨rfl, N17⟩
theorem own_toInt {n : Nat} (h : n < 2 ^ 31) : (Int32.ofNat n).toInt = n := len_toInt h
theorem own_nat {q : Int32} (h : 0 ≤ q.toInt) : q = Int32.ofNat q.toInt.toNat := by
  have h1 := (rng32 q).2
  apply Int32.toInt_inj.mp
  rw [own_toInt (by omega)]; omega
theorem own_succ (n : Nat) : Int32.ofNat n + 1 = Int32.ofNat (n + 1) := (Int32.ofNat_add n 1).symm
def own_usI (z : Int32) : Nat → Int32 → List Nat
  | 0, _ => []
  | k + 1, j => if j < z then j.toNatClampNeg :: own_usI z k (j + (j &&& (-j))) else []
def own_qsI : Nat → Int32 → List Nat
  | 0, _ => []
  | k + 1, j => if 0 < j then j.toNatClampNeg :: own_qsI k (j - (j &&& (-j))) else []
def own_sum (f : Nat → Int32) : List Nat → Int64
  | [] => 0
  | i :: l => (f i).toInt64 + own_sum f l
theorem own_us_len (z : Int32) : ∀ (k : Nat) (j : Int32), (own_usI z k j).length ≤ k
  | 0, j => by simp [own_usI]
  | k + 1, j => by
    by_cases h : j < z
    · simp only [own_usI, if_pos h, List.length_cons]; have := own_us_len z k (j + (j &&& (-j))); omega
    · simp [own_usI, if_neg h]
theorem own_up_eq (z : Int32) : ∀ (k : Nat) (j : Int32) (f : Nat → Int32) (i : Nat), own_up z k j f i = f i + Int32.ofNat ((own_usI z k j).count i)
  | 0, j, f, i => by simp [own_up, own_usI]
  | k + 1, j, f, i => by
    by_cases h : j < z
    · simp only [own_up, own_usI, if_pos h]
      rw [own_up_eq z k, List.count_cons]
      by_cases e : j.toNatClampNeg = i
      · subst e
        simp only [own_put, if_true, beq_self_eq_true]
        rw [Int32.ofNat_add, Int32.add_assoc]
        congr 1
        exact Int32.add_comm _ _
      · have e' : ¬ i = j.toNatClampNeg := fun q => e q.symm
        have e2 : (j.toNatClampNeg == i) = false := by simpa using e
        simp only [own_put, if_neg e', e2, Bool.false_eq_true, if_false, Nat.add_zero]
    · simp [own_up, own_usI, if_neg h]
theorem own_dn_eq : ∀ (k : Nat) (j : Int32) (f : Nat → Int32) (s : Int64), own_dn k j f s = s + own_sum f (own_qsI k j)
  | 0, j, f, s => by simp [own_dn, own_qsI, own_sum]
  | k + 1, j, f, s => by
    by_cases h : 0 < j
    · simp only [own_dn, own_qsI, if_pos h, own_sum]
      rw [own_dn_eq k, Int64.add_assoc]
    · simp [own_dn, own_qsI, if_neg h, own_sum]
def own_us (len p : Nat) : List Nat := own_usI (Int32.ofNat (len + 1)) 6 (Int32.ofNat (p + 1))
set_option maxRecDepth 65536 in
theorem own_fin1 : ∀ len : Fin 17, ∀ p : Fin 17, ∀ b : Fin 17, p.1 < len.1 → b.1 ≤ len.1 → ((own_qsI 6 (Int32.ofNat b.1)).map fun i => (own_us len.1 p.1).count i).sum = if p.1 < b.1 then 1 else 0 := by decide +kernel
set_option maxRecDepth 65536 in
theorem own_fin2 : ∀ len : Fin 17, ∀ p : Fin 17, p.1 < len.1 → own_upOk (Int32.ofNat (len.1 + 1)) 6 (Int32.ofNat (p.1 + 1)) = true := by decide +kernel
set_option maxRecDepth 65536 in
theorem own_fin3 : ∀ len : Fin 17, ∀ b : Fin 17, b.1 ≤ len.1 → own_dnOk (Int32.ofNat (len.1 + 1)) 6 (Int32.ofNat b.1) = true := by decide +kernel
set_option maxRecDepth 65536 in
theorem own_fin4 : ∀ n : Fin 64, (Int32.ofNat n.1).toInt64 = Int64.ofNat n.1 := by decide +kernel
def own_G (len : Nat) (M : List Nat) (i : Nat) : Nat := (M.map fun p => (own_us len p).count i).sum
def own_cnt (b : Nat) (M : List Nat) : Nat := (M.map fun p => if p < b then 1 else 0).sum
theorem own_G_le (len : Nat) (i : Nat) : ∀ M : List Nat, own_G len M i ≤ 6 * M.length
  | [] => by simp [own_G]
  | p :: M => by
    have h1 := own_G_le len i M
    have h2 : (own_us len p).count i ≤ 6 := Nat.le_trans List.count_le_length (own_us_len _ 6 _)
    simp only [own_G, List.map_cons, List.sum_cons, List.length_cons] at h1 ⊢; omega
theorem own_sum_eq {f : Nat → Int32} {g : Nat → Nat} (h : ∀ i, f i = Int32.ofNat (g i)) (hg : ∀ i, g i < 64) : ∀ l : List Nat, own_sum f l = Int64.ofNat ((l.map g).sum)
  | [] => rfl
  | i :: l => by
    simp only [own_sum, List.map_cons, List.sum_cons]
    rw [own_sum_eq h hg l, h i, own_fin4 ⟨g i, hg i⟩, Int64.ofNat_add]
theorem own_sum_add (a b : Nat → Nat) : ∀ l : List Nat, (l.map fun i => a i + b i).sum = (l.map a).sum + (l.map b).sum
  | [] => rfl
  | i :: l => by simp only [List.map_cons, List.sum_cons]; rw [own_sum_add a b l]; omega
theorem own_swap {len b : Nat} (hl : len ≤ 16) (hb : b ≤ len) : ∀ M : List Nat, (∀ p ∈ M, p < len) → ((own_qsI 6 (Int32.ofNat b)).map (own_G len M)).sum = own_cnt b M
  | [], _ => by
    have : ∀ l : List Nat, (l.map (own_G len [])).sum = 0 := fun l => by
      induction l with
      | nil => rfl
      | cons i l ih => simp only [List.map_cons, List.sum_cons]; rw [ih]; rfl
    rw [this]; rfl
  | p :: M, h => by
    have h1 := own_swap hl hb M fun q hq => h q (List.mem_cons_of_mem _ hq)
    have hp := h p List.mem_cons_self
    have e : own_G len (p :: M) = fun i => (own_us len p).count i + own_G len M i := by funext i; simp [own_G]
    rw [e, own_sum_add, h1]
    have h2 := own_fin1 ⟨len, by omega⟩ ⟨p, by omega⟩ ⟨b, by omega⟩ hp hb
    simp only at h2
    rw [h2]
    simp [own_cnt]
/-- the column's state: its marks, its lowest one, its tree -/
def OwnI (len : Nat) (M : List Nat) (x : Int32) (f : Nat → Int32) : Prop := (∀ i, f i = Int32.ofNat (own_G len M i)) ∧ (∀ p ∈ M, p < len) ∧ ((M = [] ∧ x = 2147483647) ∨ ∃ p, p ∈ M ∧ x = Int32.ofNat p ∧ ∀ q ∈ M, p ≤ q)
theorem own_I0 (len : Nat) : OwnI len [] 2147483647 own_zero := ⟨fun i => rfl, fun p h => (by cases h), Or.inl ⟨rfl, rfl⟩⟩
theorem own_ltN {a b : Nat} (ha : a < 2 ^ 31) (hb : b < 2 ^ 31) : Int32.ofNat a < Int32.ofNat b ↔ a < b := by
  rw [Int32.lt_iff_toInt_lt, own_toInt ha, own_toInt hb]; omega
theorem own_I1 {len : Nat} (hl : len ≤ 16) {M : List Nat} {x : Int32} {f : Nat → Int32} (h : OwnI len M x f) {p : Nat} (hp : p < len) : OwnI len (p :: M) (own_min x (Int32.ofNat p)) (own_up (Int32.ofNat len + 1) 6 (Int32.ofNat p + 1) f) := by
  obtain ⟨h1, h2, h3⟩ := h
  refine ⟨fun i => ?_, fun q hq => ?_, Or.inr ?_⟩
  · rw [own_up_eq, h1 i, ← Int32.ofNat_add, own_succ, own_succ]
    congr 1
    simp only [own_G, List.map_cons, List.sum_cons, own_us]; omega
  · rcases List.mem_cons.mp hq with rfl | hq
    · exact hp
    · exact h2 q hq
  · rcases h3 with ⟨rfl, rfl⟩ | ⟨q, hq, rfl, hm⟩
    · refine ⟨p, List.mem_cons_self, ?_, fun r hr => ?_⟩
      · have : Int32.ofNat p < 2147483647 := by
          rw [Int32.lt_iff_toInt_lt, own_toInt (by omega)]
          have e : (2147483647 : Int32).toInt = 2147483647 := by decide
          omega
        exact if_pos this
      · rcases List.mem_cons.mp hr with rfl | hr
        · exact Nat.le_refl _
        · cases hr
    · have hq' := h2 q hq
      by_cases c : p < q
      · refine ⟨p, List.mem_cons_self, if_pos ((own_ltN (by omega) (by omega)).mpr c), fun r hr => ?_⟩
        rcases List.mem_cons.mp hr with rfl | hr
        · exact Nat.le_refl _
        · have := hm r hr; omega
      · refine ⟨q, List.mem_cons_of_mem _ hq, if_neg (fun z => c ((own_ltN (by omega) (by omega)).mp z)), fun r hr => ?_⟩
        rcases List.mem_cons.mp hr with rfl | hr
        · omega
        · exact hm r hr
theorem own_cnt0 {b p : Nat} (hb : b ≤ p) : ∀ M : List Nat, (∀ q ∈ M, p ≤ q) → own_cnt b M = 0
  | [], _ => rfl
  | q :: M, h => by
    have h1 := own_cnt0 hb M fun r hr => h r (List.mem_cons_of_mem _ hr)
    have h2 := h q List.mem_cons_self
    have e : own_cnt b (q :: M) = (if q < b then 1 else 0) + own_cnt b M := by simp [own_cnt]
    rw [e, h1, if_neg (by omega)]
theorem own_I2 {len : Nat} (hl : len ≤ 16) {M : List Nat} (hM : M.length ≤ 8) {x : Int32} {f : Nat → Int32} (h : OwnI len M x f) {b : Nat} (hb : b ≤ len) (s : Int64) : own_cb (Int32.ofNat b) x f s = s + Int64.ofNat (own_cnt b M) := by
  obtain ⟨h1, h2, h3⟩ := h
  by_cases c : x < Int32.ofNat b
  · rw [own_cb, if_pos c, own_dn_eq, own_sum_eq (g := own_G len M) h1 (fun i => by have := own_G_le len i M; omega), own_swap hl hb M h2]
  · rw [own_cb, if_neg c]
    have e : own_cnt b M = 0 := by
      rcases h3 with ⟨rfl, -⟩ | ⟨p, hp, rfl, hm⟩
      · rfl
      · have := h2 p hp
        rw [own_ltN (by omega) (by omega)] at c
        exact own_cnt0 (p := p) (by omega) M hm
    rw [e]
    exact (Int64.add_zero s).symm
/-- both columns, and how many marks lie below the bounds u0, u1 -/
def OwnS (n0 n1 u0 u1 sz : Nat) (x0 x1 : Int32) (f0 f1 : Nat → Int32) (e : Int64) : Prop := ∃ M0 M1 : List Nat, OwnI n0 M0 x0 f0 ∧ OwnI n1 M1 x1 f1 ∧ M0.length + M1.length ≤ sz ∧ e = Int64.ofNat (own_cnt u0 M0 + own_cnt u1 M1)
theorem own_S0 (n0 n1 u0 u1 : Nat) : OwnS n0 n1 u0 u1 0 2147483647 2147483647 own_zero own_zero 0 := ⟨[], [], own_I0 _, own_I0 _, by simp, by rw [show own_cnt u0 [] = 0 from rfl, show own_cnt u1 [] = 0 from rfl]; decide⟩
theorem own_S1 {n0 n1 u0 u1 sz : Nat} {x0 x1 : Int32} {f0 f1 : Nat → Int32} {e : Int64} (h0 : n0 ≤ 16) (h1 : n1 ≤ 16) (k0 : u0 ≤ n0) (k1 : u1 ≤ n1) (S : OwnS n0 n1 u0 u1 sz x0 x1 f0 f1 e) {c r : Int32} {p : Nat} (hc : own_01 c) (hr : r = Int32.ofNat p) (hp : c = 0 ∧ p < n0 ∨ c = 1 ∧ p < n1) :
    OwnS n0 n1 u0 u1 (sz + 1) (own_x0 c r x0) (own_x1 c r x1) (own_f0 c (Int32.ofNat n0 + 1) r f0) (own_f1 c (Int32.ofNat n1 + 1) r f1) (e + own_lt r (own_sel c (Int32.ofNat u0) (Int32.ofNat u1))) := by
  obtain ⟨M0, M1, I0, I1, hs, rfl⟩ := S
  subst hr
  have one : ∀ (n u : Nat), n ≤ 16 → p < n → u ≤ n → own_lt (Int32.ofNat p) (Int32.ofNat u) = Int64.ofNat (if p < u then 1 else 0) := fun n u a b d => by
    by_cases q : p < u
    · rw [own_lt, if_pos ((own_ltN (by omega) (by omega)).mpr q), if_pos q]; rfl
    · rw [own_lt, if_neg (fun z => q ((own_ltN (by omega) (by omega)).mp z)), if_neg q]; rfl
  rcases hp with ⟨rfl, hp⟩ | ⟨rfl, hp⟩
  · refine ⟨p :: M0, M1, ?_, ?_, by simp only [List.length_cons]; omega, ?_⟩
    · rw [own_x0_0, own_f0_0]; exact own_I1 h0 I0 hp
    · rw [own_x1_0, own_f1_0]; exact I1
    · have e1 : own_sel 0 (Int32.ofNat u0) (Int32.ofNat u1) = Int32.ofNat u0 := if_pos rfl
      rw [e1, one n0 u0 h0 hp k0, ← Int64.ofNat_add]
      congr 1
      simp only [own_cnt, List.map_cons, List.sum_cons]; omega
  · refine ⟨M0, p :: M1, ?_, ?_, by simp only [List.length_cons]; omega, ?_⟩
    · rw [own_x0_1, own_f0_1]; exact I0
    · rw [own_x1_1, own_f1_1]; exact own_I1 h1 I1 hp
    · have e1 : own_sel 1 (Int32.ofNat u0) (Int32.ofNat u1) = Int32.ofNat u1 := if_neg (by decide)
      rw [e1, one n1 u1 h1 hp k1, ← Int64.ofNat_add]
      congr 1
      simp only [own_cnt, List.map_cons, List.sum_cons]; omega
theorem own_S2 {n0 n1 u0 u1 sz : Nat} {x0 x1 : Int32} {f0 f1 : Nat → Int32} {e : Int64} (h0 : n0 ≤ 16) (h1 : n1 ≤ 16) (k0 : u0 ≤ n0) (k1 : u1 ≤ n1) (hs : sz ≤ 8) (S : OwnS n0 n1 u0 u1 sz x0 x1 f0 f1 e) : own_cb (Int32.ofNat u1) x1 f1 (own_cb (Int32.ofNat u0) x0 f0 0) = e := by
  obtain ⟨M0, M1, I0, I1, hz, rfl⟩ := S
  rw [own_I2 h0 (by omega) I0 k0, own_I2 h1 (by omega) I1 k1, Int64.zero_add, Int64.ofNat_add]
theorem own_lc {a b : Int64} (h : a = b) : (lcmpW a b) = (0 : Int32) := (lw_eq a b).mpr h
theorem own_q (x : Int32) : ∃ n : Nat, 1 ≤ n ∧ n ≤ 16 ∧ (x &&& (15 : Int32)) + (1 : Int32) = Int32.ofNat n := by
  have h := c_and x 15 (by decide)
  have e : (15 : Int32).toInt = 15 := by decide
  refine ⟨(x &&& 15).toInt.toNat + 1, by omega, by omega, ?_⟩
  rw [← own_succ, ← own_nat h.1]
theorem own_rem (x : Int32) (n : Nat) (hx : 0 ≤ x.toInt) (h1 : 1 ≤ n) (h2 : n ≤ 17) : ∃ p : Nat, p < n ∧ x % Int32.ofNat n = Int32.ofNat p := by
  have e := own_toInt (n := n) (by omega)
  have h := (c_iremV x (Int32.ofNat n)).1 hx (by omega)
  exact ⟨(x % Int32.ofNat n).toInt.toNat, by omega, own_nat h.1⟩
theorem own_upk {n p : Nat} (hn : n ≤ 16) (hp : p < n) : own_upOk (Int32.ofNat n + 1) 6 (Int32.ofNat p + 1) = true := by
  rw [own_succ, own_succ]; exact own_fin2 ⟨n, by omega⟩ ⟨p, by omega⟩ hp
theorem own_dnk {n u : Nat} (hn : n ≤ 16) (hu : u ≤ n) : own_dnOk (Int32.ofNat n + 1) 6 (Int32.ofNat u) = true := by
  rw [own_succ]; exact own_fin3 ⟨n, by omega⟩ ⟨u, by omega⟩ hu
theorem own_z1 {n : Nat} (hn : n ≤ 16) : ¬ (Int32.ofNat n + (1 : Int32) < (0 : Int32)) ∧ ¬ (Int32.ofNat n + (1 : Int32) = (0 : Int32)) ∧ (Int32.ofNat n + (1 : Int32)).toNatClampNeg ≤ 17 := by
  have e := own_toInt (n := n + 1) (by omega)
  rw [own_succ]
  refine ⟨?_, ?_, ?_⟩
  · rw [Int32.lt_iff_toInt_lt, e]; show ¬ ((n + 1 : Nat) : Int) < 0; omega
  · rw [← Int32.toInt_inj, e]; show ¬ ((n + 1 : Nat) : Int) = 0; omega
  · rw [Int32.toNatClampNeg, e]; omega
theorem own_bd (x : Int32) {n : Nat} (hx : 0 ≤ x.toInt) (hn : n ≤ 16) : ∃ u : Nat, u ≤ n ∧ x % (Int32.ofNat n + 1) = Int32.ofNat u := by
  obtain ⟨u, h1, h2⟩ := own_rem x (n + 1) hx (by omega) (by omega)
  exact ⟨u, by omega, by rw [own_succ]; exact h2⟩
theorem own_nz {n : Nat} (h : 1 ≤ n) (hn : n ≤ 17) : ¬ (Int32.ofNat n = (0 : Int32)) := by
  rw [← Int32.toInt_inj, own_toInt (by omega)]; show ¬ ((n : Nat) : Int) = 0; omega
theorem own_pos1 {x c : Int32} (hx : 0 ≤ x.toInt) (hc : own_01 c) {n0 n1 : Nat} (a1 : 1 ≤ n0) (a2 : n0 ≤ 16) (b1 : 1 ≤ n1) (b2 : n1 ≤ 16) :
    ∃ p : Nat, x % (own_sel c (Int32.ofNat n0) (Int32.ofNat n1)) = Int32.ofNat p ∧ (c = 0 ∧ p < n0 ∨ c = 1 ∧ p < n1) ∧ own_upOk (own_sel c (Int32.ofNat n0 + 1) (Int32.ofNat n1 + 1)) 6 (Int32.ofNat p + 1) = true ∧ ¬ (own_sel c (Int32.ofNat n0) (Int32.ofNat n1) = (0 : Int32)) := by
  rcases hc with rfl | rfl
  · rw [own_sel, own_sel, if_pos rfl, if_pos rfl]
    obtain ⟨p, h1, h2⟩ := own_rem x n0 hx a1 (by omega)
    exact ⟨p, h2, Or.inl ⟨rfl, h1⟩, own_upk a2 h1, own_nz a1 (by omega)⟩
  · rw [own_sel, own_sel, if_neg (by decide), if_neg (by decide)]
    obtain ⟨p, h1, h2⟩ := own_rem x n1 hx b1 (by omega)
    exact ⟨p, h2, Or.inr ⟨rfl, h1⟩, own_upk b2 h1, own_nz b1 (by omega)⟩
theorem own_m0 (x m : Int32) (h : 0 ≤ m.toInt) : 0 ≤ (x &&& m).toInt := (c_and x m h).1
theorem own_and3 (x : Int32) : x &&& (3 : Int32) = 0 ∨ x &&& (3 : Int32) = 1 ∨ x &&& (3 : Int32) = 2 ∨ x &&& (3 : Int32) = 3 := by
  have h1 := c_and x 3 (by decide)
  have e3 : (3 : Int32).toInt = 3 := by decide
  have h3 : (x &&& (3 : Int32)).toInt = 0 ∨ (x &&& (3 : Int32)).toInt = 1 ∨ (x &&& (3 : Int32)).toInt = 2 ∨ (x &&& (3 : Int32)).toInt = 3 := by omega
  rcases h3 with h | h | h | h
  · exact Or.inl (Int32.toInt_inj.mp h)
  · exact Or.inr (Or.inl (Int32.toInt_inj.mp h))
  · exact Or.inr (Or.inr (Or.inl (Int32.toInt_inj.mp h)))
  · exact Or.inr (Or.inr (Or.inr (Int32.toInt_inj.mp h)))
theorem own_S1g {n0 n1 u0 u1 sz : Nat} {x0 x1 : Int32} {f0 f1 : Nat → Int32} {e : Int64} (h0 : n0 ≤ 16) (h1 : n1 ≤ 16) (k0 : u0 ≤ n0) (k1 : u1 ≤ n1) (S : OwnS n0 n1 u0 u1 sz x0 x1 f0 f1 e) {c r : Int32} {p : Nat} (hc : own_01 c) (hr : r = Int32.ofNat p) (g : Int32) (hp : g = 0 ∨ (c = 0 ∧ p < n0 ∨ c = 1 ∧ p < n1)) :
    OwnS n0 n1 u0 u1 (sz + 1) (own_gx0 g c r x0) (own_gx1 g c r x1) (own_gf0 g c (Int32.ofNat n0 + 1) r f0) (own_gf1 g c (Int32.ofNat n1 + 1) r f1) (e + own_glt g r (own_sel c (Int32.ofNat u0) (Int32.ofNat u1))) := by
  by_cases q : g = 0
  · rw [own_gx0, own_gx1, own_gf0, own_gf1, own_glt, if_pos q, if_pos q, if_pos q, if_pos q, if_pos q, Int64.add_zero]
    obtain ⟨M0, M1, a, b, c', d⟩ := S
    exact ⟨M0, M1, a, b, by omega, d⟩
  · rw [own_gx0, own_gx1, own_gf0, own_gf1, own_glt, if_neg q, if_neg q, if_neg q, if_neg q, if_neg q]
    exact own_S1 h0 h1 k0 k1 S hc hr (hp.resolve_left q)
theorem own_q0 (x : Int32) : ∃ n : Nat, n ≤ 16 ∧ (x &&& (15 : Int32)) = Int32.ofNat n := by
  have h := c_and x 15 (by decide)
  have e : (15 : Int32).toInt = 15 := by decide
  exact ⟨(x &&& 15).toInt.toNat, by omega, own_nat h.1⟩
theorem own_pos0 {x c : Int32} (hx : 0 ≤ x.toInt) (hc : own_01 c) {n0 n1 : Nat} (a2 : n0 ≤ 16) (b2 : n1 ≤ 16) :
    ∃ p : Nat, (own_sel c (Int32.ofNat n0) (Int32.ofNat n1) = (0 : Int32) ∨ x % (own_sel c (Int32.ofNat n0) (Int32.ofNat n1)) = Int32.ofNat p) ∧ (own_sel c (Int32.ofNat n0) (Int32.ofNat n1) = (0 : Int32) ∨ (c = 0 ∧ p < n0 ∨ c = 1 ∧ p < n1)) ∧ (own_sel c (Int32.ofNat n0) (Int32.ofNat n1) = (0 : Int32) ∨ own_upOk (own_sel c (Int32.ofNat n0 + 1) (Int32.ofNat n1 + 1)) 6 (Int32.ofNat p + 1) = true) := by
  rcases hc with rfl | rfl
  · rw [own_sel, own_sel, if_pos rfl, if_pos rfl]
    by_cases z : n0 = 0
    · subst z; exact ⟨0, Or.inl rfl, Or.inl rfl, Or.inl rfl⟩
    · obtain ⟨p, h1, h2⟩ := own_rem x n0 hx (by omega) (by omega)
      exact ⟨p, Or.inr h2, Or.inr (Or.inl ⟨rfl, h1⟩), Or.inr (own_upk a2 h1)⟩
  · rw [own_sel, own_sel, if_neg (by decide), if_neg (by decide)]
    by_cases z : n1 = 0
    · subst z; exact ⟨0, Or.inl rfl, Or.inl rfl, Or.inl rfl⟩
    · obtain ⟨p, h1, h2⟩ := own_rem x n1 hx (by omega) (by omega)
      exact ⟨p, Or.inr h2, Or.inr (Or.inr ⟨rfl, h1⟩), Or.inr (own_upk b2 h1)⟩
set_option maxRecDepth 65536 in
set_option maxHeartbeats 40000000 in
theorem own_law (l : Launch) (Z : State) (a0 : Array Value) (hw : ∀ d ∈ tables_1, d.before a0 Z = true) (ws : List Jvm.Cond) (h0 : Heap) (n0 : Nat) (O0 : Old Z n0 h0) (p1 : Int32) (p2 : Int32) (p3 : Int32) (p4 : Int32) (p5 : Int32) (p6 : Int32) :
    MetFree l x (head1 (Jvm.Cond.code x code maxLocals ret :: ws) room_1) (fun a U => a = #[(.int p1), (.int p2), (.int p3), (.int p4), (.int p5), (.int p6)] ∧ Z.Warmed39 U.vm ∧ U.heap = h0) (fun _ _ _ _ _ => True) (fun _ U o U' => ∃ v L, o = .returned v ∧ (v = some (.int 1) ∧ Fr n0 L) ∧ FrameEnd U o U' L room_1.cells room_1.slots) := by
  obtain ⟨n0', a2, eq0⟩ := own_q0 p1
  obtain ⟨n1', b2, eq1⟩ := own_q0 ((p1.toUInt32 >>> ((4 : Int32) &&& 31).toUInt32).toInt32)
  obtain ⟨u0', ku0, eu0⟩ := own_bd (p6 &&& (65535 : Int32)) (n := n0') (own_m0 _ _ (by decide)) a2
  obtain ⟨u1', ku1, eu1⟩ := own_bd (((p6.toUInt32 >>> ((16 : Int32) &&& 31).toUInt32).toInt32) &&& (65535 : Int32)) (n := n1') (own_m0 _ _ (by decide)) b2
  obtain ⟨nn0, mz0, cp0⟩ := own_z1 a2
  obtain ⟨nn1, mz1, cp1⟩ := own_z1 b2
  obtain ⟨nn, hnn⟩ : ∃ z, (((p1.toUInt32 >>> ((8 : Int32) &&& 31).toUInt32).toInt32) &&& (7 : Int32)) = z := ⟨_, rfl⟩
  have h011 : own_01 (((p1.toUInt32 >>> ((12 : Int32) &&& 31).toUInt32).toInt32) &&& (1 : Int32)) := and_one _
  obtain ⟨pp1, er1, hp1, uk1⟩ := own_pos0 (x := (p2 &&& (2147483647 : Int32))) (own_m0 _ _ (by decide)) h011 a2 b2
  have h012 : own_01 (((p1.toUInt32 >>> ((13 : Int32) &&& 31).toUInt32).toInt32) &&& (1 : Int32)) := and_one _
  obtain ⟨pp2, er2, hp2, uk2⟩ := own_pos0 (x := (p3 &&& (2147483647 : Int32))) (own_m0 _ _ (by decide)) h012 a2 b2
  have h013 : own_01 (((p1.toUInt32 >>> ((14 : Int32) &&& 31).toUInt32).toInt32) &&& (1 : Int32)) := and_one _
  obtain ⟨pp3, er3, hp3, uk3⟩ := own_pos0 (x := (p4 &&& (2147483647 : Int32))) (own_m0 _ _ (by decide)) h013 a2 b2
  have h014 : own_01 (((p1.toUInt32 >>> ((15 : Int32) &&& 31).toUInt32).toInt32) &&& (1 : Int32)) := and_one _
  obtain ⟨pp4, er4, hp4, uk4⟩ := own_pos0 (x := (p5 &&& (2147483647 : Int32))) (own_m0 _ _ (by decide)) h014 a2 b2
  have s0 := own_S0 n0' n1' u0' u1'
  have s1 := own_S1g a2 b2 ku0 ku1 s0 h011 rfl _ hp1
  have s2 := own_S1g a2 b2 ku0 ku1 s1 h012 rfl _ hp2
  have s3 := own_S1g a2 b2 ku0 ku1 s2 h013 rfl _ hp3
  have s4 := own_S1g a2 b2 ku0 ku1 s3 h014 rfl _ hp4
  have mono : ∀ (a b : Int32), a < b → b < nn → a < nn := fun a b h1 h2 => Int32.lt_trans h1 h2
  by_cases g3 : (3 : Int32) < nn
  · have g2 : (2 : Int32) < nn := mono _ _ (by decide) g3
    have g1 : (1 : Int32) < nn := mono _ _ (by decide) g3
    have g0 : (0 : Int32) < nn := mono _ _ (by decide) g3
    exact own_law_4 l Z a0 hw ws h0 n0 O0 p1 p2 p3 p4 p5 p6 (Int32.ofNat n0') (Int32.ofNat n1') nn _ _ _ _ (Int32.ofNat pp1) (Int32.ofNat pp2) (Int32.ofNat pp3) (Int32.ofNat pp4) (Int32.ofNat u0') (Int32.ofNat u1') eq0 eq1 hnn g0 g1 g2 g3 rfl rfl rfl rfl eu0 eu1 nn0 mz0 cp0 (own_dnk a2 ku0) nn1 mz1 cp1 (own_dnk b2 ku1) h011 er1 uk1 h012 er2 uk2 h013 er3 uk3 h014 er4 uk4 (own_lc ((own_S2 a2 b2 ku0 ku1 (by omega) s4).trans (by simp only [Int64.zero_add, Int64.add_zero])))
  by_cases g2 : (2 : Int32) < nn
  · have g1 : (1 : Int32) < nn := mono _ _ (by decide) g2
    have g0 : (0 : Int32) < nn := mono _ _ (by decide) g2
    exact own_law_3 l Z a0 hw ws h0 n0 O0 p1 p2 p3 p4 p5 p6 (Int32.ofNat n0') (Int32.ofNat n1') nn _ _ _ _ (Int32.ofNat pp1) (Int32.ofNat pp2) (Int32.ofNat pp3) (Int32.ofNat pp4) (Int32.ofNat u0') (Int32.ofNat u1') eq0 eq1 hnn g0 g1 g2 g3 rfl rfl rfl rfl eu0 eu1 nn0 mz0 cp0 (own_dnk a2 ku0) nn1 mz1 cp1 (own_dnk b2 ku1) h011 er1 uk1 h012 er2 uk2 h013 er3 uk3 h014 er4 uk4 (own_lc ((own_S2 a2 b2 ku0 ku1 (by omega) s3).trans (by simp only [Int64.zero_add, Int64.add_zero])))
  by_cases g1 : (1 : Int32) < nn
  · have g0 : (0 : Int32) < nn := mono _ _ (by decide) g1
    exact own_law_2 l Z a0 hw ws h0 n0 O0 p1 p2 p3 p4 p5 p6 (Int32.ofNat n0') (Int32.ofNat n1') nn _ _ _ _ (Int32.ofNat pp1) (Int32.ofNat pp2) (Int32.ofNat pp3) (Int32.ofNat pp4) (Int32.ofNat u0') (Int32.ofNat u1') eq0 eq1 hnn g0 g1 g2 g3 rfl rfl rfl rfl eu0 eu1 nn0 mz0 cp0 (own_dnk a2 ku0) nn1 mz1 cp1 (own_dnk b2 ku1) h011 er1 uk1 h012 er2 uk2 h013 er3 uk3 h014 er4 uk4 (own_lc ((own_S2 a2 b2 ku0 ku1 (by omega) s2).trans (by simp only [Int64.zero_add, Int64.add_zero])))
  by_cases g0 : (0 : Int32) < nn
  · exact own_law_1 l Z a0 hw ws h0 n0 O0 p1 p2 p3 p4 p5 p6 (Int32.ofNat n0') (Int32.ofNat n1') nn _ _ _ _ (Int32.ofNat pp1) (Int32.ofNat pp2) (Int32.ofNat pp3) (Int32.ofNat pp4) (Int32.ofNat u0') (Int32.ofNat u1') eq0 eq1 hnn g0 g1 g2 g3 rfl rfl rfl rfl eu0 eu1 nn0 mz0 cp0 (own_dnk a2 ku0) nn1 mz1 cp1 (own_dnk b2 ku1) h011 er1 uk1 h012 er2 uk2 h013 er3 uk3 h014 er4 uk4 (own_lc ((own_S2 a2 b2 ku0 ku1 (by omega) s1).trans (by simp only [Int64.zero_add, Int64.add_zero])))
  · exact own_law_0 l Z a0 hw ws h0 n0 O0 p1 p2 p3 p4 p5 p6 (Int32.ofNat n0') (Int32.ofNat n1') nn _ _ _ _ (Int32.ofNat pp1) (Int32.ofNat pp2) (Int32.ofNat pp3) (Int32.ofNat pp4) (Int32.ofNat u0') (Int32.ofNat u1') eq0 eq1 hnn g0 g1 g2 g3 rfl rfl rfl rfl eu0 eu1 nn0 mz0 cp0 (own_dnk a2 ku0) nn1 mz1 cp1 (own_dnk b2 ku1) h011 er1 uk1 h012 er2 uk2 h013 er3 uk3 h014 er4 uk4 (own_lc ((own_S2 a2 b2 ku0 ku1 (by omega) s0).trans (by simp only [Int64.zero_add, Int64.add_zero])))
set_option maxRecDepth 65536 in
set_option maxHeartbeats 40000000 in
theorem comes_1 {Post : Tables → Env → Array Value → State → Outcome → State → Prop} (hpost : ∀ tb e args s v u, (limb_1_1.after args s (.returned v) u = true ∧ limb_1_2.after args s (.returned v) u = true ∧ True) → FrameEnd s (.returned v) u (Jvm.fieldLocs frame_1_writes args s ++ Jvm.arrayLocs frame_1_arrays args s ++ Jvm.staticLocs frame_1_statics s) 24 192 → Post tb e args s (.returned v) u) :
    ArmFor flags0 classFile x code maxLocals ret World_1 tables_1 room_1 Calls_1 rest_1 Pre_1 Post := by
  intro l hfl _ _ p e ha hc hk s m args below hf hA hF happ hP
  obtain ⟨hcalls, hrest, hpre⟩ := hP
  obtain ⟨-, -, -, hnamed, -, -, -, hat⟩ := (Spec.applies_iff hf).mp happ
  obtain ⟨hg, hn⟩ := and_e (Cond.before_iff.mp (show (Jvm.Cond.and given_1 narrow_1).before args s = true from hpre))
  obtain ⟨hgv0, hgm0⟩ := and_e hg
  obtain ⟨hgv1, hgm1⟩ := and_e hgm0
  obtain ⟨hgv2, hgm2⟩ := and_e hgm1
  obtain ⟨hgv3, hgm3⟩ := and_e hgm2
  obtain ⟨hgv4, hgm4⟩ := and_e hgm3
  obtain ⟨hgv5, hgm5⟩ := and_e hgm4
  have hgv6 := hgm5
  obtain ⟨w0, w1, w2, w3, w4, w5, rfl⟩ : ∃ w0 w1 w2 w3 w4 w5 : Value, args = #[w0, w1, w2, w3, w4, w5] := by
    have hs : args.size = 6 := by simpa [Cond.value, given_1] using hgv0
    obtain ⟨L⟩ := args
    match L, hs with
    | [w0, w1, w2, w3, w4, w5], _ => exact ⟨w0, w1, w2, w3, w4, w5, rfl⟩
  have hw := fun d (hd : d ∈ tables_1) => atoms_spec (ws := Jvm.Cond.code x code maxLocals ret :: tables_1) hat d (List.mem_cons_of_mem _ hd)
  have hfit : Fit s := fun {y c} hc i hi => by
    obtain ⟨ha, rfl⟩ := Array.getElem?_eq_some_iff.mp hc
    have q := List.all_eq_true.mp ((Array.all_eq_true_iff_forall_mem.mp hF) _ (Array.getElem_mem ha)) i (List.mem_range.mpr hi)
    simpa [Array.getElem?_eq_getElem hi] using q
  obtain ⟨i0, ei0⟩ := is_v hgv1
  obtain rfl : w0 = (.int i0) := Option.some.inj ei0
  obtain ⟨i1, ei1⟩ := is_v hgv2
  obtain rfl : w1 = (.int i1) := Option.some.inj ei1
  obtain ⟨i2, ei2⟩ := is_v hgv3
  obtain rfl : w2 = (.int i2) := Option.some.inj ei2
  obtain ⟨i3, ei3⟩ := is_v hgv4
  obtain rfl : w3 = (.int i3) := Option.some.inj ei3
  obtain ⟨i4, ei4⟩ := is_v hgv5
  obtain rfl : w4 = (.int i4) := Option.some.inj ei4
  obtain ⟨i5, ei5⟩ := is_v hgv6
  obtain rfl : w5 = (.int i5) := Option.some.inj ei5
  obtain ⟨n, o, h1, h2, h3, _, L, rfl, ⟨rfl, N⟩, hq⟩ := own_law l s _ hw tables_1 s.heap s.heap.size (Old.start s) i0 i1 i2 i3 i4 i5 p e ha hc hk s m _ below hf ((Spec.applies_iff_loose hf).mp happ).1 ⟨rfl, State.Warmed39.refl s, rfl⟩ trivial
  exact ⟨n, _, h1, h2, h3, hpost _ _ _ _ _ _ ⟨Cond.after_iff.mpr rfl, Cond.after_iff.mpr (eq_i res_at (Term.int_eval (1)) rfl), trivial⟩ ⟨hq.1, hq.2.1, (hq.2.2.sift fun y hy => Or.inr (N y hy)).mono (by decide) (by decide)⟩⟩
theorem main_1_1 : Claimed_1_1 := comes_1 fun _ _ _ _ _ _ h hF => ⟨h.1, hF⟩
theorem main_1_2 : Claimed_1_2 := comes_1 fun _ _ _ _ _ _ h hF => ⟨h.2.1, hF⟩
end Jvm.Pilot.@@N@@
namespace Jvm.Pilot.@@N@@
open Jvm Jvm.ClassFile Sem Op Lib Jvm.Free Jvm.Stand Jvm.Pilot.@@N@@.Jvm.D
/-! MADE BY PROGRAM (witnessworld.py) out of the Statement's table words and the real class files: 11 classes; the members and pool entries that the words name. The judged class is class 1, her method 1. -/
namespace start1
open Jvm.ClassFile
def u (s : String) : CpInfo := .utf8 (stringToUtf16 s)
/-- a pool by its gaps: so many unusable entries, then the entry; so many at the end -/
def gap : Nat → List CpInfo → List CpInfo
  | 0, r => r
  | n + 1, r => .unusable :: gap n r
def poolList (es : List (Nat × CpInfo)) (last : Nat) : List CpInfo := es.foldr (fun e r => gap e.1 (e.2 :: r)) (gap last [])
def pool (es : List (Nat × CpInfo)) (last : Nat) : Array CpInfo := ⟨poolList es last⟩
def fileOf (pool : Array CpInfo) (this : Nat) (attrs : Array Attribute := #[]) (ms : Array MethodInfo := #[]) (fl : Nat := 33) (sup : Nat := 0) (ifs : Array Nat := #[]) (fds : Array FieldInfo := #[]) : ClassFile where
  minorVersion := 0
  majorVersion := 65
  constantPool := pool
  accessFlags := fl
  thisClass := this
  superClass := sup
  interfaces := ifs
  fields := fds
  methods := ms
  attributes := attrs
def plain (name : String) (sup : Option ClassId) : Class where
  name := name
  kind := .ordinary
  loader := none
  accessFlags := 33
  super := sup
  interfaces := #[]
  cf := none
  fields := #[]
  methods := #[]
  instanceTypes := #[]
  staticTypes := #[]
  resolved := #[]
  callSites := []
  init := .initialized
  statics := none
  mirror := none

def pool0 : Array CpInfo := pool [(5, u "<init>"), (0, u "()V"), (1, .class_ 10), (1, u "java/lang/Object")] 113

def k0c0 : Code := { maxStack := 0, maxLocals := 1, code := object_method_1_code, exceptionTable := #[], attributes := #[] }
def k0m0 : Method := { name := "<init>", desc := "()V", sig := { parameters := [], returnType := none }, accessFlags := 1, code := some k0c0 }
/-- java/lang/Object -/
def k0 : Class := { plain "java/lang/Object" none with
  accessFlags := 33
  interfaces := #[]
  cf := some (fileOf pool0 8 #[] #[{ accessFlags := 1, nameIndex := 5, descriptorIndex := 6, attributes := #[] }] 33 0 #[] #[])
  fields := #[]
  methods := #[k0m0]
  instanceTypes := #[]
  staticTypes := #[]
  resolved := Array.replicate 124 none
  statics := none }

def pool1 : Array CpInfo := pool [(2, .class_ 4), (1, u "java/lang/Object"), (0, u "<init>"), (0, u "()V"), (0, .integer 65535), (0, .class_ 9), (0, u "com/example/sober_broadcast/soberbroadcast/cli/PositionCounts"), (0, .methodref 8 11), (0, .nameAndType 5 12), (0, u "([I)V"), (0, .methodref 14 15), (0, .class_ 16), (0, .nameAndType 17 18), (0, u "com/example/sober_broadcast/soberbroadcast/cli/PositionCountsCountBelowPinLaw"), (0, u "markOne"), (0, u "(Lcom/example/sober_broadcast/soberbroadcast/cli/PositionCounts;[I[IZII)J"), (0, .methodref 8 20), (0, .nameAndType 21 22), (0, u "countBelow"), (0, u "([I)J"), (0, .integer 2147483647), (0, .methodref 8 25), (0, .nameAndType 26 27), (0, u "mark"), (0, u "(II)V"), (2, u "law"), (0, u "(IIIIII)Z")] 5

def k1m0 : Method := { name := "<init>", desc := "()V", sig := { parameters := [], returnType := none }, accessFlags := 1, code := none }
def k1c1 : Code := { maxStack := 8, maxLocals := 12, code := code, exceptionTable := #[], attributes := #[] }
def k1m1 : Method := { name := "law", desc := "(IIIIII)Z", sig := { parameters := [.int, .int, .int, .int, .int, .int], returnType := some .boolean }, accessFlags := 9, code := some k1c1 }
def k1c2 : Code := { maxStack := 3, maxLocals := 7, code := method_3_code, exceptionTable := #[], attributes := #[] }
def k1m2 : Method := { name := "markOne", desc := "(Lcom/example/sober_broadcast/soberbroadcast/cli/PositionCounts;[I[IZII)J", sig := { parameters := [(.object "com/example/sober_broadcast/soberbroadcast/cli/PositionCounts"), (.array .int), (.array .int), .boolean, .int, .int], returnType := some .long }, accessFlags := 10, code := some k1c2 }
/-- com/example/sober_broadcast/soberbroadcast/cli/PositionCountsCountBelowPinLaw -/
def k1 : Class := { plain "com/example/sober_broadcast/soberbroadcast/cli/PositionCountsCountBelowPinLaw" (some 0) with
  accessFlags := 49
  interfaces := #[]
  cf := some (fileOf pool1 14 #[] #[{ accessFlags := 1, nameIndex := 5, descriptorIndex := 6, attributes := #[] }, { accessFlags := 9, nameIndex := 30, descriptorIndex := 31, attributes := #[] }, { accessFlags := 10, nameIndex := 17, descriptorIndex := 18, attributes := #[] }] 49 2 #[] #[])
  fields := #[]
  methods := #[k1m0, k1m1, k1m2]
  instanceTypes := #[]
  staticTypes := #[]
  resolved := Array.replicate 37 none
  statics := none }

def pool2 : Array CpInfo := pool [(1, .methodref 2 3), (0, .class_ 4), (0, .nameAndType 5 6), (0, u "java/lang/Object"), (0, u "<init>"), (0, u "()V"), (0, .class_ 8), (0, u "[I"), (0, .fieldref 10 11), (0, .class_ 12), (0, .nameAndType 13 14), (0, u "com/example/sober_broadcast/soberbroadcast/cli/PositionCounts"), (0, u "trees"), (0, u "[[I"), (0, .fieldref 10 16), (0, .nameAndType 17 8), (0, u "lowest"), (2, .integer 2147483647), (0, .methodref 22 23), (0, .class_ 24), (0, .nameAndType 25 26), (0, u "java/util/Arrays"), (0, u "fill"), (0, u "([II)V"), (0, .methodref 28 29), (0, .class_ 30), (0, .nameAndType 31 32), (0, u "java/lang/Math"), (0, u "min"), (0, u "(II)I"), (0, u "([I)V"), (3, u "mark"), (0, u "(II)V"), (0, u "countBelow"), (0, u "([I)J")] 4

def k2c0 : Code := { maxStack := 4, maxLocals := 3, code := prog_25_method_1_code, exceptionTable := #[], attributes := #[] }
def k2m0 : Method := { name := "<init>", desc := "([I)V", sig := { parameters := [(.array .int)], returnType := none }, accessFlags := 0, code := some k2c0 }
def k2c1 : Code := { maxStack := 4, maxLocals := 5, code := prog_25_method_2_code, exceptionTable := #[], attributes := #[] }
def k2m1 : Method := { name := "mark", desc := "(II)V", sig := { parameters := [.int, .int], returnType := none }, accessFlags := 0, code := some k2c1 }
def k2c2 : Code := { maxStack := 4, maxLocals := 7, code := prog_25_method_3_code, exceptionTable := #[], attributes := #[] }
def k2m2 : Method := { name := "countBelow", desc := "([I)J", sig := { parameters := [(.array .int)], returnType := some .long }, accessFlags := 0, code := some k2c2 }
/-- com/example/sober_broadcast/soberbroadcast/cli/PositionCounts -/
def k2 : Class := { plain "com/example/sober_broadcast/soberbroadcast/cli/PositionCounts" (some 0) with
  accessFlags := 32
  interfaces := #[]
  cf := some (fileOf pool2 10 #[] #[{ accessFlags := 0, nameIndex := 5, descriptorIndex := 33, attributes := #[] }, { accessFlags := 0, nameIndex := 37, descriptorIndex := 38, attributes := #[] }, { accessFlags := 0, nameIndex := 39, descriptorIndex := 40, attributes := #[] }] 32 2 #[] #[{ accessFlags := 18, nameIndex := 13, descriptorIndex := 14, attributes := #[] }, { accessFlags := 18, nameIndex := 17, descriptorIndex := 8, attributes := #[] }])
  fields := #[{ name := "trees", type := (.array (.array .int)), accessFlags := 18, slot := 0, constantValue := 0 }, { name := "lowest", type := (.array .int), accessFlags := 18, slot := 1, constantValue := 0 }]
  methods := #[k2m0, k2m1, k2m2]
  instanceTypes := #[(.array (.array .int)), (.array .int)]
  staticTypes := #[]
  resolved := Array.replicate 45 none
  statics := none }

def pool3 : Array CpInfo := pool [(2, .class_ 4), (1, u "java/lang/Object"), (0, u "<init>"), (0, u "()V"), (7, .class_ 16), (1, u "java/util/Arrays"), (57, .class_ 76), (1, u "java/util/Arrays$NaturalOrder"), (36, .class_ 115), (1, u "java/util/Arrays$LegacyMergeSort"), (1, u "Z"), (257, .class_ 376), (0, u "java/util/Arrays$ArrayList"), (68, u "$assertionsDisabled"), (269, u "MIN_ARRAY_SORT_GRAN"), (0, u "I"), (2, u "INSERTIONSORT_THRESHOLD"), (120, u "fill"), (4, u "([II)V"), (129, .class_ 976), (0, u "java/util/Arrays$ArrayItr")] 52

def k3m0 : Method := { name := "<init>", desc := "()V", sig := { parameters := [], returnType := none }, accessFlags := 2, code := none }
def k3c1 : Code := { maxStack := 3, maxLocals := 4, code := jdk_65_method_103_code, exceptionTable := #[], attributes := #[] }
def k3m1 : Method := { name := "fill", desc := "([II)V", sig := { parameters := [(.array .int), .int], returnType := none }, accessFlags := 9, code := some k3c1 }
/-- java/util/Arrays -/
def k3 : Class := { plain "java/util/Arrays" (some 0) with
  accessFlags := 49
  interfaces := #[]
  cf := some (fileOf pool3 14 #[.nestMembers #[975, 375, 113, 74]] #[{ accessFlags := 2, nameIndex := 5, descriptorIndex := 6, attributes := #[] }, { accessFlags := 9, nameIndex := 840, descriptorIndex := 845, attributes := #[] }] 49 2 #[] #[{ accessFlags := 26, nameIndex := 715, descriptorIndex := 716, attributes := #[] }, { accessFlags := 26, nameIndex := 719, descriptorIndex := 716, attributes := #[] }, { accessFlags := 4120, nameIndex := 445, descriptorIndex := 117, attributes := #[] }])
  fields := #[{ name := "MIN_ARRAY_SORT_GRAN", type := .int, accessFlags := 26, slot := 0, constantValue := 0 }, { name := "INSERTIONSORT_THRESHOLD", type := .int, accessFlags := 26, slot := 1, constantValue := 0 }, { name := "$assertionsDisabled", type := .boolean, accessFlags := 4120, slot := 2, constantValue := 0 }]
  methods := #[k3m0, k3m1]
  instanceTypes := #[]
  staticTypes := #[.int, .int, .boolean]
  resolved := Array.replicate 1029 none
  statics := none }

def pool4 : Array CpInfo := pool [(1, .class_ 2), (0, u "java/lang/Math"), (1, .class_ 6), (1, u "java/lang/Object"), (0, u "<init>"), (0, u "()V"), (89, .class_ 100), (1, u "java/lang/Math$RandomNumberGeneratorHolder"), (71, u "negativeZeroFloatBits"), (0, u "J"), (2, u "negativeZeroDoubleBits"), (24, u "min"), (43, u "$assertionsDisabled"), (0, u "Z"), (88, u "(II)I"), (2, u "twoToTheDoubleScaleDown"), (0, u "D"), (4, u "twoToTheDoubleScaleUp"), (9, u "E"), (3, u "PI"), (2, u "TAU"), (2, u "DEGREES_TO_RADIANS"), (0, u "RADIANS_TO_DEGREES")] 94

def k4m0 : Method := { name := "<init>", desc := "()V", sig := { parameters := [], returnType := none }, accessFlags := 2, code := none }
def k4c1 : Code := { maxStack := 2, maxLocals := 2, code := jdk_29_method_69_code, exceptionTable := #[], attributes := #[] }
def k4m1 : Method := { name := "min", desc := "(II)I", sig := { parameters := [.int, .int], returnType := some .int }, accessFlags := 9, code := some k4c1 }
/-- java/lang/Math -/
def k4 : Class := { plain "java/lang/Math" (some 0) with
  accessFlags := 49
  interfaces := #[]
  cf := some (fileOf pool4 1 #[.nestMembers #[98]] #[{ accessFlags := 2, nameIndex := 7, descriptorIndex := 8, attributes := #[] }, { accessFlags := 9, nameIndex := 201, descriptorIndex := 335, attributes := #[] }] 49 4 #[] #[{ accessFlags := 25, nameIndex := 354, descriptorIndex := 339, attributes := #[] }, { accessFlags := 25, nameIndex := 358, descriptorIndex := 339, attributes := #[] }, { accessFlags := 25, nameIndex := 361, descriptorIndex := 339, attributes := #[] }, { accessFlags := 26, nameIndex := 364, descriptorIndex := 339, attributes := #[] }, { accessFlags := 26, nameIndex := 365, descriptorIndex := 339, attributes := #[] }, { accessFlags := 26, nameIndex := 172, descriptorIndex := 173, attributes := #[] }, { accessFlags := 26, nameIndex := 176, descriptorIndex := 173, attributes := #[] }, { accessFlags := 8, nameIndex := 344, descriptorIndex := 339, attributes := #[] }, { accessFlags := 8, nameIndex := 338, descriptorIndex := 339, attributes := #[] }, { accessFlags := 4120, nameIndex := 245, descriptorIndex := 246, attributes := #[] }])
  fields := #[{ name := "E", type := .double, accessFlags := 25, slot := 0, constantValue := 0 }, { name := "PI", type := .double, accessFlags := 25, slot := 1, constantValue := 0 }, { name := "TAU", type := .double, accessFlags := 25, slot := 2, constantValue := 0 }, { name := "DEGREES_TO_RADIANS", type := .double, accessFlags := 26, slot := 3, constantValue := 0 }, { name := "RADIANS_TO_DEGREES", type := .double, accessFlags := 26, slot := 4, constantValue := 0 }, { name := "negativeZeroFloatBits", type := .long, accessFlags := 26, slot := 5, constantValue := 0 }, { name := "negativeZeroDoubleBits", type := .long, accessFlags := 26, slot := 6, constantValue := 0 }, { name := "twoToTheDoubleScaleUp", type := .double, accessFlags := 8, slot := 7, constantValue := 0 }, { name := "twoToTheDoubleScaleDown", type := .double, accessFlags := 8, slot := 8, constantValue := 0 }, { name := "$assertionsDisabled", type := .boolean, accessFlags := 4120, slot := 9, constantValue := 0 }]
  methods := #[k4m0, k4m1]
  instanceTypes := #[]
  staticTypes := #[.double, .double, .double, .double, .double, .long, .long, .double, .double, .boolean]
  resolved := Array.replicate 460 none
  statics := none }

def pool5 : Array CpInfo := pool [(1, u "java/lang/Cloneable"), (0, .class_ 1), (0, u "java/lang/Object"), (0, .class_ 3)] 3

/-- java/lang/Cloneable -/
def k5 : Class := { plain "java/lang/Cloneable" (some 0) with
  accessFlags := 1537
  interfaces := #[]
  cf := some (fileOf pool5 2 #[] #[] 1537 4 #[] #[])
  fields := #[]
  methods := #[]
  instanceTypes := #[]
  staticTypes := #[]
  resolved := Array.replicate 8 none
  statics := none }

def pool6 : Array CpInfo := pool [(1, u "java/io/Serializable"), (0, .class_ 1), (0, u "java/lang/Object"), (0, .class_ 3)] 3

/-- java/io/Serializable -/
def k6 : Class := { plain "java/io/Serializable" (some 0) with
  accessFlags := 1537
  interfaces := #[]
  cf := some (fileOf pool6 2 #[] #[] 1537 4 #[] #[])
  fields := #[]
  methods := #[]
  instanceTypes := #[]
  staticTypes := #[]
  resolved := Array.replicate 8 none
  statics := none }

/-- the primitive byte -/
def k7 : Class := { plain "byte" none with kind := .primitive 'B', accessFlags := 0x411 }
/-- [B -/
def k8 : Class := { plain "[B" (some 0) with kind := .array 7 .byte, interfaces := #[5, 6], accessFlags := 1041 }

/-- the primitive int -/
def k9 : Class := { plain "int" none with kind := .primitive 'I', accessFlags := 0x411 }
/-- [I -/
def k10 : Class := { plain "[I" (some 0) with kind := .array 9 .int, interfaces := #[5, 6], accessFlags := 1041 }

def heap : Heap := #[]
/-- [[I -/
def k11 : Class := { plain "[[I" (some 0) with kind := .array 10 (.array .int), interfaces := #[5, 6], accessFlags := 1041 }
def classes : Array Class := #[k0, k1, k2, k3, k4, k5, k6, k7, k8, k9, k10, k11]
def interned : List (Array UInt16 × Addr) := []
def slotsUsed : Nat := 0
def theMethod : MethodId := ⟨1, 1⟩
def args0 : Array Value := #[.int 5, .int 1, .int 2, .int 3, .int 4, .int 5]
def aboutOver (below : List Frame) : State where
  vm := { classes := classes, interned := interned.toArray }
  heap := heap
  slotsUsed := slotsUsed
  threads := #[{ frames := .invoking theMethod args0 :: below }]
def below0 : List Frame := [.native { method := ⟨0, 0⟩, args := #[] }]
def about1 : State := aboutOver below0
def p0 : Program := .bare "" "" ""
def e0 : Env := launch0.env 0 0 0
theorem w_frames : about1.frames = Frame.invoking theMethod args0 :: below0 := rfl
set_option maxRecDepth 65536 in
theorem w_args : argsFit about1.vm theMethod args0 = true := by decide +kernel
set_option maxRecDepth 65536 in
theorem w_heap : heapFits about1 = true := by decide +kernel
set_option maxRecDepth 65536 in
theorem w_runnable : about1.curStatus? = some .runnable := by decide +kernel
set_option maxRecDepth 65536 in
theorem w_alone : about1.alone = true := by decide +kernel
set_option maxRecDepth 65536 in
theorem w_named : about1.methodNamed? x = some theMethod := by decide +kernel
set_option maxRecDepth 65536 in
theorem w_hears : about1.hears theMethod below0 = true := by decide +kernel
set_option maxRecDepth 65536 in
theorem w_ripe : about1.ripe theMethod args0 below0 = true := by decide +kernel
theorem w_running : about1.status = .running := rfl
set_option maxRecDepth 65536 in
theorem w_room : about1.hasRoom e0.platform room_1 = true :=
  launch0.hasRoom_least _ room_1 (by decide +kernel) (by decide +kernel) (by decide +kernel) (by decide +kernel) (by decide +kernel) (by decide +kernel)
theorem allAtoms_all (ts : List Jvm.Cond) (a : Array Jvm.Value) (st : Jvm.State) : (allAtoms ts).before a st = ts.all (fun c => c.before a st) := by
  induction ts with
  | nil => rfl
  | cons c t ih =>
    show (Jvm.Cond.and c (allAtoms t)).before a st = _
    rw [Jvm.Cond.before_and, ih, List.all_cons]
def words1 : List Jvm.Cond := Jvm.Cond.code x code maxLocals ret :: tables_1
/-- a 'code' word, met by the world's own term for the bytes: nothing is compared byte by byte -/
theorem code_word {y : MethodName} {bytes : ByteArray} {mx : Nat} {rt : Option FieldType} {a : Array Value} {s : State} {m : MethodId} {meth : Method} {c : Code} (h1 : s.methodNamed? y = some m) (h2 : s.vm.method? m = some meth) (h3 : meth.code = some c) (h4 : c.code = bytes)
    (h5 : (c.maxLocals == mx && c.exceptionTable.isEmpty && decide (c.maxStack ≤ mostOperands) && decide (meth.sig.returnType = rt) && !meth.locks && decide (parseMethodDescriptor y.desc = some meth.sig)) = true) : (Jvm.Cond.code y bytes mx rt).before a s = true := by
  simp only [Bool.and_eq_true, beq_iff_eq, Bool.not_eq_true', decide_eq_true_eq] at h5
  obtain ⟨⟨⟨⟨⟨g1, g2⟩, g3⟩, g4⟩, g5⟩, g6⟩ := h5
  simp [Cond.before, Cond.holds, Cond.value, h1, h2, h3, h4, g1, g2, g3, g4, g5, g6]
def isCode : Jvm.Cond → Bool
  | .code _ _ _ _ => true
  | _ => false
theorem all_split {L : List Jvm.Cond} {P : Jvm.Cond → Bool} (h1 : L.all (fun c => isCode c || P c) = true) (h2 : ∀ c ∈ L.filter isCode, P c = true) : L.all P = true := by
  refine List.all_eq_true.mpr fun c hc => ?_
  have h := List.all_eq_true.mp h1 c hc
  rcases Bool.eq_false_or_eq_true (isCode c) with hi | hi
  · exact h2 c (List.mem_filter.mpr ⟨hc, hi⟩)
  · simpa [hi] using h
set_option maxRecDepth 65536 in
theorem w_c0 : (Jvm.Cond.code x code maxLocals ret).before args0 about1 = true := code_word (m := ⟨1, 1⟩) (meth := k1m1) (c := k1c1) (by decide +kernel) rfl rfl rfl (by decide +kernel)
set_option maxRecDepth 65536 in
theorem w_c1 : (Jvm.Cond.code ({ cls := "com/example/sober_broadcast/soberbroadcast/cli/PositionCounts", name := "<init>", desc := "([I)V" } : Jvm.MethodName) prog_25_method_1_code (3 : Nat) (Option.none : Option Jvm.ClassFile.FieldType)).before args0 about1 = true := code_word (m := ⟨2, 0⟩) (meth := k2m0) (c := k2c0) (by decide +kernel) rfl rfl rfl (by decide +kernel)
set_option maxRecDepth 65536 in
theorem w_c2 : (Jvm.Cond.code ({ cls := "java/lang/Object", name := "<init>", desc := "()V" } : Jvm.MethodName) object_method_1_code (1 : Nat) (Option.none : Option Jvm.ClassFile.FieldType)).before args0 about1 = true := code_word (m := ⟨0, 0⟩) (meth := k0m0) (c := k0c0) (by decide +kernel) rfl rfl rfl (by decide +kernel)
set_option maxRecDepth 65536 in
theorem w_c3 : (Jvm.Cond.code ({ cls := "java/util/Arrays", name := "fill", desc := "([II)V" } : Jvm.MethodName) jdk_65_method_103_code (4 : Nat) (Option.none : Option Jvm.ClassFile.FieldType)).before args0 about1 = true := code_word (m := ⟨3, 1⟩) (meth := k3m1) (c := k3c1) (by decide +kernel) rfl rfl rfl (by decide +kernel)
set_option maxRecDepth 65536 in
theorem w_c4 : (Jvm.Cond.code ({ cls := "com/example/sober_broadcast/soberbroadcast/cli/PositionCountsCountBelowPinLaw", name := "markOne", desc := "(Lcom/example/sober_broadcast/soberbroadcast/cli/PositionCounts;[I[IZII)J" } : Jvm.MethodName) method_3_code (7 : Nat) (Option.some Jvm.ClassFile.FieldType.long)).before args0 about1 = true := code_word (m := ⟨1, 2⟩) (meth := k1m2) (c := k1c2) (by decide +kernel) rfl rfl rfl (by decide +kernel)
set_option maxRecDepth 65536 in
theorem w_c5 : (Jvm.Cond.code ({ cls := "com/example/sober_broadcast/soberbroadcast/cli/PositionCounts", name := "countBelow", desc := "([I)J" } : Jvm.MethodName) prog_25_method_3_code (7 : Nat) (Option.some Jvm.ClassFile.FieldType.long)).before args0 about1 = true := code_word (m := ⟨2, 2⟩) (meth := k2m2) (c := k2c2) (by decide +kernel) rfl rfl rfl (by decide +kernel)
set_option maxRecDepth 65536 in
theorem w_c6 : (Jvm.Cond.code ({ cls := "com/example/sober_broadcast/soberbroadcast/cli/PositionCounts", name := "mark", desc := "(II)V" } : Jvm.MethodName) prog_25_method_2_code (5 : Nat) (Option.none : Option Jvm.ClassFile.FieldType)).before args0 about1 = true := code_word (m := ⟨2, 1⟩) (meth := k2m1) (c := k2c1) (by decide +kernel) rfl rfl rfl (by decide +kernel)
set_option maxRecDepth 65536 in
theorem w_c7 : (Jvm.Cond.code ({ cls := "java/lang/Math", name := "min", desc := "(II)I" } : Jvm.MethodName) jdk_29_method_69_code (2 : Nat) (Option.some Jvm.ClassFile.FieldType.int)).before args0 about1 = true := code_word (m := ⟨4, 1⟩) (meth := k4m1) (c := k4c1) (by decide +kernel) rfl rfl rfl (by decide +kernel)
def codes1 : List Jvm.Cond := [Jvm.Cond.code x code maxLocals ret, Jvm.Cond.code ({ cls := "com/example/sober_broadcast/soberbroadcast/cli/PositionCounts", name := "<init>", desc := "([I)V" } : Jvm.MethodName) prog_25_method_1_code (3 : Nat) (Option.none : Option Jvm.ClassFile.FieldType), Jvm.Cond.code ({ cls := "java/lang/Object", name := "<init>", desc := "()V" } : Jvm.MethodName) object_method_1_code (1 : Nat) (Option.none : Option Jvm.ClassFile.FieldType), Jvm.Cond.code ({ cls := "java/util/Arrays", name := "fill", desc := "([II)V" } : Jvm.MethodName) jdk_65_method_103_code (4 : Nat) (Option.none : Option Jvm.ClassFile.FieldType), Jvm.Cond.code ({ cls := "com/example/sober_broadcast/soberbroadcast/cli/PositionCountsCountBelowPinLaw", name := "markOne", desc := "(Lcom/example/sober_broadcast/soberbroadcast/cli/PositionCounts;[I[IZII)J" } : Jvm.MethodName) method_3_code (7 : Nat) (Option.some Jvm.ClassFile.FieldType.long), Jvm.Cond.code ({ cls := "com/example/sober_broadcast/soberbroadcast/cli/PositionCounts", name := "countBelow", desc := "([I)J" } : Jvm.MethodName) prog_25_method_3_code (7 : Nat) (Option.some Jvm.ClassFile.FieldType.long), Jvm.Cond.code ({ cls := "com/example/sober_broadcast/soberbroadcast/cli/PositionCounts", name := "mark", desc := "(II)V" } : Jvm.MethodName) prog_25_method_2_code (5 : Nat) (Option.none : Option Jvm.ClassFile.FieldType), Jvm.Cond.code ({ cls := "java/lang/Math", name := "min", desc := "(II)I" } : Jvm.MethodName) jdk_29_method_69_code (2 : Nat) (Option.some Jvm.ClassFile.FieldType.int)]
set_option maxRecDepth 65536 in
theorem codes_eq : words1.filter isCode = codes1 := rfl
theorem w_codes : ∀ c ∈ words1.filter isCode, c.before args0 about1 = true := by
  rw [codes_eq]
  intro c hc
  simp only [codes1, List.mem_cons, List.not_mem_nil, or_false] at hc
  rcases hc with rfl | rfl | rfl | rfl | rfl | rfl | rfl | rfl
  · exact w_c0
  · exact w_c1
  · exact w_c2
  · exact w_c3
  · exact w_c4
  · exact w_c5
  · exact w_c6
  · exact w_c7
set_option maxRecDepth 65536 in
theorem w_t1 : (words1.take 24).all (fun c => isCode c || c.before args0 about1) = true := by decide +kernel
set_option maxRecDepth 65536 in
theorem w_t2 : (words1.drop 24).all (fun c => isCode c || c.before args0 about1) = true := by decide +kernel
theorem w_tables : (allAtoms (Jvm.Cond.code x code maxLocals ret :: tables_1)).before args0 about1 = true := by
  rw [allAtoms_all]
  show words1.all (fun c => c.before args0 about1) = true
  refine all_split ?_ w_codes
  rw [← List.take_append_drop 24 words1, List.all_append, w_t1, w_t2]
  rfl
set_option maxRecDepth 65536 in
theorem w_case : (Jvm.Cond.and given_1 narrow_1).before args0 about1 = true := by decide +kernel
theorem w_applies : (headSpec (Jvm.Cond.code x code maxLocals ret :: tables_1) room_1).applies x e0.platform about1 = true :=
  (Spec.applies_iff w_frames).mpr ⟨w_running, w_runnable, w_alone, w_named, w_hears, w_ripe, w_room, w_tables⟩
theorem atStart : AtStart classFile x code maxLocals ret World_1 tables_1 room_1 Calls_1 rest_1 Pre_1 launch0 p0 e0 about1 theMethod args0 below0 :=
  ⟨lists_1, trivial, launch0.admits_env _ _ _, launch0.least_env, fairChoices_fair.cas, fairChoices_fair.clock, w_frames, w_args, w_heap, w_applies, trivial, trivial, w_case⟩
end start1
theorem witness_1 : WitnessClaimed_1 := ⟨start1.p0, start1.e0, start1.about1, start1.theMethod, start1.args0, start1.below0, start1.atStart⟩
end Jvm.Pilot.@@N@@
