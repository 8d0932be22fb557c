import JvmDerived
import JvmDerived.Pilot.@@N@@Statement
import JvmDerived.Pilot.@@N@@Code
set_option linter.unusedVariables false
set_option linter.unusedSimpArgs false
namespace Jvm.RoadKit
open Sem ClassFile Op Lib Jvm.Stand Jvm.Free Jvm.LawKit
section New
variable {p : Program} {l : Launch} {e : Env} {R : Room} {s : State} {m : MethodId} {args : Array Value} {below : List Frame} {meth : Method} {c : Code} {T : State} {locs : List Loc} {cells slots : Nat}
theorem retI (X : Stand p l e R s m args below meth c T locs cells slots) (hx : p.tables.exec = Jvm.exec) {pc : Nat} {Ls : Array Slot} {z : Int32} {rest : List Value} (hret : meth.sig.returnType = some .int) (hd : decode c.code pc = .ok (.ireturn, 1)) {fs : List Frame}
    (hl : ∀ (f : JFrame) (acts : List Action), f.method = m → f.locked = none → f.entered = [] → (doReturn e (T.setTop f) acts (some (.int z))).1 = T.setFrames fs) : Steps p.tables e below (T.setTop (mkF m pc Ls (.int z :: rest))) (T.setFrames fs) := by
  have hm' : T.vm.method? m = some meth := X.method'
  have hn : narrow .int (.int z) = .int z := rfl
  show Steps p.tables e below (T.setTop { method := m, pc := pc, locals := Ls, stack := _ :: rest, locked := none }) _
  jvm_step X.here [X.here.top, hx, hd, hm', hret, hn]
  first | (intro acts; rw [hl _ acts rfl rfl rfl]) | rw [hl _ _ rfl rfl rfl]
  exact Steps.refl _
end New
end Jvm.RoadKit
namespace Jvm.Pilot.@@N@@
open Jvm Jvm.ClassFile Sem Op Lib Jvm.Free Jvm.Stand Jvm.LawKit Jvm.RoadKit Bundle Jvm.Pilot.@@N@@.Jvm.D
def OwnQ (r : Option Value) (h0 : Heap) (n0 : Nat) (v : Option Value) (h : Heap) (L : List Loc) : Prop := v = r ∧ Fr n0 L ∧ h = h0
theorem own_sz {Z : State} {n0 : Nat} {h : Heap} (O : Old Z n0 h) : n0 ≤ h.size := O.1 ▸ O.2.1
theorem own_new {Z : State} {n0 : Nat} {h : Heap} {b : Addr} (O : Old Z n0 h) (g : b = h.size) : n0 ≤ b := Nat.le_trans (own_sz O) (Nat.le_of_eq g.symm)
theorem own_eqi {args : Array Value} {first s : State} {o : Option Outcome} {idx : List Nat} {a : Term} {k : Int32} (h : (Cond.eq a (Term.int k)).value args first o s idx = some true) : a.eval args first o idx s = some (.int k) := by
  obtain ⟨x, y, h1, h2, h3, -⟩ := cmp_v (Or.inl h)
  have e2 : y = .int k := (Option.some.inj ((Term.int_eval k).symm.trans h2)).symm
  subst e2
  cases x with
  | int z =>
    have q : z = k := by
      have h4 := h
      simp only [Cond.value, h1, h2] at h4
      simpa using h4
    rw [h1, q]
  | _ => first | (obtain ⟨z, hz⟩ := h3; cases hz) | (cases h3.2)
theorem own_len {args : Array Value} {first s : State} {o : Option Outcome} {idx : List Nat} {t : Term} {a : Addr} {cl : Cell} {k : Int32} (ht : t.eval args first o idx s = some (.ref a)) (hc : s.heap[a]? = some cl) (h : (Cond.eq (Term.length t) (Term.int k)).value args first o s idx = some true) : cl.slots.size < 2 ^ 31 ∧ cl.slots.size.toInt32 = k := by
  have h1 := own_eqi h
  obtain ⟨a', cell, ha', hat, hv⟩ := Term.length_spec h1
  cases ht.symm.trans ha'
  cases hc.symm.trans (State.arrayAt?_spec hat).1
  refine ⟨?_, (Value.int.inj hv).symm⟩
  by_cases q : cl.slots.size < 2147483648
  · exact q
  · exfalso
    simp [Term.eval, ht, hat, q] at h1
theorem own_el {args : Array Value} {first s : State} {o : Option Outcome} {idx : List Nat} {t u : Term} {a b : Addr} {cl : Cell} {j : Int32} (ht : t.eval args first o idx s = some (.ref a)) (hc : s.heap[a]? = some cl) (h : (Cond.eq (Term.elem t (Term.int j)) u).value args first o s idx = some true) (hu : u.eval args first o idx s = some (.ref b)) :
    ¬ (j < 0 ∨ cl.slots.size ≤ j.toNatClampNeg) ∧ cl.slots[j.toNatClampNeg]? = some (.ref b) := by
  obtain ⟨x, y, h1, h2, h3, h4⟩ := cmp_v (Or.inl h)
  cases hu.symm.trans h2
  have q := gotT (eq_R h1 h2 h4.2 rfl) h
  subst q
  exact elem_in h1 ht (Term.int_eval j) hc
def OwnG (Z : State) (wPERSISTENT : Addr) (wVALUES : Addr) (wEPHEMERAL : Addr) (wPERSISTENT_SEQUENTIAL : Addr) (wEPHEMERAL_SEQUENTIAL : Addr) (kVALUES : ClassId) : Prop := Sta Z Z.heap "com/example/nimble_quorum/nimblequorum/wire/CreateMode" "PERSISTENT" "Lcom/example/nimble_quorum/nimblequorum/wire/CreateMode;" (.ref wPERSISTENT) ∧
  Exa Z Z.heap wPERSISTENT "com/example/nimble_quorum/nimblequorum/wire/CreateMode" ∧
  Sta Z Z.heap "com/example/nimble_quorum/nimblequorum/wire/CreateMode" "$VALUES" "[Lcom/example/nimble_quorum/nimblequorum/wire/CreateMode;" (.ref wVALUES) ∧
  Exa Z Z.heap wVALUES "[Lcom/example/nimble_quorum/nimblequorum/wire/CreateMode;" ∧
  Sta Z Z.heap "com/example/nimble_quorum/nimblequorum/wire/CreateMode" "EPHEMERAL" "Lcom/example/nimble_quorum/nimblequorum/wire/CreateMode;" (.ref wEPHEMERAL) ∧
  Exa Z Z.heap wEPHEMERAL "com/example/nimble_quorum/nimblequorum/wire/CreateMode" ∧
  Sta Z Z.heap "com/example/nimble_quorum/nimblequorum/wire/CreateMode" "PERSISTENT_SEQUENTIAL" "Lcom/example/nimble_quorum/nimblequorum/wire/CreateMode;" (.ref wPERSISTENT_SEQUENTIAL) ∧
  Exa Z Z.heap wPERSISTENT_SEQUENTIAL "com/example/nimble_quorum/nimblequorum/wire/CreateMode" ∧
  Sta Z Z.heap "com/example/nimble_quorum/nimblequorum/wire/CreateMode" "EPHEMERAL_SEQUENTIAL" "Lcom/example/nimble_quorum/nimblequorum/wire/CreateMode;" (.ref wEPHEMERAL_SEQUENTIAL) ∧
  Exa Z Z.heap wEPHEMERAL_SEQUENTIAL "com/example/nimble_quorum/nimblequorum/wire/CreateMode" ∧
  Fld Z Z.heap wPERSISTENT "com/example/nimble_quorum/nimblequorum/wire/CreateMode" "ephemeral" "Z" (.int (0 : Int32)) ∧
  Fld Z Z.heap wPERSISTENT "com/example/nimble_quorum/nimblequorum/wire/CreateMode" "sequential" "Z" (.int (0 : Int32)) ∧
  Fld Z Z.heap wEPHEMERAL "com/example/nimble_quorum/nimblequorum/wire/CreateMode" "ephemeral" "Z" (.int (1 : Int32)) ∧
  Fld Z Z.heap wPERSISTENT_SEQUENTIAL "com/example/nimble_quorum/nimblequorum/wire/CreateMode" "ephemeral" "Z" (.int (0 : Int32)) ∧
  Fld Z Z.heap wPERSISTENT_SEQUENTIAL "com/example/nimble_quorum/nimblequorum/wire/CreateMode" "sequential" "Z" (.int (1 : Int32)) ∧
  Fld Z Z.heap wEPHEMERAL_SEQUENTIAL "com/example/nimble_quorum/nimblequorum/wire/CreateMode" "ephemeral" "Z" (.int (1 : Int32)) ∧
  Fld Z Z.heap wPERSISTENT "com/example/nimble_quorum/nimblequorum/wire/CreateMode" "flags" "I" (.int (0 : Int32)) ∧
  Fld Z Z.heap wEPHEMERAL "com/example/nimble_quorum/nimblequorum/wire/CreateMode" "sequential" "Z" (.int (0 : Int32)) ∧
  Fld Z Z.heap wEPHEMERAL_SEQUENTIAL "com/example/nimble_quorum/nimblequorum/wire/CreateMode" "sequential" "Z" (.int (1 : Int32)) ∧
  Fld Z Z.heap wEPHEMERAL_SEQUENTIAL "com/example/nimble_quorum/nimblequorum/wire/CreateMode" "flags" "I" (.int (3 : Int32)) ∧
  Fld Z Z.heap wPERSISTENT_SEQUENTIAL "com/example/nimble_quorum/nimblequorum/wire/CreateMode" "flags" "I" (.int (2 : Int32)) ∧
  Fld Z Z.heap wEPHEMERAL "com/example/nimble_quorum/nimblequorum/wire/CreateMode" "flags" "I" (.int (1 : Int32)) ∧
  Arv Z Z.heap wVALUES kVALUES (.object "com/example/nimble_quorum/nimblequorum/wire/CreateMode") (4 : Int32) [(.ref wPERSISTENT), (.ref wEPHEMERAL), (.ref wPERSISTENT_SEQUENTIAL), (.ref wEPHEMERAL_SEQUENTIAL)] .null ∧
  wPERSISTENT ≠ wEPHEMERAL ∧
  wPERSISTENT ≠ wEPHEMERAL_SEQUENTIAL ∧
  wEPHEMERAL ≠ wPERSISTENT_SEQUENTIAL ∧
  wPERSISTENT_SEQUENTIAL ≠ wEPHEMERAL_SEQUENTIAL ∧
  wPERSISTENT ≠ wPERSISTENT_SEQUENTIAL ∧
  wEPHEMERAL ≠ wEPHEMERAL_SEQUENTIAL
theorem own_pn_0 : plainName "com/example/nimble_quorum/nimblequorum/wire/CreateModeOfPinLaw" = true := by first | (simp [plainName, overriddenIn]; done) | decide +kernel
theorem own_ef_0_I (m : MethodId) (x0 : Int32) : entryFrame m #[(.int x0)] maxLocals = mkF m 0 #[.val (.int x0), .unset, .unset, .unset, .unset, .unset] [] := by first | (simp [entryFrame, mkF, argsToLocals, Value.category, maxLocals]; done) | rfl
theorem own_pn_1 : plainName "com/example/nimble_quorum/nimblequorum/wire/CreateMode" = true := by first | (simp [plainName, overriddenIn]; done) | decide +kernel
theorem own_ef_1_II (m : MethodId) (x0 : Int32) (x1 : Int32) : entryFrame m #[(.int x0), (.int x1)] 7 = mkF m 0 #[.val (.int x0), .val (.int x1), .unset, .unset, .unset, .unset, .unset] [] := by first | (simp [entryFrame, mkF, argsToLocals, Value.category]; done) | rfl
theorem own_ef_2_ (m : MethodId)  : entryFrame m #[] 0 = mkF m 0 #[] [] := by first | (simp [entryFrame, mkF, argsToLocals, Value.category]; done) | rfl
theorem own_d2_0 : decode prog_89_method_1_code 0 = .ok (.getstatic 16, 3) := by decide +kernel
theorem own_d2_3 : decode prog_89_method_1_code 3 = .ok (.invokevirtual 20, 3) := by decide +kernel
theorem own_d2_6 : decode prog_89_method_1_code 6 = .ok (.checkcast 21, 3) := by decide +kernel
theorem own_d2_9 : decode prog_89_method_1_code 9 = .ok (.areturn, 1) := by decide +kernel
def OwnQ_own_values_1 (Z : State) (wPERSISTENT : Addr) (wVALUES : Addr) (wEPHEMERAL : Addr) (wPERSISTENT_SEQUENTIAL : Addr) (wEPHEMERAL_SEQUENTIAL : Addr) (kVALUES : ClassId) (h0 : Heap) (n0 : Nat) (v : Option Value) (h : Heap) (L : List Loc) : Prop :=
  ∃ (b2 : Addr), v = some (.ref b2) ∧ Fr n0 L ∧ Keep h0 h [] ∧ n0 ≤ b2 ∧ h0.size ≤ b2 ∧ Arv Z h b2 kVALUES (.object "com/example/nimble_quorum/nimblequorum/wire/CreateMode") (4 : Int32) [(.ref wPERSISTENT), (.ref wEPHEMERAL), (.ref wPERSISTENT_SEQUENTIAL), (.ref wEPHEMERAL_SEQUENTIAL)] .null ∧ Exa Z h b2 "[Lcom/example/nimble_quorum/nimblequorum/wire/CreateMode;"
set_option maxRecDepth 65536 in
set_option maxHeartbeats 40000000 in
theorem own_values_1 (l : Launch) (Z : State) (a0 : Array Value) (hw : ∀ d ∈ tables_1, d.before a0 Z = true) (ws : List Jvm.Cond) (wPERSISTENT : Addr) (wVALUES : Addr) (wEPHEMERAL : Addr) (wPERSISTENT_SEQUENTIAL : Addr) (wEPHEMERAL_SEQUENTIAL : Addr) (kVALUES : ClassId) (G : OwnG Z wPERSISTENT wVALUES wEPHEMERAL wPERSISTENT_SEQUENTIAL wEPHEMERAL_SEQUENTIAL kVALUES) (h0 : Heap) (n0 : Nat) (O0 : Old Z n0 h0) :
    MetFree l (⟨"com/example/nimble_quorum/nimblequorum/wire/CreateMode", "values", "()[Lcom/example/nimble_quorum/nimblequorum/wire/CreateMode;"⟩ : MethodName) (head1 (Jvm.Cond.code (⟨"com/example/nimble_quorum/nimblequorum/wire/CreateMode", "values", "()[Lcom/example/nimble_quorum/nimblequorum/wire/CreateMode;"⟩ : MethodName) prog_89_method_1_code 0 (some (.array (.object "com/example/nimble_quorum/nimblequorum/wire/CreateMode"))) :: ws) ({ frames := 1, cells := 1, slots := 4, locals := 14 } : Room)) (fun a U => a = #[] ∧ Z.Warmed39 U.vm ∧ U.heap = h0) (fun _ _ _ _ _ => True) (fun _ U o U' => ∃ v L, o = .returned v ∧ OwnQ_own_values_1 Z wPERSISTENT wVALUES wEPHEMERAL wPERSISTENT_SEQUENTIAL wEPHEMERAL_SEQUENTIAL kVALUES h0 n0 v U'.heap L ∧ FrameEnd U o U' L ({ frames := 1, cells := 1, slots := 4, locals := 14 } : Room).cells ({ frames := 1, cells := 1, slots := 4, locals := 14 } : Room).slots) := by
  refine MetFree.of_bodySF (plainFor_of_name own_pn_1) hisR ?_
  intro p e s m args below meth c s₁ Bd hml0 hP hK
  obtain ⟨rfl, hZ, hh⟩ := hP
  have hx := Bd.exec
  have hby := Bd.bytes
  have hml : c.maxLocals = 0 := hml0
  have hown : s.vm.findClass "com/example/nimble_quorum/nimblequorum/wire/CreateMode" = some m.cls := findClass_of_methodNamed Bd.named
  have hnm := (name_of_methodNamed Bd.named Bd.method).1
  have X0 : Stand p l e ({ frames := 1, cells := 1, slots := 4, locals := 14 } : Room) s m #[] below meth c s₁ [] 0 0 := Stand.of_body Bd
  have e0 : s₁.heap = h0 := by rw [← hh, Bd.state]; rfl
  have N0 := Fr.nil n0
  have pre0 : ∀ t, Steps p.tables e below (s₁.setTop (mkF m 0 #[] [])) t → Steps p.tables e below (s₁.setTop (entryFrame m #[] 0)) t := fun t k => castTop (own_ef_2_ m ) k
  obtain ⟨T1, X1, e1, st1⟩ := getS2 X0 hx hZ hown (host := "") (Or.inl (hw _ (List.mem_of_getElem? (i := 9) rfl))) Via.refl e0 (G.2.2.1.ext O0.2) (g := (mkF m 0 #[] [])) rfl (hb hby own_d2_0)
  obtain ⟨T2, h2, X2, e2, E2, V2, A2, st2⟩ := cloneH X1 hx hZ hown (hw _ (List.mem_of_getElem? (i := 11) rfl)) (hw _ (List.mem_of_getElem? (i := 12) rfl)) (hw _ (List.mem_of_getElem? (i := 16) rfl)) (hw _ (List.mem_of_getElem? (i := 14) rfl)) (hw _ (List.mem_of_getElem? (i := 15) rfl)) (hw _ (List.mem_of_getElem? (i := 17) rfl)) e1 (hs := []) (G.2.2.2.2.2.2.2.2.2.2.2.2.2.2.2.2.2.2.2.2.2.2.1.ext O0.2) (G.2.2.2.1.ext O0.2) (g := (mkF m 3 #[] [(.ref wVALUES)])) rfl (by rw [hml]; rfl) rfl (hb hby own_d2_3) (by decide) (W := 0) (cap := 4) (by show 2 * 0 + _ ≤ _; exact Nat.le_of_eq rfl) (by decide) (by decide) (by decide) (by decide)
  obtain ⟨b2, g2⟩ : ∃ z, z = h0.size := ⟨_, rfl⟩
  rw [← g2] at A2 V2 st2
  have ge_b2 : n0 ≤ b2 := own_new O0 g2
  have sz_b2 : h0.size ≤ b2 := Nat.le_trans (Keep.refl h0 []).1 (Nat.le_of_eq g2.symm)
  have O2 := O0.ext E2
  have K2 := (Keep.refl h0 []).ext E2
  have Vc2 : Arv Z h2 b2 kVALUES (.object "com/example/nimble_quorum/nimblequorum/wire/CreateMode") (4 : Int32) [(.ref wPERSISTENT), (.ref wEPHEMERAL), (.ref wPERSISTENT_SEQUENTIAL), (.ref wEPHEMERAL_SEQUENTIAL)] .null := V2
  obtain ⟨T3, X3, e3, st3⟩ := castY X2 hx hZ hown (hw _ (List.mem_of_getElem? (i := 22) rfl)) e2 (Ins.self A2) (g := (mkF m 6 #[] [(.ref b2)])) rfl rfl (hb hby own_d2_6)
  obtain ⟨fs, hr, hrun, hended, hW, hsame⟩ := X3.leave (v := some (.ref b2)) (fun h => by rw [Bd.returns] at h; cases h)
  refine ⟨_, _, pre0 _ ?_, hrun, hended, _, _, rfl, ?_, ⟨_, rfl⟩, hW, hsame.mono (by decide) (by decide)⟩
  · show Steps p.tables e below (s₁.setTop (mkF m 0 #[] [])) _
    refine st1 _ ?_
    show Steps p.tables e below (T1.setTop (mkF m 3 #[] [(.ref wVALUES)])) _
    refine st2 _ ?_
    show Steps p.tables e below (T2.setTop (mkF m 6 #[] [(.ref b2)])) _
    refine st3 _ ?_
    show Steps p.tables e below (T3.setTop (mkF m 9 #[] [(.ref b2)])) _
    jvm_step X3.here [X3.here.top, hx, (hb hby own_d2_9), X3.method', Bd.returns, Value.isRef, FieldType.isReference]
    first | (intro acts; rw [hr _ acts rfl rfl rfl]) | rw [hr _ _ rfl rfl rfl]
    exact Steps.refl _
  · show OwnQ_own_values_1 Z wPERSISTENT wVALUES wEPHEMERAL wPERSISTENT_SEQUENTIAL wEPHEMERAL_SEQUENTIAL kVALUES h0 n0 _ T3.heap _
    rw [e3]
    exact ⟨b2, rfl, N0, K2, ge_b2, sz_b2, Vc2, A2⟩
theorem own_pd_0 : parseMethodDescriptor "()[Lcom/example/nimble_quorum/nimblequorum/wire/CreateMode;" = some ⟨[], some (.array (.object "com/example/nimble_quorum/nimblequorum/wire/CreateMode"))⟩ := by decide +kernel
theorem own_d1_0 : decode prog_89_method_5_code 0 = .ok (.aconst_null, 1) := by decide +kernel
theorem own_d1_1 : decode prog_89_method_5_code 1 = .ok (.astore_n 2, 1) := by decide +kernel
theorem own_d1_2 : decode prog_89_method_5_code 2 = .ok (.invokestatic 46, 3) := by decide +kernel
theorem own_d1_5 : decode prog_89_method_5_code 5 = .ok (.astore_n 3, 1) := by decide +kernel
theorem own_d1_6 : decode prog_89_method_5_code 6 = .ok (.aload_n 3, 1) := by decide +kernel
theorem own_d1_7 : decode prog_89_method_5_code 7 = .ok (.arraylength, 1) := by decide +kernel
theorem own_d1_8 : decode prog_89_method_5_code 8 = .ok (.istore 4, 2) := by decide +kernel
theorem own_d1_10 : decode prog_89_method_5_code 10 = .ok (.iconst 0, 1) := by decide +kernel
theorem own_d1_11 : decode prog_89_method_5_code 11 = .ok (.istore 5, 2) := by decide +kernel
theorem own_d1_13 : decode prog_89_method_5_code 13 = .ok (.iload 5, 2) := by decide +kernel
theorem own_d1_15 : decode prog_89_method_5_code 15 = .ok (.iload 4, 2) := by decide +kernel
theorem own_d1_17 : decode prog_89_method_5_code 17 = .ok (.if_icmp .ge 36, 3) := by decide +kernel
theorem own_d1_20 : decode prog_89_method_5_code 20 = .ok (.aload_n 3, 1) := by decide +kernel
theorem own_d1_21 : decode prog_89_method_5_code 21 = .ok (.iload 5, 2) := by decide +kernel
theorem own_d1_23 : decode prog_89_method_5_code 23 = .ok (.aaload, 1) := by decide +kernel
theorem own_d1_24 : decode prog_89_method_5_code 24 = .ok (.astore 6, 2) := by decide +kernel
theorem own_d1_26 : decode prog_89_method_5_code 26 = .ok (.aload 6, 2) := by decide +kernel
theorem own_d1_28 : decode prog_89_method_5_code 28 = .ok (.getfield 39, 3) := by decide +kernel
theorem own_d1_31 : decode prog_89_method_5_code 31 = .ok (.iload_n 0, 1) := by decide +kernel
theorem own_d1_32 : decode prog_89_method_5_code 32 = .ok (.if_icmp .ne 15, 3) := by decide +kernel
theorem own_d1_35 : decode prog_89_method_5_code 35 = .ok (.aload 6, 2) := by decide +kernel
theorem own_d1_37 : decode prog_89_method_5_code 37 = .ok (.getfield 43, 3) := by decide +kernel
theorem own_d1_40 : decode prog_89_method_5_code 40 = .ok (.iload_n 1, 1) := by decide +kernel
theorem own_d1_41 : decode prog_89_method_5_code 41 = .ok (.if_icmp .ne 6, 3) := by decide +kernel
theorem own_d1_44 : decode prog_89_method_5_code 44 = .ok (.aload 6, 2) := by decide +kernel
theorem own_d1_46 : decode prog_89_method_5_code 46 = .ok (.astore_n 2, 1) := by decide +kernel
theorem own_d1_47 : decode prog_89_method_5_code 47 = .ok (.iinc 5 1, 3) := by decide +kernel
theorem own_d1_50 : decode prog_89_method_5_code 50 = .ok (.goto (-37), 3) := by decide +kernel
theorem own_d1_53 : decode prog_89_method_5_code 53 = .ok (.aload_n 2, 1) := by decide +kernel
theorem own_d1_54 : decode prog_89_method_5_code 54 = .ok (.areturn, 1) := by decide +kernel
def OwnQ_own_of_0 (Z : State) (wPERSISTENT : Addr) (wVALUES : Addr) (wEPHEMERAL : Addr) (wPERSISTENT_SEQUENTIAL : Addr) (wEPHEMERAL_SEQUENTIAL : Addr) (kVALUES : ClassId) (h0 : Heap) (n0 : Nat) (v : Option Value) (h : Heap) (L : List Loc) : Prop :=
  v = some (.ref wPERSISTENT) ∧ Fr n0 L ∧ Keep h0 h []
set_option maxRecDepth 65536 in
set_option maxHeartbeats 40000000 in
theorem own_of_0 (l : Launch) (Z : State) (a0 : Array Value) (hw : ∀ d ∈ tables_1, d.before a0 Z = true) (ws : List Jvm.Cond) (wPERSISTENT : Addr) (wVALUES : Addr) (wEPHEMERAL : Addr) (wPERSISTENT_SEQUENTIAL : Addr) (wEPHEMERAL_SEQUENTIAL : Addr) (kVALUES : ClassId) (G : OwnG Z wPERSISTENT wVALUES wEPHEMERAL wPERSISTENT_SEQUENTIAL wEPHEMERAL_SEQUENTIAL kVALUES) (h0 : Heap) (n0 : Nat) (O0 : Old Z n0 h0) :
    MetFree l (⟨"com/example/nimble_quorum/nimblequorum/wire/CreateMode", "of", "(ZZ)Lcom/example/nimble_quorum/nimblequorum/wire/CreateMode;"⟩ : MethodName) (head1 (Jvm.Cond.code (⟨"com/example/nimble_quorum/nimblequorum/wire/CreateMode", "of", "(ZZ)Lcom/example/nimble_quorum/nimblequorum/wire/CreateMode;"⟩ : MethodName) prog_89_method_5_code 7 (some (.object "com/example/nimble_quorum/nimblequorum/wire/CreateMode")) :: ws) ({ frames := 2, cells := 1, slots := 4, locals := 25 } : Room)) (fun a U => a = #[(.int (0 : Int32)), (.int (0 : Int32))] ∧ Z.Warmed39 U.vm ∧ U.heap = h0) (fun _ _ _ _ _ => True) (fun _ U o U' => ∃ v L, o = .returned v ∧ OwnQ_own_of_0 Z wPERSISTENT wVALUES wEPHEMERAL wPERSISTENT_SEQUENTIAL wEPHEMERAL_SEQUENTIAL kVALUES h0 n0 v U'.heap L ∧ FrameEnd U o U' L ({ frames := 2, cells := 1, slots := 4, locals := 25 } : Room).cells ({ frames := 2, cells := 1, slots := 4, locals := 25 } : Room).slots) := by
  refine MetFree.of_bodySF (plainFor_of_name own_pn_1) hisR ?_
  intro p e s m args below meth c s₁ Bd hml0 hP hK
  obtain ⟨rfl, hZ, hh⟩ := hP
  have hx := Bd.exec
  have hby := Bd.bytes
  have hml : c.maxLocals = 7 := hml0
  have hown : s.vm.findClass "com/example/nimble_quorum/nimblequorum/wire/CreateMode" = some m.cls := findClass_of_methodNamed Bd.named
  have hnm := (name_of_methodNamed Bd.named Bd.method).1
  have X0 : Stand p l e ({ frames := 2, cells := 1, slots := 4, locals := 25 } : Room) s m #[(.int (0 : Int32)), (.int (0 : Int32))] below meth c s₁ [] 0 0 := Stand.of_body Bd
  have e0 : s₁.heap = h0 := by rw [← hh, Bd.state]; rfl
  have N0 := Fr.nil n0
  have pre0 : ∀ t, Steps p.tables e below (s₁.setTop (mkF m 0 #[.val (.int (0 : Int32)), .val (.int (0 : Int32)), .unset, .unset, .unset, .unset, .unset] [])) t → Steps p.tables e below (s₁.setTop (entryFrame m #[(.int (0 : Int32)), (.int (0 : Int32))] 7)) t := fun t k => castTop (own_ef_1_II m (0 : Int32) (0 : Int32)) k
  obtain ⟨_, _, ⟨T1, L1, k1, n1⟩, -, X1, ⟨Lc1, hQ1, l1, y1, z1⟩, st1⟩ := Jvm.LawKit.callS X0 hx (y := (⟨"com/example/nimble_quorum/nimblequorum/wire/CreateMode", "values", "()[Lcom/example/nimble_quorum/nimblequorum/wire/CreateMode;"⟩ : MethodName)) hown (mvT hZ (hw _ (List.mem_of_getElem? (i := 6) rfl))) (mvT hZ (hw _ (List.mem_of_getElem? (i := 7) rfl))) (mvT hZ (hw _ (List.mem_of_getElem? (i := 1) rfl))) (mvT hZ (hw _ (List.mem_of_getElem? (i := 8) rfl))) (by decide) (backOf (W := 0) (own_values_1 l Z a0 hw [] wPERSISTENT wVALUES wEPHEMERAL wPERSISTENT_SEQUENTIAL wEPHEMERAL_SEQUENTIAL kVALUES G h0 n0 O0) hZ (hw _ (List.mem_of_getElem? (i := 8) rfl)) (hw _ (List.mem_of_getElem? (i := 1) rfl)) (by decide) (by decide)) (g := (mkF m 2 #[.val (.int (0 : Int32)), .val (.int (0 : Int32)), .val .null, .unset, .unset, .unset, .unset] [])) rfl (by rw [hml]; rfl) (argsL := []) (rest := []) (lenOf own_pd_0 rfl) rfl (by show 2 * 0 + _ ≤ _; exact Nat.le_of_eq rfl) (hb hby own_d1_2) (fun _ _ => ⟨rfl, e0, (by decide : 0 + 1 ≤ _), (by decide : 0 + 4 ≤ _)⟩)
  dsimp only [Pt.U, Pt.locs, Pt.cells, Pt.slots] at X1 l1 y1 z1 st1 hQ1
  subst l1 y1 z1
  obtain ⟨b2_1, rfl, N1q, Kq1, ge_b2_1, sq_b2_1, q1_V_b2, q1_E_b2⟩ := hQ1
  have N1 := Fr.app N0 N1q
  have sz_b2_1 : h0.size ≤ b2_1 := Nat.le_trans (Keep.refl h0 []).1 sq_b2_1
  have O1 := O0.keep Kq1 all0
  have K1 := (Keep.refl h0 []).trans Kq1 all0
  obtain ⟨cl2, Ar2, qk2, Sz2, Nn2, Hs2, Gs2⟩ := id (q1_V_b2)
  have hin3 : ¬ ((0 : Int32) < 0 ∨ cl2.slots.size ≤ ((0 : Int32)).toNatClampNeg) := inb_of Sz2 ⟨by decide, by decide⟩
  have hat3 : cl2.slots[((0 : Int32)).toNatClampNeg]? = some (.ref wPERSISTENT) := Hs2.at hin3 rfl
  obtain ⟨T4, X4, e4, st4⟩ := getF X1 hx hZ hown (host := "") (Or.inl (hw _ (List.mem_of_getElem? (i := 24) rfl))) Via.refl rfl (G.2.2.2.2.2.2.2.2.2.2.1.ext O1.2) (g := (mkF m 28 #[.val (.int (0 : Int32)), .val (.int (0 : Int32)), .val .null, .val (.ref b2_1), .val (.int (4 : Int32)), .val (.int (0 : Int32)), .val (.ref wPERSISTENT)] [(.ref wPERSISTENT)])) rfl rfl (hb hby own_d1_28)
  obtain ⟨T5, X5, e5, st5⟩ := getF X4 hx hZ hown (host := "") (Or.inl (hw _ (List.mem_of_getElem? (i := 26) rfl))) Via.refl e4 (G.2.2.2.2.2.2.2.2.2.2.2.1.ext O1.2) (g := (mkF m 37 #[.val (.int (0 : Int32)), .val (.int (0 : Int32)), .val .null, .val (.ref b2_1), .val (.int (4 : Int32)), .val (.int (0 : Int32)), .val (.ref wPERSISTENT)] [(.ref wPERSISTENT)])) rfl rfl (hb hby own_d1_37)
  have hin6 : ¬ ((1 : Int32) < 0 ∨ cl2.slots.size ≤ ((1 : Int32)).toNatClampNeg) := inb_of Sz2 ⟨by decide, by decide⟩
  have hat6 : cl2.slots[((1 : Int32)).toNatClampNeg]? = some (.ref wEPHEMERAL) := Hs2.at hin6 rfl
  obtain ⟨T7, X7, e7, st7⟩ := getF X5 hx hZ hown (host := "") (Or.inl (hw _ (List.mem_of_getElem? (i := 24) rfl))) Via.refl e5 (G.2.2.2.2.2.2.2.2.2.2.2.2.1.ext O1.2) (g := (mkF m 28 #[.val (.int (0 : Int32)), .val (.int (0 : Int32)), .val (.ref wPERSISTENT), .val (.ref b2_1), .val (.int (4 : Int32)), .val (.int (1 : Int32)), .val (.ref wEPHEMERAL)] [(.ref wEPHEMERAL)])) rfl rfl (hb hby own_d1_28)
  have hin8 : ¬ ((2 : Int32) < 0 ∨ cl2.slots.size ≤ ((2 : Int32)).toNatClampNeg) := inb_of Sz2 ⟨by decide, by decide⟩
  have hat8 : cl2.slots[((2 : Int32)).toNatClampNeg]? = some (.ref wPERSISTENT_SEQUENTIAL) := Hs2.at hin8 rfl
  obtain ⟨T9, X9, e9, st9⟩ := getF X7 hx hZ hown (host := "") (Or.inl (hw _ (List.mem_of_getElem? (i := 24) rfl))) Via.refl e7 (G.2.2.2.2.2.2.2.2.2.2.2.2.2.1.ext O1.2) (g := (mkF m 28 #[.val (.int (0 : Int32)), .val (.int (0 : Int32)), .val (.ref wPERSISTENT), .val (.ref b2_1), .val (.int (4 : Int32)), .val (.int (2 : Int32)), .val (.ref wPERSISTENT_SEQUENTIAL)] [(.ref wPERSISTENT_SEQUENTIAL)])) rfl rfl (hb hby own_d1_28)
  obtain ⟨T10, X10, e10, st10⟩ := getF X9 hx hZ hown (host := "") (Or.inl (hw _ (List.mem_of_getElem? (i := 26) rfl))) Via.refl e9 (G.2.2.2.2.2.2.2.2.2.2.2.2.2.2.1.ext O1.2) (g := (mkF m 37 #[.val (.int (0 : Int32)), .val (.int (0 : Int32)), .val (.ref wPERSISTENT), .val (.ref b2_1), .val (.int (4 : Int32)), .val (.int (2 : Int32)), .val (.ref wPERSISTENT_SEQUENTIAL)] [(.ref wPERSISTENT_SEQUENTIAL)])) rfl rfl (hb hby own_d1_37)
  have hin11 : ¬ ((3 : Int32) < 0 ∨ cl2.slots.size ≤ ((3 : Int32)).toNatClampNeg) := inb_of Sz2 ⟨by decide, by decide⟩
  have hat11 : cl2.slots[((3 : Int32)).toNatClampNeg]? = some (.ref wEPHEMERAL_SEQUENTIAL) := Hs2.at hin11 rfl
  obtain ⟨T12, X12, e12, st12⟩ := getF X10 hx hZ hown (host := "") (Or.inl (hw _ (List.mem_of_getElem? (i := 24) rfl))) Via.refl e10 (G.2.2.2.2.2.2.2.2.2.2.2.2.2.2.2.1.ext O1.2) (g := (mkF m 28 #[.val (.int (0 : Int32)), .val (.int (0 : Int32)), .val (.ref wPERSISTENT), .val (.ref b2_1), .val (.int (4 : Int32)), .val (.int (3 : Int32)), .val (.ref wEPHEMERAL_SEQUENTIAL)] [(.ref wEPHEMERAL_SEQUENTIAL)])) rfl rfl (hb hby own_d1_28)
  obtain ⟨fs, hr, hrun, hended, hW, hsame⟩ := X12.leave (v := some (.ref wPERSISTENT)) (fun h => by rw [Bd.returns] at h; cases h)
  refine ⟨_, _, pre0 _ ?_, hrun, hended, _, _, rfl, ?_, ⟨_, rfl⟩, hW, hsame.mono (by decide) (by decide)⟩
  · show Steps p.tables e below (s₁.setTop (mkF m 0 #[.val (.int (0 : Int32)), .val (.int (0 : Int32)), .unset, .unset, .unset, .unset, .unset] [])) _
    refine XS.aconstNull X0.here hx rfl (hb hby own_d1_0) ?_
    show Steps p.tables e below (s₁.setTop (mkF m 1 #[.val (.int (0 : Int32)), .val (.int (0 : Int32)), .unset, .unset, .unset, .unset, .unset] [.null])) _
    refine XS.astoreN X0.here hx rfl (hb hby own_d1_1) rfl rfl (l' := #[.val (.int (0 : Int32)), .val (.int (0 : Int32)), .val .null, .unset, .unset, .unset, .unset]) rfl ?_
    show Steps p.tables e below (s₁.setTop (mkF m 2 #[.val (.int (0 : Int32)), .val (.int (0 : Int32)), .val .null, .unset, .unset, .unset, .unset] [])) _
    refine st1 _ ?_
    show Steps p.tables e below (T1.setTop (mkF m 5 #[.val (.int (0 : Int32)), .val (.int (0 : Int32)), .val .null, .unset, .unset, .unset, .unset] [(.ref b2_1)])) _
    refine XS.astoreN X1.here hx rfl (hb hby own_d1_5) rfl rfl (l' := #[.val (.int (0 : Int32)), .val (.int (0 : Int32)), .val .null, .val (.ref b2_1), .unset, .unset, .unset]) rfl ?_
    show Steps p.tables e below (T1.setTop (mkF m 6 #[.val (.int (0 : Int32)), .val (.int (0 : Int32)), .val .null, .val (.ref b2_1), .unset, .unset, .unset] [])) _
    refine XS.aloadN X1.here hx rfl (hb hby own_d1_6) rfl rfl ?_
    show Steps p.tables e below (T1.setTop (mkF m 7 #[.val (.int (0 : Int32)), .val (.int (0 : Int32)), .val .null, .val (.ref b2_1), .unset, .unset, .unset] [(.ref b2_1)])) _
    refine X1.arraylength hx Ar2.1 (State.isArrayOf_alike hZ.alike Ar2.2.1) (g := (mkF m 7 #[.val (.int (0 : Int32)), .val (.int (0 : Int32)), .val .null, .val (.ref b2_1), .unset, .unset, .unset] [(.ref b2_1)])) rfl rfl (hb hby own_d1_7) _ ?_
    rw [len_of Sz2 Nn2]
    show Steps p.tables e below (T1.setTop (mkF m 8 #[.val (.int (0 : Int32)), .val (.int (0 : Int32)), .val .null, .val (.ref b2_1), .unset, .unset, .unset] [(.int (4 : Int32))])) _
    refine XS.istore X1.here hx rfl (hb hby own_d1_8) rfl (l' := #[.val (.int (0 : Int32)), .val (.int (0 : Int32)), .val .null, .val (.ref b2_1), .val (.int (4 : Int32)), .unset, .unset]) rfl ?_
    show Steps p.tables e below (T1.setTop (mkF m 10 #[.val (.int (0 : Int32)), .val (.int (0 : Int32)), .val .null, .val (.ref b2_1), .val (.int (4 : Int32)), .unset, .unset] [])) _
    refine XS.iconst X1.here hx rfl (hb hby own_d1_10) ?_
    show Steps p.tables e below (T1.setTop (mkF m 11 #[.val (.int (0 : Int32)), .val (.int (0 : Int32)), .val .null, .val (.ref b2_1), .val (.int (4 : Int32)), .unset, .unset] [(.int (0 : Int32))])) _
    refine XS.istore X1.here hx rfl (hb hby own_d1_11) rfl (l' := #[.val (.int (0 : Int32)), .val (.int (0 : Int32)), .val .null, .val (.ref b2_1), .val (.int (4 : Int32)), .val (.int (0 : Int32)), .unset]) rfl ?_
    show Steps p.tables e below (T1.setTop (mkF m 13 #[.val (.int (0 : Int32)), .val (.int (0 : Int32)), .val .null, .val (.ref b2_1), .val (.int (4 : Int32)), .val (.int (0 : Int32)), .unset] [])) _
    refine XS.iload X1.here hx rfl (hb hby own_d1_13) rfl ?_
    show Steps p.tables e below (T1.setTop (mkF m 15 #[.val (.int (0 : Int32)), .val (.int (0 : Int32)), .val .null, .val (.ref b2_1), .val (.int (4 : Int32)), .val (.int (0 : Int32)), .unset] [(.int (0 : Int32))])) _
    refine XS.iload X1.here hx rfl (hb hby own_d1_15) rfl ?_
    show Steps p.tables e below (T1.setTop (mkF m 17 #[.val (.int (0 : Int32)), .val (.int (0 : Int32)), .val .null, .val (.ref b2_1), .val (.int (4 : Int32)), .val (.int (0 : Int32)), .unset] [(.int (4 : Int32)), (.int (0 : Int32))])) _
    refine XS.icmpNo X1.here hx rfl (hb hby own_d1_17) rfl (by decide) ?_
    show Steps p.tables e below (T1.setTop (mkF m 20 #[.val (.int (0 : Int32)), .val (.int (0 : Int32)), .val .null, .val (.ref b2_1), .val (.int (4 : Int32)), .val (.int (0 : Int32)), .unset] [])) _
    refine XS.aloadN X1.here hx rfl (hb hby own_d1_20) rfl rfl ?_
    show Steps p.tables e below (T1.setTop (mkF m 21 #[.val (.int (0 : Int32)), .val (.int (0 : Int32)), .val .null, .val (.ref b2_1), .val (.int (4 : Int32)), .val (.int (0 : Int32)), .unset] [(.ref b2_1)])) _
    refine XS.iload X1.here hx rfl (hb hby own_d1_21) rfl ?_
    show Steps p.tables e below (T1.setTop (mkF m 23 #[.val (.int (0 : Int32)), .val (.int (0 : Int32)), .val .null, .val (.ref b2_1), .val (.int (4 : Int32)), .val (.int (0 : Int32)), .unset] [(.int (0 : Int32)), (.ref b2_1)])) _
    refine X1.aaload hx (j := (0 : Int32)) (v := (.ref wPERSISTENT)) Ar2.1 (State.isArrayOf_alike hZ.alike Ar2.2.1) rfl Ar2.2.2 hin3 hat3 (g := (mkF m 23 #[.val (.int (0 : Int32)), .val (.int (0 : Int32)), .val .null, .val (.ref b2_1), .val (.int (4 : Int32)), .val (.int (0 : Int32)), .unset] [(.int (0 : Int32)), (.ref b2_1)])) rfl rfl (hb hby own_d1_23) _ ?_
    show Steps p.tables e below (T1.setTop (mkF m 24 #[.val (.int (0 : Int32)), .val (.int (0 : Int32)), .val .null, .val (.ref b2_1), .val (.int (4 : Int32)), .val (.int (0 : Int32)), .unset] [(.ref wPERSISTENT)])) _
    refine XS.astore X1.here hx rfl (hb hby own_d1_24) rfl rfl (l' := #[.val (.int (0 : Int32)), .val (.int (0 : Int32)), .val .null, .val (.ref b2_1), .val (.int (4 : Int32)), .val (.int (0 : Int32)), .val (.ref wPERSISTENT)]) rfl ?_
    show Steps p.tables e below (T1.setTop (mkF m 26 #[.val (.int (0 : Int32)), .val (.int (0 : Int32)), .val .null, .val (.ref b2_1), .val (.int (4 : Int32)), .val (.int (0 : Int32)), .val (.ref wPERSISTENT)] [])) _
    refine XS.aload X1.here hx rfl (hb hby own_d1_26) rfl rfl ?_
    show Steps p.tables e below (T1.setTop (mkF m 28 #[.val (.int (0 : Int32)), .val (.int (0 : Int32)), .val .null, .val (.ref b2_1), .val (.int (4 : Int32)), .val (.int (0 : Int32)), .val (.ref wPERSISTENT)] [(.ref wPERSISTENT)])) _
    refine st4 _ ?_
    show Steps p.tables e below (T4.setTop (mkF m 31 #[.val (.int (0 : Int32)), .val (.int (0 : Int32)), .val .null, .val (.ref b2_1), .val (.int (4 : Int32)), .val (.int (0 : Int32)), .val (.ref wPERSISTENT)] [(.int (0 : Int32))])) _
    refine XS.iloadN X4.here hx rfl (hb hby own_d1_31) rfl ?_
    show Steps p.tables e below (T4.setTop (mkF m 32 #[.val (.int (0 : Int32)), .val (.int (0 : Int32)), .val .null, .val (.ref b2_1), .val (.int (4 : Int32)), .val (.int (0 : Int32)), .val (.ref wPERSISTENT)] [(.int (0 : Int32)), (.int (0 : Int32))])) _
    refine XS.icmpNo X4.here hx rfl (hb hby own_d1_32) rfl (by decide) ?_
    show Steps p.tables e below (T4.setTop (mkF m 35 #[.val (.int (0 : Int32)), .val (.int (0 : Int32)), .val .null, .val (.ref b2_1), .val (.int (4 : Int32)), .val (.int (0 : Int32)), .val (.ref wPERSISTENT)] [])) _
    refine XS.aload X4.here hx rfl (hb hby own_d1_35) rfl rfl ?_
    show Steps p.tables e below (T4.setTop (mkF m 37 #[.val (.int (0 : Int32)), .val (.int (0 : Int32)), .val .null, .val (.ref b2_1), .val (.int (4 : Int32)), .val (.int (0 : Int32)), .val (.ref wPERSISTENT)] [(.ref wPERSISTENT)])) _
    refine st5 _ ?_
    show Steps p.tables e below (T5.setTop (mkF m 40 #[.val (.int (0 : Int32)), .val (.int (0 : Int32)), .val .null, .val (.ref b2_1), .val (.int (4 : Int32)), .val (.int (0 : Int32)), .val (.ref wPERSISTENT)] [(.int (0 : Int32))])) _
    refine XS.iloadN X5.here hx rfl (hb hby own_d1_40) rfl ?_
    show Steps p.tables e below (T5.setTop (mkF m 41 #[.val (.int (0 : Int32)), .val (.int (0 : Int32)), .val .null, .val (.ref b2_1), .val (.int (4 : Int32)), .val (.int (0 : Int32)), .val (.ref wPERSISTENT)] [(.int (0 : Int32)), (.int (0 : Int32))])) _
    refine XS.icmpNo X5.here hx rfl (hb hby own_d1_41) rfl (by decide) ?_
    show Steps p.tables e below (T5.setTop (mkF m 44 #[.val (.int (0 : Int32)), .val (.int (0 : Int32)), .val .null, .val (.ref b2_1), .val (.int (4 : Int32)), .val (.int (0 : Int32)), .val (.ref wPERSISTENT)] [])) _
    refine XS.aload X5.here hx rfl (hb hby own_d1_44) rfl rfl ?_
    show Steps p.tables e below (T5.setTop (mkF m 46 #[.val (.int (0 : Int32)), .val (.int (0 : Int32)), .val .null, .val (.ref b2_1), .val (.int (4 : Int32)), .val (.int (0 : Int32)), .val (.ref wPERSISTENT)] [(.ref wPERSISTENT)])) _
    refine XS.astoreN X5.here hx rfl (hb hby own_d1_46) rfl rfl (l' := #[.val (.int (0 : Int32)), .val (.int (0 : Int32)), .val (.ref wPERSISTENT), .val (.ref b2_1), .val (.int (4 : Int32)), .val (.int (0 : Int32)), .val (.ref wPERSISTENT)]) rfl ?_
    show Steps p.tables e below (T5.setTop (mkF m 47 #[.val (.int (0 : Int32)), .val (.int (0 : Int32)), .val (.ref wPERSISTENT), .val (.ref b2_1), .val (.int (4 : Int32)), .val (.int (0 : Int32)), .val (.ref wPERSISTENT)] [])) _
    refine XS.iinc X5.here hx rfl (hb hby own_d1_47) rfl (l' := #[.val (.int (0 : Int32)), .val (.int (0 : Int32)), .val (.ref wPERSISTENT), .val (.ref b2_1), .val (.int (4 : Int32)), .val (.int (1 : Int32)), .val (.ref wPERSISTENT)]) rfl ?_
    show Steps p.tables e below (T5.setTop (mkF m 50 #[.val (.int (0 : Int32)), .val (.int (0 : Int32)), .val (.ref wPERSISTENT), .val (.ref b2_1), .val (.int (4 : Int32)), .val (.int (1 : Int32)), .val (.ref wPERSISTENT)] [])) _
    refine XS.goto X5.here hx rfl (pc0 := 50) (pc' := 13) rfl (hb hby own_d1_50) (by decide) (by decide) ?_
    show Steps p.tables e below (T5.setTop (mkF m 13 #[.val (.int (0 : Int32)), .val (.int (0 : Int32)), .val (.ref wPERSISTENT), .val (.ref b2_1), .val (.int (4 : Int32)), .val (.int (1 : Int32)), .val (.ref wPERSISTENT)] [])) _
    refine XS.iload X5.here hx rfl (hb hby own_d1_13) rfl ?_
    show Steps p.tables e below (T5.setTop (mkF m 15 #[.val (.int (0 : Int32)), .val (.int (0 : Int32)), .val (.ref wPERSISTENT), .val (.ref b2_1), .val (.int (4 : Int32)), .val (.int (1 : Int32)), .val (.ref wPERSISTENT)] [(.int (1 : Int32))])) _
    refine XS.iload X5.here hx rfl (hb hby own_d1_15) rfl ?_
    show Steps p.tables e below (T5.setTop (mkF m 17 #[.val (.int (0 : Int32)), .val (.int (0 : Int32)), .val (.ref wPERSISTENT), .val (.ref b2_1), .val (.int (4 : Int32)), .val (.int (1 : Int32)), .val (.ref wPERSISTENT)] [(.int (4 : Int32)), (.int (1 : Int32))])) _
    refine XS.icmpNo X5.here hx rfl (hb hby own_d1_17) rfl (by decide) ?_
    show Steps p.tables e below (T5.setTop (mkF m 20 #[.val (.int (0 : Int32)), .val (.int (0 : Int32)), .val (.ref wPERSISTENT), .val (.ref b2_1), .val (.int (4 : Int32)), .val (.int (1 : Int32)), .val (.ref wPERSISTENT)] [])) _
    refine XS.aloadN X5.here hx rfl (hb hby own_d1_20) rfl rfl ?_
    show Steps p.tables e below (T5.setTop (mkF m 21 #[.val (.int (0 : Int32)), .val (.int (0 : Int32)), .val (.ref wPERSISTENT), .val (.ref b2_1), .val (.int (4 : Int32)), .val (.int (1 : Int32)), .val (.ref wPERSISTENT)] [(.ref b2_1)])) _
    refine XS.iload X5.here hx rfl (hb hby own_d1_21) rfl ?_
    show Steps p.tables e below (T5.setTop (mkF m 23 #[.val (.int (0 : Int32)), .val (.int (0 : Int32)), .val (.ref wPERSISTENT), .val (.ref b2_1), .val (.int (4 : Int32)), .val (.int (1 : Int32)), .val (.ref wPERSISTENT)] [(.int (1 : Int32)), (.ref b2_1)])) _
    refine X5.aaload hx (j := (1 : Int32)) (v := (.ref wEPHEMERAL)) (by rw [e5]; exact Ar2.1) (State.isArrayOf_alike hZ.alike Ar2.2.1) rfl Ar2.2.2 hin6 hat6 (g := (mkF m 23 #[.val (.int (0 : Int32)), .val (.int (0 : Int32)), .val (.ref wPERSISTENT), .val (.ref b2_1), .val (.int (4 : Int32)), .val (.int (1 : Int32)), .val (.ref wPERSISTENT)] [(.int (1 : Int32)), (.ref b2_1)])) rfl rfl (hb hby own_d1_23) _ ?_
    show Steps p.tables e below (T5.setTop (mkF m 24 #[.val (.int (0 : Int32)), .val (.int (0 : Int32)), .val (.ref wPERSISTENT), .val (.ref b2_1), .val (.int (4 : Int32)), .val (.int (1 : Int32)), .val (.ref wPERSISTENT)] [(.ref wEPHEMERAL)])) _
    refine XS.astore X5.here hx rfl (hb hby own_d1_24) rfl rfl (l' := #[.val (.int (0 : Int32)), .val (.int (0 : Int32)), .val (.ref wPERSISTENT), .val (.ref b2_1), .val (.int (4 : Int32)), .val (.int (1 : Int32)), .val (.ref wEPHEMERAL)]) rfl ?_
    show Steps p.tables e below (T5.setTop (mkF m 26 #[.val (.int (0 : Int32)), .val (.int (0 : Int32)), .val (.ref wPERSISTENT), .val (.ref b2_1), .val (.int (4 : Int32)), .val (.int (1 : Int32)), .val (.ref wEPHEMERAL)] [])) _
    refine XS.aload X5.here hx rfl (hb hby own_d1_26) rfl rfl ?_
    show Steps p.tables e below (T5.setTop (mkF m 28 #[.val (.int (0 : Int32)), .val (.int (0 : Int32)), .val (.ref wPERSISTENT), .val (.ref b2_1), .val (.int (4 : Int32)), .val (.int (1 : Int32)), .val (.ref wEPHEMERAL)] [(.ref wEPHEMERAL)])) _
    refine st7 _ ?_
    show Steps p.tables e below (T7.setTop (mkF m 31 #[.val (.int (0 : Int32)), .val (.int (0 : Int32)), .val (.ref wPERSISTENT), .val (.ref b2_1), .val (.int (4 : Int32)), .val (.int (1 : Int32)), .val (.ref wEPHEMERAL)] [(.int (1 : Int32))])) _
    refine XS.iloadN X7.here hx rfl (hb hby own_d1_31) rfl ?_
    show Steps p.tables e below (T7.setTop (mkF m 32 #[.val (.int (0 : Int32)), .val (.int (0 : Int32)), .val (.ref wPERSISTENT), .val (.ref b2_1), .val (.int (4 : Int32)), .val (.int (1 : Int32)), .val (.ref wEPHEMERAL)] [(.int (0 : Int32)), (.int (1 : Int32))])) _
    refine XS.icmpYes X7.here hx rfl (pc0 := 32) (pc' := 47) rfl (hb hby own_d1_32) rfl (by decide) (by decide) (by decide) ?_
    show Steps p.tables e below (T7.setTop (mkF m 47 #[.val (.int (0 : Int32)), .val (.int (0 : Int32)), .val (.ref wPERSISTENT), .val (.ref b2_1), .val (.int (4 : Int32)), .val (.int (1 : Int32)), .val (.ref wEPHEMERAL)] [])) _
    refine XS.iinc X7.here hx rfl (hb hby own_d1_47) rfl (l' := #[.val (.int (0 : Int32)), .val (.int (0 : Int32)), .val (.ref wPERSISTENT), .val (.ref b2_1), .val (.int (4 : Int32)), .val (.int (2 : Int32)), .val (.ref wEPHEMERAL)]) rfl ?_
    show Steps p.tables e below (T7.setTop (mkF m 50 #[.val (.int (0 : Int32)), .val (.int (0 : Int32)), .val (.ref wPERSISTENT), .val (.ref b2_1), .val (.int (4 : Int32)), .val (.int (2 : Int32)), .val (.ref wEPHEMERAL)] [])) _
    refine XS.goto X7.here hx rfl (pc0 := 50) (pc' := 13) rfl (hb hby own_d1_50) (by decide) (by decide) ?_
    show Steps p.tables e below (T7.setTop (mkF m 13 #[.val (.int (0 : Int32)), .val (.int (0 : Int32)), .val (.ref wPERSISTENT), .val (.ref b2_1), .val (.int (4 : Int32)), .val (.int (2 : Int32)), .val (.ref wEPHEMERAL)] [])) _
    refine XS.iload X7.here hx rfl (hb hby own_d1_13) rfl ?_
    show Steps p.tables e below (T7.setTop (mkF m 15 #[.val (.int (0 : Int32)), .val (.int (0 : Int32)), .val (.ref wPERSISTENT), .val (.ref b2_1), .val (.int (4 : Int32)), .val (.int (2 : Int32)), .val (.ref wEPHEMERAL)] [(.int (2 : Int32))])) _
    refine XS.iload X7.here hx rfl (hb hby own_d1_15) rfl ?_
    show Steps p.tables e below (T7.setTop (mkF m 17 #[.val (.int (0 : Int32)), .val (.int (0 : Int32)), .val (.ref wPERSISTENT), .val (.ref b2_1), .val (.int (4 : Int32)), .val (.int (2 : Int32)), .val (.ref wEPHEMERAL)] [(.int (4 : Int32)), (.int (2 : Int32))])) _
    refine XS.icmpNo X7.here hx rfl (hb hby own_d1_17) rfl (by decide) ?_
    show Steps p.tables e below (T7.setTop (mkF m 20 #[.val (.int (0 : Int32)), .val (.int (0 : Int32)), .val (.ref wPERSISTENT), .val (.ref b2_1), .val (.int (4 : Int32)), .val (.int (2 : Int32)), .val (.ref wEPHEMERAL)] [])) _
    refine XS.aloadN X7.here hx rfl (hb hby own_d1_20) rfl rfl ?_
    show Steps p.tables e below (T7.setTop (mkF m 21 #[.val (.int (0 : Int32)), .val (.int (0 : Int32)), .val (.ref wPERSISTENT), .val (.ref b2_1), .val (.int (4 : Int32)), .val (.int (2 : Int32)), .val (.ref wEPHEMERAL)] [(.ref b2_1)])) _
    refine XS.iload X7.here hx rfl (hb hby own_d1_21) rfl ?_
    show Steps p.tables e below (T7.setTop (mkF m 23 #[.val (.int (0 : Int32)), .val (.int (0 : Int32)), .val (.ref wPERSISTENT), .val (.ref b2_1), .val (.int (4 : Int32)), .val (.int (2 : Int32)), .val (.ref wEPHEMERAL)] [(.int (2 : Int32)), (.ref b2_1)])) _
    refine X7.aaload hx (j := (2 : Int32)) (v := (.ref wPERSISTENT_SEQUENTIAL)) (by rw [e7]; exact Ar2.1) (State.isArrayOf_alike hZ.alike Ar2.2.1) rfl Ar2.2.2 hin8 hat8 (g := (mkF m 23 #[.val (.int (0 : Int32)), .val (.int (0 : Int32)), .val (.ref wPERSISTENT), .val (.ref b2_1), .val (.int (4 : Int32)), .val (.int (2 : Int32)), .val (.ref wEPHEMERAL)] [(.int (2 : Int32)), (.ref b2_1)])) rfl rfl (hb hby own_d1_23) _ ?_
    show Steps p.tables e below (T7.setTop (mkF m 24 #[.val (.int (0 : Int32)), .val (.int (0 : Int32)), .val (.ref wPERSISTENT), .val (.ref b2_1), .val (.int (4 : Int32)), .val (.int (2 : Int32)), .val (.ref wEPHEMERAL)] [(.ref wPERSISTENT_SEQUENTIAL)])) _
    refine XS.astore X7.here hx rfl (hb hby own_d1_24) rfl rfl (l' := #[.val (.int (0 : Int32)), .val (.int (0 : Int32)), .val (.ref wPERSISTENT), .val (.ref b2_1), .val (.int (4 : Int32)), .val (.int (2 : Int32)), .val (.ref wPERSISTENT_SEQUENTIAL)]) rfl ?_
    show Steps p.tables e below (T7.setTop (mkF m 26 #[.val (.int (0 : Int32)), .val (.int (0 : Int32)), .val (.ref wPERSISTENT), .val (.ref b2_1), .val (.int (4 : Int32)), .val (.int (2 : Int32)), .val (.ref wPERSISTENT_SEQUENTIAL)] [])) _
    refine XS.aload X7.here hx rfl (hb hby own_d1_26) rfl rfl ?_
    show Steps p.tables e below (T7.setTop (mkF m 28 #[.val (.int (0 : Int32)), .val (.int (0 : Int32)), .val (.ref wPERSISTENT), .val (.ref b2_1), .val (.int (4 : Int32)), .val (.int (2 : Int32)), .val (.ref wPERSISTENT_SEQUENTIAL)] [(.ref wPERSISTENT_SEQUENTIAL)])) _
    refine st9 _ ?_
    show Steps p.tables e below (T9.setTop (mkF m 31 #[.val (.int (0 : Int32)), .val (.int (0 : Int32)), .val (.ref wPERSISTENT), .val (.ref b2_1), .val (.int (4 : Int32)), .val (.int (2 : Int32)), .val (.ref wPERSISTENT_SEQUENTIAL)] [(.int (0 : Int32))])) _
    refine XS.iloadN X9.here hx rfl (hb hby own_d1_31) rfl ?_
    show Steps p.tables e below (T9.setTop (mkF m 32 #[.val (.int (0 : Int32)), .val (.int (0 : Int32)), .val (.ref wPERSISTENT), .val (.ref b2_1), .val (.int (4 : Int32)), .val (.int (2 : Int32)), .val (.ref wPERSISTENT_SEQUENTIAL)] [(.int (0 : Int32)), (.int (0 : Int32))])) _
    refine XS.icmpNo X9.here hx rfl (hb hby own_d1_32) rfl (by decide) ?_
    show Steps p.tables e below (T9.setTop (mkF m 35 #[.val (.int (0 : Int32)), .val (.int (0 : Int32)), .val (.ref wPERSISTENT), .val (.ref b2_1), .val (.int (4 : Int32)), .val (.int (2 : Int32)), .val (.ref wPERSISTENT_SEQUENTIAL)] [])) _
    refine XS.aload X9.here hx rfl (hb hby own_d1_35) rfl rfl ?_
    show Steps p.tables e below (T9.setTop (mkF m 37 #[.val (.int (0 : Int32)), .val (.int (0 : Int32)), .val (.ref wPERSISTENT), .val (.ref b2_1), .val (.int (4 : Int32)), .val (.int (2 : Int32)), .val (.ref wPERSISTENT_SEQUENTIAL)] [(.ref wPERSISTENT_SEQUENTIAL)])) _
    refine st10 _ ?_
    show Steps p.tables e below (T10.setTop (mkF m 40 #[.val (.int (0 : Int32)), .val (.int (0 : Int32)), .val (.ref wPERSISTENT), .val (.ref b2_1), .val (.int (4 : Int32)), .val (.int (2 : Int32)), .val (.ref wPERSISTENT_SEQUENTIAL)] [(.int (1 : Int32))])) _
    refine XS.iloadN X10.here hx rfl (hb hby own_d1_40) rfl ?_
    show Steps p.tables e below (T10.setTop (mkF m 41 #[.val (.int (0 : Int32)), .val (.int (0 : Int32)), .val (.ref wPERSISTENT), .val (.ref b2_1), .val (.int (4 : Int32)), .val (.int (2 : Int32)), .val (.ref wPERSISTENT_SEQUENTIAL)] [(.int (0 : Int32)), (.int (1 : Int32))])) _
    refine XS.icmpYes X10.here hx rfl (pc0 := 41) (pc' := 47) rfl (hb hby own_d1_41) rfl (by decide) (by decide) (by decide) ?_
    show Steps p.tables e below (T10.setTop (mkF m 47 #[.val (.int (0 : Int32)), .val (.int (0 : Int32)), .val (.ref wPERSISTENT), .val (.ref b2_1), .val (.int (4 : Int32)), .val (.int (2 : Int32)), .val (.ref wPERSISTENT_SEQUENTIAL)] [])) _
    refine XS.iinc X10.here hx rfl (hb hby own_d1_47) rfl (l' := #[.val (.int (0 : Int32)), .val (.int (0 : Int32)), .val (.ref wPERSISTENT), .val (.ref b2_1), .val (.int (4 : Int32)), .val (.int (3 : Int32)), .val (.ref wPERSISTENT_SEQUENTIAL)]) rfl ?_
    show Steps p.tables e below (T10.setTop (mkF m 50 #[.val (.int (0 : Int32)), .val (.int (0 : Int32)), .val (.ref wPERSISTENT), .val (.ref b2_1), .val (.int (4 : Int32)), .val (.int (3 : Int32)), .val (.ref wPERSISTENT_SEQUENTIAL)] [])) _
    refine XS.goto X10.here hx rfl (pc0 := 50) (pc' := 13) rfl (hb hby own_d1_50) (by decide) (by decide) ?_
    show Steps p.tables e below (T10.setTop (mkF m 13 #[.val (.int (0 : Int32)), .val (.int (0 : Int32)), .val (.ref wPERSISTENT), .val (.ref b2_1), .val (.int (4 : Int32)), .val (.int (3 : Int32)), .val (.ref wPERSISTENT_SEQUENTIAL)] [])) _
    refine XS.iload X10.here hx rfl (hb hby own_d1_13) rfl ?_
    show Steps p.tables e below (T10.setTop (mkF m 15 #[.val (.int (0 : Int32)), .val (.int (0 : Int32)), .val (.ref wPERSISTENT), .val (.ref b2_1), .val (.int (4 : Int32)), .val (.int (3 : Int32)), .val (.ref wPERSISTENT_SEQUENTIAL)] [(.int (3 : Int32))])) _
    refine XS.iload X10.here hx rfl (hb hby own_d1_15) rfl ?_
    show Steps p.tables e below (T10.setTop (mkF m 17 #[.val (.int (0 : Int32)), .val (.int (0 : Int32)), .val (.ref wPERSISTENT), .val (.ref b2_1), .val (.int (4 : Int32)), .val (.int (3 : Int32)), .val (.ref wPERSISTENT_SEQUENTIAL)] [(.int (4 : Int32)), (.int (3 : Int32))])) _
    refine XS.icmpNo X10.here hx rfl (hb hby own_d1_17) rfl (by decide) ?_
    show Steps p.tables e below (T10.setTop (mkF m 20 #[.val (.int (0 : Int32)), .val (.int (0 : Int32)), .val (.ref wPERSISTENT), .val (.ref b2_1), .val (.int (4 : Int32)), .val (.int (3 : Int32)), .val (.ref wPERSISTENT_SEQUENTIAL)] [])) _
    refine XS.aloadN X10.here hx rfl (hb hby own_d1_20) rfl rfl ?_
    show Steps p.tables e below (T10.setTop (mkF m 21 #[.val (.int (0 : Int32)), .val (.int (0 : Int32)), .val (.ref wPERSISTENT), .val (.ref b2_1), .val (.int (4 : Int32)), .val (.int (3 : Int32)), .val (.ref wPERSISTENT_SEQUENTIAL)] [(.ref b2_1)])) _
    refine XS.iload X10.here hx rfl (hb hby own_d1_21) rfl ?_
    show Steps p.tables e below (T10.setTop (mkF m 23 #[.val (.int (0 : Int32)), .val (.int (0 : Int32)), .val (.ref wPERSISTENT), .val (.ref b2_1), .val (.int (4 : Int32)), .val (.int (3 : Int32)), .val (.ref wPERSISTENT_SEQUENTIAL)] [(.int (3 : Int32)), (.ref b2_1)])) _
    refine X10.aaload hx (j := (3 : Int32)) (v := (.ref wEPHEMERAL_SEQUENTIAL)) (by rw [e10]; exact Ar2.1) (State.isArrayOf_alike hZ.alike Ar2.2.1) rfl Ar2.2.2 hin11 hat11 (g := (mkF m 23 #[.val (.int (0 : Int32)), .val (.int (0 : Int32)), .val (.ref wPERSISTENT), .val (.ref b2_1), .val (.int (4 : Int32)), .val (.int (3 : Int32)), .val (.ref wPERSISTENT_SEQUENTIAL)] [(.int (3 : Int32)), (.ref b2_1)])) rfl rfl (hb hby own_d1_23) _ ?_
    show Steps p.tables e below (T10.setTop (mkF m 24 #[.val (.int (0 : Int32)), .val (.int (0 : Int32)), .val (.ref wPERSISTENT), .val (.ref b2_1), .val (.int (4 : Int32)), .val (.int (3 : Int32)), .val (.ref wPERSISTENT_SEQUENTIAL)] [(.ref wEPHEMERAL_SEQUENTIAL)])) _
    refine XS.astore X10.here hx rfl (hb hby own_d1_24) rfl rfl (l' := #[.val (.int (0 : Int32)), .val (.int (0 : Int32)), .val (.ref wPERSISTENT), .val (.ref b2_1), .val (.int (4 : Int32)), .val (.int (3 : Int32)), .val (.ref wEPHEMERAL_SEQUENTIAL)]) rfl ?_
    show Steps p.tables e below (T10.setTop (mkF m 26 #[.val (.int (0 : Int32)), .val (.int (0 : Int32)), .val (.ref wPERSISTENT), .val (.ref b2_1), .val (.int (4 : Int32)), .val (.int (3 : Int32)), .val (.ref wEPHEMERAL_SEQUENTIAL)] [])) _
    refine XS.aload X10.here hx rfl (hb hby own_d1_26) rfl rfl ?_
    show Steps p.tables e below (T10.setTop (mkF m 28 #[.val (.int (0 : Int32)), .val (.int (0 : Int32)), .val (.ref wPERSISTENT), .val (.ref b2_1), .val (.int (4 : Int32)), .val (.int (3 : Int32)), .val (.ref wEPHEMERAL_SEQUENTIAL)] [(.ref wEPHEMERAL_SEQUENTIAL)])) _
    refine st12 _ ?_
    show Steps p.tables e below (T12.setTop (mkF m 31 #[.val (.int (0 : Int32)), .val (.int (0 : Int32)), .val (.ref wPERSISTENT), .val (.ref b2_1), .val (.int (4 : Int32)), .val (.int (3 : Int32)), .val (.ref wEPHEMERAL_SEQUENTIAL)] [(.int (1 : Int32))])) _
    refine XS.iloadN X12.here hx rfl (hb hby own_d1_31) rfl ?_
    show Steps p.tables e below (T12.setTop (mkF m 32 #[.val (.int (0 : Int32)), .val (.int (0 : Int32)), .val (.ref wPERSISTENT), .val (.ref b2_1), .val (.int (4 : Int32)), .val (.int (3 : Int32)), .val (.ref wEPHEMERAL_SEQUENTIAL)] [(.int (0 : Int32)), (.int (1 : Int32))])) _
    refine XS.icmpYes X12.here hx rfl (pc0 := 32) (pc' := 47) rfl (hb hby own_d1_32) rfl (by decide) (by decide) (by decide) ?_
    show Steps p.tables e below (T12.setTop (mkF m 47 #[.val (.int (0 : Int32)), .val (.int (0 : Int32)), .val (.ref wPERSISTENT), .val (.ref b2_1), .val (.int (4 : Int32)), .val (.int (3 : Int32)), .val (.ref wEPHEMERAL_SEQUENTIAL)] [])) _
    refine XS.iinc X12.here hx rfl (hb hby own_d1_47) rfl (l' := #[.val (.int (0 : Int32)), .val (.int (0 : Int32)), .val (.ref wPERSISTENT), .val (.ref b2_1), .val (.int (4 : Int32)), .val (.int (4 : Int32)), .val (.ref wEPHEMERAL_SEQUENTIAL)]) rfl ?_
    show Steps p.tables e below (T12.setTop (mkF m 50 #[.val (.int (0 : Int32)), .val (.int (0 : Int32)), .val (.ref wPERSISTENT), .val (.ref b2_1), .val (.int (4 : Int32)), .val (.int (4 : Int32)), .val (.ref wEPHEMERAL_SEQUENTIAL)] [])) _
    refine XS.goto X12.here hx rfl (pc0 := 50) (pc' := 13) rfl (hb hby own_d1_50) (by decide) (by decide) ?_
    show Steps p.tables e below (T12.setTop (mkF m 13 #[.val (.int (0 : Int32)), .val (.int (0 : Int32)), .val (.ref wPERSISTENT), .val (.ref b2_1), .val (.int (4 : Int32)), .val (.int (4 : Int32)), .val (.ref wEPHEMERAL_SEQUENTIAL)] [])) _
    refine XS.iload X12.here hx rfl (hb hby own_d1_13) rfl ?_
    show Steps p.tables e below (T12.setTop (mkF m 15 #[.val (.int (0 : Int32)), .val (.int (0 : Int32)), .val (.ref wPERSISTENT), .val (.ref b2_1), .val (.int (4 : Int32)), .val (.int (4 : Int32)), .val (.ref wEPHEMERAL_SEQUENTIAL)] [(.int (4 : Int32))])) _
    refine XS.iload X12.here hx rfl (hb hby own_d1_15) rfl ?_
    show Steps p.tables e below (T12.setTop (mkF m 17 #[.val (.int (0 : Int32)), .val (.int (0 : Int32)), .val (.ref wPERSISTENT), .val (.ref b2_1), .val (.int (4 : Int32)), .val (.int (4 : Int32)), .val (.ref wEPHEMERAL_SEQUENTIAL)] [(.int (4 : Int32)), (.int (4 : Int32))])) _
    refine XS.icmpYes X12.here hx rfl (pc0 := 17) (pc' := 53) rfl (hb hby own_d1_17) rfl (by decide) (by decide) (by decide) ?_
    show Steps p.tables e below (T12.setTop (mkF m 53 #[.val (.int (0 : Int32)), .val (.int (0 : Int32)), .val (.ref wPERSISTENT), .val (.ref b2_1), .val (.int (4 : Int32)), .val (.int (4 : Int32)), .val (.ref wEPHEMERAL_SEQUENTIAL)] [])) _
    refine XS.aloadN X12.here hx rfl (hb hby own_d1_53) rfl rfl ?_
    show Steps p.tables e below (T12.setTop (mkF m 54 #[.val (.int (0 : Int32)), .val (.int (0 : Int32)), .val (.ref wPERSISTENT), .val (.ref b2_1), .val (.int (4 : Int32)), .val (.int (4 : Int32)), .val (.ref wEPHEMERAL_SEQUENTIAL)] [(.ref wPERSISTENT)])) _
    jvm_step X12.here [X12.here.top, hx, (hb hby own_d1_54), X12.method', Bd.returns, Value.isRef, FieldType.isReference]
    first | (intro acts; rw [hr _ acts rfl rfl rfl]) | rw [hr _ _ rfl rfl rfl]
    exact Steps.refl _
  · show OwnQ_own_of_0 Z wPERSISTENT wVALUES wEPHEMERAL wPERSISTENT_SEQUENTIAL wEPHEMERAL_SEQUENTIAL kVALUES h0 n0 _ T12.heap _
    rw [e12]
    exact ⟨rfl, N1, K1⟩
theorem own_pd_1 : parseMethodDescriptor "(ZZ)Lcom/example/nimble_quorum/nimblequorum/wire/CreateMode;" = some ⟨[.boolean, .boolean], some (.object "com/example/nimble_quorum/nimblequorum/wire/CreateMode")⟩ := by decide +kernel
theorem own_ef_3_R (m : MethodId) (x0 : Addr) : entryFrame m #[(.ref x0)] 1 = mkF m 0 #[.val (.ref x0)] [] := by first | (simp [entryFrame, mkF, argsToLocals, Value.category]; done) | rfl
theorem own_d3_0 : decode prog_89_method_7_code 0 = .ok (.aload_n 0, 1) := by decide +kernel
theorem own_d3_1 : decode prog_89_method_7_code 1 = .ok (.getfield 39, 3) := by decide +kernel
theorem own_d3_4 : decode prog_89_method_7_code 4 = .ok (.ireturn, 1) := by decide +kernel
set_option maxRecDepth 65536 in
set_option maxHeartbeats 40000000 in
theorem own_isEphemeral_2 (l : Launch) (Z : State) (a0 : Array Value) (hw : ∀ d ∈ tables_1, d.before a0 Z = true) (ws : List Jvm.Cond) (wPERSISTENT : Addr) (wVALUES : Addr) (wEPHEMERAL : Addr) (wPERSISTENT_SEQUENTIAL : Addr) (wEPHEMERAL_SEQUENTIAL : Addr) (kVALUES : ClassId) (G : OwnG Z wPERSISTENT wVALUES wEPHEMERAL wPERSISTENT_SEQUENTIAL wEPHEMERAL_SEQUENTIAL kVALUES) (h0 : Heap) (n0 : Nat) (O0 : Old Z n0 h0) :
    MetFree l (⟨"com/example/nimble_quorum/nimblequorum/wire/CreateMode", "isEphemeral", "()Z"⟩ : MethodName) (head1 (Jvm.Cond.code (⟨"com/example/nimble_quorum/nimblequorum/wire/CreateMode", "isEphemeral", "()Z"⟩ : MethodName) prog_89_method_7_code 1 (some .boolean) :: ws) ({ frames := 0, cells := 0, slots := 0, locals := 0 } : Room)) (fun a U => a = #[(.ref wPERSISTENT)] ∧ Z.Warmed39 U.vm ∧ U.heap = h0) (fun _ _ _ _ _ => True) (fun _ U o U' => ∃ v L, o = .returned v ∧ OwnQ (some (.int (0 : Int32))) h0 n0 v U'.heap L ∧ FrameEnd U o U' L ({ frames := 0, cells := 0, slots := 0, locals := 0 } : Room).cells ({ frames := 0, cells := 0, slots := 0, locals := 0 } : Room).slots) := by
  refine MetFree.of_bodySF (plainFor_of_name own_pn_1) hisR ?_
  intro p e s m args below meth c s₁ Bd hml0 hP hK
  obtain ⟨rfl, hZ, hh⟩ := hP
  have hx := Bd.exec
  have hby := Bd.bytes
  have hml : c.maxLocals = 1 := hml0
  have hown : s.vm.findClass "com/example/nimble_quorum/nimblequorum/wire/CreateMode" = some m.cls := findClass_of_methodNamed Bd.named
  have hnm := (name_of_methodNamed Bd.named Bd.method).1
  have X0 : Stand p l e ({ frames := 0, cells := 0, slots := 0, locals := 0 } : Room) s m #[(.ref wPERSISTENT)] below meth c s₁ [] 0 0 := Stand.of_body Bd
  have e0 : s₁.heap = h0 := by rw [← hh, Bd.state]; rfl
  have N0 := Fr.nil n0
  have pre0 : ∀ t, Steps p.tables e below (s₁.setTop (mkF m 0 #[.val (.ref wPERSISTENT)] [])) t → Steps p.tables e below (s₁.setTop (entryFrame m #[(.ref wPERSISTENT)] 1)) t := fun t k => castTop (own_ef_3_R m wPERSISTENT) k
  obtain ⟨T1, X1, e1, st1⟩ := getF X0 hx hZ hown (host := "") (Or.inl (hw _ (List.mem_of_getElem? (i := 24) rfl))) Via.refl e0 (G.2.2.2.2.2.2.2.2.2.2.1.ext O0.2) (g := (mkF m 1 #[.val (.ref wPERSISTENT)] [(.ref wPERSISTENT)])) rfl rfl (hb hby own_d3_1)
  obtain ⟨fs, hr, hrun, hended, hW, hsame⟩ := X1.leave (v := some (.int (0 : Int32))) (fun h => by rw [Bd.returns] at h; cases h)
  refine ⟨_, _, pre0 _ ?_, hrun, hended, _, _, rfl, ?_, ⟨_, rfl⟩, hW, hsame.mono (by decide) (by decide)⟩
  · show Steps p.tables e below (s₁.setTop (mkF m 0 #[.val (.ref wPERSISTENT)] [])) _
    refine XS.aloadN X0.here hx rfl (hb hby own_d3_0) rfl rfl ?_
    show Steps p.tables e below (s₁.setTop (mkF m 1 #[.val (.ref wPERSISTENT)] [(.ref wPERSISTENT)])) _
    refine st1 _ ?_
    show Steps p.tables e below (T1.setTop (mkF m 4 #[.val (.ref wPERSISTENT)] [(.int (0 : Int32))])) _
    exact retN X1 hx (t := .boolean) Bd.returns (by simp) (hb hby own_d3_4) hr
  · show OwnQ _ h0 n0 _ T1.heap _
    exact ⟨rfl, N0, e1⟩
theorem own_pd_2 : parseMethodDescriptor "()Z" = some ⟨[], some .boolean⟩ := by decide +kernel
theorem own_ef_4_R (m : MethodId) (x0 : Addr) : entryFrame m #[(.ref x0)] 1 = mkF m 0 #[.val (.ref x0)] [] := by first | (simp [entryFrame, mkF, argsToLocals, Value.category]; done) | rfl
theorem own_d4_0 : decode prog_89_method_8_code 0 = .ok (.aload_n 0, 1) := by decide +kernel
theorem own_d4_1 : decode prog_89_method_8_code 1 = .ok (.getfield 43, 3) := by decide +kernel
theorem own_d4_4 : decode prog_89_method_8_code 4 = .ok (.ireturn, 1) := by decide +kernel
set_option maxRecDepth 65536 in
set_option maxHeartbeats 40000000 in
theorem own_isSequential_3 (l : Launch) (Z : State) (a0 : Array Value) (hw : ∀ d ∈ tables_1, d.before a0 Z = true) (ws : List Jvm.Cond) (wPERSISTENT : Addr) (wVALUES : Addr) (wEPHEMERAL : Addr) (wPERSISTENT_SEQUENTIAL : Addr) (wEPHEMERAL_SEQUENTIAL : Addr) (kVALUES : ClassId) (G : OwnG Z wPERSISTENT wVALUES wEPHEMERAL wPERSISTENT_SEQUENTIAL wEPHEMERAL_SEQUENTIAL kVALUES) (h0 : Heap) (n0 : Nat) (O0 : Old Z n0 h0) :
    MetFree l (⟨"com/example/nimble_quorum/nimblequorum/wire/CreateMode", "isSequential", "()Z"⟩ : MethodName) (head1 (Jvm.Cond.code (⟨"com/example/nimble_quorum/nimblequorum/wire/CreateMode", "isSequential", "()Z"⟩ : MethodName) prog_89_method_8_code 1 (some .boolean) :: ws) ({ frames := 0, cells := 0, slots := 0, locals := 0 } : Room)) (fun a U => a = #[(.ref wPERSISTENT)] ∧ Z.Warmed39 U.vm ∧ U.heap = h0) (fun _ _ _ _ _ => True) (fun _ U o U' => ∃ v L, o = .returned v ∧ OwnQ (some (.int (0 : Int32))) h0 n0 v U'.heap L ∧ FrameEnd U o U' L ({ frames := 0, cells := 0, slots := 0, locals := 0 } : Room).cells ({ frames := 0, cells := 0, slots := 0, locals := 0 } : Room).slots) := by
  refine MetFree.of_bodySF (plainFor_of_name own_pn_1) hisR ?_
  intro p e s m args below meth c s₁ Bd hml0 hP hK
  obtain ⟨rfl, hZ, hh⟩ := hP
  have hx := Bd.exec
  have hby := Bd.bytes
  have hml : c.maxLocals = 1 := hml0
  have hown : s.vm.findClass "com/example/nimble_quorum/nimblequorum/wire/CreateMode" = some m.cls := findClass_of_methodNamed Bd.named
  have hnm := (name_of_methodNamed Bd.named Bd.method).1
  have X0 : Stand p l e ({ frames := 0, cells := 0, slots := 0, locals := 0 } : Room) s m #[(.ref wPERSISTENT)] below meth c s₁ [] 0 0 := Stand.of_body Bd
  have e0 : s₁.heap = h0 := by rw [← hh, Bd.state]; rfl
  have N0 := Fr.nil n0
  have pre0 : ∀ t, Steps p.tables e below (s₁.setTop (mkF m 0 #[.val (.ref wPERSISTENT)] [])) t → Steps p.tables e below (s₁.setTop (entryFrame m #[(.ref wPERSISTENT)] 1)) t := fun t k => castTop (own_ef_4_R m wPERSISTENT) k
  obtain ⟨T1, X1, e1, st1⟩ := getF X0 hx hZ hown (host := "") (Or.inl (hw _ (List.mem_of_getElem? (i := 26) rfl))) Via.refl e0 (G.2.2.2.2.2.2.2.2.2.2.2.1.ext O0.2) (g := (mkF m 1 #[.val (.ref wPERSISTENT)] [(.ref wPERSISTENT)])) rfl rfl (hb hby own_d4_1)
  obtain ⟨fs, hr, hrun, hended, hW, hsame⟩ := X1.leave (v := some (.int (0 : Int32))) (fun h => by rw [Bd.returns] at h; cases h)
  refine ⟨_, _, pre0 _ ?_, hrun, hended, _, _, rfl, ?_, ⟨_, rfl⟩, hW, hsame.mono (by decide) (by decide)⟩
  · show Steps p.tables e below (s₁.setTop (mkF m 0 #[.val (.ref wPERSISTENT)] [])) _
    refine XS.aloadN X0.here hx rfl (hb hby own_d4_0) rfl rfl ?_
    show Steps p.tables e below (s₁.setTop (mkF m 1 #[.val (.ref wPERSISTENT)] [(.ref wPERSISTENT)])) _
    refine st1 _ ?_
    show Steps p.tables e below (T1.setTop (mkF m 4 #[.val (.ref wPERSISTENT)] [(.int (0 : Int32))])) _
    exact retN X1 hx (t := .boolean) Bd.returns (by simp) (hb hby own_d4_4) hr
  · show OwnQ _ h0 n0 _ T1.heap _
    exact ⟨rfl, N0, e1⟩
theorem own_ef_5_R (m : MethodId) (x0 : Addr) : entryFrame m #[(.ref x0)] 1 = mkF m 0 #[.val (.ref x0)] [] := by first | (simp [entryFrame, mkF, argsToLocals, Value.category]; done) | rfl
theorem own_d5_0 : decode prog_89_method_6_code 0 = .ok (.aload_n 0, 1) := by decide +kernel
theorem own_d5_1 : decode prog_89_method_6_code 1 = .ok (.getfield 35, 3) := by decide +kernel
theorem own_d5_4 : decode prog_89_method_6_code 4 = .ok (.ireturn, 1) := by decide +kernel
set_option maxRecDepth 65536 in
set_option maxHeartbeats 40000000 in
theorem own_flags_4 (l : Launch) (Z : State) (a0 : Array Value) (hw : ∀ d ∈ tables_1, d.before a0 Z = true) (ws : List Jvm.Cond) (wPERSISTENT : Addr) (wVALUES : Addr) (wEPHEMERAL : Addr) (wPERSISTENT_SEQUENTIAL : Addr) (wEPHEMERAL_SEQUENTIAL : Addr) (kVALUES : ClassId) (G : OwnG Z wPERSISTENT wVALUES wEPHEMERAL wPERSISTENT_SEQUENTIAL wEPHEMERAL_SEQUENTIAL kVALUES) (h0 : Heap) (n0 : Nat) (O0 : Old Z n0 h0) :
    MetFree l (⟨"com/example/nimble_quorum/nimblequorum/wire/CreateMode", "flags", "()I"⟩ : MethodName) (head1 (Jvm.Cond.code (⟨"com/example/nimble_quorum/nimblequorum/wire/CreateMode", "flags", "()I"⟩ : MethodName) prog_89_method_6_code 1 (some .int) :: ws) ({ frames := 0, cells := 0, slots := 0, locals := 0 } : Room)) (fun a U => a = #[(.ref wPERSISTENT)] ∧ Z.Warmed39 U.vm ∧ U.heap = h0) (fun _ _ _ _ _ => True) (fun _ U o U' => ∃ v L, o = .returned v ∧ OwnQ (some (.int (0 : Int32))) h0 n0 v U'.heap L ∧ FrameEnd U o U' L ({ frames := 0, cells := 0, slots := 0, locals := 0 } : Room).cells ({ frames := 0, cells := 0, slots := 0, locals := 0 } : Room).slots) := by
  refine MetFree.of_bodySF (plainFor_of_name own_pn_1) hisR ?_
  intro p e s m args below meth c s₁ Bd hml0 hP hK
  obtain ⟨rfl, hZ, hh⟩ := hP
  have hx := Bd.exec
  have hby := Bd.bytes
  have hml : c.maxLocals = 1 := hml0
  have hown : s.vm.findClass "com/example/nimble_quorum/nimblequorum/wire/CreateMode" = some m.cls := findClass_of_methodNamed Bd.named
  have hnm := (name_of_methodNamed Bd.named Bd.method).1
  have X0 : Stand p l e ({ frames := 0, cells := 0, slots := 0, locals := 0 } : Room) s m #[(.ref wPERSISTENT)] below meth c s₁ [] 0 0 := Stand.of_body Bd
  have e0 : s₁.heap = h0 := by rw [← hh, Bd.state]; rfl
  have N0 := Fr.nil n0
  have pre0 : ∀ t, Steps p.tables e below (s₁.setTop (mkF m 0 #[.val (.ref wPERSISTENT)] [])) t → Steps p.tables e below (s₁.setTop (entryFrame m #[(.ref wPERSISTENT)] 1)) t := fun t k => castTop (own_ef_5_R m wPERSISTENT) k
  obtain ⟨T1, X1, e1, st1⟩ := getF X0 hx hZ hown (host := "") (Or.inl (hw _ (List.mem_of_getElem? (i := 43) rfl))) Via.refl e0 (G.2.2.2.2.2.2.2.2.2.2.2.2.2.2.2.2.1.ext O0.2) (g := (mkF m 1 #[.val (.ref wPERSISTENT)] [(.ref wPERSISTENT)])) rfl rfl (hb hby own_d5_1)
  obtain ⟨fs, hr, hrun, hended, hW, hsame⟩ := X1.leave (v := some (.int (0 : Int32))) (fun h => by rw [Bd.returns] at h; cases h)
  refine ⟨_, _, pre0 _ ?_, hrun, hended, _, _, rfl, ?_, ⟨_, rfl⟩, hW, hsame.mono (by decide) (by decide)⟩
  · show Steps p.tables e below (s₁.setTop (mkF m 0 #[.val (.ref wPERSISTENT)] [])) _
    refine XS.aloadN X0.here hx rfl (hb hby own_d5_0) rfl rfl ?_
    show Steps p.tables e below (s₁.setTop (mkF m 1 #[.val (.ref wPERSISTENT)] [(.ref wPERSISTENT)])) _
    refine st1 _ ?_
    show Steps p.tables e below (T1.setTop (mkF m 4 #[.val (.ref wPERSISTENT)] [(.int (0 : Int32))])) _
    exact retI X1 hx Bd.returns (hb hby own_d5_4) hr
  · show OwnQ _ h0 n0 _ T1.heap _
    exact ⟨rfl, N0, e1⟩
theorem own_pd_3 : parseMethodDescriptor "()I" = some ⟨[], some .int⟩ := by decide +kernel
set_option maxRecDepth 65536 in
set_option maxHeartbeats 40000000 in
theorem own_law_0 (l : Launch) (Z : State) (a0 : Array Value) (hw : ∀ d ∈ tables_1, d.before a0 Z = true) (ws : List Jvm.Cond) (wPERSISTENT : Addr) (wVALUES : Addr) (wEPHEMERAL : Addr) (wPERSISTENT_SEQUENTIAL : Addr) (wEPHEMERAL_SEQUENTIAL : Addr) (kVALUES : ClassId) (G : OwnG Z wPERSISTENT wVALUES wEPHEMERAL wPERSISTENT_SEQUENTIAL wEPHEMERAL_SEQUENTIAL kVALUES) (h0 : Heap) (n0 : Nat) (O0 : Old Z n0 h0) (p1 : Int32) (h1 : (p1 &&& (1 : Int32)) = (0 : Int32)) (h2 : (p1 &&& (2 : Int32)) = (0 : Int32)) :
    MetFree l x (head1 (Jvm.Cond.code x code maxLocals ret :: ws) room_1) (fun a U => a = #[(.int p1)] ∧ Z.Warmed39 U.vm ∧ U.heap = h0) (fun _ _ _ _ _ => True) (fun _ U o U' => ∃ v L, o = .returned v ∧ (v = some (.int 1) ∧ Fr n0 L) ∧ FrameEnd U o U' L room_1.cells room_1.slots) := by
  refine MetFree.of_bodySF (plainFor_of_name own_pn_0) hisR ?_
  intro p e s m args below meth c s₁ Bd hml0 hP hK
  obtain ⟨rfl, hZ, hh⟩ := hP
  have hx := Bd.exec
  have hby := Bd.bytes
  have hml : c.maxLocals = 6 := hml0
  have hown : s.vm.findClass "com/example/nimble_quorum/nimblequorum/wire/CreateModeOfPinLaw" = some m.cls := findClass_of_methodNamed Bd.named
  have hnm := (name_of_methodNamed Bd.named Bd.method).1
  have X0 : Stand p l e room_1 s m #[(.int p1)] below meth c s₁ [] 0 0 := Stand.of_body Bd
  have e0 : s₁.heap = h0 := by rw [← hh, Bd.state]; rfl
  have N0 := Fr.nil n0
  have pre0 : ∀ t, Steps p.tables e below (s₁.setTop (mkF m 0 #[.val (.int p1), .unset, .unset, .unset, .unset, .unset] [])) t → Steps p.tables e below (s₁.setTop (entryFrame m #[(.int p1)] maxLocals)) t := fun t k => castTop (own_ef_0_I m p1) k
  obtain ⟨T1, X1, e1, st1⟩ := getS2 X0 hx hZ hown (host := "") (Or.inl (hw _ (List.mem_of_getElem? (i := 0) rfl))) Via.refl e0 (G.1.ext O0.2) (g := (mkF m 57 #[.val (.int p1), .val (.int (0 : Int32)), .val (.int (0 : Int32)), .unset, .unset, .unset] [])) rfl (hb hby at_57)
  obtain ⟨_, _, ⟨T2, L2, k2, n2⟩, -, X2, ⟨Lc2, hQ2, l2, y2, z2⟩, st2⟩ := Jvm.LawKit.callS X1 hx (y := (⟨"com/example/nimble_quorum/nimblequorum/wire/CreateMode", "of", "(ZZ)Lcom/example/nimble_quorum/nimblequorum/wire/CreateMode;"⟩ : MethodName)) hown (mvT hZ (hw _ (List.mem_of_getElem? (i := 3) rfl))) (mvT hZ (hw _ (List.mem_of_getElem? (i := 4) rfl))) (mvT hZ (hw _ (List.mem_of_getElem? (i := 1) rfl))) (mvT hZ (hw _ (List.mem_of_getElem? (i := 5) rfl))) (by decide) (backOf (W := 0) (own_of_0 l Z a0 hw [] wPERSISTENT wVALUES wEPHEMERAL wPERSISTENT_SEQUENTIAL wEPHEMERAL_SEQUENTIAL kVALUES G h0 n0 O0) hZ (hw _ (List.mem_of_getElem? (i := 5) rfl)) (hw _ (List.mem_of_getElem? (i := 1) rfl)) (by decide) (by decide)) (g := (mkF m 84 #[.val (.int p1), .val (.int (0 : Int32)), .val (.int (0 : Int32)), .val (.ref wPERSISTENT), .val (.int (0 : Int32)), .unset] [(.int (0 : Int32)), (.int (0 : Int32))])) rfl (by rw [hml]; rfl) (argsL := [(.int (0 : Int32)), (.int (0 : Int32))]) (rest := []) (lenOf own_pd_1 rfl) rfl (by show 2 * 0 + _ ≤ _; exact Nat.le_of_eq rfl) (hb hby at_84) (fun _ _ => ⟨rfl, e1, (by decide : 0 + 1 ≤ _), (by decide : 0 + 4 ≤ _)⟩)
  dsimp only [Pt.U, Pt.locs, Pt.cells, Pt.slots] at X2 l2 y2 z2 st2 hQ2
  subst l2 y2 z2
  obtain ⟨rfl, N2q, Kq2⟩ := hQ2
  have N2 := Fr.app N0 N2q
  have O2 := O0.keep Kq2 all0
  have K2 := (Keep.refl h0 []).trans Kq2 all0
  obtain ⟨cq3, kq3, q3a, q3b, q3c⟩ := isOf hZ rfl (G.2.1.ext O2.2)
  obtain ⟨_, _, ⟨T3, L3, k3, n3⟩, -, X3, ⟨Lc3, hQ3, l3, y3, z3⟩, st3⟩ := X2.virtualBack hx (y := (⟨"com/example/nimble_quorum/nimblequorum/wire/CreateMode", "isEphemeral", "()Z"⟩ : MethodName)) (z := (⟨"com/example/nimble_quorum/nimblequorum/wire/CreateMode", "isEphemeral", "()Z"⟩ : MethodName)) hown (mvT hZ (hw _ (List.mem_of_getElem? (i := 28) rfl))) (mvT hZ (hw _ (List.mem_of_getElem? (i := 29) rfl))) (notFace_of_selects (args := #[]) (mvT hZ (hw _ (List.mem_of_getElem? (i := 31) rfl)))) (mvT hZ (hw _ (List.mem_of_getElem? (i := 31) rfl))) (mvT hZ (hw _ (List.mem_of_getElem? (i := 30) rfl))) (by decide) (backOf (W := 0) (own_isEphemeral_2 l Z a0 hw [] wPERSISTENT wVALUES wEPHEMERAL wPERSISTENT_SEQUENTIAL wEPHEMERAL_SEQUENTIAL kVALUES G T2.heap n0 O2) hZ (hw _ (List.mem_of_getElem? (i := 32) rfl)) (hw _ (List.mem_of_getElem? (i := 1) rfl)) (by decide) (by decide)) q3a q3c (g := (mkF m 104 #[.val (.int p1), .val (.int (0 : Int32)), .val (.int (0 : Int32)), .val (.ref wPERSISTENT), .val (.int (0 : Int32)), .val (.ref wPERSISTENT)] [(.ref wPERSISTENT)])) rfl (by rw [hml]; rfl) (Steps.refl _) (argsL := []) (rest := []) (lenOf own_pd_2 rfl) rfl (by show 2 * 0 + _ ≤ _; exact Nat.le_of_eq rfl) (hb hby at_104) (fun _ _ => ⟨rfl, rfl, (by decide : 1 + 0 ≤ _), (by decide : 4 + 0 ≤ _)⟩)
  dsimp only [Pt.U, Pt.locs, Pt.cells, Pt.slots] at X3 l3 y3 z3 st3 hQ3
  subst l3 y3 z3
  obtain ⟨rfl, N3q, e3⟩ := hQ3
  have N3 := Fr.app N2 N3q
  obtain ⟨cq4, kq4, q4a, q4b, q4c⟩ := isOf hZ e3 (G.2.1.ext O2.2)
  obtain ⟨_, _, ⟨T4, L4, k4, n4⟩, -, X4, ⟨Lc4, hQ4, l4, y4, z4⟩, st4⟩ := X3.virtualBack hx (y := (⟨"com/example/nimble_quorum/nimblequorum/wire/CreateMode", "isSequential", "()Z"⟩ : MethodName)) (z := (⟨"com/example/nimble_quorum/nimblequorum/wire/CreateMode", "isSequential", "()Z"⟩ : MethodName)) hown (mvT hZ (hw _ (List.mem_of_getElem? (i := 33) rfl))) (mvT hZ (hw _ (List.mem_of_getElem? (i := 34) rfl))) (notFace_of_selects (args := #[]) (mvT hZ (hw _ (List.mem_of_getElem? (i := 36) rfl)))) (mvT hZ (hw _ (List.mem_of_getElem? (i := 36) rfl))) (mvT hZ (hw _ (List.mem_of_getElem? (i := 35) rfl))) (by decide) (backOf (W := 0) (own_isSequential_3 l Z a0 hw [] wPERSISTENT wVALUES wEPHEMERAL wPERSISTENT_SEQUENTIAL wEPHEMERAL_SEQUENTIAL kVALUES G T2.heap n0 O2) hZ (hw _ (List.mem_of_getElem? (i := 37) rfl)) (hw _ (List.mem_of_getElem? (i := 1) rfl)) (by decide) (by decide)) q4a q4c (g := (mkF m 113 #[.val (.int p1), .val (.int (0 : Int32)), .val (.int (0 : Int32)), .val (.ref wPERSISTENT), .val (.int (0 : Int32)), .val (.ref wPERSISTENT)] [(.ref wPERSISTENT)])) rfl (by rw [hml]; rfl) (Steps.refl _) (argsL := []) (rest := []) (lenOf own_pd_2 rfl) rfl (by show 2 * 0 + _ ≤ _; exact Nat.le_of_eq rfl) (hb hby at_113) (fun _ _ => ⟨rfl, e3, (by decide : 1 + 0 ≤ _), (by decide : 4 + 0 ≤ _)⟩)
  dsimp only [Pt.U, Pt.locs, Pt.cells, Pt.slots] at X4 l4 y4 z4 st4 hQ4
  subst l4 y4 z4
  obtain ⟨rfl, N4q, e4⟩ := hQ4
  have N4 := Fr.app N3 N4q
  obtain ⟨cq5, kq5, q5a, q5b, q5c⟩ := isOf hZ e4 (G.2.1.ext O2.2)
  obtain ⟨_, _, ⟨T5, L5, k5, n5⟩, -, X5, ⟨Lc5, hQ5, l5, y5, z5⟩, st5⟩ := X4.virtualBack hx (y := (⟨"com/example/nimble_quorum/nimblequorum/wire/CreateMode", "flags", "()I"⟩ : MethodName)) (z := (⟨"com/example/nimble_quorum/nimblequorum/wire/CreateMode", "flags", "()I"⟩ : MethodName)) hown (mvT hZ (hw _ (List.mem_of_getElem? (i := 38) rfl))) (mvT hZ (hw _ (List.mem_of_getElem? (i := 39) rfl))) (notFace_of_selects (args := #[]) (mvT hZ (hw _ (List.mem_of_getElem? (i := 41) rfl)))) (mvT hZ (hw _ (List.mem_of_getElem? (i := 41) rfl))) (mvT hZ (hw _ (List.mem_of_getElem? (i := 40) rfl))) (by decide) (backOf (W := 0) (own_flags_4 l Z a0 hw [] wPERSISTENT wVALUES wEPHEMERAL wPERSISTENT_SEQUENTIAL wEPHEMERAL_SEQUENTIAL kVALUES G T2.heap n0 O2) hZ (hw _ (List.mem_of_getElem? (i := 42) rfl)) (hw _ (List.mem_of_getElem? (i := 1) rfl)) (by decide) (by decide)) q5a q5c (g := (mkF m 122 #[.val (.int p1), .val (.int (0 : Int32)), .val (.int (0 : Int32)), .val (.ref wPERSISTENT), .val (.int (0 : Int32)), .val (.ref wPERSISTENT)] [(.ref wPERSISTENT)])) rfl (by rw [hml]; rfl) (Steps.refl _) (argsL := []) (rest := []) (lenOf own_pd_3 rfl) rfl (by show 2 * 0 + _ ≤ _; exact Nat.le_of_eq rfl) (hb hby at_122) (fun _ _ => ⟨rfl, e4, (by decide : 1 + 0 ≤ _), (by decide : 4 + 0 ≤ _)⟩)
  dsimp only [Pt.U, Pt.locs, Pt.cells, Pt.slots] at X5 l5 y5 z5 st5 hQ5
  subst l5 y5 z5
  obtain ⟨rfl, N5q, e5⟩ := hQ5
  have N5 := Fr.app N4 N5q
  obtain ⟨fs, hr, hrun, hended, hW, hsame⟩ := X5.leave (v := some (.int (1 : Int32))) (fun h => by rw [Bd.returns] at h; cases h)
  refine ⟨_, _, pre0 _ ?_, hrun, hended, _, _, rfl, ?_, ⟨_, rfl⟩, hW, hsame.mono (by decide) (by decide)⟩
  · show Steps p.tables e below (s₁.setTop (mkF m 0 #[.val (.int p1), .unset, .unset, .unset, .unset, .unset] [])) _
    refine XS.iloadN X0.here hx rfl (hb hby at_0) rfl ?_
    show Steps p.tables e below (s₁.setTop (mkF m 1 #[.val (.int p1), .unset, .unset, .unset, .unset, .unset] [(.int p1)])) _
    refine XS.iconst X0.here hx rfl (hb hby at_1) ?_
    show Steps p.tables e below (s₁.setTop (mkF m 2 #[.val (.int p1), .unset, .unset, .unset, .unset, .unset] [(.int (1 : Int32)), (.int p1)])) _
    refine XS.iand X0.here hx rfl (hb hby at_2) rfl ?_
    show Steps p.tables e below (s₁.setTop (mkF m 3 #[.val (.int p1), .unset, .unset, .unset, .unset, .unset] [(.int (p1 &&& (1 : Int32)))])) _
    refine XS.ifYes X0.here hx rfl (pc0 := 3) (pc' := 10) rfl (hb hby at_3) rfl ((if0 _ _).trans (teq (h1 : (p1 &&& (1 : Int32)) = (0 : Int32))).1) (by decide) (by decide) ?_
    show Steps p.tables e below (s₁.setTop (mkF m 10 #[.val (.int p1), .unset, .unset, .unset, .unset, .unset] [])) _
    refine XS.iconst X0.here hx rfl (hb hby at_10) ?_
    show Steps p.tables e below (s₁.setTop (mkF m 11 #[.val (.int p1), .unset, .unset, .unset, .unset, .unset] [(.int (0 : Int32))])) _
    refine XS.istoreN X0.here hx rfl (hb hby at_11) rfl (l' := #[.val (.int p1), .val (.int (0 : Int32)), .unset, .unset, .unset, .unset]) rfl ?_
    show Steps p.tables e below (s₁.setTop (mkF m 12 #[.val (.int p1), .val (.int (0 : Int32)), .unset, .unset, .unset, .unset] [])) _
    refine XS.iloadN X0.here hx rfl (hb hby at_12) rfl ?_
    show Steps p.tables e below (s₁.setTop (mkF m 13 #[.val (.int p1), .val (.int (0 : Int32)), .unset, .unset, .unset, .unset] [(.int p1)])) _
    refine XS.iconst X0.here hx rfl (hb hby at_13) ?_
    show Steps p.tables e below (s₁.setTop (mkF m 14 #[.val (.int p1), .val (.int (0 : Int32)), .unset, .unset, .unset, .unset] [(.int (2 : Int32)), (.int p1)])) _
    refine XS.iand X0.here hx rfl (hb hby at_14) rfl ?_
    show Steps p.tables e below (s₁.setTop (mkF m 15 #[.val (.int p1), .val (.int (0 : Int32)), .unset, .unset, .unset, .unset] [(.int (p1 &&& (2 : Int32)))])) _
    refine XS.ifYes X0.here hx rfl (pc0 := 15) (pc' := 22) rfl (hb hby at_15) rfl ((if0 _ _).trans (teq (h2 : (p1 &&& (2 : Int32)) = (0 : Int32))).1) (by decide) (by decide) ?_
    show Steps p.tables e below (s₁.setTop (mkF m 22 #[.val (.int p1), .val (.int (0 : Int32)), .unset, .unset, .unset, .unset] [])) _
    refine XS.iconst X0.here hx rfl (hb hby at_22) ?_
    show Steps p.tables e below (s₁.setTop (mkF m 23 #[.val (.int p1), .val (.int (0 : Int32)), .unset, .unset, .unset, .unset] [(.int (0 : Int32))])) _
    refine XS.istoreN X0.here hx rfl (hb hby at_23) rfl (l' := #[.val (.int p1), .val (.int (0 : Int32)), .val (.int (0 : Int32)), .unset, .unset, .unset]) rfl ?_
    show Steps p.tables e below (s₁.setTop (mkF m 24 #[.val (.int p1), .val (.int (0 : Int32)), .val (.int (0 : Int32)), .unset, .unset, .unset] [])) _
    refine XS.iloadN X0.here hx rfl (hb hby at_24) rfl ?_
    show Steps p.tables e below (s₁.setTop (mkF m 25 #[.val (.int p1), .val (.int (0 : Int32)), .val (.int (0 : Int32)), .unset, .unset, .unset] [(.int (0 : Int32))])) _
    refine XS.ifYes X0.here hx rfl (pc0 := 25) (pc' := 46) rfl (hb hby at_25) rfl (by decide) (by decide) (by decide) ?_
    show Steps p.tables e below (s₁.setTop (mkF m 46 #[.val (.int p1), .val (.int (0 : Int32)), .val (.int (0 : Int32)), .unset, .unset, .unset] [])) _
    refine XS.iloadN X0.here hx rfl (hb hby at_46) rfl ?_
    show Steps p.tables e below (s₁.setTop (mkF m 47 #[.val (.int p1), .val (.int (0 : Int32)), .val (.int (0 : Int32)), .unset, .unset, .unset] [(.int (0 : Int32))])) _
    refine XS.ifYes X0.here hx rfl (pc0 := 47) (pc' := 57) rfl (hb hby at_47) rfl (by decide) (by decide) (by decide) ?_
    show Steps p.tables e below (s₁.setTop (mkF m 57 #[.val (.int p1), .val (.int (0 : Int32)), .val (.int (0 : Int32)), .unset, .unset, .unset] [])) _
    refine st1 _ ?_
    show Steps p.tables e below (T1.setTop (mkF m 60 #[.val (.int p1), .val (.int (0 : Int32)), .val (.int (0 : Int32)), .unset, .unset, .unset] [(.ref wPERSISTENT)])) _
    refine XS.astoreN X1.here hx rfl (hb hby at_60) rfl rfl (l' := #[.val (.int p1), .val (.int (0 : Int32)), .val (.int (0 : Int32)), .val (.ref wPERSISTENT), .unset, .unset]) rfl ?_
    show Steps p.tables e below (T1.setTop (mkF m 61 #[.val (.int p1), .val (.int (0 : Int32)), .val (.int (0 : Int32)), .val (.ref wPERSISTENT), .unset, .unset] [])) _
    refine XS.iloadN X1.here hx rfl (hb hby at_61) rfl ?_
    show Steps p.tables e below (T1.setTop (mkF m 62 #[.val (.int p1), .val (.int (0 : Int32)), .val (.int (0 : Int32)), .val (.ref wPERSISTENT), .unset, .unset] [(.int (0 : Int32))])) _
    refine XS.ifYes X1.here hx rfl (pc0 := 62) (pc' := 69) rfl (hb hby at_62) rfl (by decide) (by decide) (by decide) ?_
    show Steps p.tables e below (T1.setTop (mkF m 69 #[.val (.int p1), .val (.int (0 : Int32)), .val (.int (0 : Int32)), .val (.ref wPERSISTENT), .unset, .unset] [])) _
    refine XS.iconst X1.here hx rfl (hb hby at_69) ?_
    show Steps p.tables e below (T1.setTop (mkF m 70 #[.val (.int p1), .val (.int (0 : Int32)), .val (.int (0 : Int32)), .val (.ref wPERSISTENT), .unset, .unset] [(.int (0 : Int32))])) _
    refine XS.iloadN X1.here hx rfl (hb hby at_70) rfl ?_
    show Steps p.tables e below (T1.setTop (mkF m 71 #[.val (.int p1), .val (.int (0 : Int32)), .val (.int (0 : Int32)), .val (.ref wPERSISTENT), .unset, .unset] [(.int (0 : Int32)), (.int (0 : Int32))])) _
    refine XS.ifYes X1.here hx rfl (pc0 := 71) (pc' := 78) rfl (hb hby at_71) rfl (by decide) (by decide) (by decide) ?_
    show Steps p.tables e below (T1.setTop (mkF m 78 #[.val (.int p1), .val (.int (0 : Int32)), .val (.int (0 : Int32)), .val (.ref wPERSISTENT), .unset, .unset] [(.int (0 : Int32))])) _
    refine XS.iconst X1.here hx rfl (hb hby at_78) ?_
    show Steps p.tables e below (T1.setTop (mkF m 79 #[.val (.int p1), .val (.int (0 : Int32)), .val (.int (0 : Int32)), .val (.ref wPERSISTENT), .unset, .unset] [(.int (0 : Int32)), (.int (0 : Int32))])) _
    refine XS.iadd X1.here hx rfl (hb hby at_79) rfl ?_
    show Steps p.tables e below (T1.setTop (mkF m 80 #[.val (.int p1), .val (.int (0 : Int32)), .val (.int (0 : Int32)), .val (.ref wPERSISTENT), .unset, .unset] [(.int ((0 : Int32) + (0 : Int32)))])) _
    refine castTop (g' := (mkF m 80 #[.val (.int p1), .val (.int (0 : Int32)), .val (.int (0 : Int32)), .val (.ref wPERSISTENT), .unset, .unset] [(.int (0 : Int32))])) (by rw [show ((0 : Int32) + (0 : Int32)) = (0 : Int32) from by decide]) ?_
    show Steps p.tables e below (T1.setTop (mkF m 80 #[.val (.int p1), .val (.int (0 : Int32)), .val (.int (0 : Int32)), .val (.ref wPERSISTENT), .unset, .unset] [(.int (0 : Int32))])) _
    refine XS.istore X1.here hx rfl (hb hby at_80) rfl (l' := #[.val (.int p1), .val (.int (0 : Int32)), .val (.int (0 : Int32)), .val (.ref wPERSISTENT), .val (.int (0 : Int32)), .unset]) rfl ?_
    show Steps p.tables e below (T1.setTop (mkF m 82 #[.val (.int p1), .val (.int (0 : Int32)), .val (.int (0 : Int32)), .val (.ref wPERSISTENT), .val (.int (0 : Int32)), .unset] [])) _
    refine XS.iloadN X1.here hx rfl (hb hby at_82) rfl ?_
    show Steps p.tables e below (T1.setTop (mkF m 83 #[.val (.int p1), .val (.int (0 : Int32)), .val (.int (0 : Int32)), .val (.ref wPERSISTENT), .val (.int (0 : Int32)), .unset] [(.int (0 : Int32))])) _
    refine XS.iloadN X1.here hx rfl (hb hby at_83) rfl ?_
    show Steps p.tables e below (T1.setTop (mkF m 84 #[.val (.int p1), .val (.int (0 : Int32)), .val (.int (0 : Int32)), .val (.ref wPERSISTENT), .val (.int (0 : Int32)), .unset] [(.int (0 : Int32)), (.int (0 : Int32))])) _
    refine st2 _ ?_
    show Steps p.tables e below (T2.setTop (mkF m 87 #[.val (.int p1), .val (.int (0 : Int32)), .val (.int (0 : Int32)), .val (.ref wPERSISTENT), .val (.int (0 : Int32)), .unset] [(.ref wPERSISTENT)])) _
    refine XS.astore X2.here hx rfl (hb hby at_87) rfl rfl (l' := #[.val (.int p1), .val (.int (0 : Int32)), .val (.int (0 : Int32)), .val (.ref wPERSISTENT), .val (.int (0 : Int32)), .val (.ref wPERSISTENT)]) rfl ?_
    show Steps p.tables e below (T2.setTop (mkF m 89 #[.val (.int p1), .val (.int (0 : Int32)), .val (.int (0 : Int32)), .val (.ref wPERSISTENT), .val (.int (0 : Int32)), .val (.ref wPERSISTENT)] [])) _
    refine XS.aload X2.here hx rfl (hb hby at_89) rfl rfl ?_
    show Steps p.tables e below (T2.setTop (mkF m 91 #[.val (.int p1), .val (.int (0 : Int32)), .val (.int (0 : Int32)), .val (.ref wPERSISTENT), .val (.int (0 : Int32)), .val (.ref wPERSISTENT)] [(.ref wPERSISTENT)])) _
    refine XS.ifnonnullYes X2.here hx rfl (pc0 := 91) (pc' := 96) rfl (hb hby at_91) rfl (by decide) (by decide) ?_
    show Steps p.tables e below (T2.setTop (mkF m 96 #[.val (.int p1), .val (.int (0 : Int32)), .val (.int (0 : Int32)), .val (.ref wPERSISTENT), .val (.int (0 : Int32)), .val (.ref wPERSISTENT)] [])) _
    refine XS.aload X2.here hx rfl (hb hby at_96) rfl rfl ?_
    show Steps p.tables e below (T2.setTop (mkF m 98 #[.val (.int p1), .val (.int (0 : Int32)), .val (.int (0 : Int32)), .val (.ref wPERSISTENT), .val (.int (0 : Int32)), .val (.ref wPERSISTENT)] [(.ref wPERSISTENT)])) _
    refine XS.aloadN X2.here hx rfl (hb hby at_98) rfl rfl ?_
    show Steps p.tables e below (T2.setTop (mkF m 99 #[.val (.int p1), .val (.int (0 : Int32)), .val (.int (0 : Int32)), .val (.ref wPERSISTENT), .val (.int (0 : Int32)), .val (.ref wPERSISTENT)] [(.ref wPERSISTENT), (.ref wPERSISTENT)])) _
    refine Jvm.RoadKit.acmp (g := (mkF m 99 #[.val (.int p1), .val (.int (0 : Int32)), .val (.int (0 : Int32)), .val (.ref wPERSISTENT), .val (.int (0 : Int32)), .val (.ref wPERSISTENT)] [(.ref wPERSISTENT), (.ref wPERSISTENT)])) X2 hx rfl rfl rfl (pc0 := 99) (pc' := 102) (same := true) rfl (hb hby at_99) rfl (decide_eq_true rfl) (by decide) (by decide) ?_
    show Steps p.tables e below (T2.setTop (mkF m 102 #[.val (.int p1), .val (.int (0 : Int32)), .val (.int (0 : Int32)), .val (.ref wPERSISTENT), .val (.int (0 : Int32)), .val (.ref wPERSISTENT)] [])) _
    refine XS.aload X2.here hx rfl (hb hby at_102) rfl rfl ?_
    show Steps p.tables e below (T2.setTop (mkF m 104 #[.val (.int p1), .val (.int (0 : Int32)), .val (.int (0 : Int32)), .val (.ref wPERSISTENT), .val (.int (0 : Int32)), .val (.ref wPERSISTENT)] [(.ref wPERSISTENT)])) _
    refine st3.trans ?_
    show Steps p.tables e below (T3.setTop (mkF m 107 #[.val (.int p1), .val (.int (0 : Int32)), .val (.int (0 : Int32)), .val (.ref wPERSISTENT), .val (.int (0 : Int32)), .val (.ref wPERSISTENT)] [(.int (0 : Int32))])) _
    refine XS.iloadN X3.here hx rfl (hb hby at_107) rfl ?_
    show Steps p.tables e below (T3.setTop (mkF m 108 #[.val (.int p1), .val (.int (0 : Int32)), .val (.int (0 : Int32)), .val (.ref wPERSISTENT), .val (.int (0 : Int32)), .val (.ref wPERSISTENT)] [(.int (0 : Int32)), (.int (0 : Int32))])) _
    refine XS.icmpNo X3.here hx rfl (hb hby at_108) rfl (by decide) ?_
    show Steps p.tables e below (T3.setTop (mkF m 111 #[.val (.int p1), .val (.int (0 : Int32)), .val (.int (0 : Int32)), .val (.ref wPERSISTENT), .val (.int (0 : Int32)), .val (.ref wPERSISTENT)] [])) _
    refine XS.aload X3.here hx rfl (hb hby at_111) rfl rfl ?_
    show Steps p.tables e below (T3.setTop (mkF m 113 #[.val (.int p1), .val (.int (0 : Int32)), .val (.int (0 : Int32)), .val (.ref wPERSISTENT), .val (.int (0 : Int32)), .val (.ref wPERSISTENT)] [(.ref wPERSISTENT)])) _
    refine st4.trans ?_
    show Steps p.tables e below (T4.setTop (mkF m 116 #[.val (.int p1), .val (.int (0 : Int32)), .val (.int (0 : Int32)), .val (.ref wPERSISTENT), .val (.int (0 : Int32)), .val (.ref wPERSISTENT)] [(.int (0 : Int32))])) _
    refine XS.iloadN X4.here hx rfl (hb hby at_116) rfl ?_
    show Steps p.tables e below (T4.setTop (mkF m 117 #[.val (.int p1), .val (.int (0 : Int32)), .val (.int (0 : Int32)), .val (.ref wPERSISTENT), .val (.int (0 : Int32)), .val (.ref wPERSISTENT)] [(.int (0 : Int32)), (.int (0 : Int32))])) _
    refine XS.icmpNo X4.here hx rfl (hb hby at_117) rfl (by decide) ?_
    show Steps p.tables e below (T4.setTop (mkF m 120 #[.val (.int p1), .val (.int (0 : Int32)), .val (.int (0 : Int32)), .val (.ref wPERSISTENT), .val (.int (0 : Int32)), .val (.ref wPERSISTENT)] [])) _
    refine XS.aload X4.here hx rfl (hb hby at_120) rfl rfl ?_
    show Steps p.tables e below (T4.setTop (mkF m 122 #[.val (.int p1), .val (.int (0 : Int32)), .val (.int (0 : Int32)), .val (.ref wPERSISTENT), .val (.int (0 : Int32)), .val (.ref wPERSISTENT)] [(.ref wPERSISTENT)])) _
    refine st5.trans ?_
    show Steps p.tables e below (T5.setTop (mkF m 125 #[.val (.int p1), .val (.int (0 : Int32)), .val (.int (0 : Int32)), .val (.ref wPERSISTENT), .val (.int (0 : Int32)), .val (.ref wPERSISTENT)] [(.int (0 : Int32))])) _
    refine XS.iload X5.here hx rfl (hb hby at_125) rfl ?_
    show Steps p.tables e below (T5.setTop (mkF m 127 #[.val (.int p1), .val (.int (0 : Int32)), .val (.int (0 : Int32)), .val (.ref wPERSISTENT), .val (.int (0 : Int32)), .val (.ref wPERSISTENT)] [(.int (0 : Int32)), (.int (0 : Int32))])) _
    refine XS.icmpNo X5.here hx rfl (hb hby at_127) rfl (by decide) ?_
    show Steps p.tables e below (T5.setTop (mkF m 130 #[.val (.int p1), .val (.int (0 : Int32)), .val (.int (0 : Int32)), .val (.ref wPERSISTENT), .val (.int (0 : Int32)), .val (.ref wPERSISTENT)] [])) _
    refine XS.iconst X5.here hx rfl (hb hby at_130) ?_
    show Steps p.tables e below (T5.setTop (mkF m 131 #[.val (.int p1), .val (.int (0 : Int32)), .val (.int (0 : Int32)), .val (.ref wPERSISTENT), .val (.int (0 : Int32)), .val (.ref wPERSISTENT)] [(.int (1 : Int32))])) _
    refine XS.goto X5.here hx rfl (pc0 := 131) (pc' := 135) rfl (hb hby at_131) (by decide) (by decide) ?_
    show Steps p.tables e below (T5.setTop (mkF m 135 #[.val (.int p1), .val (.int (0 : Int32)), .val (.int (0 : Int32)), .val (.ref wPERSISTENT), .val (.int (0 : Int32)), .val (.ref wPERSISTENT)] [(.int (1 : Int32))])) _
    exact retN X5 hx (t := .boolean) Bd.returns (by simp) (hb hby at_135) hr
  · exact ⟨rfl, N5⟩
def OwnQ_own_of_5 (Z : State) (wPERSISTENT : Addr) (wVALUES : Addr) (wEPHEMERAL : Addr) (wPERSISTENT_SEQUENTIAL : Addr) (wEPHEMERAL_SEQUENTIAL : Addr) (kVALUES : ClassId) (h0 : Heap) (n0 : Nat) (v : Option Value) (h : Heap) (L : List Loc) : Prop :=
  v = some (.ref wEPHEMERAL) ∧ Fr n0 L ∧ Keep h0 h []
set_option maxRecDepth 65536 in
set_option maxHeartbeats 40000000 in
theorem own_of_5 (l : Launch) (Z : State) (a0 : Array Value) (hw : ∀ d ∈ tables_1, d.before a0 Z = true) (ws : List Jvm.Cond) (wPERSISTENT : Addr) (wVALUES : Addr) (wEPHEMERAL : Addr) (wPERSISTENT_SEQUENTIAL : Addr) (wEPHEMERAL_SEQUENTIAL : Addr) (kVALUES : ClassId) (G : OwnG Z wPERSISTENT wVALUES wEPHEMERAL wPERSISTENT_SEQUENTIAL wEPHEMERAL_SEQUENTIAL kVALUES) (h0 : Heap) (n0 : Nat) (O0 : Old Z n0 h0) :
    MetFree l (⟨"com/example/nimble_quorum/nimblequorum/wire/CreateMode", "of", "(ZZ)Lcom/example/nimble_quorum/nimblequorum/wire/CreateMode;"⟩ : MethodName) (head1 (Jvm.Cond.code (⟨"com/example/nimble_quorum/nimblequorum/wire/CreateMode", "of", "(ZZ)Lcom/example/nimble_quorum/nimblequorum/wire/CreateMode;"⟩ : MethodName) prog_89_method_5_code 7 (some (.object "com/example/nimble_quorum/nimblequorum/wire/CreateMode")) :: ws) ({ frames := 2, cells := 1, slots := 4, locals := 25 } : Room)) (fun a U => a = #[(.int (1 : Int32)), (.int (0 : Int32))] ∧ Z.Warmed39 U.vm ∧ U.heap = h0) (fun _ _ _ _ _ => True) (fun _ U o U' => ∃ v L, o = .returned v ∧ OwnQ_own_of_5 Z wPERSISTENT wVALUES wEPHEMERAL wPERSISTENT_SEQUENTIAL wEPHEMERAL_SEQUENTIAL kVALUES h0 n0 v U'.heap L ∧ FrameEnd U o U' L ({ frames := 2, cells := 1, slots := 4, locals := 25 } : Room).cells ({ frames := 2, cells := 1, slots := 4, locals := 25 } : Room).slots) := by
  refine MetFree.of_bodySF (plainFor_of_name own_pn_1) hisR ?_
  intro p e s m args below meth c s₁ Bd hml0 hP hK
  obtain ⟨rfl, hZ, hh⟩ := hP
  have hx := Bd.exec
  have hby := Bd.bytes
  have hml : c.maxLocals = 7 := hml0
  have hown : s.vm.findClass "com/example/nimble_quorum/nimblequorum/wire/CreateMode" = some m.cls := findClass_of_methodNamed Bd.named
  have hnm := (name_of_methodNamed Bd.named Bd.method).1
  have X0 : Stand p l e ({ frames := 2, cells := 1, slots := 4, locals := 25 } : Room) s m #[(.int (1 : Int32)), (.int (0 : Int32))] below meth c s₁ [] 0 0 := Stand.of_body Bd
  have e0 : s₁.heap = h0 := by rw [← hh, Bd.state]; rfl
  have N0 := Fr.nil n0
  have pre0 : ∀ t, Steps p.tables e below (s₁.setTop (mkF m 0 #[.val (.int (1 : Int32)), .val (.int (0 : Int32)), .unset, .unset, .unset, .unset, .unset] [])) t → Steps p.tables e below (s₁.setTop (entryFrame m #[(.int (1 : Int32)), (.int (0 : Int32))] 7)) t := fun t k => castTop (own_ef_1_II m (1 : Int32) (0 : Int32)) k
  obtain ⟨_, _, ⟨T1, L1, k1, n1⟩, -, X1, ⟨Lc1, hQ1, l1, y1, z1⟩, st1⟩ := Jvm.LawKit.callS X0 hx (y := (⟨"com/example/nimble_quorum/nimblequorum/wire/CreateMode", "values", "()[Lcom/example/nimble_quorum/nimblequorum/wire/CreateMode;"⟩ : MethodName)) hown (mvT hZ (hw _ (List.mem_of_getElem? (i := 6) rfl))) (mvT hZ (hw _ (List.mem_of_getElem? (i := 7) rfl))) (mvT hZ (hw _ (List.mem_of_getElem? (i := 1) rfl))) (mvT hZ (hw _ (List.mem_of_getElem? (i := 8) rfl))) (by decide) (backOf (W := 0) (own_values_1 l Z a0 hw [] wPERSISTENT wVALUES wEPHEMERAL wPERSISTENT_SEQUENTIAL wEPHEMERAL_SEQUENTIAL kVALUES G h0 n0 O0) hZ (hw _ (List.mem_of_getElem? (i := 8) rfl)) (hw _ (List.mem_of_getElem? (i := 1) rfl)) (by decide) (by decide)) (g := (mkF m 2 #[.val (.int (1 : Int32)), .val (.int (0 : Int32)), .val .null, .unset, .unset, .unset, .unset] [])) rfl (by rw [hml]; rfl) (argsL := []) (rest := []) (lenOf own_pd_0 rfl) rfl (by show 2 * 0 + _ ≤ _; exact Nat.le_of_eq rfl) (hb hby own_d1_2) (fun _ _ => ⟨rfl, e0, (by decide : 0 + 1 ≤ _), (by decide : 0 + 4 ≤ _)⟩)
  dsimp only [Pt.U, Pt.locs, Pt.cells, Pt.slots] at X1 l1 y1 z1 st1 hQ1
  subst l1 y1 z1
  obtain ⟨b2_1, rfl, N1q, Kq1, ge_b2_1, sq_b2_1, q1_V_b2, q1_E_b2⟩ := hQ1
  have N1 := Fr.app N0 N1q
  have sz_b2_1 : h0.size ≤ b2_1 := Nat.le_trans (Keep.refl h0 []).1 sq_b2_1
  have O1 := O0.keep Kq1 all0
  have K1 := (Keep.refl h0 []).trans Kq1 all0
  obtain ⟨cl2, Ar2, qk2, Sz2, Nn2, Hs2, Gs2⟩ := id (q1_V_b2)
  have hin3 : ¬ ((0 : Int32) < 0 ∨ cl2.slots.size ≤ ((0 : Int32)).toNatClampNeg) := inb_of Sz2 ⟨by decide, by decide⟩
  have hat3 : cl2.slots[((0 : Int32)).toNatClampNeg]? = some (.ref wPERSISTENT) := Hs2.at hin3 rfl
  obtain ⟨T4, X4, e4, st4⟩ := getF X1 hx hZ hown (host := "") (Or.inl (hw _ (List.mem_of_getElem? (i := 24) rfl))) Via.refl rfl (G.2.2.2.2.2.2.2.2.2.2.1.ext O1.2) (g := (mkF m 28 #[.val (.int (1 : Int32)), .val (.int (0 : Int32)), .val .null, .val (.ref b2_1), .val (.int (4 : Int32)), .val (.int (0 : Int32)), .val (.ref wPERSISTENT)] [(.ref wPERSISTENT)])) rfl rfl (hb hby own_d1_28)
  have hin5 : ¬ ((1 : Int32) < 0 ∨ cl2.slots.size ≤ ((1 : Int32)).toNatClampNeg) := inb_of Sz2 ⟨by decide, by decide⟩
  have hat5 : cl2.slots[((1 : Int32)).toNatClampNeg]? = some (.ref wEPHEMERAL) := Hs2.at hin5 rfl
  obtain ⟨T6, X6, e6, st6⟩ := getF X4 hx hZ hown (host := "") (Or.inl (hw _ (List.mem_of_getElem? (i := 24) rfl))) Via.refl e4 (G.2.2.2.2.2.2.2.2.2.2.2.2.1.ext O1.2) (g := (mkF m 28 #[.val (.int (1 : Int32)), .val (.int (0 : Int32)), .val .null, .val (.ref b2_1), .val (.int (4 : Int32)), .val (.int (1 : Int32)), .val (.ref wEPHEMERAL)] [(.ref wEPHEMERAL)])) rfl rfl (hb hby own_d1_28)
  obtain ⟨T7, X7, e7, st7⟩ := getF X6 hx hZ hown (host := "") (Or.inl (hw _ (List.mem_of_getElem? (i := 26) rfl))) Via.refl e6 (G.2.2.2.2.2.2.2.2.2.2.2.2.2.2.2.2.2.1.ext O1.2) (g := (mkF m 37 #[.val (.int (1 : Int32)), .val (.int (0 : Int32)), .val .null, .val (.ref b2_1), .val (.int (4 : Int32)), .val (.int (1 : Int32)), .val (.ref wEPHEMERAL)] [(.ref wEPHEMERAL)])) rfl rfl (hb hby own_d1_37)
  have hin8 : ¬ ((2 : Int32) < 0 ∨ cl2.slots.size ≤ ((2 : Int32)).toNatClampNeg) := inb_of Sz2 ⟨by decide, by decide⟩
  have hat8 : cl2.slots[((2 : Int32)).toNatClampNeg]? = some (.ref wPERSISTENT_SEQUENTIAL) := Hs2.at hin8 rfl
  obtain ⟨T9, X9, e9, st9⟩ := getF X7 hx hZ hown (host := "") (Or.inl (hw _ (List.mem_of_getElem? (i := 24) rfl))) Via.refl e7 (G.2.2.2.2.2.2.2.2.2.2.2.2.2.1.ext O1.2) (g := (mkF m 28 #[.val (.int (1 : Int32)), .val (.int (0 : Int32)), .val (.ref wEPHEMERAL), .val (.ref b2_1), .val (.int (4 : Int32)), .val (.int (2 : Int32)), .val (.ref wPERSISTENT_SEQUENTIAL)] [(.ref wPERSISTENT_SEQUENTIAL)])) rfl rfl (hb hby own_d1_28)
  have hin10 : ¬ ((3 : Int32) < 0 ∨ cl2.slots.size ≤ ((3 : Int32)).toNatClampNeg) := inb_of Sz2 ⟨by decide, by decide⟩
  have hat10 : cl2.slots[((3 : Int32)).toNatClampNeg]? = some (.ref wEPHEMERAL_SEQUENTIAL) := Hs2.at hin10 rfl
  obtain ⟨T11, X11, e11, st11⟩ := getF X9 hx hZ hown (host := "") (Or.inl (hw _ (List.mem_of_getElem? (i := 24) rfl))) Via.refl e9 (G.2.2.2.2.2.2.2.2.2.2.2.2.2.2.2.1.ext O1.2) (g := (mkF m 28 #[.val (.int (1 : Int32)), .val (.int (0 : Int32)), .val (.ref wEPHEMERAL), .val (.ref b2_1), .val (.int (4 : Int32)), .val (.int (3 : Int32)), .val (.ref wEPHEMERAL_SEQUENTIAL)] [(.ref wEPHEMERAL_SEQUENTIAL)])) rfl rfl (hb hby own_d1_28)
  obtain ⟨T12, X12, e12, st12⟩ := getF X11 hx hZ hown (host := "") (Or.inl (hw _ (List.mem_of_getElem? (i := 26) rfl))) Via.refl e11 (G.2.2.2.2.2.2.2.2.2.2.2.2.2.2.2.2.2.2.1.ext O1.2) (g := (mkF m 37 #[.val (.int (1 : Int32)), .val (.int (0 : Int32)), .val (.ref wEPHEMERAL), .val (.ref b2_1), .val (.int (4 : Int32)), .val (.int (3 : Int32)), .val (.ref wEPHEMERAL_SEQUENTIAL)] [(.ref wEPHEMERAL_SEQUENTIAL)])) rfl rfl (hb hby own_d1_37)
  obtain ⟨fs, hr, hrun, hended, hW, hsame⟩ := X12.leave (v := some (.ref wEPHEMERAL)) (fun h => by rw [Bd.returns] at h; cases h)
  refine ⟨_, _, pre0 _ ?_, hrun, hended, _, _, rfl, ?_, ⟨_, rfl⟩, hW, hsame.mono (by decide) (by decide)⟩
  · show Steps p.tables e below (s₁.setTop (mkF m 0 #[.val (.int (1 : Int32)), .val (.int (0 : Int32)), .unset, .unset, .unset, .unset, .unset] [])) _
    refine XS.aconstNull X0.here hx rfl (hb hby own_d1_0) ?_
    show Steps p.tables e below (s₁.setTop (mkF m 1 #[.val (.int (1 : Int32)), .val (.int (0 : Int32)), .unset, .unset, .unset, .unset, .unset] [.null])) _
    refine XS.astoreN X0.here hx rfl (hb hby own_d1_1) rfl rfl (l' := #[.val (.int (1 : Int32)), .val (.int (0 : Int32)), .val .null, .unset, .unset, .unset, .unset]) rfl ?_
    show Steps p.tables e below (s₁.setTop (mkF m 2 #[.val (.int (1 : Int32)), .val (.int (0 : Int32)), .val .null, .unset, .unset, .unset, .unset] [])) _
    refine st1 _ ?_
    show Steps p.tables e below (T1.setTop (mkF m 5 #[.val (.int (1 : Int32)), .val (.int (0 : Int32)), .val .null, .unset, .unset, .unset, .unset] [(.ref b2_1)])) _
    refine XS.astoreN X1.here hx rfl (hb hby own_d1_5) rfl rfl (l' := #[.val (.int (1 : Int32)), .val (.int (0 : Int32)), .val .null, .val (.ref b2_1), .unset, .unset, .unset]) rfl ?_
    show Steps p.tables e below (T1.setTop (mkF m 6 #[.val (.int (1 : Int32)), .val (.int (0 : Int32)), .val .null, .val (.ref b2_1), .unset, .unset, .unset] [])) _
    refine XS.aloadN X1.here hx rfl (hb hby own_d1_6) rfl rfl ?_
    show Steps p.tables e below (T1.setTop (mkF m 7 #[.val (.int (1 : Int32)), .val (.int (0 : Int32)), .val .null, .val (.ref b2_1), .unset, .unset, .unset] [(.ref b2_1)])) _
    refine X1.arraylength hx Ar2.1 (State.isArrayOf_alike hZ.alike Ar2.2.1) (g := (mkF m 7 #[.val (.int (1 : Int32)), .val (.int (0 : Int32)), .val .null, .val (.ref b2_1), .unset, .unset, .unset] [(.ref b2_1)])) rfl rfl (hb hby own_d1_7) _ ?_
    rw [len_of Sz2 Nn2]
    show Steps p.tables e below (T1.setTop (mkF m 8 #[.val (.int (1 : Int32)), .val (.int (0 : Int32)), .val .null, .val (.ref b2_1), .unset, .unset, .unset] [(.int (4 : Int32))])) _
    refine XS.istore X1.here hx rfl (hb hby own_d1_8) rfl (l' := #[.val (.int (1 : Int32)), .val (.int (0 : Int32)), .val .null, .val (.ref b2_1), .val (.int (4 : Int32)), .unset, .unset]) rfl ?_
    show Steps p.tables e below (T1.setTop (mkF m 10 #[.val (.int (1 : Int32)), .val (.int (0 : Int32)), .val .null, .val (.ref b2_1), .val (.int (4 : Int32)), .unset, .unset] [])) _
    refine XS.iconst X1.here hx rfl (hb hby own_d1_10) ?_
    show Steps p.tables e below (T1.setTop (mkF m 11 #[.val (.int (1 : Int32)), .val (.int (0 : Int32)), .val .null, .val (.ref b2_1), .val (.int (4 : Int32)), .unset, .unset] [(.int (0 : Int32))])) _
    refine XS.istore X1.here hx rfl (hb hby own_d1_11) rfl (l' := #[.val (.int (1 : Int32)), .val (.int (0 : Int32)), .val .null, .val (.ref b2_1), .val (.int (4 : Int32)), .val (.int (0 : Int32)), .unset]) rfl ?_
    show Steps p.tables e below (T1.setTop (mkF m 13 #[.val (.int (1 : Int32)), .val (.int (0 : Int32)), .val .null, .val (.ref b2_1), .val (.int (4 : Int32)), .val (.int (0 : Int32)), .unset] [])) _
    refine XS.iload X1.here hx rfl (hb hby own_d1_13) rfl ?_
    show Steps p.tables e below (T1.setTop (mkF m 15 #[.val (.int (1 : Int32)), .val (.int (0 : Int32)), .val .null, .val (.ref b2_1), .val (.int (4 : Int32)), .val (.int (0 : Int32)), .unset] [(.int (0 : Int32))])) _
    refine XS.iload X1.here hx rfl (hb hby own_d1_15) rfl ?_
    show Steps p.tables e below (T1.setTop (mkF m 17 #[.val (.int (1 : Int32)), .val (.int (0 : Int32)), .val .null, .val (.ref b2_1), .val (.int (4 : Int32)), .val (.int (0 : Int32)), .unset] [(.int (4 : Int32)), (.int (0 : Int32))])) _
    refine XS.icmpNo X1.here hx rfl (hb hby own_d1_17) rfl (by decide) ?_
    show Steps p.tables e below (T1.setTop (mkF m 20 #[.val (.int (1 : Int32)), .val (.int (0 : Int32)), .val .null, .val (.ref b2_1), .val (.int (4 : Int32)), .val (.int (0 : Int32)), .unset] [])) _
    refine XS.aloadN X1.here hx rfl (hb hby own_d1_20) rfl rfl ?_
    show Steps p.tables e below (T1.setTop (mkF m 21 #[.val (.int (1 : Int32)), .val (.int (0 : Int32)), .val .null, .val (.ref b2_1), .val (.int (4 : Int32)), .val (.int (0 : Int32)), .unset] [(.ref b2_1)])) _
    refine XS.iload X1.here hx rfl (hb hby own_d1_21) rfl ?_
    show Steps p.tables e below (T1.setTop (mkF m 23 #[.val (.int (1 : Int32)), .val (.int (0 : Int32)), .val .null, .val (.ref b2_1), .val (.int (4 : Int32)), .val (.int (0 : Int32)), .unset] [(.int (0 : Int32)), (.ref b2_1)])) _
    refine X1.aaload hx (j := (0 : Int32)) (v := (.ref wPERSISTENT)) Ar2.1 (State.isArrayOf_alike hZ.alike Ar2.2.1) rfl Ar2.2.2 hin3 hat3 (g := (mkF m 23 #[.val (.int (1 : Int32)), .val (.int (0 : Int32)), .val .null, .val (.ref b2_1), .val (.int (4 : Int32)), .val (.int (0 : Int32)), .unset] [(.int (0 : Int32)), (.ref b2_1)])) rfl rfl (hb hby own_d1_23) _ ?_
    show Steps p.tables e below (T1.setTop (mkF m 24 #[.val (.int (1 : Int32)), .val (.int (0 : Int32)), .val .null, .val (.ref b2_1), .val (.int (4 : Int32)), .val (.int (0 : Int32)), .unset] [(.ref wPERSISTENT)])) _
    refine XS.astore X1.here hx rfl (hb hby own_d1_24) rfl rfl (l' := #[.val (.int (1 : Int32)), .val (.int (0 : Int32)), .val .null, .val (.ref b2_1), .val (.int (4 : Int32)), .val (.int (0 : Int32)), .val (.ref wPERSISTENT)]) rfl ?_
    show Steps p.tables e below (T1.setTop (mkF m 26 #[.val (.int (1 : Int32)), .val (.int (0 : Int32)), .val .null, .val (.ref b2_1), .val (.int (4 : Int32)), .val (.int (0 : Int32)), .val (.ref wPERSISTENT)] [])) _
    refine XS.aload X1.here hx rfl (hb hby own_d1_26) rfl rfl ?_
    show Steps p.tables e below (T1.setTop (mkF m 28 #[.val (.int (1 : Int32)), .val (.int (0 : Int32)), .val .null, .val (.ref b2_1), .val (.int (4 : Int32)), .val (.int (0 : Int32)), .val (.ref wPERSISTENT)] [(.ref wPERSISTENT)])) _
    refine st4 _ ?_
    show Steps p.tables e below (T4.setTop (mkF m 31 #[.val (.int (1 : Int32)), .val (.int (0 : Int32)), .val .null, .val (.ref b2_1), .val (.int (4 : Int32)), .val (.int (0 : Int32)), .val (.ref wPERSISTENT)] [(.int (0 : Int32))])) _
    refine XS.iloadN X4.here hx rfl (hb hby own_d1_31) rfl ?_
    show Steps p.tables e below (T4.setTop (mkF m 32 #[.val (.int (1 : Int32)), .val (.int (0 : Int32)), .val .null, .val (.ref b2_1), .val (.int (4 : Int32)), .val (.int (0 : Int32)), .val (.ref wPERSISTENT)] [(.int (1 : Int32)), (.int (0 : Int32))])) _
    refine XS.icmpYes X4.here hx rfl (pc0 := 32) (pc' := 47) rfl (hb hby own_d1_32) rfl (by decide) (by decide) (by decide) ?_
    show Steps p.tables e below (T4.setTop (mkF m 47 #[.val (.int (1 : Int32)), .val (.int (0 : Int32)), .val .null, .val (.ref b2_1), .val (.int (4 : Int32)), .val (.int (0 : Int32)), .val (.ref wPERSISTENT)] [])) _
    refine XS.iinc X4.here hx rfl (hb hby own_d1_47) rfl (l' := #[.val (.int (1 : Int32)), .val (.int (0 : Int32)), .val .null, .val (.ref b2_1), .val (.int (4 : Int32)), .val (.int (1 : Int32)), .val (.ref wPERSISTENT)]) rfl ?_
    show Steps p.tables e below (T4.setTop (mkF m 50 #[.val (.int (1 : Int32)), .val (.int (0 : Int32)), .val .null, .val (.ref b2_1), .val (.int (4 : Int32)), .val (.int (1 : Int32)), .val (.ref wPERSISTENT)] [])) _
    refine XS.goto X4.here hx rfl (pc0 := 50) (pc' := 13) rfl (hb hby own_d1_50) (by decide) (by decide) ?_
    show Steps p.tables e below (T4.setTop (mkF m 13 #[.val (.int (1 : Int32)), .val (.int (0 : Int32)), .val .null, .val (.ref b2_1), .val (.int (4 : Int32)), .val (.int (1 : Int32)), .val (.ref wPERSISTENT)] [])) _
    refine XS.iload X4.here hx rfl (hb hby own_d1_13) rfl ?_
    show Steps p.tables e below (T4.setTop (mkF m 15 #[.val (.int (1 : Int32)), .val (.int (0 : Int32)), .val .null, .val (.ref b2_1), .val (.int (4 : Int32)), .val (.int (1 : Int32)), .val (.ref wPERSISTENT)] [(.int (1 : Int32))])) _
    refine XS.iload X4.here hx rfl (hb hby own_d1_15) rfl ?_
    show Steps p.tables e below (T4.setTop (mkF m 17 #[.val (.int (1 : Int32)), .val (.int (0 : Int32)), .val .null, .val (.ref b2_1), .val (.int (4 : Int32)), .val (.int (1 : Int32)), .val (.ref wPERSISTENT)] [(.int (4 : Int32)), (.int (1 : Int32))])) _
    refine XS.icmpNo X4.here hx rfl (hb hby own_d1_17) rfl (by decide) ?_
    show Steps p.tables e below (T4.setTop (mkF m 20 #[.val (.int (1 : Int32)), .val (.int (0 : Int32)), .val .null, .val (.ref b2_1), .val (.int (4 : Int32)), .val (.int (1 : Int32)), .val (.ref wPERSISTENT)] [])) _
    refine XS.aloadN X4.here hx rfl (hb hby own_d1_20) rfl rfl ?_
    show Steps p.tables e below (T4.setTop (mkF m 21 #[.val (.int (1 : Int32)), .val (.int (0 : Int32)), .val .null, .val (.ref b2_1), .val (.int (4 : Int32)), .val (.int (1 : Int32)), .val (.ref wPERSISTENT)] [(.ref b2_1)])) _
    refine XS.iload X4.here hx rfl (hb hby own_d1_21) rfl ?_
    show Steps p.tables e below (T4.setTop (mkF m 23 #[.val (.int (1 : Int32)), .val (.int (0 : Int32)), .val .null, .val (.ref b2_1), .val (.int (4 : Int32)), .val (.int (1 : Int32)), .val (.ref wPERSISTENT)] [(.int (1 : Int32)), (.ref b2_1)])) _
    refine X4.aaload hx (j := (1 : Int32)) (v := (.ref wEPHEMERAL)) (by rw [e4]; exact Ar2.1) (State.isArrayOf_alike hZ.alike Ar2.2.1) rfl Ar2.2.2 hin5 hat5 (g := (mkF m 23 #[.val (.int (1 : Int32)), .val (.int (0 : Int32)), .val .null, .val (.ref b2_1), .val (.int (4 : Int32)), .val (.int (1 : Int32)), .val (.ref wPERSISTENT)] [(.int (1 : Int32)), (.ref b2_1)])) rfl rfl (hb hby own_d1_23) _ ?_
    show Steps p.tables e below (T4.setTop (mkF m 24 #[.val (.int (1 : Int32)), .val (.int (0 : Int32)), .val .null, .val (.ref b2_1), .val (.int (4 : Int32)), .val (.int (1 : Int32)), .val (.ref wPERSISTENT)] [(.ref wEPHEMERAL)])) _
    refine XS.astore X4.here hx rfl (hb hby own_d1_24) rfl rfl (l' := #[.val (.int (1 : Int32)), .val (.int (0 : Int32)), .val .null, .val (.ref b2_1), .val (.int (4 : Int32)), .val (.int (1 : Int32)), .val (.ref wEPHEMERAL)]) rfl ?_
    show Steps p.tables e below (T4.setTop (mkF m 26 #[.val (.int (1 : Int32)), .val (.int (0 : Int32)), .val .null, .val (.ref b2_1), .val (.int (4 : Int32)), .val (.int (1 : Int32)), .val (.ref wEPHEMERAL)] [])) _
    refine XS.aload X4.here hx rfl (hb hby own_d1_26) rfl rfl ?_
    show Steps p.tables e below (T4.setTop (mkF m 28 #[.val (.int (1 : Int32)), .val (.int (0 : Int32)), .val .null, .val (.ref b2_1), .val (.int (4 : Int32)), .val (.int (1 : Int32)), .val (.ref wEPHEMERAL)] [(.ref wEPHEMERAL)])) _
    refine st6 _ ?_
    show Steps p.tables e below (T6.setTop (mkF m 31 #[.val (.int (1 : Int32)), .val (.int (0 : Int32)), .val .null, .val (.ref b2_1), .val (.int (4 : Int32)), .val (.int (1 : Int32)), .val (.ref wEPHEMERAL)] [(.int (1 : Int32))])) _
    refine XS.iloadN X6.here hx rfl (hb hby own_d1_31) rfl ?_
    show Steps p.tables e below (T6.setTop (mkF m 32 #[.val (.int (1 : Int32)), .val (.int (0 : Int32)), .val .null, .val (.ref b2_1), .val (.int (4 : Int32)), .val (.int (1 : Int32)), .val (.ref wEPHEMERAL)] [(.int (1 : Int32)), (.int (1 : Int32))])) _
    refine XS.icmpNo X6.here hx rfl (hb hby own_d1_32) rfl (by decide) ?_
    show Steps p.tables e below (T6.setTop (mkF m 35 #[.val (.int (1 : Int32)), .val (.int (0 : Int32)), .val .null, .val (.ref b2_1), .val (.int (4 : Int32)), .val (.int (1 : Int32)), .val (.ref wEPHEMERAL)] [])) _
    refine XS.aload X6.here hx rfl (hb hby own_d1_35) rfl rfl ?_
    show Steps p.tables e below (T6.setTop (mkF m 37 #[.val (.int (1 : Int32)), .val (.int (0 : Int32)), .val .null, .val (.ref b2_1), .val (.int (4 : Int32)), .val (.int (1 : Int32)), .val (.ref wEPHEMERAL)] [(.ref wEPHEMERAL)])) _
    refine st7 _ ?_
    show Steps p.tables e below (T7.setTop (mkF m 40 #[.val (.int (1 : Int32)), .val (.int (0 : Int32)), .val .null, .val (.ref b2_1), .val (.int (4 : Int32)), .val (.int (1 : Int32)), .val (.ref wEPHEMERAL)] [(.int (0 : Int32))])) _
    refine XS.iloadN X7.here hx rfl (hb hby own_d1_40) rfl ?_
    show Steps p.tables e below (T7.setTop (mkF m 41 #[.val (.int (1 : Int32)), .val (.int (0 : Int32)), .val .null, .val (.ref b2_1), .val (.int (4 : Int32)), .val (.int (1 : Int32)), .val (.ref wEPHEMERAL)] [(.int (0 : Int32)), (.int (0 : Int32))])) _
    refine XS.icmpNo X7.here hx rfl (hb hby own_d1_41) rfl (by decide) ?_
    show Steps p.tables e below (T7.setTop (mkF m 44 #[.val (.int (1 : Int32)), .val (.int (0 : Int32)), .val .null, .val (.ref b2_1), .val (.int (4 : Int32)), .val (.int (1 : Int32)), .val (.ref wEPHEMERAL)] [])) _
    refine XS.aload X7.here hx rfl (hb hby own_d1_44) rfl rfl ?_
    show Steps p.tables e below (T7.setTop (mkF m 46 #[.val (.int (1 : Int32)), .val (.int (0 : Int32)), .val .null, .val (.ref b2_1), .val (.int (4 : Int32)), .val (.int (1 : Int32)), .val (.ref wEPHEMERAL)] [(.ref wEPHEMERAL)])) _
    refine XS.astoreN X7.here hx rfl (hb hby own_d1_46) rfl rfl (l' := #[.val (.int (1 : Int32)), .val (.int (0 : Int32)), .val (.ref wEPHEMERAL), .val (.ref b2_1), .val (.int (4 : Int32)), .val (.int (1 : Int32)), .val (.ref wEPHEMERAL)]) rfl ?_
    show Steps p.tables e below (T7.setTop (mkF m 47 #[.val (.int (1 : Int32)), .val (.int (0 : Int32)), .val (.ref wEPHEMERAL), .val (.ref b2_1), .val (.int (4 : Int32)), .val (.int (1 : Int32)), .val (.ref wEPHEMERAL)] [])) _
    refine XS.iinc X7.here hx rfl (hb hby own_d1_47) rfl (l' := #[.val (.int (1 : Int32)), .val (.int (0 : Int32)), .val (.ref wEPHEMERAL), .val (.ref b2_1), .val (.int (4 : Int32)), .val (.int (2 : Int32)), .val (.ref wEPHEMERAL)]) rfl ?_
    show Steps p.tables e below (T7.setTop (mkF m 50 #[.val (.int (1 : Int32)), .val (.int (0 : Int32)), .val (.ref wEPHEMERAL), .val (.ref b2_1), .val (.int (4 : Int32)), .val (.int (2 : Int32)), .val (.ref wEPHEMERAL)] [])) _
    refine XS.goto X7.here hx rfl (pc0 := 50) (pc' := 13) rfl (hb hby own_d1_50) (by decide) (by decide) ?_
    show Steps p.tables e below (T7.setTop (mkF m 13 #[.val (.int (1 : Int32)), .val (.int (0 : Int32)), .val (.ref wEPHEMERAL), .val (.ref b2_1), .val (.int (4 : Int32)), .val (.int (2 : Int32)), .val (.ref wEPHEMERAL)] [])) _
    refine XS.iload X7.here hx rfl (hb hby own_d1_13) rfl ?_
    show Steps p.tables e below (T7.setTop (mkF m 15 #[.val (.int (1 : Int32)), .val (.int (0 : Int32)), .val (.ref wEPHEMERAL), .val (.ref b2_1), .val (.int (4 : Int32)), .val (.int (2 : Int32)), .val (.ref wEPHEMERAL)] [(.int (2 : Int32))])) _
    refine XS.iload X7.here hx rfl (hb hby own_d1_15) rfl ?_
    show Steps p.tables e below (T7.setTop (mkF m 17 #[.val (.int (1 : Int32)), .val (.int (0 : Int32)), .val (.ref wEPHEMERAL), .val (.ref b2_1), .val (.int (4 : Int32)), .val (.int (2 : Int32)), .val (.ref wEPHEMERAL)] [(.int (4 : Int32)), (.int (2 : Int32))])) _
    refine XS.icmpNo X7.here hx rfl (hb hby own_d1_17) rfl (by decide) ?_
    show Steps p.tables e below (T7.setTop (mkF m 20 #[.val (.int (1 : Int32)), .val (.int (0 : Int32)), .val (.ref wEPHEMERAL), .val (.ref b2_1), .val (.int (4 : Int32)), .val (.int (2 : Int32)), .val (.ref wEPHEMERAL)] [])) _
    refine XS.aloadN X7.here hx rfl (hb hby own_d1_20) rfl rfl ?_
    show Steps p.tables e below (T7.setTop (mkF m 21 #[.val (.int (1 : Int32)), .val (.int (0 : Int32)), .val (.ref wEPHEMERAL), .val (.ref b2_1), .val (.int (4 : Int32)), .val (.int (2 : Int32)), .val (.ref wEPHEMERAL)] [(.ref b2_1)])) _
    refine XS.iload X7.here hx rfl (hb hby own_d1_21) rfl ?_
    show Steps p.tables e below (T7.setTop (mkF m 23 #[.val (.int (1 : Int32)), .val (.int (0 : Int32)), .val (.ref wEPHEMERAL), .val (.ref b2_1), .val (.int (4 : Int32)), .val (.int (2 : Int32)), .val (.ref wEPHEMERAL)] [(.int (2 : Int32)), (.ref b2_1)])) _
    refine X7.aaload hx (j := (2 : Int32)) (v := (.ref wPERSISTENT_SEQUENTIAL)) (by rw [e7]; exact Ar2.1) (State.isArrayOf_alike hZ.alike Ar2.2.1) rfl Ar2.2.2 hin8 hat8 (g := (mkF m 23 #[.val (.int (1 : Int32)), .val (.int (0 : Int32)), .val (.ref wEPHEMERAL), .val (.ref b2_1), .val (.int (4 : Int32)), .val (.int (2 : Int32)), .val (.ref wEPHEMERAL)] [(.int (2 : Int32)), (.ref b2_1)])) rfl rfl (hb hby own_d1_23) _ ?_
    show Steps p.tables e below (T7.setTop (mkF m 24 #[.val (.int (1 : Int32)), .val (.int (0 : Int32)), .val (.ref wEPHEMERAL), .val (.ref b2_1), .val (.int (4 : Int32)), .val (.int (2 : Int32)), .val (.ref wEPHEMERAL)] [(.ref wPERSISTENT_SEQUENTIAL)])) _
    refine XS.astore X7.here hx rfl (hb hby own_d1_24) rfl rfl (l' := #[.val (.int (1 : Int32)), .val (.int (0 : Int32)), .val (.ref wEPHEMERAL), .val (.ref b2_1), .val (.int (4 : Int32)), .val (.int (2 : Int32)), .val (.ref wPERSISTENT_SEQUENTIAL)]) rfl ?_
    show Steps p.tables e below (T7.setTop (mkF m 26 #[.val (.int (1 : Int32)), .val (.int (0 : Int32)), .val (.ref wEPHEMERAL), .val (.ref b2_1), .val (.int (4 : Int32)), .val (.int (2 : Int32)), .val (.ref wPERSISTENT_SEQUENTIAL)] [])) _
    refine XS.aload X7.here hx rfl (hb hby own_d1_26) rfl rfl ?_
    show Steps p.tables e below (T7.setTop (mkF m 28 #[.val (.int (1 : Int32)), .val (.int (0 : Int32)), .val (.ref wEPHEMERAL), .val (.ref b2_1), .val (.int (4 : Int32)), .val (.int (2 : Int32)), .val (.ref wPERSISTENT_SEQUENTIAL)] [(.ref wPERSISTENT_SEQUENTIAL)])) _
    refine st9 _ ?_
    show Steps p.tables e below (T9.setTop (mkF m 31 #[.val (.int (1 : Int32)), .val (.int (0 : Int32)), .val (.ref wEPHEMERAL), .val (.ref b2_1), .val (.int (4 : Int32)), .val (.int (2 : Int32)), .val (.ref wPERSISTENT_SEQUENTIAL)] [(.int (0 : Int32))])) _
    refine XS.iloadN X9.here hx rfl (hb hby own_d1_31) rfl ?_
    show Steps p.tables e below (T9.setTop (mkF m 32 #[.val (.int (1 : Int32)), .val (.int (0 : Int32)), .val (.ref wEPHEMERAL), .val (.ref b2_1), .val (.int (4 : Int32)), .val (.int (2 : Int32)), .val (.ref wPERSISTENT_SEQUENTIAL)] [(.int (1 : Int32)), (.int (0 : Int32))])) _
    refine XS.icmpYes X9.here hx rfl (pc0 := 32) (pc' := 47) rfl (hb hby own_d1_32) rfl (by decide) (by decide) (by decide) ?_
    show Steps p.tables e below (T9.setTop (mkF m 47 #[.val (.int (1 : Int32)), .val (.int (0 : Int32)), .val (.ref wEPHEMERAL), .val (.ref b2_1), .val (.int (4 : Int32)), .val (.int (2 : Int32)), .val (.ref wPERSISTENT_SEQUENTIAL)] [])) _
    refine XS.iinc X9.here hx rfl (hb hby own_d1_47) rfl (l' := #[.val (.int (1 : Int32)), .val (.int (0 : Int32)), .val (.ref wEPHEMERAL), .val (.ref b2_1), .val (.int (4 : Int32)), .val (.int (3 : Int32)), .val (.ref wPERSISTENT_SEQUENTIAL)]) rfl ?_
    show Steps p.tables e below (T9.setTop (mkF m 50 #[.val (.int (1 : Int32)), .val (.int (0 : Int32)), .val (.ref wEPHEMERAL), .val (.ref b2_1), .val (.int (4 : Int32)), .val (.int (3 : Int32)), .val (.ref wPERSISTENT_SEQUENTIAL)] [])) _
    refine XS.goto X9.here hx rfl (pc0 := 50) (pc' := 13) rfl (hb hby own_d1_50) (by decide) (by decide) ?_
    show Steps p.tables e below (T9.setTop (mkF m 13 #[.val (.int (1 : Int32)), .val (.int (0 : Int32)), .val (.ref wEPHEMERAL), .val (.ref b2_1), .val (.int (4 : Int32)), .val (.int (3 : Int32)), .val (.ref wPERSISTENT_SEQUENTIAL)] [])) _
    refine XS.iload X9.here hx rfl (hb hby own_d1_13) rfl ?_
    show Steps p.tables e below (T9.setTop (mkF m 15 #[.val (.int (1 : Int32)), .val (.int (0 : Int32)), .val (.ref wEPHEMERAL), .val (.ref b2_1), .val (.int (4 : Int32)), .val (.int (3 : Int32)), .val (.ref wPERSISTENT_SEQUENTIAL)] [(.int (3 : Int32))])) _
    refine XS.iload X9.here hx rfl (hb hby own_d1_15) rfl ?_
    show Steps p.tables e below (T9.setTop (mkF m 17 #[.val (.int (1 : Int32)), .val (.int (0 : Int32)), .val (.ref wEPHEMERAL), .val (.ref b2_1), .val (.int (4 : Int32)), .val (.int (3 : Int32)), .val (.ref wPERSISTENT_SEQUENTIAL)] [(.int (4 : Int32)), (.int (3 : Int32))])) _
    refine XS.icmpNo X9.here hx rfl (hb hby own_d1_17) rfl (by decide) ?_
    show Steps p.tables e below (T9.setTop (mkF m 20 #[.val (.int (1 : Int32)), .val (.int (0 : Int32)), .val (.ref wEPHEMERAL), .val (.ref b2_1), .val (.int (4 : Int32)), .val (.int (3 : Int32)), .val (.ref wPERSISTENT_SEQUENTIAL)] [])) _
    refine XS.aloadN X9.here hx rfl (hb hby own_d1_20) rfl rfl ?_
    show Steps p.tables e below (T9.setTop (mkF m 21 #[.val (.int (1 : Int32)), .val (.int (0 : Int32)), .val (.ref wEPHEMERAL), .val (.ref b2_1), .val (.int (4 : Int32)), .val (.int (3 : Int32)), .val (.ref wPERSISTENT_SEQUENTIAL)] [(.ref b2_1)])) _
    refine XS.iload X9.here hx rfl (hb hby own_d1_21) rfl ?_
    show Steps p.tables e below (T9.setTop (mkF m 23 #[.val (.int (1 : Int32)), .val (.int (0 : Int32)), .val (.ref wEPHEMERAL), .val (.ref b2_1), .val (.int (4 : Int32)), .val (.int (3 : Int32)), .val (.ref wPERSISTENT_SEQUENTIAL)] [(.int (3 : Int32)), (.ref b2_1)])) _
    refine X9.aaload hx (j := (3 : Int32)) (v := (.ref wEPHEMERAL_SEQUENTIAL)) (by rw [e9]; exact Ar2.1) (State.isArrayOf_alike hZ.alike Ar2.2.1) rfl Ar2.2.2 hin10 hat10 (g := (mkF m 23 #[.val (.int (1 : Int32)), .val (.int (0 : Int32)), .val (.ref wEPHEMERAL), .val (.ref b2_1), .val (.int (4 : Int32)), .val (.int (3 : Int32)), .val (.ref wPERSISTENT_SEQUENTIAL)] [(.int (3 : Int32)), (.ref b2_1)])) rfl rfl (hb hby own_d1_23) _ ?_
    show Steps p.tables e below (T9.setTop (mkF m 24 #[.val (.int (1 : Int32)), .val (.int (0 : Int32)), .val (.ref wEPHEMERAL), .val (.ref b2_1), .val (.int (4 : Int32)), .val (.int (3 : Int32)), .val (.ref wPERSISTENT_SEQUENTIAL)] [(.ref wEPHEMERAL_SEQUENTIAL)])) _
    refine XS.astore X9.here hx rfl (hb hby own_d1_24) rfl rfl (l' := #[.val (.int (1 : Int32)), .val (.int (0 : Int32)), .val (.ref wEPHEMERAL), .val (.ref b2_1), .val (.int (4 : Int32)), .val (.int (3 : Int32)), .val (.ref wEPHEMERAL_SEQUENTIAL)]) rfl ?_
    show Steps p.tables e below (T9.setTop (mkF m 26 #[.val (.int (1 : Int32)), .val (.int (0 : Int32)), .val (.ref wEPHEMERAL), .val (.ref b2_1), .val (.int (4 : Int32)), .val (.int (3 : Int32)), .val (.ref wEPHEMERAL_SEQUENTIAL)] [])) _
    refine XS.aload X9.here hx rfl (hb hby own_d1_26) rfl rfl ?_
    show Steps p.tables e below (T9.setTop (mkF m 28 #[.val (.int (1 : Int32)), .val (.int (0 : Int32)), .val (.ref wEPHEMERAL), .val (.ref b2_1), .val (.int (4 : Int32)), .val (.int (3 : Int32)), .val (.ref wEPHEMERAL_SEQUENTIAL)] [(.ref wEPHEMERAL_SEQUENTIAL)])) _
    refine st11 _ ?_
    show Steps p.tables e below (T11.setTop (mkF m 31 #[.val (.int (1 : Int32)), .val (.int (0 : Int32)), .val (.ref wEPHEMERAL), .val (.ref b2_1), .val (.int (4 : Int32)), .val (.int (3 : Int32)), .val (.ref wEPHEMERAL_SEQUENTIAL)] [(.int (1 : Int32))])) _
    refine XS.iloadN X11.here hx rfl (hb hby own_d1_31) rfl ?_
    show Steps p.tables e below (T11.setTop (mkF m 32 #[.val (.int (1 : Int32)), .val (.int (0 : Int32)), .val (.ref wEPHEMERAL), .val (.ref b2_1), .val (.int (4 : Int32)), .val (.int (3 : Int32)), .val (.ref wEPHEMERAL_SEQUENTIAL)] [(.int (1 : Int32)), (.int (1 : Int32))])) _
    refine XS.icmpNo X11.here hx rfl (hb hby own_d1_32) rfl (by decide) ?_
    show Steps p.tables e below (T11.setTop (mkF m 35 #[.val (.int (1 : Int32)), .val (.int (0 : Int32)), .val (.ref wEPHEMERAL), .val (.ref b2_1), .val (.int (4 : Int32)), .val (.int (3 : Int32)), .val (.ref wEPHEMERAL_SEQUENTIAL)] [])) _
    refine XS.aload X11.here hx rfl (hb hby own_d1_35) rfl rfl ?_
    show Steps p.tables e below (T11.setTop (mkF m 37 #[.val (.int (1 : Int32)), .val (.int (0 : Int32)), .val (.ref wEPHEMERAL), .val (.ref b2_1), .val (.int (4 : Int32)), .val (.int (3 : Int32)), .val (.ref wEPHEMERAL_SEQUENTIAL)] [(.ref wEPHEMERAL_SEQUENTIAL)])) _
    refine st12 _ ?_
    show Steps p.tables e below (T12.setTop (mkF m 40 #[.val (.int (1 : Int32)), .val (.int (0 : Int32)), .val (.ref wEPHEMERAL), .val (.ref b2_1), .val (.int (4 : Int32)), .val (.int (3 : Int32)), .val (.ref wEPHEMERAL_SEQUENTIAL)] [(.int (1 : Int32))])) _
    refine XS.iloadN X12.here hx rfl (hb hby own_d1_40) rfl ?_
    show Steps p.tables e below (T12.setTop (mkF m 41 #[.val (.int (1 : Int32)), .val (.int (0 : Int32)), .val (.ref wEPHEMERAL), .val (.ref b2_1), .val (.int (4 : Int32)), .val (.int (3 : Int32)), .val (.ref wEPHEMERAL_SEQUENTIAL)] [(.int (0 : Int32)), (.int (1 : Int32))])) _
    refine XS.icmpYes X12.here hx rfl (pc0 := 41) (pc' := 47) rfl (hb hby own_d1_41) rfl (by decide) (by decide) (by decide) ?_
    show Steps p.tables e below (T12.setTop (mkF m 47 #[.val (.int (1 : Int32)), .val (.int (0 : Int32)), .val (.ref wEPHEMERAL), .val (.ref b2_1), .val (.int (4 : Int32)), .val (.int (3 : Int32)), .val (.ref wEPHEMERAL_SEQUENTIAL)] [])) _
    refine XS.iinc X12.here hx rfl (hb hby own_d1_47) rfl (l' := #[.val (.int (1 : Int32)), .val (.int (0 : Int32)), .val (.ref wEPHEMERAL), .val (.ref b2_1), .val (.int (4 : Int32)), .val (.int (4 : Int32)), .val (.ref wEPHEMERAL_SEQUENTIAL)]) rfl ?_
    show Steps p.tables e below (T12.setTop (mkF m 50 #[.val (.int (1 : Int32)), .val (.int (0 : Int32)), .val (.ref wEPHEMERAL), .val (.ref b2_1), .val (.int (4 : Int32)), .val (.int (4 : Int32)), .val (.ref wEPHEMERAL_SEQUENTIAL)] [])) _
    refine XS.goto X12.here hx rfl (pc0 := 50) (pc' := 13) rfl (hb hby own_d1_50) (by decide) (by decide) ?_
    show Steps p.tables e below (T12.setTop (mkF m 13 #[.val (.int (1 : Int32)), .val (.int (0 : Int32)), .val (.ref wEPHEMERAL), .val (.ref b2_1), .val (.int (4 : Int32)), .val (.int (4 : Int32)), .val (.ref wEPHEMERAL_SEQUENTIAL)] [])) _
    refine XS.iload X12.here hx rfl (hb hby own_d1_13) rfl ?_
    show Steps p.tables e below (T12.setTop (mkF m 15 #[.val (.int (1 : Int32)), .val (.int (0 : Int32)), .val (.ref wEPHEMERAL), .val (.ref b2_1), .val (.int (4 : Int32)), .val (.int (4 : Int32)), .val (.ref wEPHEMERAL_SEQUENTIAL)] [(.int (4 : Int32))])) _
    refine XS.iload X12.here hx rfl (hb hby own_d1_15) rfl ?_
    show Steps p.tables e below (T12.setTop (mkF m 17 #[.val (.int (1 : Int32)), .val (.int (0 : Int32)), .val (.ref wEPHEMERAL), .val (.ref b2_1), .val (.int (4 : Int32)), .val (.int (4 : Int32)), .val (.ref wEPHEMERAL_SEQUENTIAL)] [(.int (4 : Int32)), (.int (4 : Int32))])) _
    refine XS.icmpYes X12.here hx rfl (pc0 := 17) (pc' := 53) rfl (hb hby own_d1_17) rfl (by decide) (by decide) (by decide) ?_
    show Steps p.tables e below (T12.setTop (mkF m 53 #[.val (.int (1 : Int32)), .val (.int (0 : Int32)), .val (.ref wEPHEMERAL), .val (.ref b2_1), .val (.int (4 : Int32)), .val (.int (4 : Int32)), .val (.ref wEPHEMERAL_SEQUENTIAL)] [])) _
    refine XS.aloadN X12.here hx rfl (hb hby own_d1_53) rfl rfl ?_
    show Steps p.tables e below (T12.setTop (mkF m 54 #[.val (.int (1 : Int32)), .val (.int (0 : Int32)), .val (.ref wEPHEMERAL), .val (.ref b2_1), .val (.int (4 : Int32)), .val (.int (4 : Int32)), .val (.ref wEPHEMERAL_SEQUENTIAL)] [(.ref wEPHEMERAL)])) _
    jvm_step X12.here [X12.here.top, hx, (hb hby own_d1_54), X12.method', Bd.returns, Value.isRef, FieldType.isReference]
    first | (intro acts; rw [hr _ acts rfl rfl rfl]) | rw [hr _ _ rfl rfl rfl]
    exact Steps.refl _
  · show OwnQ_own_of_5 Z wPERSISTENT wVALUES wEPHEMERAL wPERSISTENT_SEQUENTIAL wEPHEMERAL_SEQUENTIAL kVALUES h0 n0 _ T12.heap _
    rw [e12]
    exact ⟨rfl, N1, K1⟩
set_option maxRecDepth 65536 in
set_option maxHeartbeats 40000000 in
theorem own_isEphemeral_6 (l : Launch) (Z : State) (a0 : Array Value) (hw : ∀ d ∈ tables_1, d.before a0 Z = true) (ws : List Jvm.Cond) (wPERSISTENT : Addr) (wVALUES : Addr) (wEPHEMERAL : Addr) (wPERSISTENT_SEQUENTIAL : Addr) (wEPHEMERAL_SEQUENTIAL : Addr) (kVALUES : ClassId) (G : OwnG Z wPERSISTENT wVALUES wEPHEMERAL wPERSISTENT_SEQUENTIAL wEPHEMERAL_SEQUENTIAL kVALUES) (h0 : Heap) (n0 : Nat) (O0 : Old Z n0 h0) :
    MetFree l (⟨"com/example/nimble_quorum/nimblequorum/wire/CreateMode", "isEphemeral", "()Z"⟩ : MethodName) (head1 (Jvm.Cond.code (⟨"com/example/nimble_quorum/nimblequorum/wire/CreateMode", "isEphemeral", "()Z"⟩ : MethodName) prog_89_method_7_code 1 (some .boolean) :: ws) ({ frames := 0, cells := 0, slots := 0, locals := 0 } : Room)) (fun a U => a = #[(.ref wEPHEMERAL)] ∧ Z.Warmed39 U.vm ∧ U.heap = h0) (fun _ _ _ _ _ => True) (fun _ U o U' => ∃ v L, o = .returned v ∧ OwnQ (some (.int (1 : Int32))) h0 n0 v U'.heap L ∧ FrameEnd U o U' L ({ frames := 0, cells := 0, slots := 0, locals := 0 } : Room).cells ({ frames := 0, cells := 0, slots := 0, locals := 0 } : Room).slots) := by
  refine MetFree.of_bodySF (plainFor_of_name own_pn_1) hisR ?_
  intro p e s m args below meth c s₁ Bd hml0 hP hK
  obtain ⟨rfl, hZ, hh⟩ := hP
  have hx := Bd.exec
  have hby := Bd.bytes
  have hml : c.maxLocals = 1 := hml0
  have hown : s.vm.findClass "com/example/nimble_quorum/nimblequorum/wire/CreateMode" = some m.cls := findClass_of_methodNamed Bd.named
  have hnm := (name_of_methodNamed Bd.named Bd.method).1
  have X0 : Stand p l e ({ frames := 0, cells := 0, slots := 0, locals := 0 } : Room) s m #[(.ref wEPHEMERAL)] below meth c s₁ [] 0 0 := Stand.of_body Bd
  have e0 : s₁.heap = h0 := by rw [← hh, Bd.state]; rfl
  have N0 := Fr.nil n0
  have pre0 : ∀ t, Steps p.tables e below (s₁.setTop (mkF m 0 #[.val (.ref wEPHEMERAL)] [])) t → Steps p.tables e below (s₁.setTop (entryFrame m #[(.ref wEPHEMERAL)] 1)) t := fun t k => castTop (own_ef_3_R m wEPHEMERAL) k
  obtain ⟨T1, X1, e1, st1⟩ := getF X0 hx hZ hown (host := "") (Or.inl (hw _ (List.mem_of_getElem? (i := 24) rfl))) Via.refl e0 (G.2.2.2.2.2.2.2.2.2.2.2.2.1.ext O0.2) (g := (mkF m 1 #[.val (.ref wEPHEMERAL)] [(.ref wEPHEMERAL)])) rfl rfl (hb hby own_d3_1)
  obtain ⟨fs, hr, hrun, hended, hW, hsame⟩ := X1.leave (v := some (.int (1 : Int32))) (fun h => by rw [Bd.returns] at h; cases h)
  refine ⟨_, _, pre0 _ ?_, hrun, hended, _, _, rfl, ?_, ⟨_, rfl⟩, hW, hsame.mono (by decide) (by decide)⟩
  · show Steps p.tables e below (s₁.setTop (mkF m 0 #[.val (.ref wEPHEMERAL)] [])) _
    refine XS.aloadN X0.here hx rfl (hb hby own_d3_0) rfl rfl ?_
    show Steps p.tables e below (s₁.setTop (mkF m 1 #[.val (.ref wEPHEMERAL)] [(.ref wEPHEMERAL)])) _
    refine st1 _ ?_
    show Steps p.tables e below (T1.setTop (mkF m 4 #[.val (.ref wEPHEMERAL)] [(.int (1 : Int32))])) _
    exact retN X1 hx (t := .boolean) Bd.returns (by simp) (hb hby own_d3_4) hr
  · show OwnQ _ h0 n0 _ T1.heap _
    exact ⟨rfl, N0, e1⟩
set_option maxRecDepth 65536 in
set_option maxHeartbeats 40000000 in
theorem own_isSequential_7 (l : Launch) (Z : State) (a0 : Array Value) (hw : ∀ d ∈ tables_1, d.before a0 Z = true) (ws : List Jvm.Cond) (wPERSISTENT : Addr) (wVALUES : Addr) (wEPHEMERAL : Addr) (wPERSISTENT_SEQUENTIAL : Addr) (wEPHEMERAL_SEQUENTIAL : Addr) (kVALUES : ClassId) (G : OwnG Z wPERSISTENT wVALUES wEPHEMERAL wPERSISTENT_SEQUENTIAL wEPHEMERAL_SEQUENTIAL kVALUES) (h0 : Heap) (n0 : Nat) (O0 : Old Z n0 h0) :
    MetFree l (⟨"com/example/nimble_quorum/nimblequorum/wire/CreateMode", "isSequential", "()Z"⟩ : MethodName) (head1 (Jvm.Cond.code (⟨"com/example/nimble_quorum/nimblequorum/wire/CreateMode", "isSequential", "()Z"⟩ : MethodName) prog_89_method_8_code 1 (some .boolean) :: ws) ({ frames := 0, cells := 0, slots := 0, locals := 0 } : Room)) (fun a U => a = #[(.ref wEPHEMERAL)] ∧ Z.Warmed39 U.vm ∧ U.heap = h0) (fun _ _ _ _ _ => True) (fun _ U o U' => ∃ v L, o = .returned v ∧ OwnQ (some (.int (0 : Int32))) h0 n0 v U'.heap L ∧ FrameEnd U o U' L ({ frames := 0, cells := 0, slots := 0, locals := 0 } : Room).cells ({ frames := 0, cells := 0, slots := 0, locals := 0 } : Room).slots) := by
  refine MetFree.of_bodySF (plainFor_of_name own_pn_1) hisR ?_
  intro p e s m args below meth c s₁ Bd hml0 hP hK
  obtain ⟨rfl, hZ, hh⟩ := hP
  have hx := Bd.exec
  have hby := Bd.bytes
  have hml : c.maxLocals = 1 := hml0
  have hown : s.vm.findClass "com/example/nimble_quorum/nimblequorum/wire/CreateMode" = some m.cls := findClass_of_methodNamed Bd.named
  have hnm := (name_of_methodNamed Bd.named Bd.method).1
  have X0 : Stand p l e ({ frames := 0, cells := 0, slots := 0, locals := 0 } : Room) s m #[(.ref wEPHEMERAL)] below meth c s₁ [] 0 0 := Stand.of_body Bd
  have e0 : s₁.heap = h0 := by rw [← hh, Bd.state]; rfl
  have N0 := Fr.nil n0
  have pre0 : ∀ t, Steps p.tables e below (s₁.setTop (mkF m 0 #[.val (.ref wEPHEMERAL)] [])) t → Steps p.tables e below (s₁.setTop (entryFrame m #[(.ref wEPHEMERAL)] 1)) t := fun t k => castTop (own_ef_4_R m wEPHEMERAL) k
  obtain ⟨T1, X1, e1, st1⟩ := getF X0 hx hZ hown (host := "") (Or.inl (hw _ (List.mem_of_getElem? (i := 26) rfl))) Via.refl e0 (G.2.2.2.2.2.2.2.2.2.2.2.2.2.2.2.2.2.1.ext O0.2) (g := (mkF m 1 #[.val (.ref wEPHEMERAL)] [(.ref wEPHEMERAL)])) rfl rfl (hb hby own_d4_1)
  obtain ⟨fs, hr, hrun, hended, hW, hsame⟩ := X1.leave (v := some (.int (0 : Int32))) (fun h => by rw [Bd.returns] at h; cases h)
  refine ⟨_, _, pre0 _ ?_, hrun, hended, _, _, rfl, ?_, ⟨_, rfl⟩, hW, hsame.mono (by decide) (by decide)⟩
  · show Steps p.tables e below (s₁.setTop (mkF m 0 #[.val (.ref wEPHEMERAL)] [])) _
    refine XS.aloadN X0.here hx rfl (hb hby own_d4_0) rfl rfl ?_
    show Steps p.tables e below (s₁.setTop (mkF m 1 #[.val (.ref wEPHEMERAL)] [(.ref wEPHEMERAL)])) _
    refine st1 _ ?_
    show Steps p.tables e below (T1.setTop (mkF m 4 #[.val (.ref wEPHEMERAL)] [(.int (0 : Int32))])) _
    exact retN X1 hx (t := .boolean) Bd.returns (by simp) (hb hby own_d4_4) hr
  · show OwnQ _ h0 n0 _ T1.heap _
    exact ⟨rfl, N0, e1⟩
set_option maxRecDepth 65536 in
set_option maxHeartbeats 40000000 in
theorem own_flags_8 (l : Launch) (Z : State) (a0 : Array Value) (hw : ∀ d ∈ tables_1, d.before a0 Z = true) (ws : List Jvm.Cond) (wPERSISTENT : Addr) (wVALUES : Addr) (wEPHEMERAL : Addr) (wPERSISTENT_SEQUENTIAL : Addr) (wEPHEMERAL_SEQUENTIAL : Addr) (kVALUES : ClassId) (G : OwnG Z wPERSISTENT wVALUES wEPHEMERAL wPERSISTENT_SEQUENTIAL wEPHEMERAL_SEQUENTIAL kVALUES) (h0 : Heap) (n0 : Nat) (O0 : Old Z n0 h0) :
    MetFree l (⟨"com/example/nimble_quorum/nimblequorum/wire/CreateMode", "flags", "()I"⟩ : MethodName) (head1 (Jvm.Cond.code (⟨"com/example/nimble_quorum/nimblequorum/wire/CreateMode", "flags", "()I"⟩ : MethodName) prog_89_method_6_code 1 (some .int) :: ws) ({ frames := 0, cells := 0, slots := 0, locals := 0 } : Room)) (fun a U => a = #[(.ref wEPHEMERAL)] ∧ Z.Warmed39 U.vm ∧ U.heap = h0) (fun _ _ _ _ _ => True) (fun _ U o U' => ∃ v L, o = .returned v ∧ OwnQ (some (.int (1 : Int32))) h0 n0 v U'.heap L ∧ FrameEnd U o U' L ({ frames := 0, cells := 0, slots := 0, locals := 0 } : Room).cells ({ frames := 0, cells := 0, slots := 0, locals := 0 } : Room).slots) := by
  refine MetFree.of_bodySF (plainFor_of_name own_pn_1) hisR ?_
  intro p e s m args below meth c s₁ Bd hml0 hP hK
  obtain ⟨rfl, hZ, hh⟩ := hP
  have hx := Bd.exec
  have hby := Bd.bytes
  have hml : c.maxLocals = 1 := hml0
  have hown : s.vm.findClass "com/example/nimble_quorum/nimblequorum/wire/CreateMode" = some m.cls := findClass_of_methodNamed Bd.named
  have hnm := (name_of_methodNamed Bd.named Bd.method).1
  have X0 : Stand p l e ({ frames := 0, cells := 0, slots := 0, locals := 0 } : Room) s m #[(.ref wEPHEMERAL)] below meth c s₁ [] 0 0 := Stand.of_body Bd
  have e0 : s₁.heap = h0 := by rw [← hh, Bd.state]; rfl
  have N0 := Fr.nil n0
  have pre0 : ∀ t, Steps p.tables e below (s₁.setTop (mkF m 0 #[.val (.ref wEPHEMERAL)] [])) t → Steps p.tables e below (s₁.setTop (entryFrame m #[(.ref wEPHEMERAL)] 1)) t := fun t k => castTop (own_ef_5_R m wEPHEMERAL) k
  obtain ⟨T1, X1, e1, st1⟩ := getF X0 hx hZ hown (host := "") (Or.inl (hw _ (List.mem_of_getElem? (i := 43) rfl))) Via.refl e0 (G.2.2.2.2.2.2.2.2.2.2.2.2.2.2.2.2.2.2.2.2.2.1.ext O0.2) (g := (mkF m 1 #[.val (.ref wEPHEMERAL)] [(.ref wEPHEMERAL)])) rfl rfl (hb hby own_d5_1)
  obtain ⟨fs, hr, hrun, hended, hW, hsame⟩ := X1.leave (v := some (.int (1 : Int32))) (fun h => by rw [Bd.returns] at h; cases h)
  refine ⟨_, _, pre0 _ ?_, hrun, hended, _, _, rfl, ?_, ⟨_, rfl⟩, hW, hsame.mono (by decide) (by decide)⟩
  · show Steps p.tables e below (s₁.setTop (mkF m 0 #[.val (.ref wEPHEMERAL)] [])) _
    refine XS.aloadN X0.here hx rfl (hb hby own_d5_0) rfl rfl ?_
    show Steps p.tables e below (s₁.setTop (mkF m 1 #[.val (.ref wEPHEMERAL)] [(.ref wEPHEMERAL)])) _
    refine st1 _ ?_
    show Steps p.tables e below (T1.setTop (mkF m 4 #[.val (.ref wEPHEMERAL)] [(.int (1 : Int32))])) _
    exact retI X1 hx Bd.returns (hb hby own_d5_4) hr
  · show OwnQ _ h0 n0 _ T1.heap _
    exact ⟨rfl, N0, e1⟩
set_option maxRecDepth 65536 in
set_option maxHeartbeats 40000000 in
theorem own_law_1 (l : Launch) (Z : State) (a0 : Array Value) (hw : ∀ d ∈ tables_1, d.before a0 Z = true) (ws : List Jvm.Cond) (wPERSISTENT : Addr) (wVALUES : Addr) (wEPHEMERAL : Addr) (wPERSISTENT_SEQUENTIAL : Addr) (wEPHEMERAL_SEQUENTIAL : Addr) (kVALUES : ClassId) (G : OwnG Z wPERSISTENT wVALUES wEPHEMERAL wPERSISTENT_SEQUENTIAL wEPHEMERAL_SEQUENTIAL kVALUES) (h0 : Heap) (n0 : Nat) (O0 : Old Z n0 h0) (p1 : Int32) (h1 : ¬ ((p1 &&& (1 : Int32)) = (0 : Int32))) (h2 : (p1 &&& (2 : Int32)) = (0 : Int32)) :
    MetFree l x (head1 (Jvm.Cond.code x code maxLocals ret :: ws) room_1) (fun a U => a = #[(.int p1)] ∧ Z.Warmed39 U.vm ∧ U.heap = h0) (fun _ _ _ _ _ => True) (fun _ U o U' => ∃ v L, o = .returned v ∧ (v = some (.int 1) ∧ Fr n0 L) ∧ FrameEnd U o U' L room_1.cells room_1.slots) := by
  refine MetFree.of_bodySF (plainFor_of_name own_pn_0) hisR ?_
  intro p e s m args below meth c s₁ Bd hml0 hP hK
  obtain ⟨rfl, hZ, hh⟩ := hP
  have hx := Bd.exec
  have hby := Bd.bytes
  have hml : c.maxLocals = 6 := hml0
  have hown : s.vm.findClass "com/example/nimble_quorum/nimblequorum/wire/CreateModeOfPinLaw" = some m.cls := findClass_of_methodNamed Bd.named
  have hnm := (name_of_methodNamed Bd.named Bd.method).1
  have X0 : Stand p l e room_1 s m #[(.int p1)] below meth c s₁ [] 0 0 := Stand.of_body Bd
  have e0 : s₁.heap = h0 := by rw [← hh, Bd.state]; rfl
  have N0 := Fr.nil n0
  have pre0 : ∀ t, Steps p.tables e below (s₁.setTop (mkF m 0 #[.val (.int p1), .unset, .unset, .unset, .unset, .unset] [])) t → Steps p.tables e below (s₁.setTop (entryFrame m #[(.int p1)] maxLocals)) t := fun t k => castTop (own_ef_0_I m p1) k
  obtain ⟨T1, X1, e1, st1⟩ := getS2 X0 hx hZ hown (host := "") (Or.inl (hw _ (List.mem_of_getElem? (i := 47) rfl))) Via.refl e0 (G.2.2.2.2.1.ext O0.2) (g := (mkF m 39 #[.val (.int p1), .val (.int (1 : Int32)), .val (.int (0 : Int32)), .unset, .unset, .unset] [])) rfl (hb hby at_39)
  obtain ⟨_, _, ⟨T2, L2, k2, n2⟩, -, X2, ⟨Lc2, hQ2, l2, y2, z2⟩, st2⟩ := Jvm.LawKit.callS X1 hx (y := (⟨"com/example/nimble_quorum/nimblequorum/wire/CreateMode", "of", "(ZZ)Lcom/example/nimble_quorum/nimblequorum/wire/CreateMode;"⟩ : MethodName)) hown (mvT hZ (hw _ (List.mem_of_getElem? (i := 3) rfl))) (mvT hZ (hw _ (List.mem_of_getElem? (i := 4) rfl))) (mvT hZ (hw _ (List.mem_of_getElem? (i := 1) rfl))) (mvT hZ (hw _ (List.mem_of_getElem? (i := 5) rfl))) (by decide) (backOf (W := 0) (own_of_5 l Z a0 hw [] wPERSISTENT wVALUES wEPHEMERAL wPERSISTENT_SEQUENTIAL wEPHEMERAL_SEQUENTIAL kVALUES G h0 n0 O0) hZ (hw _ (List.mem_of_getElem? (i := 5) rfl)) (hw _ (List.mem_of_getElem? (i := 1) rfl)) (by decide) (by decide)) (g := (mkF m 84 #[.val (.int p1), .val (.int (1 : Int32)), .val (.int (0 : Int32)), .val (.ref wEPHEMERAL), .val (.int (1 : Int32)), .unset] [(.int (0 : Int32)), (.int (1 : Int32))])) rfl (by rw [hml]; rfl) (argsL := [(.int (1 : Int32)), (.int (0 : Int32))]) (rest := []) (lenOf own_pd_1 rfl) rfl (by show 2 * 0 + _ ≤ _; exact Nat.le_of_eq rfl) (hb hby at_84) (fun _ _ => ⟨rfl, e1, (by decide : 0 + 1 ≤ _), (by decide : 0 + 4 ≤ _)⟩)
  dsimp only [Pt.U, Pt.locs, Pt.cells, Pt.slots] at X2 l2 y2 z2 st2 hQ2
  subst l2 y2 z2
  obtain ⟨rfl, N2q, Kq2⟩ := hQ2
  have N2 := Fr.app N0 N2q
  have O2 := O0.keep Kq2 all0
  have K2 := (Keep.refl h0 []).trans Kq2 all0
  obtain ⟨cq3, kq3, q3a, q3b, q3c⟩ := isOf hZ rfl (G.2.2.2.2.2.1.ext O2.2)
  obtain ⟨_, _, ⟨T3, L3, k3, n3⟩, -, X3, ⟨Lc3, hQ3, l3, y3, z3⟩, st3⟩ := X2.virtualBack hx (y := (⟨"com/example/nimble_quorum/nimblequorum/wire/CreateMode", "isEphemeral", "()Z"⟩ : MethodName)) (z := (⟨"com/example/nimble_quorum/nimblequorum/wire/CreateMode", "isEphemeral", "()Z"⟩ : MethodName)) hown (mvT hZ (hw _ (List.mem_of_getElem? (i := 28) rfl))) (mvT hZ (hw _ (List.mem_of_getElem? (i := 29) rfl))) (notFace_of_selects (args := #[]) (mvT hZ (hw _ (List.mem_of_getElem? (i := 31) rfl)))) (mvT hZ (hw _ (List.mem_of_getElem? (i := 31) rfl))) (mvT hZ (hw _ (List.mem_of_getElem? (i := 30) rfl))) (by decide) (backOf (W := 0) (own_isEphemeral_6 l Z a0 hw [] wPERSISTENT wVALUES wEPHEMERAL wPERSISTENT_SEQUENTIAL wEPHEMERAL_SEQUENTIAL kVALUES G T2.heap n0 O2) hZ (hw _ (List.mem_of_getElem? (i := 32) rfl)) (hw _ (List.mem_of_getElem? (i := 1) rfl)) (by decide) (by decide)) q3a q3c (g := (mkF m 104 #[.val (.int p1), .val (.int (1 : Int32)), .val (.int (0 : Int32)), .val (.ref wEPHEMERAL), .val (.int (1 : Int32)), .val (.ref wEPHEMERAL)] [(.ref wEPHEMERAL)])) rfl (by rw [hml]; rfl) (Steps.refl _) (argsL := []) (rest := []) (lenOf own_pd_2 rfl) rfl (by show 2 * 0 + _ ≤ _; exact Nat.le_of_eq rfl) (hb hby at_104) (fun _ _ => ⟨rfl, rfl, (by decide : 1 + 0 ≤ _), (by decide : 4 + 0 ≤ _)⟩)
  dsimp only [Pt.U, Pt.locs, Pt.cells, Pt.slots] at X3 l3 y3 z3 st3 hQ3
  subst l3 y3 z3
  obtain ⟨rfl, N3q, e3⟩ := hQ3
  have N3 := Fr.app N2 N3q
  obtain ⟨cq4, kq4, q4a, q4b, q4c⟩ := isOf hZ e3 (G.2.2.2.2.2.1.ext O2.2)
  obtain ⟨_, _, ⟨T4, L4, k4, n4⟩, -, X4, ⟨Lc4, hQ4, l4, y4, z4⟩, st4⟩ := X3.virtualBack hx (y := (⟨"com/example/nimble_quorum/nimblequorum/wire/CreateMode", "isSequential", "()Z"⟩ : MethodName)) (z := (⟨"com/example/nimble_quorum/nimblequorum/wire/CreateMode", "isSequential", "()Z"⟩ : MethodName)) hown (mvT hZ (hw _ (List.mem_of_getElem? (i := 33) rfl))) (mvT hZ (hw _ (List.mem_of_getElem? (i := 34) rfl))) (notFace_of_selects (args := #[]) (mvT hZ (hw _ (List.mem_of_getElem? (i := 36) rfl)))) (mvT hZ (hw _ (List.mem_of_getElem? (i := 36) rfl))) (mvT hZ (hw _ (List.mem_of_getElem? (i := 35) rfl))) (by decide) (backOf (W := 0) (own_isSequential_7 l Z a0 hw [] wPERSISTENT wVALUES wEPHEMERAL wPERSISTENT_SEQUENTIAL wEPHEMERAL_SEQUENTIAL kVALUES G T2.heap n0 O2) hZ (hw _ (List.mem_of_getElem? (i := 37) rfl)) (hw _ (List.mem_of_getElem? (i := 1) rfl)) (by decide) (by decide)) q4a q4c (g := (mkF m 113 #[.val (.int p1), .val (.int (1 : Int32)), .val (.int (0 : Int32)), .val (.ref wEPHEMERAL), .val (.int (1 : Int32)), .val (.ref wEPHEMERAL)] [(.ref wEPHEMERAL)])) rfl (by rw [hml]; rfl) (Steps.refl _) (argsL := []) (rest := []) (lenOf own_pd_2 rfl) rfl (by show 2 * 0 + _ ≤ _; exact Nat.le_of_eq rfl) (hb hby at_113) (fun _ _ => ⟨rfl, e3, (by decide : 1 + 0 ≤ _), (by decide : 4 + 0 ≤ _)⟩)
  dsimp only [Pt.U, Pt.locs, Pt.cells, Pt.slots] at X4 l4 y4 z4 st4 hQ4
  subst l4 y4 z4
  obtain ⟨rfl, N4q, e4⟩ := hQ4
  have N4 := Fr.app N3 N4q
  obtain ⟨cq5, kq5, q5a, q5b, q5c⟩ := isOf hZ e4 (G.2.2.2.2.2.1.ext O2.2)
  obtain ⟨_, _, ⟨T5, L5, k5, n5⟩, -, X5, ⟨Lc5, hQ5, l5, y5, z5⟩, st5⟩ := X4.virtualBack hx (y := (⟨"com/example/nimble_quorum/nimblequorum/wire/CreateMode", "flags", "()I"⟩ : MethodName)) (z := (⟨"com/example/nimble_quorum/nimblequorum/wire/CreateMode", "flags", "()I"⟩ : MethodName)) hown (mvT hZ (hw _ (List.mem_of_getElem? (i := 38) rfl))) (mvT hZ (hw _ (List.mem_of_getElem? (i := 39) rfl))) (notFace_of_selects (args := #[]) (mvT hZ (hw _ (List.mem_of_getElem? (i := 41) rfl)))) (mvT hZ (hw _ (List.mem_of_getElem? (i := 41) rfl))) (mvT hZ (hw _ (List.mem_of_getElem? (i := 40) rfl))) (by decide) (backOf (W := 0) (own_flags_8 l Z a0 hw [] wPERSISTENT wVALUES wEPHEMERAL wPERSISTENT_SEQUENTIAL wEPHEMERAL_SEQUENTIAL kVALUES G T2.heap n0 O2) hZ (hw _ (List.mem_of_getElem? (i := 42) rfl)) (hw _ (List.mem_of_getElem? (i := 1) rfl)) (by decide) (by decide)) q5a q5c (g := (mkF m 122 #[.val (.int p1), .val (.int (1 : Int32)), .val (.int (0 : Int32)), .val (.ref wEPHEMERAL), .val (.int (1 : Int32)), .val (.ref wEPHEMERAL)] [(.ref wEPHEMERAL)])) rfl (by rw [hml]; rfl) (Steps.refl _) (argsL := []) (rest := []) (lenOf own_pd_3 rfl) rfl (by show 2 * 0 + _ ≤ _; exact Nat.le_of_eq rfl) (hb hby at_122) (fun _ _ => ⟨rfl, e4, (by decide : 1 + 0 ≤ _), (by decide : 4 + 0 ≤ _)⟩)
  dsimp only [Pt.U, Pt.locs, Pt.cells, Pt.slots] at X5 l5 y5 z5 st5 hQ5
  subst l5 y5 z5
  obtain ⟨rfl, N5q, e5⟩ := hQ5
  have N5 := Fr.app N4 N5q
  obtain ⟨fs, hr, hrun, hended, hW, hsame⟩ := X5.leave (v := some (.int (1 : Int32))) (fun h => by rw [Bd.returns] at h; cases h)
  refine ⟨_, _, pre0 _ ?_, hrun, hended, _, _, rfl, ?_, ⟨_, rfl⟩, hW, hsame.mono (by decide) (by decide)⟩
  · show Steps p.tables e below (s₁.setTop (mkF m 0 #[.val (.int p1), .unset, .unset, .unset, .unset, .unset] [])) _
    refine XS.iloadN X0.here hx rfl (hb hby at_0) rfl ?_
    show Steps p.tables e below (s₁.setTop (mkF m 1 #[.val (.int p1), .unset, .unset, .unset, .unset, .unset] [(.int p1)])) _
    refine XS.iconst X0.here hx rfl (hb hby at_1) ?_
    show Steps p.tables e below (s₁.setTop (mkF m 2 #[.val (.int p1), .unset, .unset, .unset, .unset, .unset] [(.int (1 : Int32)), (.int p1)])) _
    refine XS.iand X0.here hx rfl (hb hby at_2) rfl ?_
    show Steps p.tables e below (s₁.setTop (mkF m 3 #[.val (.int p1), .unset, .unset, .unset, .unset, .unset] [(.int (p1 &&& (1 : Int32)))])) _
    refine XS.ifNo X0.here hx rfl (hb hby at_3) rfl ((if0 _ _).trans (feq (h1 : ¬ ((p1 &&& (1 : Int32)) = (0 : Int32)))).1) ?_
    show Steps p.tables e below (s₁.setTop (mkF m 6 #[.val (.int p1), .unset, .unset, .unset, .unset, .unset] [])) _
    refine XS.iconst X0.here hx rfl (hb hby at_6) ?_
    show Steps p.tables e below (s₁.setTop (mkF m 7 #[.val (.int p1), .unset, .unset, .unset, .unset, .unset] [(.int (1 : Int32))])) _
    refine XS.goto X0.here hx rfl (pc0 := 7) (pc' := 11) rfl (hb hby at_7) (by decide) (by decide) ?_
    show Steps p.tables e below (s₁.setTop (mkF m 11 #[.val (.int p1), .unset, .unset, .unset, .unset, .unset] [(.int (1 : Int32))])) _
    refine XS.istoreN X0.here hx rfl (hb hby at_11) rfl (l' := #[.val (.int p1), .val (.int (1 : Int32)), .unset, .unset, .unset, .unset]) rfl ?_
    show Steps p.tables e below (s₁.setTop (mkF m 12 #[.val (.int p1), .val (.int (1 : Int32)), .unset, .unset, .unset, .unset] [])) _
    refine XS.iloadN X0.here hx rfl (hb hby at_12) rfl ?_
    show Steps p.tables e below (s₁.setTop (mkF m 13 #[.val (.int p1), .val (.int (1 : Int32)), .unset, .unset, .unset, .unset] [(.int p1)])) _
    refine XS.iconst X0.here hx rfl (hb hby at_13) ?_
    show Steps p.tables e below (s₁.setTop (mkF m 14 #[.val (.int p1), .val (.int (1 : Int32)), .unset, .unset, .unset, .unset] [(.int (2 : Int32)), (.int p1)])) _
    refine XS.iand X0.here hx rfl (hb hby at_14) rfl ?_
    show Steps p.tables e below (s₁.setTop (mkF m 15 #[.val (.int p1), .val (.int (1 : Int32)), .unset, .unset, .unset, .unset] [(.int (p1 &&& (2 : Int32)))])) _
    refine XS.ifYes X0.here hx rfl (pc0 := 15) (pc' := 22) rfl (hb hby at_15) rfl ((if0 _ _).trans (teq (h2 : (p1 &&& (2 : Int32)) = (0 : Int32))).1) (by decide) (by decide) ?_
    show Steps p.tables e below (s₁.setTop (mkF m 22 #[.val (.int p1), .val (.int (1 : Int32)), .unset, .unset, .unset, .unset] [])) _
    refine XS.iconst X0.here hx rfl (hb hby at_22) ?_
    show Steps p.tables e below (s₁.setTop (mkF m 23 #[.val (.int p1), .val (.int (1 : Int32)), .unset, .unset, .unset, .unset] [(.int (0 : Int32))])) _
    refine XS.istoreN X0.here hx rfl (hb hby at_23) rfl (l' := #[.val (.int p1), .val (.int (1 : Int32)), .val (.int (0 : Int32)), .unset, .unset, .unset]) rfl ?_
    show Steps p.tables e below (s₁.setTop (mkF m 24 #[.val (.int p1), .val (.int (1 : Int32)), .val (.int (0 : Int32)), .unset, .unset, .unset] [])) _
    refine XS.iloadN X0.here hx rfl (hb hby at_24) rfl ?_
    show Steps p.tables e below (s₁.setTop (mkF m 25 #[.val (.int p1), .val (.int (1 : Int32)), .val (.int (0 : Int32)), .unset, .unset, .unset] [(.int (1 : Int32))])) _
    refine XS.ifNo X0.here hx rfl (hb hby at_25) rfl (by decide) ?_
    show Steps p.tables e below (s₁.setTop (mkF m 28 #[.val (.int p1), .val (.int (1 : Int32)), .val (.int (0 : Int32)), .unset, .unset, .unset] [])) _
    refine XS.iloadN X0.here hx rfl (hb hby at_28) rfl ?_
    show Steps p.tables e below (s₁.setTop (mkF m 29 #[.val (.int p1), .val (.int (1 : Int32)), .val (.int (0 : Int32)), .unset, .unset, .unset] [(.int (0 : Int32))])) _
    refine XS.ifYes X0.here hx rfl (pc0 := 29) (pc' := 39) rfl (hb hby at_29) rfl (by decide) (by decide) (by decide) ?_
    show Steps p.tables e below (s₁.setTop (mkF m 39 #[.val (.int p1), .val (.int (1 : Int32)), .val (.int (0 : Int32)), .unset, .unset, .unset] [])) _
    refine st1 _ ?_
    show Steps p.tables e below (T1.setTop (mkF m 42 #[.val (.int p1), .val (.int (1 : Int32)), .val (.int (0 : Int32)), .unset, .unset, .unset] [(.ref wEPHEMERAL)])) _
    refine XS.astoreN X1.here hx rfl (hb hby at_42) rfl rfl (l' := #[.val (.int p1), .val (.int (1 : Int32)), .val (.int (0 : Int32)), .val (.ref wEPHEMERAL), .unset, .unset]) rfl ?_
    show Steps p.tables e below (T1.setTop (mkF m 43 #[.val (.int p1), .val (.int (1 : Int32)), .val (.int (0 : Int32)), .val (.ref wEPHEMERAL), .unset, .unset] [])) _
    refine XS.goto X1.here hx rfl (pc0 := 43) (pc' := 61) rfl (hb hby at_43) (by decide) (by decide) ?_
    show Steps p.tables e below (T1.setTop (mkF m 61 #[.val (.int p1), .val (.int (1 : Int32)), .val (.int (0 : Int32)), .val (.ref wEPHEMERAL), .unset, .unset] [])) _
    refine XS.iloadN X1.here hx rfl (hb hby at_61) rfl ?_
    show Steps p.tables e below (T1.setTop (mkF m 62 #[.val (.int p1), .val (.int (1 : Int32)), .val (.int (0 : Int32)), .val (.ref wEPHEMERAL), .unset, .unset] [(.int (1 : Int32))])) _
    refine XS.ifNo X1.here hx rfl (hb hby at_62) rfl (by decide) ?_
    show Steps p.tables e below (T1.setTop (mkF m 65 #[.val (.int p1), .val (.int (1 : Int32)), .val (.int (0 : Int32)), .val (.ref wEPHEMERAL), .unset, .unset] [])) _
    refine XS.iconst X1.here hx rfl (hb hby at_65) ?_
    show Steps p.tables e below (T1.setTop (mkF m 66 #[.val (.int p1), .val (.int (1 : Int32)), .val (.int (0 : Int32)), .val (.ref wEPHEMERAL), .unset, .unset] [(.int (1 : Int32))])) _
    refine XS.goto X1.here hx rfl (pc0 := 66) (pc' := 70) rfl (hb hby at_66) (by decide) (by decide) ?_
    show Steps p.tables e below (T1.setTop (mkF m 70 #[.val (.int p1), .val (.int (1 : Int32)), .val (.int (0 : Int32)), .val (.ref wEPHEMERAL), .unset, .unset] [(.int (1 : Int32))])) _
    refine XS.iloadN X1.here hx rfl (hb hby at_70) rfl ?_
    show Steps p.tables e below (T1.setTop (mkF m 71 #[.val (.int p1), .val (.int (1 : Int32)), .val (.int (0 : Int32)), .val (.ref wEPHEMERAL), .unset, .unset] [(.int (0 : Int32)), (.int (1 : Int32))])) _
    refine XS.ifYes X1.here hx rfl (pc0 := 71) (pc' := 78) rfl (hb hby at_71) rfl (by decide) (by decide) (by decide) ?_
    show Steps p.tables e below (T1.setTop (mkF m 78 #[.val (.int p1), .val (.int (1 : Int32)), .val (.int (0 : Int32)), .val (.ref wEPHEMERAL), .unset, .unset] [(.int (1 : Int32))])) _
    refine XS.iconst X1.here hx rfl (hb hby at_78) ?_
    show Steps p.tables e below (T1.setTop (mkF m 79 #[.val (.int p1), .val (.int (1 : Int32)), .val (.int (0 : Int32)), .val (.ref wEPHEMERAL), .unset, .unset] [(.int (0 : Int32)), (.int (1 : Int32))])) _
    refine XS.iadd X1.here hx rfl (hb hby at_79) rfl ?_
    show Steps p.tables e below (T1.setTop (mkF m 80 #[.val (.int p1), .val (.int (1 : Int32)), .val (.int (0 : Int32)), .val (.ref wEPHEMERAL), .unset, .unset] [(.int ((1 : Int32) + (0 : Int32)))])) _
    refine castTop (g' := (mkF m 80 #[.val (.int p1), .val (.int (1 : Int32)), .val (.int (0 : Int32)), .val (.ref wEPHEMERAL), .unset, .unset] [(.int (1 : Int32))])) (by rw [show ((1 : Int32) + (0 : Int32)) = (1 : Int32) from by decide]) ?_
    show Steps p.tables e below (T1.setTop (mkF m 80 #[.val (.int p1), .val (.int (1 : Int32)), .val (.int (0 : Int32)), .val (.ref wEPHEMERAL), .unset, .unset] [(.int (1 : Int32))])) _
    refine XS.istore X1.here hx rfl (hb hby at_80) rfl (l' := #[.val (.int p1), .val (.int (1 : Int32)), .val (.int (0 : Int32)), .val (.ref wEPHEMERAL), .val (.int (1 : Int32)), .unset]) rfl ?_
    show Steps p.tables e below (T1.setTop (mkF m 82 #[.val (.int p1), .val (.int (1 : Int32)), .val (.int (0 : Int32)), .val (.ref wEPHEMERAL), .val (.int (1 : Int32)), .unset] [])) _
    refine XS.iloadN X1.here hx rfl (hb hby at_82) rfl ?_
    show Steps p.tables e below (T1.setTop (mkF m 83 #[.val (.int p1), .val (.int (1 : Int32)), .val (.int (0 : Int32)), .val (.ref wEPHEMERAL), .val (.int (1 : Int32)), .unset] [(.int (1 : Int32))])) _
    refine XS.iloadN X1.here hx rfl (hb hby at_83) rfl ?_
    show Steps p.tables e below (T1.setTop (mkF m 84 #[.val (.int p1), .val (.int (1 : Int32)), .val (.int (0 : Int32)), .val (.ref wEPHEMERAL), .val (.int (1 : Int32)), .unset] [(.int (0 : Int32)), (.int (1 : Int32))])) _
    refine st2 _ ?_
    show Steps p.tables e below (T2.setTop (mkF m 87 #[.val (.int p1), .val (.int (1 : Int32)), .val (.int (0 : Int32)), .val (.ref wEPHEMERAL), .val (.int (1 : Int32)), .unset] [(.ref wEPHEMERAL)])) _
    refine XS.astore X2.here hx rfl (hb hby at_87) rfl rfl (l' := #[.val (.int p1), .val (.int (1 : Int32)), .val (.int (0 : Int32)), .val (.ref wEPHEMERAL), .val (.int (1 : Int32)), .val (.ref wEPHEMERAL)]) rfl ?_
    show Steps p.tables e below (T2.setTop (mkF m 89 #[.val (.int p1), .val (.int (1 : Int32)), .val (.int (0 : Int32)), .val (.ref wEPHEMERAL), .val (.int (1 : Int32)), .val (.ref wEPHEMERAL)] [])) _
    refine XS.aload X2.here hx rfl (hb hby at_89) rfl rfl ?_
    show Steps p.tables e below (T2.setTop (mkF m 91 #[.val (.int p1), .val (.int (1 : Int32)), .val (.int (0 : Int32)), .val (.ref wEPHEMERAL), .val (.int (1 : Int32)), .val (.ref wEPHEMERAL)] [(.ref wEPHEMERAL)])) _
    refine XS.ifnonnullYes X2.here hx rfl (pc0 := 91) (pc' := 96) rfl (hb hby at_91) rfl (by decide) (by decide) ?_
    show Steps p.tables e below (T2.setTop (mkF m 96 #[.val (.int p1), .val (.int (1 : Int32)), .val (.int (0 : Int32)), .val (.ref wEPHEMERAL), .val (.int (1 : Int32)), .val (.ref wEPHEMERAL)] [])) _
    refine XS.aload X2.here hx rfl (hb hby at_96) rfl rfl ?_
    show Steps p.tables e below (T2.setTop (mkF m 98 #[.val (.int p1), .val (.int (1 : Int32)), .val (.int (0 : Int32)), .val (.ref wEPHEMERAL), .val (.int (1 : Int32)), .val (.ref wEPHEMERAL)] [(.ref wEPHEMERAL)])) _
    refine XS.aloadN X2.here hx rfl (hb hby at_98) rfl rfl ?_
    show Steps p.tables e below (T2.setTop (mkF m 99 #[.val (.int p1), .val (.int (1 : Int32)), .val (.int (0 : Int32)), .val (.ref wEPHEMERAL), .val (.int (1 : Int32)), .val (.ref wEPHEMERAL)] [(.ref wEPHEMERAL), (.ref wEPHEMERAL)])) _
    refine Jvm.RoadKit.acmp (g := (mkF m 99 #[.val (.int p1), .val (.int (1 : Int32)), .val (.int (0 : Int32)), .val (.ref wEPHEMERAL), .val (.int (1 : Int32)), .val (.ref wEPHEMERAL)] [(.ref wEPHEMERAL), (.ref wEPHEMERAL)])) X2 hx rfl rfl rfl (pc0 := 99) (pc' := 102) (same := true) rfl (hb hby at_99) rfl (decide_eq_true rfl) (by decide) (by decide) ?_
    show Steps p.tables e below (T2.setTop (mkF m 102 #[.val (.int p1), .val (.int (1 : Int32)), .val (.int (0 : Int32)), .val (.ref wEPHEMERAL), .val (.int (1 : Int32)), .val (.ref wEPHEMERAL)] [])) _
    refine XS.aload X2.here hx rfl (hb hby at_102) rfl rfl ?_
    show Steps p.tables e below (T2.setTop (mkF m 104 #[.val (.int p1), .val (.int (1 : Int32)), .val (.int (0 : Int32)), .val (.ref wEPHEMERAL), .val (.int (1 : Int32)), .val (.ref wEPHEMERAL)] [(.ref wEPHEMERAL)])) _
    refine st3.trans ?_
    show Steps p.tables e below (T3.setTop (mkF m 107 #[.val (.int p1), .val (.int (1 : Int32)), .val (.int (0 : Int32)), .val (.ref wEPHEMERAL), .val (.int (1 : Int32)), .val (.ref wEPHEMERAL)] [(.int (1 : Int32))])) _
    refine XS.iloadN X3.here hx rfl (hb hby at_107) rfl ?_
    show Steps p.tables e below (T3.setTop (mkF m 108 #[.val (.int p1), .val (.int (1 : Int32)), .val (.int (0 : Int32)), .val (.ref wEPHEMERAL), .val (.int (1 : Int32)), .val (.ref wEPHEMERAL)] [(.int (1 : Int32)), (.int (1 : Int32))])) _
    refine XS.icmpNo X3.here hx rfl (hb hby at_108) rfl (by decide) ?_
    show Steps p.tables e below (T3.setTop (mkF m 111 #[.val (.int p1), .val (.int (1 : Int32)), .val (.int (0 : Int32)), .val (.ref wEPHEMERAL), .val (.int (1 : Int32)), .val (.ref wEPHEMERAL)] [])) _
    refine XS.aload X3.here hx rfl (hb hby at_111) rfl rfl ?_
    show Steps p.tables e below (T3.setTop (mkF m 113 #[.val (.int p1), .val (.int (1 : Int32)), .val (.int (0 : Int32)), .val (.ref wEPHEMERAL), .val (.int (1 : Int32)), .val (.ref wEPHEMERAL)] [(.ref wEPHEMERAL)])) _
    refine st4.trans ?_
    show Steps p.tables e below (T4.setTop (mkF m 116 #[.val (.int p1), .val (.int (1 : Int32)), .val (.int (0 : Int32)), .val (.ref wEPHEMERAL), .val (.int (1 : Int32)), .val (.ref wEPHEMERAL)] [(.int (0 : Int32))])) _
    refine XS.iloadN X4.here hx rfl (hb hby at_116) rfl ?_
    show Steps p.tables e below (T4.setTop (mkF m 117 #[.val (.int p1), .val (.int (1 : Int32)), .val (.int (0 : Int32)), .val (.ref wEPHEMERAL), .val (.int (1 : Int32)), .val (.ref wEPHEMERAL)] [(.int (0 : Int32)), (.int (0 : Int32))])) _
    refine XS.icmpNo X4.here hx rfl (hb hby at_117) rfl (by decide) ?_
    show Steps p.tables e below (T4.setTop (mkF m 120 #[.val (.int p1), .val (.int (1 : Int32)), .val (.int (0 : Int32)), .val (.ref wEPHEMERAL), .val (.int (1 : Int32)), .val (.ref wEPHEMERAL)] [])) _
    refine XS.aload X4.here hx rfl (hb hby at_120) rfl rfl ?_
    show Steps p.tables e below (T4.setTop (mkF m 122 #[.val (.int p1), .val (.int (1 : Int32)), .val (.int (0 : Int32)), .val (.ref wEPHEMERAL), .val (.int (1 : Int32)), .val (.ref wEPHEMERAL)] [(.ref wEPHEMERAL)])) _
    refine st5.trans ?_
    show Steps p.tables e below (T5.setTop (mkF m 125 #[.val (.int p1), .val (.int (1 : Int32)), .val (.int (0 : Int32)), .val (.ref wEPHEMERAL), .val (.int (1 : Int32)), .val (.ref wEPHEMERAL)] [(.int (1 : Int32))])) _
    refine XS.iload X5.here hx rfl (hb hby at_125) rfl ?_
    show Steps p.tables e below (T5.setTop (mkF m 127 #[.val (.int p1), .val (.int (1 : Int32)), .val (.int (0 : Int32)), .val (.ref wEPHEMERAL), .val (.int (1 : Int32)), .val (.ref wEPHEMERAL)] [(.int (1 : Int32)), (.int (1 : Int32))])) _
    refine XS.icmpNo X5.here hx rfl (hb hby at_127) rfl (by decide) ?_
    show Steps p.tables e below (T5.setTop (mkF m 130 #[.val (.int p1), .val (.int (1 : Int32)), .val (.int (0 : Int32)), .val (.ref wEPHEMERAL), .val (.int (1 : Int32)), .val (.ref wEPHEMERAL)] [])) _
    refine XS.iconst X5.here hx rfl (hb hby at_130) ?_
    show Steps p.tables e below (T5.setTop (mkF m 131 #[.val (.int p1), .val (.int (1 : Int32)), .val (.int (0 : Int32)), .val (.ref wEPHEMERAL), .val (.int (1 : Int32)), .val (.ref wEPHEMERAL)] [(.int (1 : Int32))])) _
    refine XS.goto X5.here hx rfl (pc0 := 131) (pc' := 135) rfl (hb hby at_131) (by decide) (by decide) ?_
    show Steps p.tables e below (T5.setTop (mkF m 135 #[.val (.int p1), .val (.int (1 : Int32)), .val (.int (0 : Int32)), .val (.ref wEPHEMERAL), .val (.int (1 : Int32)), .val (.ref wEPHEMERAL)] [(.int (1 : Int32))])) _
    exact retN X5 hx (t := .boolean) Bd.returns (by simp) (hb hby at_135) hr
  · exact ⟨rfl, N5⟩
def OwnQ_own_of_9 (Z : State) (wPERSISTENT : Addr) (wVALUES : Addr) (wEPHEMERAL : Addr) (wPERSISTENT_SEQUENTIAL : Addr) (wEPHEMERAL_SEQUENTIAL : Addr) (kVALUES : ClassId) (h0 : Heap) (n0 : Nat) (v : Option Value) (h : Heap) (L : List Loc) : Prop :=
  v = some (.ref wPERSISTENT_SEQUENTIAL) ∧ Fr n0 L ∧ Keep h0 h []
set_option maxRecDepth 65536 in
set_option maxHeartbeats 40000000 in
theorem own_of_9 (l : Launch) (Z : State) (a0 : Array Value) (hw : ∀ d ∈ tables_1, d.before a0 Z = true) (ws : List Jvm.Cond) (wPERSISTENT : Addr) (wVALUES : Addr) (wEPHEMERAL : Addr) (wPERSISTENT_SEQUENTIAL : Addr) (wEPHEMERAL_SEQUENTIAL : Addr) (kVALUES : ClassId) (G : OwnG Z wPERSISTENT wVALUES wEPHEMERAL wPERSISTENT_SEQUENTIAL wEPHEMERAL_SEQUENTIAL kVALUES) (h0 : Heap) (n0 : Nat) (O0 : Old Z n0 h0) :
    MetFree l (⟨"com/example/nimble_quorum/nimblequorum/wire/CreateMode", "of", "(ZZ)Lcom/example/nimble_quorum/nimblequorum/wire/CreateMode;"⟩ : MethodName) (head1 (Jvm.Cond.code (⟨"com/example/nimble_quorum/nimblequorum/wire/CreateMode", "of", "(ZZ)Lcom/example/nimble_quorum/nimblequorum/wire/CreateMode;"⟩ : MethodName) prog_89_method_5_code 7 (some (.object "com/example/nimble_quorum/nimblequorum/wire/CreateMode")) :: ws) ({ frames := 2, cells := 1, slots := 4, locals := 25 } : Room)) (fun a U => a = #[(.int (0 : Int32)), (.int (1 : Int32))] ∧ Z.Warmed39 U.vm ∧ U.heap = h0) (fun _ _ _ _ _ => True) (fun _ U o U' => ∃ v L, o = .returned v ∧ OwnQ_own_of_9 Z wPERSISTENT wVALUES wEPHEMERAL wPERSISTENT_SEQUENTIAL wEPHEMERAL_SEQUENTIAL kVALUES h0 n0 v U'.heap L ∧ FrameEnd U o U' L ({ frames := 2, cells := 1, slots := 4, locals := 25 } : Room).cells ({ frames := 2, cells := 1, slots := 4, locals := 25 } : Room).slots) := by
  refine MetFree.of_bodySF (plainFor_of_name own_pn_1) hisR ?_
  intro p e s m args below meth c s₁ Bd hml0 hP hK
  obtain ⟨rfl, hZ, hh⟩ := hP
  have hx := Bd.exec
  have hby := Bd.bytes
  have hml : c.maxLocals = 7 := hml0
  have hown : s.vm.findClass "com/example/nimble_quorum/nimblequorum/wire/CreateMode" = some m.cls := findClass_of_methodNamed Bd.named
  have hnm := (name_of_methodNamed Bd.named Bd.method).1
  have X0 : Stand p l e ({ frames := 2, cells := 1, slots := 4, locals := 25 } : Room) s m #[(.int (0 : Int32)), (.int (1 : Int32))] below meth c s₁ [] 0 0 := Stand.of_body Bd
  have e0 : s₁.heap = h0 := by rw [← hh, Bd.state]; rfl
  have N0 := Fr.nil n0
  have pre0 : ∀ t, Steps p.tables e below (s₁.setTop (mkF m 0 #[.val (.int (0 : Int32)), .val (.int (1 : Int32)), .unset, .unset, .unset, .unset, .unset] [])) t → Steps p.tables e below (s₁.setTop (entryFrame m #[(.int (0 : Int32)), (.int (1 : Int32))] 7)) t := fun t k => castTop (own_ef_1_II m (0 : Int32) (1 : Int32)) k
  obtain ⟨_, _, ⟨T1, L1, k1, n1⟩, -, X1, ⟨Lc1, hQ1, l1, y1, z1⟩, st1⟩ := Jvm.LawKit.callS X0 hx (y := (⟨"com/example/nimble_quorum/nimblequorum/wire/CreateMode", "values", "()[Lcom/example/nimble_quorum/nimblequorum/wire/CreateMode;"⟩ : MethodName)) hown (mvT hZ (hw _ (List.mem_of_getElem? (i := 6) rfl))) (mvT hZ (hw _ (List.mem_of_getElem? (i := 7) rfl))) (mvT hZ (hw _ (List.mem_of_getElem? (i := 1) rfl))) (mvT hZ (hw _ (List.mem_of_getElem? (i := 8) rfl))) (by decide) (backOf (W := 0) (own_values_1 l Z a0 hw [] wPERSISTENT wVALUES wEPHEMERAL wPERSISTENT_SEQUENTIAL wEPHEMERAL_SEQUENTIAL kVALUES G h0 n0 O0) hZ (hw _ (List.mem_of_getElem? (i := 8) rfl)) (hw _ (List.mem_of_getElem? (i := 1) rfl)) (by decide) (by decide)) (g := (mkF m 2 #[.val (.int (0 : Int32)), .val (.int (1 : Int32)), .val .null, .unset, .unset, .unset, .unset] [])) rfl (by rw [hml]; rfl) (argsL := []) (rest := []) (lenOf own_pd_0 rfl) rfl (by show 2 * 0 + _ ≤ _; exact Nat.le_of_eq rfl) (hb hby own_d1_2) (fun _ _ => ⟨rfl, e0, (by decide : 0 + 1 ≤ _), (by decide : 0 + 4 ≤ _)⟩)
  dsimp only [Pt.U, Pt.locs, Pt.cells, Pt.slots] at X1 l1 y1 z1 st1 hQ1
  subst l1 y1 z1
  obtain ⟨b2_1, rfl, N1q, Kq1, ge_b2_1, sq_b2_1, q1_V_b2, q1_E_b2⟩ := hQ1
  have N1 := Fr.app N0 N1q
  have sz_b2_1 : h0.size ≤ b2_1 := Nat.le_trans (Keep.refl h0 []).1 sq_b2_1
  have O1 := O0.keep Kq1 all0
  have K1 := (Keep.refl h0 []).trans Kq1 all0
  obtain ⟨cl2, Ar2, qk2, Sz2, Nn2, Hs2, Gs2⟩ := id (q1_V_b2)
  have hin3 : ¬ ((0 : Int32) < 0 ∨ cl2.slots.size ≤ ((0 : Int32)).toNatClampNeg) := inb_of Sz2 ⟨by decide, by decide⟩
  have hat3 : cl2.slots[((0 : Int32)).toNatClampNeg]? = some (.ref wPERSISTENT) := Hs2.at hin3 rfl
  obtain ⟨T4, X4, e4, st4⟩ := getF X1 hx hZ hown (host := "") (Or.inl (hw _ (List.mem_of_getElem? (i := 24) rfl))) Via.refl rfl (G.2.2.2.2.2.2.2.2.2.2.1.ext O1.2) (g := (mkF m 28 #[.val (.int (0 : Int32)), .val (.int (1 : Int32)), .val .null, .val (.ref b2_1), .val (.int (4 : Int32)), .val (.int (0 : Int32)), .val (.ref wPERSISTENT)] [(.ref wPERSISTENT)])) rfl rfl (hb hby own_d1_28)
  obtain ⟨T5, X5, e5, st5⟩ := getF X4 hx hZ hown (host := "") (Or.inl (hw _ (List.mem_of_getElem? (i := 26) rfl))) Via.refl e4 (G.2.2.2.2.2.2.2.2.2.2.2.1.ext O1.2) (g := (mkF m 37 #[.val (.int (0 : Int32)), .val (.int (1 : Int32)), .val .null, .val (.ref b2_1), .val (.int (4 : Int32)), .val (.int (0 : Int32)), .val (.ref wPERSISTENT)] [(.ref wPERSISTENT)])) rfl rfl (hb hby own_d1_37)
  have hin6 : ¬ ((1 : Int32) < 0 ∨ cl2.slots.size ≤ ((1 : Int32)).toNatClampNeg) := inb_of Sz2 ⟨by decide, by decide⟩
  have hat6 : cl2.slots[((1 : Int32)).toNatClampNeg]? = some (.ref wEPHEMERAL) := Hs2.at hin6 rfl
  obtain ⟨T7, X7, e7, st7⟩ := getF X5 hx hZ hown (host := "") (Or.inl (hw _ (List.mem_of_getElem? (i := 24) rfl))) Via.refl e5 (G.2.2.2.2.2.2.2.2.2.2.2.2.1.ext O1.2) (g := (mkF m 28 #[.val (.int (0 : Int32)), .val (.int (1 : Int32)), .val .null, .val (.ref b2_1), .val (.int (4 : Int32)), .val (.int (1 : Int32)), .val (.ref wEPHEMERAL)] [(.ref wEPHEMERAL)])) rfl rfl (hb hby own_d1_28)
  have hin8 : ¬ ((2 : Int32) < 0 ∨ cl2.slots.size ≤ ((2 : Int32)).toNatClampNeg) := inb_of Sz2 ⟨by decide, by decide⟩
  have hat8 : cl2.slots[((2 : Int32)).toNatClampNeg]? = some (.ref wPERSISTENT_SEQUENTIAL) := Hs2.at hin8 rfl
  obtain ⟨T9, X9, e9, st9⟩ := getF X7 hx hZ hown (host := "") (Or.inl (hw _ (List.mem_of_getElem? (i := 24) rfl))) Via.refl e7 (G.2.2.2.2.2.2.2.2.2.2.2.2.2.1.ext O1.2) (g := (mkF m 28 #[.val (.int (0 : Int32)), .val (.int (1 : Int32)), .val .null, .val (.ref b2_1), .val (.int (4 : Int32)), .val (.int (2 : Int32)), .val (.ref wPERSISTENT_SEQUENTIAL)] [(.ref wPERSISTENT_SEQUENTIAL)])) rfl rfl (hb hby own_d1_28)
  obtain ⟨T10, X10, e10, st10⟩ := getF X9 hx hZ hown (host := "") (Or.inl (hw _ (List.mem_of_getElem? (i := 26) rfl))) Via.refl e9 (G.2.2.2.2.2.2.2.2.2.2.2.2.2.2.1.ext O1.2) (g := (mkF m 37 #[.val (.int (0 : Int32)), .val (.int (1 : Int32)), .val .null, .val (.ref b2_1), .val (.int (4 : Int32)), .val (.int (2 : Int32)), .val (.ref wPERSISTENT_SEQUENTIAL)] [(.ref wPERSISTENT_SEQUENTIAL)])) rfl rfl (hb hby own_d1_37)
  have hin11 : ¬ ((3 : Int32) < 0 ∨ cl2.slots.size ≤ ((3 : Int32)).toNatClampNeg) := inb_of Sz2 ⟨by decide, by decide⟩
  have hat11 : cl2.slots[((3 : Int32)).toNatClampNeg]? = some (.ref wEPHEMERAL_SEQUENTIAL) := Hs2.at hin11 rfl
  obtain ⟨T12, X12, e12, st12⟩ := getF X10 hx hZ hown (host := "") (Or.inl (hw _ (List.mem_of_getElem? (i := 24) rfl))) Via.refl e10 (G.2.2.2.2.2.2.2.2.2.2.2.2.2.2.2.1.ext O1.2) (g := (mkF m 28 #[.val (.int (0 : Int32)), .val (.int (1 : Int32)), .val (.ref wPERSISTENT_SEQUENTIAL), .val (.ref b2_1), .val (.int (4 : Int32)), .val (.int (3 : Int32)), .val (.ref wEPHEMERAL_SEQUENTIAL)] [(.ref wEPHEMERAL_SEQUENTIAL)])) rfl rfl (hb hby own_d1_28)
  obtain ⟨fs, hr, hrun, hended, hW, hsame⟩ := X12.leave (v := some (.ref wPERSISTENT_SEQUENTIAL)) (fun h => by rw [Bd.returns] at h; cases h)
  refine ⟨_, _, pre0 _ ?_, hrun, hended, _, _, rfl, ?_, ⟨_, rfl⟩, hW, hsame.mono (by decide) (by decide)⟩
  · show Steps p.tables e below (s₁.setTop (mkF m 0 #[.val (.int (0 : Int32)), .val (.int (1 : Int32)), .unset, .unset, .unset, .unset, .unset] [])) _
    refine XS.aconstNull X0.here hx rfl (hb hby own_d1_0) ?_
    show Steps p.tables e below (s₁.setTop (mkF m 1 #[.val (.int (0 : Int32)), .val (.int (1 : Int32)), .unset, .unset, .unset, .unset, .unset] [.null])) _
    refine XS.astoreN X0.here hx rfl (hb hby own_d1_1) rfl rfl (l' := #[.val (.int (0 : Int32)), .val (.int (1 : Int32)), .val .null, .unset, .unset, .unset, .unset]) rfl ?_
    show Steps p.tables e below (s₁.setTop (mkF m 2 #[.val (.int (0 : Int32)), .val (.int (1 : Int32)), .val .null, .unset, .unset, .unset, .unset] [])) _
    refine st1 _ ?_
    show Steps p.tables e below (T1.setTop (mkF m 5 #[.val (.int (0 : Int32)), .val (.int (1 : Int32)), .val .null, .unset, .unset, .unset, .unset] [(.ref b2_1)])) _
    refine XS.astoreN X1.here hx rfl (hb hby own_d1_5) rfl rfl (l' := #[.val (.int (0 : Int32)), .val (.int (1 : Int32)), .val .null, .val (.ref b2_1), .unset, .unset, .unset]) rfl ?_
    show Steps p.tables e below (T1.setTop (mkF m 6 #[.val (.int (0 : Int32)), .val (.int (1 : Int32)), .val .null, .val (.ref b2_1), .unset, .unset, .unset] [])) _
    refine XS.aloadN X1.here hx rfl (hb hby own_d1_6) rfl rfl ?_
    show Steps p.tables e below (T1.setTop (mkF m 7 #[.val (.int (0 : Int32)), .val (.int (1 : Int32)), .val .null, .val (.ref b2_1), .unset, .unset, .unset] [(.ref b2_1)])) _
    refine X1.arraylength hx Ar2.1 (State.isArrayOf_alike hZ.alike Ar2.2.1) (g := (mkF m 7 #[.val (.int (0 : Int32)), .val (.int (1 : Int32)), .val .null, .val (.ref b2_1), .unset, .unset, .unset] [(.ref b2_1)])) rfl rfl (hb hby own_d1_7) _ ?_
    rw [len_of Sz2 Nn2]
    show Steps p.tables e below (T1.setTop (mkF m 8 #[.val (.int (0 : Int32)), .val (.int (1 : Int32)), .val .null, .val (.ref b2_1), .unset, .unset, .unset] [(.int (4 : Int32))])) _
    refine XS.istore X1.here hx rfl (hb hby own_d1_8) rfl (l' := #[.val (.int (0 : Int32)), .val (.int (1 : Int32)), .val .null, .val (.ref b2_1), .val (.int (4 : Int32)), .unset, .unset]) rfl ?_
    show Steps p.tables e below (T1.setTop (mkF m 10 #[.val (.int (0 : Int32)), .val (.int (1 : Int32)), .val .null, .val (.ref b2_1), .val (.int (4 : Int32)), .unset, .unset] [])) _
    refine XS.iconst X1.here hx rfl (hb hby own_d1_10) ?_
    show Steps p.tables e below (T1.setTop (mkF m 11 #[.val (.int (0 : Int32)), .val (.int (1 : Int32)), .val .null, .val (.ref b2_1), .val (.int (4 : Int32)), .unset, .unset] [(.int (0 : Int32))])) _
    refine XS.istore X1.here hx rfl (hb hby own_d1_11) rfl (l' := #[.val (.int (0 : Int32)), .val (.int (1 : Int32)), .val .null, .val (.ref b2_1), .val (.int (4 : Int32)), .val (.int (0 : Int32)), .unset]) rfl ?_
    show Steps p.tables e below (T1.setTop (mkF m 13 #[.val (.int (0 : Int32)), .val (.int (1 : Int32)), .val .null, .val (.ref b2_1), .val (.int (4 : Int32)), .val (.int (0 : Int32)), .unset] [])) _
    refine XS.iload X1.here hx rfl (hb hby own_d1_13) rfl ?_
    show Steps p.tables e below (T1.setTop (mkF m 15 #[.val (.int (0 : Int32)), .val (.int (1 : Int32)), .val .null, .val (.ref b2_1), .val (.int (4 : Int32)), .val (.int (0 : Int32)), .unset] [(.int (0 : Int32))])) _
    refine XS.iload X1.here hx rfl (hb hby own_d1_15) rfl ?_
    show Steps p.tables e below (T1.setTop (mkF m 17 #[.val (.int (0 : Int32)), .val (.int (1 : Int32)), .val .null, .val (.ref b2_1), .val (.int (4 : Int32)), .val (.int (0 : Int32)), .unset] [(.int (4 : Int32)), (.int (0 : Int32))])) _
    refine XS.icmpNo X1.here hx rfl (hb hby own_d1_17) rfl (by decide) ?_
    show Steps p.tables e below (T1.setTop (mkF m 20 #[.val (.int (0 : Int32)), .val (.int (1 : Int32)), .val .null, .val (.ref b2_1), .val (.int (4 : Int32)), .val (.int (0 : Int32)), .unset] [])) _
    refine XS.aloadN X1.here hx rfl (hb hby own_d1_20) rfl rfl ?_
    show Steps p.tables e below (T1.setTop (mkF m 21 #[.val (.int (0 : Int32)), .val (.int (1 : Int32)), .val .null, .val (.ref b2_1), .val (.int (4 : Int32)), .val (.int (0 : Int32)), .unset] [(.ref b2_1)])) _
    refine XS.iload X1.here hx rfl (hb hby own_d1_21) rfl ?_
    show Steps p.tables e below (T1.setTop (mkF m 23 #[.val (.int (0 : Int32)), .val (.int (1 : Int32)), .val .null, .val (.ref b2_1), .val (.int (4 : Int32)), .val (.int (0 : Int32)), .unset] [(.int (0 : Int32)), (.ref b2_1)])) _
    refine X1.aaload hx (j := (0 : Int32)) (v := (.ref wPERSISTENT)) Ar2.1 (State.isArrayOf_alike hZ.alike Ar2.2.1) rfl Ar2.2.2 hin3 hat3 (g := (mkF m 23 #[.val (.int (0 : Int32)), .val (.int (1 : Int32)), .val .null, .val (.ref b2_1), .val (.int (4 : Int32)), .val (.int (0 : Int32)), .unset] [(.int (0 : Int32)), (.ref b2_1)])) rfl rfl (hb hby own_d1_23) _ ?_
    show Steps p.tables e below (T1.setTop (mkF m 24 #[.val (.int (0 : Int32)), .val (.int (1 : Int32)), .val .null, .val (.ref b2_1), .val (.int (4 : Int32)), .val (.int (0 : Int32)), .unset] [(.ref wPERSISTENT)])) _
    refine XS.astore X1.here hx rfl (hb hby own_d1_24) rfl rfl (l' := #[.val (.int (0 : Int32)), .val (.int (1 : Int32)), .val .null, .val (.ref b2_1), .val (.int (4 : Int32)), .val (.int (0 : Int32)), .val (.ref wPERSISTENT)]) rfl ?_
    show Steps p.tables e below (T1.setTop (mkF m 26 #[.val (.int (0 : Int32)), .val (.int (1 : Int32)), .val .null, .val (.ref b2_1), .val (.int (4 : Int32)), .val (.int (0 : Int32)), .val (.ref wPERSISTENT)] [])) _
    refine XS.aload X1.here hx rfl (hb hby own_d1_26) rfl rfl ?_
    show Steps p.tables e below (T1.setTop (mkF m 28 #[.val (.int (0 : Int32)), .val (.int (1 : Int32)), .val .null, .val (.ref b2_1), .val (.int (4 : Int32)), .val (.int (0 : Int32)), .val (.ref wPERSISTENT)] [(.ref wPERSISTENT)])) _
    refine st4 _ ?_
    show Steps p.tables e below (T4.setTop (mkF m 31 #[.val (.int (0 : Int32)), .val (.int (1 : Int32)), .val .null, .val (.ref b2_1), .val (.int (4 : Int32)), .val (.int (0 : Int32)), .val (.ref wPERSISTENT)] [(.int (0 : Int32))])) _
    refine XS.iloadN X4.here hx rfl (hb hby own_d1_31) rfl ?_
    show Steps p.tables e below (T4.setTop (mkF m 32 #[.val (.int (0 : Int32)), .val (.int (1 : Int32)), .val .null, .val (.ref b2_1), .val (.int (4 : Int32)), .val (.int (0 : Int32)), .val (.ref wPERSISTENT)] [(.int (0 : Int32)), (.int (0 : Int32))])) _
    refine XS.icmpNo X4.here hx rfl (hb hby own_d1_32) rfl (by decide) ?_
    show Steps p.tables e below (T4.setTop (mkF m 35 #[.val (.int (0 : Int32)), .val (.int (1 : Int32)), .val .null, .val (.ref b2_1), .val (.int (4 : Int32)), .val (.int (0 : Int32)), .val (.ref wPERSISTENT)] [])) _
    refine XS.aload X4.here hx rfl (hb hby own_d1_35) rfl rfl ?_
    show Steps p.tables e below (T4.setTop (mkF m 37 #[.val (.int (0 : Int32)), .val (.int (1 : Int32)), .val .null, .val (.ref b2_1), .val (.int (4 : Int32)), .val (.int (0 : Int32)), .val (.ref wPERSISTENT)] [(.ref wPERSISTENT)])) _
    refine st5 _ ?_
    show Steps p.tables e below (T5.setTop (mkF m 40 #[.val (.int (0 : Int32)), .val (.int (1 : Int32)), .val .null, .val (.ref b2_1), .val (.int (4 : Int32)), .val (.int (0 : Int32)), .val (.ref wPERSISTENT)] [(.int (0 : Int32))])) _
    refine XS.iloadN X5.here hx rfl (hb hby own_d1_40) rfl ?_
    show Steps p.tables e below (T5.setTop (mkF m 41 #[.val (.int (0 : Int32)), .val (.int (1 : Int32)), .val .null, .val (.ref b2_1), .val (.int (4 : Int32)), .val (.int (0 : Int32)), .val (.ref wPERSISTENT)] [(.int (1 : Int32)), (.int (0 : Int32))])) _
    refine XS.icmpYes X5.here hx rfl (pc0 := 41) (pc' := 47) rfl (hb hby own_d1_41) rfl (by decide) (by decide) (by decide) ?_
    show Steps p.tables e below (T5.setTop (mkF m 47 #[.val (.int (0 : Int32)), .val (.int (1 : Int32)), .val .null, .val (.ref b2_1), .val (.int (4 : Int32)), .val (.int (0 : Int32)), .val (.ref wPERSISTENT)] [])) _
    refine XS.iinc X5.here hx rfl (hb hby own_d1_47) rfl (l' := #[.val (.int (0 : Int32)), .val (.int (1 : Int32)), .val .null, .val (.ref b2_1), .val (.int (4 : Int32)), .val (.int (1 : Int32)), .val (.ref wPERSISTENT)]) rfl ?_
    show Steps p.tables e below (T5.setTop (mkF m 50 #[.val (.int (0 : Int32)), .val (.int (1 : Int32)), .val .null, .val (.ref b2_1), .val (.int (4 : Int32)), .val (.int (1 : Int32)), .val (.ref wPERSISTENT)] [])) _
    refine XS.goto X5.here hx rfl (pc0 := 50) (pc' := 13) rfl (hb hby own_d1_50) (by decide) (by decide) ?_
    show Steps p.tables e below (T5.setTop (mkF m 13 #[.val (.int (0 : Int32)), .val (.int (1 : Int32)), .val .null, .val (.ref b2_1), .val (.int (4 : Int32)), .val (.int (1 : Int32)), .val (.ref wPERSISTENT)] [])) _
    refine XS.iload X5.here hx rfl (hb hby own_d1_13) rfl ?_
    show Steps p.tables e below (T5.setTop (mkF m 15 #[.val (.int (0 : Int32)), .val (.int (1 : Int32)), .val .null, .val (.ref b2_1), .val (.int (4 : Int32)), .val (.int (1 : Int32)), .val (.ref wPERSISTENT)] [(.int (1 : Int32))])) _
    refine XS.iload X5.here hx rfl (hb hby own_d1_15) rfl ?_
    show Steps p.tables e below (T5.setTop (mkF m 17 #[.val (.int (0 : Int32)), .val (.int (1 : Int32)), .val .null, .val (.ref b2_1), .val (.int (4 : Int32)), .val (.int (1 : Int32)), .val (.ref wPERSISTENT)] [(.int (4 : Int32)), (.int (1 : Int32))])) _
    refine XS.icmpNo X5.here hx rfl (hb hby own_d1_17) rfl (by decide) ?_
    show Steps p.tables e below (T5.setTop (mkF m 20 #[.val (.int (0 : Int32)), .val (.int (1 : Int32)), .val .null, .val (.ref b2_1), .val (.int (4 : Int32)), .val (.int (1 : Int32)), .val (.ref wPERSISTENT)] [])) _
    refine XS.aloadN X5.here hx rfl (hb hby own_d1_20) rfl rfl ?_
    show Steps p.tables e below (T5.setTop (mkF m 21 #[.val (.int (0 : Int32)), .val (.int (1 : Int32)), .val .null, .val (.ref b2_1), .val (.int (4 : Int32)), .val (.int (1 : Int32)), .val (.ref wPERSISTENT)] [(.ref b2_1)])) _
    refine XS.iload X5.here hx rfl (hb hby own_d1_21) rfl ?_
    show Steps p.tables e below (T5.setTop (mkF m 23 #[.val (.int (0 : Int32)), .val (.int (1 : Int32)), .val .null, .val (.ref b2_1), .val (.int (4 : Int32)), .val (.int (1 : Int32)), .val (.ref wPERSISTENT)] [(.int (1 : Int32)), (.ref b2_1)])) _
    refine X5.aaload hx (j := (1 : Int32)) (v := (.ref wEPHEMERAL)) (by rw [e5]; exact Ar2.1) (State.isArrayOf_alike hZ.alike Ar2.2.1) rfl Ar2.2.2 hin6 hat6 (g := (mkF m 23 #[.val (.int (0 : Int32)), .val (.int (1 : Int32)), .val .null, .val (.ref b2_1), .val (.int (4 : Int32)), .val (.int (1 : Int32)), .val (.ref wPERSISTENT)] [(.int (1 : Int32)), (.ref b2_1)])) rfl rfl (hb hby own_d1_23) _ ?_
    show Steps p.tables e below (T5.setTop (mkF m 24 #[.val (.int (0 : Int32)), .val (.int (1 : Int32)), .val .null, .val (.ref b2_1), .val (.int (4 : Int32)), .val (.int (1 : Int32)), .val (.ref wPERSISTENT)] [(.ref wEPHEMERAL)])) _
    refine XS.astore X5.here hx rfl (hb hby own_d1_24) rfl rfl (l' := #[.val (.int (0 : Int32)), .val (.int (1 : Int32)), .val .null, .val (.ref b2_1), .val (.int (4 : Int32)), .val (.int (1 : Int32)), .val (.ref wEPHEMERAL)]) rfl ?_
    show Steps p.tables e below (T5.setTop (mkF m 26 #[.val (.int (0 : Int32)), .val (.int (1 : Int32)), .val .null, .val (.ref b2_1), .val (.int (4 : Int32)), .val (.int (1 : Int32)), .val (.ref wEPHEMERAL)] [])) _
    refine XS.aload X5.here hx rfl (hb hby own_d1_26) rfl rfl ?_
    show Steps p.tables e below (T5.setTop (mkF m 28 #[.val (.int (0 : Int32)), .val (.int (1 : Int32)), .val .null, .val (.ref b2_1), .val (.int (4 : Int32)), .val (.int (1 : Int32)), .val (.ref wEPHEMERAL)] [(.ref wEPHEMERAL)])) _
    refine st7 _ ?_
    show Steps p.tables e below (T7.setTop (mkF m 31 #[.val (.int (0 : Int32)), .val (.int (1 : Int32)), .val .null, .val (.ref b2_1), .val (.int (4 : Int32)), .val (.int (1 : Int32)), .val (.ref wEPHEMERAL)] [(.int (1 : Int32))])) _
    refine XS.iloadN X7.here hx rfl (hb hby own_d1_31) rfl ?_
    show Steps p.tables e below (T7.setTop (mkF m 32 #[.val (.int (0 : Int32)), .val (.int (1 : Int32)), .val .null, .val (.ref b2_1), .val (.int (4 : Int32)), .val (.int (1 : Int32)), .val (.ref wEPHEMERAL)] [(.int (0 : Int32)), (.int (1 : Int32))])) _
    refine XS.icmpYes X7.here hx rfl (pc0 := 32) (pc' := 47) rfl (hb hby own_d1_32) rfl (by decide) (by decide) (by decide) ?_
    show Steps p.tables e below (T7.setTop (mkF m 47 #[.val (.int (0 : Int32)), .val (.int (1 : Int32)), .val .null, .val (.ref b2_1), .val (.int (4 : Int32)), .val (.int (1 : Int32)), .val (.ref wEPHEMERAL)] [])) _
    refine XS.iinc X7.here hx rfl (hb hby own_d1_47) rfl (l' := #[.val (.int (0 : Int32)), .val (.int (1 : Int32)), .val .null, .val (.ref b2_1), .val (.int (4 : Int32)), .val (.int (2 : Int32)), .val (.ref wEPHEMERAL)]) rfl ?_
    show Steps p.tables e below (T7.setTop (mkF m 50 #[.val (.int (0 : Int32)), .val (.int (1 : Int32)), .val .null, .val (.ref b2_1), .val (.int (4 : Int32)), .val (.int (2 : Int32)), .val (.ref wEPHEMERAL)] [])) _
    refine XS.goto X7.here hx rfl (pc0 := 50) (pc' := 13) rfl (hb hby own_d1_50) (by decide) (by decide) ?_
    show Steps p.tables e below (T7.setTop (mkF m 13 #[.val (.int (0 : Int32)), .val (.int (1 : Int32)), .val .null, .val (.ref b2_1), .val (.int (4 : Int32)), .val (.int (2 : Int32)), .val (.ref wEPHEMERAL)] [])) _
    refine XS.iload X7.here hx rfl (hb hby own_d1_13) rfl ?_
    show Steps p.tables e below (T7.setTop (mkF m 15 #[.val (.int (0 : Int32)), .val (.int (1 : Int32)), .val .null, .val (.ref b2_1), .val (.int (4 : Int32)), .val (.int (2 : Int32)), .val (.ref wEPHEMERAL)] [(.int (2 : Int32))])) _
    refine XS.iload X7.here hx rfl (hb hby own_d1_15) rfl ?_
    show Steps p.tables e below (T7.setTop (mkF m 17 #[.val (.int (0 : Int32)), .val (.int (1 : Int32)), .val .null, .val (.ref b2_1), .val (.int (4 : Int32)), .val (.int (2 : Int32)), .val (.ref wEPHEMERAL)] [(.int (4 : Int32)), (.int (2 : Int32))])) _
    refine XS.icmpNo X7.here hx rfl (hb hby own_d1_17) rfl (by decide) ?_
    show Steps p.tables e below (T7.setTop (mkF m 20 #[.val (.int (0 : Int32)), .val (.int (1 : Int32)), .val .null, .val (.ref b2_1), .val (.int (4 : Int32)), .val (.int (2 : Int32)), .val (.ref wEPHEMERAL)] [])) _
    refine XS.aloadN X7.here hx rfl (hb hby own_d1_20) rfl rfl ?_
    show Steps p.tables e below (T7.setTop (mkF m 21 #[.val (.int (0 : Int32)), .val (.int (1 : Int32)), .val .null, .val (.ref b2_1), .val (.int (4 : Int32)), .val (.int (2 : Int32)), .val (.ref wEPHEMERAL)] [(.ref b2_1)])) _
    refine XS.iload X7.here hx rfl (hb hby own_d1_21) rfl ?_
    show Steps p.tables e below (T7.setTop (mkF m 23 #[.val (.int (0 : Int32)), .val (.int (1 : Int32)), .val .null, .val (.ref b2_1), .val (.int (4 : Int32)), .val (.int (2 : Int32)), .val (.ref wEPHEMERAL)] [(.int (2 : Int32)), (.ref b2_1)])) _
    refine X7.aaload hx (j := (2 : Int32)) (v := (.ref wPERSISTENT_SEQUENTIAL)) (by rw [e7]; exact Ar2.1) (State.isArrayOf_alike hZ.alike Ar2.2.1) rfl Ar2.2.2 hin8 hat8 (g := (mkF m 23 #[.val (.int (0 : Int32)), .val (.int (1 : Int32)), .val .null, .val (.ref b2_1), .val (.int (4 : Int32)), .val (.int (2 : Int32)), .val (.ref wEPHEMERAL)] [(.int (2 : Int32)), (.ref b2_1)])) rfl rfl (hb hby own_d1_23) _ ?_
    show Steps p.tables e below (T7.setTop (mkF m 24 #[.val (.int (0 : Int32)), .val (.int (1 : Int32)), .val .null, .val (.ref b2_1), .val (.int (4 : Int32)), .val (.int (2 : Int32)), .val (.ref wEPHEMERAL)] [(.ref wPERSISTENT_SEQUENTIAL)])) _
    refine XS.astore X7.here hx rfl (hb hby own_d1_24) rfl rfl (l' := #[.val (.int (0 : Int32)), .val (.int (1 : Int32)), .val .null, .val (.ref b2_1), .val (.int (4 : Int32)), .val (.int (2 : Int32)), .val (.ref wPERSISTENT_SEQUENTIAL)]) rfl ?_
    show Steps p.tables e below (T7.setTop (mkF m 26 #[.val (.int (0 : Int32)), .val (.int (1 : Int32)), .val .null, .val (.ref b2_1), .val (.int (4 : Int32)), .val (.int (2 : Int32)), .val (.ref wPERSISTENT_SEQUENTIAL)] [])) _
    refine XS.aload X7.here hx rfl (hb hby own_d1_26) rfl rfl ?_
    show Steps p.tables e below (T7.setTop (mkF m 28 #[.val (.int (0 : Int32)), .val (.int (1 : Int32)), .val .null, .val (.ref b2_1), .val (.int (4 : Int32)), .val (.int (2 : Int32)), .val (.ref wPERSISTENT_SEQUENTIAL)] [(.ref wPERSISTENT_SEQUENTIAL)])) _
    refine st9 _ ?_
    show Steps p.tables e below (T9.setTop (mkF m 31 #[.val (.int (0 : Int32)), .val (.int (1 : Int32)), .val .null, .val (.ref b2_1), .val (.int (4 : Int32)), .val (.int (2 : Int32)), .val (.ref wPERSISTENT_SEQUENTIAL)] [(.int (0 : Int32))])) _
    refine XS.iloadN X9.here hx rfl (hb hby own_d1_31) rfl ?_
    show Steps p.tables e below (T9.setTop (mkF m 32 #[.val (.int (0 : Int32)), .val (.int (1 : Int32)), .val .null, .val (.ref b2_1), .val (.int (4 : Int32)), .val (.int (2 : Int32)), .val (.ref wPERSISTENT_SEQUENTIAL)] [(.int (0 : Int32)), (.int (0 : Int32))])) _
    refine XS.icmpNo X9.here hx rfl (hb hby own_d1_32) rfl (by decide) ?_
    show Steps p.tables e below (T9.setTop (mkF m 35 #[.val (.int (0 : Int32)), .val (.int (1 : Int32)), .val .null, .val (.ref b2_1), .val (.int (4 : Int32)), .val (.int (2 : Int32)), .val (.ref wPERSISTENT_SEQUENTIAL)] [])) _
    refine XS.aload X9.here hx rfl (hb hby own_d1_35) rfl rfl ?_
    show Steps p.tables e below (T9.setTop (mkF m 37 #[.val (.int (0 : Int32)), .val (.int (1 : Int32)), .val .null, .val (.ref b2_1), .val (.int (4 : Int32)), .val (.int (2 : Int32)), .val (.ref wPERSISTENT_SEQUENTIAL)] [(.ref wPERSISTENT_SEQUENTIAL)])) _
    refine st10 _ ?_
    show Steps p.tables e below (T10.setTop (mkF m 40 #[.val (.int (0 : Int32)), .val (.int (1 : Int32)), .val .null, .val (.ref b2_1), .val (.int (4 : Int32)), .val (.int (2 : Int32)), .val (.ref wPERSISTENT_SEQUENTIAL)] [(.int (1 : Int32))])) _
    refine XS.iloadN X10.here hx rfl (hb hby own_d1_40) rfl ?_
    show Steps p.tables e below (T10.setTop (mkF m 41 #[.val (.int (0 : Int32)), .val (.int (1 : Int32)), .val .null, .val (.ref b2_1), .val (.int (4 : Int32)), .val (.int (2 : Int32)), .val (.ref wPERSISTENT_SEQUENTIAL)] [(.int (1 : Int32)), (.int (1 : Int32))])) _
    refine XS.icmpNo X10.here hx rfl (hb hby own_d1_41) rfl (by decide) ?_
    show Steps p.tables e below (T10.setTop (mkF m 44 #[.val (.int (0 : Int32)), .val (.int (1 : Int32)), .val .null, .val (.ref b2_1), .val (.int (4 : Int32)), .val (.int (2 : Int32)), .val (.ref wPERSISTENT_SEQUENTIAL)] [])) _
    refine XS.aload X10.here hx rfl (hb hby own_d1_44) rfl rfl ?_
    show Steps p.tables e below (T10.setTop (mkF m 46 #[.val (.int (0 : Int32)), .val (.int (1 : Int32)), .val .null, .val (.ref b2_1), .val (.int (4 : Int32)), .val (.int (2 : Int32)), .val (.ref wPERSISTENT_SEQUENTIAL)] [(.ref wPERSISTENT_SEQUENTIAL)])) _
    refine XS.astoreN X10.here hx rfl (hb hby own_d1_46) rfl rfl (l' := #[.val (.int (0 : Int32)), .val (.int (1 : Int32)), .val (.ref wPERSISTENT_SEQUENTIAL), .val (.ref b2_1), .val (.int (4 : Int32)), .val (.int (2 : Int32)), .val (.ref wPERSISTENT_SEQUENTIAL)]) rfl ?_
    show Steps p.tables e below (T10.setTop (mkF m 47 #[.val (.int (0 : Int32)), .val (.int (1 : Int32)), .val (.ref wPERSISTENT_SEQUENTIAL), .val (.ref b2_1), .val (.int (4 : Int32)), .val (.int (2 : Int32)), .val (.ref wPERSISTENT_SEQUENTIAL)] [])) _
    refine XS.iinc X10.here hx rfl (hb hby own_d1_47) rfl (l' := #[.val (.int (0 : Int32)), .val (.int (1 : Int32)), .val (.ref wPERSISTENT_SEQUENTIAL), .val (.ref b2_1), .val (.int (4 : Int32)), .val (.int (3 : Int32)), .val (.ref wPERSISTENT_SEQUENTIAL)]) rfl ?_
    show Steps p.tables e below (T10.setTop (mkF m 50 #[.val (.int (0 : Int32)), .val (.int (1 : Int32)), .val (.ref wPERSISTENT_SEQUENTIAL), .val (.ref b2_1), .val (.int (4 : Int32)), .val (.int (3 : Int32)), .val (.ref wPERSISTENT_SEQUENTIAL)] [])) _
    refine XS.goto X10.here hx rfl (pc0 := 50) (pc' := 13) rfl (hb hby own_d1_50) (by decide) (by decide) ?_
    show Steps p.tables e below (T10.setTop (mkF m 13 #[.val (.int (0 : Int32)), .val (.int (1 : Int32)), .val (.ref wPERSISTENT_SEQUENTIAL), .val (.ref b2_1), .val (.int (4 : Int32)), .val (.int (3 : Int32)), .val (.ref wPERSISTENT_SEQUENTIAL)] [])) _
    refine XS.iload X10.here hx rfl (hb hby own_d1_13) rfl ?_
    show Steps p.tables e below (T10.setTop (mkF m 15 #[.val (.int (0 : Int32)), .val (.int (1 : Int32)), .val (.ref wPERSISTENT_SEQUENTIAL), .val (.ref b2_1), .val (.int (4 : Int32)), .val (.int (3 : Int32)), .val (.ref wPERSISTENT_SEQUENTIAL)] [(.int (3 : Int32))])) _
    refine XS.iload X10.here hx rfl (hb hby own_d1_15) rfl ?_
    show Steps p.tables e below (T10.setTop (mkF m 17 #[.val (.int (0 : Int32)), .val (.int (1 : Int32)), .val (.ref wPERSISTENT_SEQUENTIAL), .val (.ref b2_1), .val (.int (4 : Int32)), .val (.int (3 : Int32)), .val (.ref wPERSISTENT_SEQUENTIAL)] [(.int (4 : Int32)), (.int (3 : Int32))])) _
    refine XS.icmpNo X10.here hx rfl (hb hby own_d1_17) rfl (by decide) ?_
    show Steps p.tables e below (T10.setTop (mkF m 20 #[.val (.int (0 : Int32)), .val (.int (1 : Int32)), .val (.ref wPERSISTENT_SEQUENTIAL), .val (.ref b2_1), .val (.int (4 : Int32)), .val (.int (3 : Int32)), .val (.ref wPERSISTENT_SEQUENTIAL)] [])) _
    refine XS.aloadN X10.here hx rfl (hb hby own_d1_20) rfl rfl ?_
    show Steps p.tables e below (T10.setTop (mkF m 21 #[.val (.int (0 : Int32)), .val (.int (1 : Int32)), .val (.ref wPERSISTENT_SEQUENTIAL), .val (.ref b2_1), .val (.int (4 : Int32)), .val (.int (3 : Int32)), .val (.ref wPERSISTENT_SEQUENTIAL)] [(.ref b2_1)])) _
    refine XS.iload X10.here hx rfl (hb hby own_d1_21) rfl ?_
    show Steps p.tables e below (T10.setTop (mkF m 23 #[.val (.int (0 : Int32)), .val (.int (1 : Int32)), .val (.ref wPERSISTENT_SEQUENTIAL), .val (.ref b2_1), .val (.int (4 : Int32)), .val (.int (3 : Int32)), .val (.ref wPERSISTENT_SEQUENTIAL)] [(.int (3 : Int32)), (.ref b2_1)])) _
    refine X10.aaload hx (j := (3 : Int32)) (v := (.ref wEPHEMERAL_SEQUENTIAL)) (by rw [e10]; exact Ar2.1) (State.isArrayOf_alike hZ.alike Ar2.2.1) rfl Ar2.2.2 hin11 hat11 (g := (mkF m 23 #[.val (.int (0 : Int32)), .val (.int (1 : Int32)), .val (.ref wPERSISTENT_SEQUENTIAL), .val (.ref b2_1), .val (.int (4 : Int32)), .val (.int (3 : Int32)), .val (.ref wPERSISTENT_SEQUENTIAL)] [(.int (3 : Int32)), (.ref b2_1)])) rfl rfl (hb hby own_d1_23) _ ?_
    show Steps p.tables e below (T10.setTop (mkF m 24 #[.val (.int (0 : Int32)), .val (.int (1 : Int32)), .val (.ref wPERSISTENT_SEQUENTIAL), .val (.ref b2_1), .val (.int (4 : Int32)), .val (.int (3 : Int32)), .val (.ref wPERSISTENT_SEQUENTIAL)] [(.ref wEPHEMERAL_SEQUENTIAL)])) _
    refine XS.astore X10.here hx rfl (hb hby own_d1_24) rfl rfl (l' := #[.val (.int (0 : Int32)), .val (.int (1 : Int32)), .val (.ref wPERSISTENT_SEQUENTIAL), .val (.ref b2_1), .val (.int (4 : Int32)), .val (.int (3 : Int32)), .val (.ref wEPHEMERAL_SEQUENTIAL)]) rfl ?_
    show Steps p.tables e below (T10.setTop (mkF m 26 #[.val (.int (0 : Int32)), .val (.int (1 : Int32)), .val (.ref wPERSISTENT_SEQUENTIAL), .val (.ref b2_1), .val (.int (4 : Int32)), .val (.int (3 : Int32)), .val (.ref wEPHEMERAL_SEQUENTIAL)] [])) _
    refine XS.aload X10.here hx rfl (hb hby own_d1_26) rfl rfl ?_
    show Steps p.tables e below (T10.setTop (mkF m 28 #[.val (.int (0 : Int32)), .val (.int (1 : Int32)), .val (.ref wPERSISTENT_SEQUENTIAL), .val (.ref b2_1), .val (.int (4 : Int32)), .val (.int (3 : Int32)), .val (.ref wEPHEMERAL_SEQUENTIAL)] [(.ref wEPHEMERAL_SEQUENTIAL)])) _
    refine st12 _ ?_
    show Steps p.tables e below (T12.setTop (mkF m 31 #[.val (.int (0 : Int32)), .val (.int (1 : Int32)), .val (.ref wPERSISTENT_SEQUENTIAL), .val (.ref b2_1), .val (.int (4 : Int32)), .val (.int (3 : Int32)), .val (.ref wEPHEMERAL_SEQUENTIAL)] [(.int (1 : Int32))])) _
    refine XS.iloadN X12.here hx rfl (hb hby own_d1_31) rfl ?_
    show Steps p.tables e below (T12.setTop (mkF m 32 #[.val (.int (0 : Int32)), .val (.int (1 : Int32)), .val (.ref wPERSISTENT_SEQUENTIAL), .val (.ref b2_1), .val (.int (4 : Int32)), .val (.int (3 : Int32)), .val (.ref wEPHEMERAL_SEQUENTIAL)] [(.int (0 : Int32)), (.int (1 : Int32))])) _
    refine XS.icmpYes X12.here hx rfl (pc0 := 32) (pc' := 47) rfl (hb hby own_d1_32) rfl (by decide) (by decide) (by decide) ?_
    show Steps p.tables e below (T12.setTop (mkF m 47 #[.val (.int (0 : Int32)), .val (.int (1 : Int32)), .val (.ref wPERSISTENT_SEQUENTIAL), .val (.ref b2_1), .val (.int (4 : Int32)), .val (.int (3 : Int32)), .val (.ref wEPHEMERAL_SEQUENTIAL)] [])) _
    refine XS.iinc X12.here hx rfl (hb hby own_d1_47) rfl (l' := #[.val (.int (0 : Int32)), .val (.int (1 : Int32)), .val (.ref wPERSISTENT_SEQUENTIAL), .val (.ref b2_1), .val (.int (4 : Int32)), .val (.int (4 : Int32)), .val (.ref wEPHEMERAL_SEQUENTIAL)]) rfl ?_
    show Steps p.tables e below (T12.setTop (mkF m 50 #[.val (.int (0 : Int32)), .val (.int (1 : Int32)), .val (.ref wPERSISTENT_SEQUENTIAL), .val (.ref b2_1), .val (.int (4 : Int32)), .val (.int (4 : Int32)), .val (.ref wEPHEMERAL_SEQUENTIAL)] [])) _
    refine XS.goto X12.here hx rfl (pc0 := 50) (pc' := 13) rfl (hb hby own_d1_50) (by decide) (by decide) ?_
    show Steps p.tables e below (T12.setTop (mkF m 13 #[.val (.int (0 : Int32)), .val (.int (1 : Int32)), .val (.ref wPERSISTENT_SEQUENTIAL), .val (.ref b2_1), .val (.int (4 : Int32)), .val (.int (4 : Int32)), .val (.ref wEPHEMERAL_SEQUENTIAL)] [])) _
    refine XS.iload X12.here hx rfl (hb hby own_d1_13) rfl ?_
    show Steps p.tables e below (T12.setTop (mkF m 15 #[.val (.int (0 : Int32)), .val (.int (1 : Int32)), .val (.ref wPERSISTENT_SEQUENTIAL), .val (.ref b2_1), .val (.int (4 : Int32)), .val (.int (4 : Int32)), .val (.ref wEPHEMERAL_SEQUENTIAL)] [(.int (4 : Int32))])) _
    refine XS.iload X12.here hx rfl (hb hby own_d1_15) rfl ?_
    show Steps p.tables e below (T12.setTop (mkF m 17 #[.val (.int (0 : Int32)), .val (.int (1 : Int32)), .val (.ref wPERSISTENT_SEQUENTIAL), .val (.ref b2_1), .val (.int (4 : Int32)), .val (.int (4 : Int32)), .val (.ref wEPHEMERAL_SEQUENTIAL)] [(.int (4 : Int32)), (.int (4 : Int32))])) _
    refine XS.icmpYes X12.here hx rfl (pc0 := 17) (pc' := 53) rfl (hb hby own_d1_17) rfl (by decide) (by decide) (by decide) ?_
    show Steps p.tables e below (T12.setTop (mkF m 53 #[.val (.int (0 : Int32)), .val (.int (1 : Int32)), .val (.ref wPERSISTENT_SEQUENTIAL), .val (.ref b2_1), .val (.int (4 : Int32)), .val (.int (4 : Int32)), .val (.ref wEPHEMERAL_SEQUENTIAL)] [])) _
    refine XS.aloadN X12.here hx rfl (hb hby own_d1_53) rfl rfl ?_
    show Steps p.tables e below (T12.setTop (mkF m 54 #[.val (.int (0 : Int32)), .val (.int (1 : Int32)), .val (.ref wPERSISTENT_SEQUENTIAL), .val (.ref b2_1), .val (.int (4 : Int32)), .val (.int (4 : Int32)), .val (.ref wEPHEMERAL_SEQUENTIAL)] [(.ref wPERSISTENT_SEQUENTIAL)])) _
    jvm_step X12.here [X12.here.top, hx, (hb hby own_d1_54), X12.method', Bd.returns, Value.isRef, FieldType.isReference]
    first | (intro acts; rw [hr _ acts rfl rfl rfl]) | rw [hr _ _ rfl rfl rfl]
    exact Steps.refl _
  · show OwnQ_own_of_9 Z wPERSISTENT wVALUES wEPHEMERAL wPERSISTENT_SEQUENTIAL wEPHEMERAL_SEQUENTIAL kVALUES h0 n0 _ T12.heap _
    rw [e12]
    exact ⟨rfl, N1, K1⟩
set_option maxRecDepth 65536 in
set_option maxHeartbeats 40000000 in
theorem own_isEphemeral_10 (l : Launch) (Z : State) (a0 : Array Value) (hw : ∀ d ∈ tables_1, d.before a0 Z = true) (ws : List Jvm.Cond) (wPERSISTENT : Addr) (wVALUES : Addr) (wEPHEMERAL : Addr) (wPERSISTENT_SEQUENTIAL : Addr) (wEPHEMERAL_SEQUENTIAL : Addr) (kVALUES : ClassId) (G : OwnG Z wPERSISTENT wVALUES wEPHEMERAL wPERSISTENT_SEQUENTIAL wEPHEMERAL_SEQUENTIAL kVALUES) (h0 : Heap) (n0 : Nat) (O0 : Old Z n0 h0) :
    MetFree l (⟨"com/example/nimble_quorum/nimblequorum/wire/CreateMode", "isEphemeral", "()Z"⟩ : MethodName) (head1 (Jvm.Cond.code (⟨"com/example/nimble_quorum/nimblequorum/wire/CreateMode", "isEphemeral", "()Z"⟩ : MethodName) prog_89_method_7_code 1 (some .boolean) :: ws) ({ frames := 0, cells := 0, slots := 0, locals := 0 } : Room)) (fun a U => a = #[(.ref wPERSISTENT_SEQUENTIAL)] ∧ Z.Warmed39 U.vm ∧ U.heap = h0) (fun _ _ _ _ _ => True) (fun _ U o U' => ∃ v L, o = .returned v ∧ OwnQ (some (.int (0 : Int32))) h0 n0 v U'.heap L ∧ FrameEnd U o U' L ({ frames := 0, cells := 0, slots := 0, locals := 0 } : Room).cells ({ frames := 0, cells := 0, slots := 0, locals := 0 } : Room).slots) := by
  refine MetFree.of_bodySF (plainFor_of_name own_pn_1) hisR ?_
  intro p e s m args below meth c s₁ Bd hml0 hP hK
  obtain ⟨rfl, hZ, hh⟩ := hP
  have hx := Bd.exec
  have hby := Bd.bytes
  have hml : c.maxLocals = 1 := hml0
  have hown : s.vm.findClass "com/example/nimble_quorum/nimblequorum/wire/CreateMode" = some m.cls := findClass_of_methodNamed Bd.named
  have hnm := (name_of_methodNamed Bd.named Bd.method).1
  have X0 : Stand p l e ({ frames := 0, cells := 0, slots := 0, locals := 0 } : Room) s m #[(.ref wPERSISTENT_SEQUENTIAL)] below meth c s₁ [] 0 0 := Stand.of_body Bd
  have e0 : s₁.heap = h0 := by rw [← hh, Bd.state]; rfl
  have N0 := Fr.nil n0
  have pre0 : ∀ t, Steps p.tables e below (s₁.setTop (mkF m 0 #[.val (.ref wPERSISTENT_SEQUENTIAL)] [])) t → Steps p.tables e below (s₁.setTop (entryFrame m #[(.ref wPERSISTENT_SEQUENTIAL)] 1)) t := fun t k => castTop (own_ef_3_R m wPERSISTENT_SEQUENTIAL) k
  obtain ⟨T1, X1, e1, st1⟩ := getF X0 hx hZ hown (host := "") (Or.inl (hw _ (List.mem_of_getElem? (i := 24) rfl))) Via.refl e0 (G.2.2.2.2.2.2.2.2.2.2.2.2.2.1.ext O0.2) (g := (mkF m 1 #[.val (.ref wPERSISTENT_SEQUENTIAL)] [(.ref wPERSISTENT_SEQUENTIAL)])) rfl rfl (hb hby own_d3_1)
  obtain ⟨fs, hr, hrun, hended, hW, hsame⟩ := X1.leave (v := some (.int (0 : Int32))) (fun h => by rw [Bd.returns] at h; cases h)
  refine ⟨_, _, pre0 _ ?_, hrun, hended, _, _, rfl, ?_, ⟨_, rfl⟩, hW, hsame.mono (by decide) (by decide)⟩
  · show Steps p.tables e below (s₁.setTop (mkF m 0 #[.val (.ref wPERSISTENT_SEQUENTIAL)] [])) _
    refine XS.aloadN X0.here hx rfl (hb hby own_d3_0) rfl rfl ?_
    show Steps p.tables e below (s₁.setTop (mkF m 1 #[.val (.ref wPERSISTENT_SEQUENTIAL)] [(.ref wPERSISTENT_SEQUENTIAL)])) _
    refine st1 _ ?_
    show Steps p.tables e below (T1.setTop (mkF m 4 #[.val (.ref wPERSISTENT_SEQUENTIAL)] [(.int (0 : Int32))])) _
    exact retN X1 hx (t := .boolean) Bd.returns (by simp) (hb hby own_d3_4) hr
  · show OwnQ _ h0 n0 _ T1.heap _
    exact ⟨rfl, N0, e1⟩
set_option maxRecDepth 65536 in
set_option maxHeartbeats 40000000 in
theorem own_isSequential_11 (l : Launch) (Z : State) (a0 : Array Value) (hw : ∀ d ∈ tables_1, d.before a0 Z = true) (ws : List Jvm.Cond) (wPERSISTENT : Addr) (wVALUES : Addr) (wEPHEMERAL : Addr) (wPERSISTENT_SEQUENTIAL : Addr) (wEPHEMERAL_SEQUENTIAL : Addr) (kVALUES : ClassId) (G : OwnG Z wPERSISTENT wVALUES wEPHEMERAL wPERSISTENT_SEQUENTIAL wEPHEMERAL_SEQUENTIAL kVALUES) (h0 : Heap) (n0 : Nat) (O0 : Old Z n0 h0) :
    MetFree l (⟨"com/example/nimble_quorum/nimblequorum/wire/CreateMode", "isSequential", "()Z"⟩ : MethodName) (head1 (Jvm.Cond.code (⟨"com/example/nimble_quorum/nimblequorum/wire/CreateMode", "isSequential", "()Z"⟩ : MethodName) prog_89_method_8_code 1 (some .boolean) :: ws) ({ frames := 0, cells := 0, slots := 0, locals := 0 } : Room)) (fun a U => a = #[(.ref wPERSISTENT_SEQUENTIAL)] ∧ Z.Warmed39 U.vm ∧ U.heap = h0) (fun _ _ _ _ _ => True) (fun _ U o U' => ∃ v L, o = .returned v ∧ OwnQ (some (.int (1 : Int32))) h0 n0 v U'.heap L ∧ FrameEnd U o U' L ({ frames := 0, cells := 0, slots := 0, locals := 0 } : Room).cells ({ frames := 0, cells := 0, slots := 0, locals := 0 } : Room).slots) := by
  refine MetFree.of_bodySF (plainFor_of_name own_pn_1) hisR ?_
  intro p e s m args below meth c s₁ Bd hml0 hP hK
  obtain ⟨rfl, hZ, hh⟩ := hP
  have hx := Bd.exec
  have hby := Bd.bytes
  have hml : c.maxLocals = 1 := hml0
  have hown : s.vm.findClass "com/example/nimble_quorum/nimblequorum/wire/CreateMode" = some m.cls := findClass_of_methodNamed Bd.named
  have hnm := (name_of_methodNamed Bd.named Bd.method).1
  have X0 : Stand p l e ({ frames := 0, cells := 0, slots := 0, locals := 0 } : Room) s m #[(.ref wPERSISTENT_SEQUENTIAL)] below meth c s₁ [] 0 0 := Stand.of_body Bd
  have e0 : s₁.heap = h0 := by rw [← hh, Bd.state]; rfl
  have N0 := Fr.nil n0
  have pre0 : ∀ t, Steps p.tables e below (s₁.setTop (mkF m 0 #[.val (.ref wPERSISTENT_SEQUENTIAL)] [])) t → Steps p.tables e below (s₁.setTop (entryFrame m #[(.ref wPERSISTENT_SEQUENTIAL)] 1)) t := fun t k => castTop (own_ef_4_R m wPERSISTENT_SEQUENTIAL) k
  obtain ⟨T1, X1, e1, st1⟩ := getF X0 hx hZ hown (host := "") (Or.inl (hw _ (List.mem_of_getElem? (i := 26) rfl))) Via.refl e0 (G.2.2.2.2.2.2.2.2.2.2.2.2.2.2.1.ext O0.2) (g := (mkF m 1 #[.val (.ref wPERSISTENT_SEQUENTIAL)] [(.ref wPERSISTENT_SEQUENTIAL)])) rfl rfl (hb hby own_d4_1)
  obtain ⟨fs, hr, hrun, hended, hW, hsame⟩ := X1.leave (v := some (.int (1 : Int32))) (fun h => by rw [Bd.returns] at h; cases h)
  refine ⟨_, _, pre0 _ ?_, hrun, hended, _, _, rfl, ?_, ⟨_, rfl⟩, hW, hsame.mono (by decide) (by decide)⟩
  · show Steps p.tables e below (s₁.setTop (mkF m 0 #[.val (.ref wPERSISTENT_SEQUENTIAL)] [])) _
    refine XS.aloadN X0.here hx rfl (hb hby own_d4_0) rfl rfl ?_
    show Steps p.tables e below (s₁.setTop (mkF m 1 #[.val (.ref wPERSISTENT_SEQUENTIAL)] [(.ref wPERSISTENT_SEQUENTIAL)])) _
    refine st1 _ ?_
    show Steps p.tables e below (T1.setTop (mkF m 4 #[.val (.ref wPERSISTENT_SEQUENTIAL)] [(.int (1 : Int32))])) _
    exact retN X1 hx (t := .boolean) Bd.returns (by simp) (hb hby own_d4_4) hr
  · show OwnQ _ h0 n0 _ T1.heap _
    exact ⟨rfl, N0, e1⟩
set_option maxRecDepth 65536 in
set_option maxHeartbeats 40000000 in
theorem own_flags_12 (l : Launch) (Z : State) (a0 : Array Value) (hw : ∀ d ∈ tables_1, d.before a0 Z = true) (ws : List Jvm.Cond) (wPERSISTENT : Addr) (wVALUES : Addr) (wEPHEMERAL : Addr) (wPERSISTENT_SEQUENTIAL : Addr) (wEPHEMERAL_SEQUENTIAL : Addr) (kVALUES : ClassId) (G : OwnG Z wPERSISTENT wVALUES wEPHEMERAL wPERSISTENT_SEQUENTIAL wEPHEMERAL_SEQUENTIAL kVALUES) (h0 : Heap) (n0 : Nat) (O0 : Old Z n0 h0) :
    MetFree l (⟨"com/example/nimble_quorum/nimblequorum/wire/CreateMode", "flags", "()I"⟩ : MethodName) (head1 (Jvm.Cond.code (⟨"com/example/nimble_quorum/nimblequorum/wire/CreateMode", "flags", "()I"⟩ : MethodName) prog_89_method_6_code 1 (some .int) :: ws) ({ frames := 0, cells := 0, slots := 0, locals := 0 } : Room)) (fun a U => a = #[(.ref wPERSISTENT_SEQUENTIAL)] ∧ Z.Warmed39 U.vm ∧ U.heap = h0) (fun _ _ _ _ _ => True) (fun _ U o U' => ∃ v L, o = .returned v ∧ OwnQ (some (.int (2 : Int32))) h0 n0 v U'.heap L ∧ FrameEnd U o U' L ({ frames := 0, cells := 0, slots := 0, locals := 0 } : Room).cells ({ frames := 0, cells := 0, slots := 0, locals := 0 } : Room).slots) := by
  refine MetFree.of_bodySF (plainFor_of_name own_pn_1) hisR ?_
  intro p e s m args below meth c s₁ Bd hml0 hP hK
  obtain ⟨rfl, hZ, hh⟩ := hP
  have hx := Bd.exec
  have hby := Bd.bytes
  have hml : c.maxLocals = 1 := hml0
  have hown : s.vm.findClass "com/example/nimble_quorum/nimblequorum/wire/CreateMode" = some m.cls := findClass_of_methodNamed Bd.named
  have hnm := (name_of_methodNamed Bd.named Bd.method).1
  have X0 : Stand p l e ({ frames := 0, cells := 0, slots := 0, locals := 0 } : Room) s m #[(.ref wPERSISTENT_SEQUENTIAL)] below meth c s₁ [] 0 0 := Stand.of_body Bd
  have e0 : s₁.heap = h0 := by rw [← hh, Bd.state]; rfl
  have N0 := Fr.nil n0
  have pre0 : ∀ t, Steps p.tables e below (s₁.setTop (mkF m 0 #[.val (.ref wPERSISTENT_SEQUENTIAL)] [])) t → Steps p.tables e below (s₁.setTop (entryFrame m #[(.ref wPERSISTENT_SEQUENTIAL)] 1)) t := fun t k => castTop (own_ef_5_R m wPERSISTENT_SEQUENTIAL) k
  obtain ⟨T1, X1, e1, st1⟩ := getF X0 hx hZ hown (host := "") (Or.inl (hw _ (List.mem_of_getElem? (i := 43) rfl))) Via.refl e0 (G.2.2.2.2.2.2.2.2.2.2.2.2.2.2.2.2.2.2.2.2.1.ext O0.2) (g := (mkF m 1 #[.val (.ref wPERSISTENT_SEQUENTIAL)] [(.ref wPERSISTENT_SEQUENTIAL)])) rfl rfl (hb hby own_d5_1)
  obtain ⟨fs, hr, hrun, hended, hW, hsame⟩ := X1.leave (v := some (.int (2 : Int32))) (fun h => by rw [Bd.returns] at h; cases h)
  refine ⟨_, _, pre0 _ ?_, hrun, hended, _, _, rfl, ?_, ⟨_, rfl⟩, hW, hsame.mono (by decide) (by decide)⟩
  · show Steps p.tables e below (s₁.setTop (mkF m 0 #[.val (.ref wPERSISTENT_SEQUENTIAL)] [])) _
    refine XS.aloadN X0.here hx rfl (hb hby own_d5_0) rfl rfl ?_
    show Steps p.tables e below (s₁.setTop (mkF m 1 #[.val (.ref wPERSISTENT_SEQUENTIAL)] [(.ref wPERSISTENT_SEQUENTIAL)])) _
    refine st1 _ ?_
    show Steps p.tables e below (T1.setTop (mkF m 4 #[.val (.ref wPERSISTENT_SEQUENTIAL)] [(.int (2 : Int32))])) _
    exact retI X1 hx Bd.returns (hb hby own_d5_4) hr
  · show OwnQ _ h0 n0 _ T1.heap _
    exact ⟨rfl, N0, e1⟩
set_option maxRecDepth 65536 in
set_option maxHeartbeats 40000000 in
theorem own_law_2 (l : Launch) (Z : State) (a0 : Array Value) (hw : ∀ d ∈ tables_1, d.before a0 Z = true) (ws : List Jvm.Cond) (wPERSISTENT : Addr) (wVALUES : Addr) (wEPHEMERAL : Addr) (wPERSISTENT_SEQUENTIAL : Addr) (wEPHEMERAL_SEQUENTIAL : Addr) (kVALUES : ClassId) (G : OwnG Z wPERSISTENT wVALUES wEPHEMERAL wPERSISTENT_SEQUENTIAL wEPHEMERAL_SEQUENTIAL kVALUES) (h0 : Heap) (n0 : Nat) (O0 : Old Z n0 h0) (p1 : Int32) (h1 : (p1 &&& (1 : Int32)) = (0 : Int32)) (h2 : ¬ ((p1 &&& (2 : Int32)) = (0 : Int32))) :
    MetFree l x (head1 (Jvm.Cond.code x code maxLocals ret :: ws) room_1) (fun a U => a = #[(.int p1)] ∧ Z.Warmed39 U.vm ∧ U.heap = h0) (fun _ _ _ _ _ => True) (fun _ U o U' => ∃ v L, o = .returned v ∧ (v = some (.int 1) ∧ Fr n0 L) ∧ FrameEnd U o U' L room_1.cells room_1.slots) := by
  refine MetFree.of_bodySF (plainFor_of_name own_pn_0) hisR ?_
  intro p e s m args below meth c s₁ Bd hml0 hP hK
  obtain ⟨rfl, hZ, hh⟩ := hP
  have hx := Bd.exec
  have hby := Bd.bytes
  have hml : c.maxLocals = 6 := hml0
  have hown : s.vm.findClass "com/example/nimble_quorum/nimblequorum/wire/CreateModeOfPinLaw" = some m.cls := findClass_of_methodNamed Bd.named
  have hnm := (name_of_methodNamed Bd.named Bd.method).1
  have X0 : Stand p l e room_1 s m #[(.int p1)] below meth c s₁ [] 0 0 := Stand.of_body Bd
  have e0 : s₁.heap = h0 := by rw [← hh, Bd.state]; rfl
  have N0 := Fr.nil n0
  have pre0 : ∀ t, Steps p.tables e below (s₁.setTop (mkF m 0 #[.val (.int p1), .unset, .unset, .unset, .unset, .unset] [])) t → Steps p.tables e below (s₁.setTop (entryFrame m #[(.int p1)] maxLocals)) t := fun t k => castTop (own_ef_0_I m p1) k
  obtain ⟨T1, X1, e1, st1⟩ := getS2 X0 hx hZ hown (host := "") (Or.inl (hw _ (List.mem_of_getElem? (i := 46) rfl))) Via.refl e0 (G.2.2.2.2.2.2.1.ext O0.2) (g := (mkF m 50 #[.val (.int p1), .val (.int (0 : Int32)), .val (.int (1 : Int32)), .unset, .unset, .unset] [])) rfl (hb hby at_50)
  obtain ⟨_, _, ⟨T2, L2, k2, n2⟩, -, X2, ⟨Lc2, hQ2, l2, y2, z2⟩, st2⟩ := Jvm.LawKit.callS X1 hx (y := (⟨"com/example/nimble_quorum/nimblequorum/wire/CreateMode", "of", "(ZZ)Lcom/example/nimble_quorum/nimblequorum/wire/CreateMode;"⟩ : MethodName)) hown (mvT hZ (hw _ (List.mem_of_getElem? (i := 3) rfl))) (mvT hZ (hw _ (List.mem_of_getElem? (i := 4) rfl))) (mvT hZ (hw _ (List.mem_of_getElem? (i := 1) rfl))) (mvT hZ (hw _ (List.mem_of_getElem? (i := 5) rfl))) (by decide) (backOf (W := 0) (own_of_9 l Z a0 hw [] wPERSISTENT wVALUES wEPHEMERAL wPERSISTENT_SEQUENTIAL wEPHEMERAL_SEQUENTIAL kVALUES G h0 n0 O0) hZ (hw _ (List.mem_of_getElem? (i := 5) rfl)) (hw _ (List.mem_of_getElem? (i := 1) rfl)) (by decide) (by decide)) (g := (mkF m 84 #[.val (.int p1), .val (.int (0 : Int32)), .val (.int (1 : Int32)), .val (.ref wPERSISTENT_SEQUENTIAL), .val (.int (2 : Int32)), .unset] [(.int (1 : Int32)), (.int (0 : Int32))])) rfl (by rw [hml]; rfl) (argsL := [(.int (0 : Int32)), (.int (1 : Int32))]) (rest := []) (lenOf own_pd_1 rfl) rfl (by show 2 * 0 + _ ≤ _; exact Nat.le_of_eq rfl) (hb hby at_84) (fun _ _ => ⟨rfl, e1, (by decide : 0 + 1 ≤ _), (by decide : 0 + 4 ≤ _)⟩)
  dsimp only [Pt.U, Pt.locs, Pt.cells, Pt.slots] at X2 l2 y2 z2 st2 hQ2
  subst l2 y2 z2
  obtain ⟨rfl, N2q, Kq2⟩ := hQ2
  have N2 := Fr.app N0 N2q
  have O2 := O0.keep Kq2 all0
  have K2 := (Keep.refl h0 []).trans Kq2 all0
  obtain ⟨cq3, kq3, q3a, q3b, q3c⟩ := isOf hZ rfl (G.2.2.2.2.2.2.2.1.ext O2.2)
  obtain ⟨_, _, ⟨T3, L3, k3, n3⟩, -, X3, ⟨Lc3, hQ3, l3, y3, z3⟩, st3⟩ := X2.virtualBack hx (y := (⟨"com/example/nimble_quorum/nimblequorum/wire/CreateMode", "isEphemeral", "()Z"⟩ : MethodName)) (z := (⟨"com/example/nimble_quorum/nimblequorum/wire/CreateMode", "isEphemeral", "()Z"⟩ : MethodName)) hown (mvT hZ (hw _ (List.mem_of_getElem? (i := 28) rfl))) (mvT hZ (hw _ (List.mem_of_getElem? (i := 29) rfl))) (notFace_of_selects (args := #[]) (mvT hZ (hw _ (List.mem_of_getElem? (i := 31) rfl)))) (mvT hZ (hw _ (List.mem_of_getElem? (i := 31) rfl))) (mvT hZ (hw _ (List.mem_of_getElem? (i := 30) rfl))) (by decide) (backOf (W := 0) (own_isEphemeral_10 l Z a0 hw [] wPERSISTENT wVALUES wEPHEMERAL wPERSISTENT_SEQUENTIAL wEPHEMERAL_SEQUENTIAL kVALUES G T2.heap n0 O2) hZ (hw _ (List.mem_of_getElem? (i := 32) rfl)) (hw _ (List.mem_of_getElem? (i := 1) rfl)) (by decide) (by decide)) q3a q3c (g := (mkF m 104 #[.val (.int p1), .val (.int (0 : Int32)), .val (.int (1 : Int32)), .val (.ref wPERSISTENT_SEQUENTIAL), .val (.int (2 : Int32)), .val (.ref wPERSISTENT_SEQUENTIAL)] [(.ref wPERSISTENT_SEQUENTIAL)])) rfl (by rw [hml]; rfl) (Steps.refl _) (argsL := []) (rest := []) (lenOf own_pd_2 rfl) rfl (by show 2 * 0 + _ ≤ _; exact Nat.le_of_eq rfl) (hb hby at_104) (fun _ _ => ⟨rfl, rfl, (by decide : 1 + 0 ≤ _), (by decide : 4 + 0 ≤ _)⟩)
  dsimp only [Pt.U, Pt.locs, Pt.cells, Pt.slots] at X3 l3 y3 z3 st3 hQ3
  subst l3 y3 z3
  obtain ⟨rfl, N3q, e3⟩ := hQ3
  have N3 := Fr.app N2 N3q
  obtain ⟨cq4, kq4, q4a, q4b, q4c⟩ := isOf hZ e3 (G.2.2.2.2.2.2.2.1.ext O2.2)
  obtain ⟨_, _, ⟨T4, L4, k4, n4⟩, -, X4, ⟨Lc4, hQ4, l4, y4, z4⟩, st4⟩ := X3.virtualBack hx (y := (⟨"com/example/nimble_quorum/nimblequorum/wire/CreateMode", "isSequential", "()Z"⟩ : MethodName)) (z := (⟨"com/example/nimble_quorum/nimblequorum/wire/CreateMode", "isSequential", "()Z"⟩ : MethodName)) hown (mvT hZ (hw _ (List.mem_of_getElem? (i := 33) rfl))) (mvT hZ (hw _ (List.mem_of_getElem? (i := 34) rfl))) (notFace_of_selects (args := #[]) (mvT hZ (hw _ (List.mem_of_getElem? (i := 36) rfl)))) (mvT hZ (hw _ (List.mem_of_getElem? (i := 36) rfl))) (mvT hZ (hw _ (List.mem_of_getElem? (i := 35) rfl))) (by decide) (backOf (W := 0) (own_isSequential_11 l Z a0 hw [] wPERSISTENT wVALUES wEPHEMERAL wPERSISTENT_SEQUENTIAL wEPHEMERAL_SEQUENTIAL kVALUES G T2.heap n0 O2) hZ (hw _ (List.mem_of_getElem? (i := 37) rfl)) (hw _ (List.mem_of_getElem? (i := 1) rfl)) (by decide) (by decide)) q4a q4c (g := (mkF m 113 #[.val (.int p1), .val (.int (0 : Int32)), .val (.int (1 : Int32)), .val (.ref wPERSISTENT_SEQUENTIAL), .val (.int (2 : Int32)), .val (.ref wPERSISTENT_SEQUENTIAL)] [(.ref wPERSISTENT_SEQUENTIAL)])) rfl (by rw [hml]; rfl) (Steps.refl _) (argsL := []) (rest := []) (lenOf own_pd_2 rfl) rfl (by show 2 * 0 + _ ≤ _; exact Nat.le_of_eq rfl) (hb hby at_113) (fun _ _ => ⟨rfl, e3, (by decide : 1 + 0 ≤ _), (by decide : 4 + 0 ≤ _)⟩)
  dsimp only [Pt.U, Pt.locs, Pt.cells, Pt.slots] at X4 l4 y4 z4 st4 hQ4
  subst l4 y4 z4
  obtain ⟨rfl, N4q, e4⟩ := hQ4
  have N4 := Fr.app N3 N4q
  obtain ⟨cq5, kq5, q5a, q5b, q5c⟩ := isOf hZ e4 (G.2.2.2.2.2.2.2.1.ext O2.2)
  obtain ⟨_, _, ⟨T5, L5, k5, n5⟩, -, X5, ⟨Lc5, hQ5, l5, y5, z5⟩, st5⟩ := X4.virtualBack hx (y := (⟨"com/example/nimble_quorum/nimblequorum/wire/CreateMode", "flags", "()I"⟩ : MethodName)) (z := (⟨"com/example/nimble_quorum/nimblequorum/wire/CreateMode", "flags", "()I"⟩ : MethodName)) hown (mvT hZ (hw _ (List.mem_of_getElem? (i := 38) rfl))) (mvT hZ (hw _ (List.mem_of_getElem? (i := 39) rfl))) (notFace_of_selects (args := #[]) (mvT hZ (hw _ (List.mem_of_getElem? (i := 41) rfl)))) (mvT hZ (hw _ (List.mem_of_getElem? (i := 41) rfl))) (mvT hZ (hw _ (List.mem_of_getElem? (i := 40) rfl))) (by decide) (backOf (W := 0) (own_flags_12 l Z a0 hw [] wPERSISTENT wVALUES wEPHEMERAL wPERSISTENT_SEQUENTIAL wEPHEMERAL_SEQUENTIAL kVALUES G T2.heap n0 O2) hZ (hw _ (List.mem_of_getElem? (i := 42) rfl)) (hw _ (List.mem_of_getElem? (i := 1) rfl)) (by decide) (by decide)) q5a q5c (g := (mkF m 122 #[.val (.int p1), .val (.int (0 : Int32)), .val (.int (1 : Int32)), .val (.ref wPERSISTENT_SEQUENTIAL), .val (.int (2 : Int32)), .val (.ref wPERSISTENT_SEQUENTIAL)] [(.ref wPERSISTENT_SEQUENTIAL)])) rfl (by rw [hml]; rfl) (Steps.refl _) (argsL := []) (rest := []) (lenOf own_pd_3 rfl) rfl (by show 2 * 0 + _ ≤ _; exact Nat.le_of_eq rfl) (hb hby at_122) (fun _ _ => ⟨rfl, e4, (by decide : 1 + 0 ≤ _), (by decide : 4 + 0 ≤ _)⟩)
  dsimp only [Pt.U, Pt.locs, Pt.cells, Pt.slots] at X5 l5 y5 z5 st5 hQ5
  subst l5 y5 z5
  obtain ⟨rfl, N5q, e5⟩ := hQ5
  have N5 := Fr.app N4 N5q
  obtain ⟨fs, hr, hrun, hended, hW, hsame⟩ := X5.leave (v := some (.int (1 : Int32))) (fun h => by rw [Bd.returns] at h; cases h)
  refine ⟨_, _, pre0 _ ?_, hrun, hended, _, _, rfl, ?_, ⟨_, rfl⟩, hW, hsame.mono (by decide) (by decide)⟩
  · show Steps p.tables e below (s₁.setTop (mkF m 0 #[.val (.int p1), .unset, .unset, .unset, .unset, .unset] [])) _
    refine XS.iloadN X0.here hx rfl (hb hby at_0) rfl ?_
    show Steps p.tables e below (s₁.setTop (mkF m 1 #[.val (.int p1), .unset, .unset, .unset, .unset, .unset] [(.int p1)])) _
    refine XS.iconst X0.here hx rfl (hb hby at_1) ?_
    show Steps p.tables e below (s₁.setTop (mkF m 2 #[.val (.int p1), .unset, .unset, .unset, .unset, .unset] [(.int (1 : Int32)), (.int p1)])) _
    refine XS.iand X0.here hx rfl (hb hby at_2) rfl ?_
    show Steps p.tables e below (s₁.setTop (mkF m 3 #[.val (.int p1), .unset, .unset, .unset, .unset, .unset] [(.int (p1 &&& (1 : Int32)))])) _
    refine XS.ifYes X0.here hx rfl (pc0 := 3) (pc' := 10) rfl (hb hby at_3) rfl ((if0 _ _).trans (teq (h1 : (p1 &&& (1 : Int32)) = (0 : Int32))).1) (by decide) (by decide) ?_
    show Steps p.tables e below (s₁.setTop (mkF m 10 #[.val (.int p1), .unset, .unset, .unset, .unset, .unset] [])) _
    refine XS.iconst X0.here hx rfl (hb hby at_10) ?_
    show Steps p.tables e below (s₁.setTop (mkF m 11 #[.val (.int p1), .unset, .unset, .unset, .unset, .unset] [(.int (0 : Int32))])) _
    refine XS.istoreN X0.here hx rfl (hb hby at_11) rfl (l' := #[.val (.int p1), .val (.int (0 : Int32)), .unset, .unset, .unset, .unset]) rfl ?_
    show Steps p.tables e below (s₁.setTop (mkF m 12 #[.val (.int p1), .val (.int (0 : Int32)), .unset, .unset, .unset, .unset] [])) _
    refine XS.iloadN X0.here hx rfl (hb hby at_12) rfl ?_
    show Steps p.tables e below (s₁.setTop (mkF m 13 #[.val (.int p1), .val (.int (0 : Int32)), .unset, .unset, .unset, .unset] [(.int p1)])) _
    refine XS.iconst X0.here hx rfl (hb hby at_13) ?_
    show Steps p.tables e below (s₁.setTop (mkF m 14 #[.val (.int p1), .val (.int (0 : Int32)), .unset, .unset, .unset, .unset] [(.int (2 : Int32)), (.int p1)])) _
    refine XS.iand X0.here hx rfl (hb hby at_14) rfl ?_
    show Steps p.tables e below (s₁.setTop (mkF m 15 #[.val (.int p1), .val (.int (0 : Int32)), .unset, .unset, .unset, .unset] [(.int (p1 &&& (2 : Int32)))])) _
    refine XS.ifNo X0.here hx rfl (hb hby at_15) rfl ((if0 _ _).trans (feq (h2 : ¬ ((p1 &&& (2 : Int32)) = (0 : Int32)))).1) ?_
    show Steps p.tables e below (s₁.setTop (mkF m 18 #[.val (.int p1), .val (.int (0 : Int32)), .unset, .unset, .unset, .unset] [])) _
    refine XS.iconst X0.here hx rfl (hb hby at_18) ?_
    show Steps p.tables e below (s₁.setTop (mkF m 19 #[.val (.int p1), .val (.int (0 : Int32)), .unset, .unset, .unset, .unset] [(.int (1 : Int32))])) _
    refine XS.goto X0.here hx rfl (pc0 := 19) (pc' := 23) rfl (hb hby at_19) (by decide) (by decide) ?_
    show Steps p.tables e below (s₁.setTop (mkF m 23 #[.val (.int p1), .val (.int (0 : Int32)), .unset, .unset, .unset, .unset] [(.int (1 : Int32))])) _
    refine XS.istoreN X0.here hx rfl (hb hby at_23) rfl (l' := #[.val (.int p1), .val (.int (0 : Int32)), .val (.int (1 : Int32)), .unset, .unset, .unset]) rfl ?_
    show Steps p.tables e below (s₁.setTop (mkF m 24 #[.val (.int p1), .val (.int (0 : Int32)), .val (.int (1 : Int32)), .unset, .unset, .unset] [])) _
    refine XS.iloadN X0.here hx rfl (hb hby at_24) rfl ?_
    show Steps p.tables e below (s₁.setTop (mkF m 25 #[.val (.int p1), .val (.int (0 : Int32)), .val (.int (1 : Int32)), .unset, .unset, .unset] [(.int (0 : Int32))])) _
    refine XS.ifYes X0.here hx rfl (pc0 := 25) (pc' := 46) rfl (hb hby at_25) rfl (by decide) (by decide) (by decide) ?_
    show Steps p.tables e below (s₁.setTop (mkF m 46 #[.val (.int p1), .val (.int (0 : Int32)), .val (.int (1 : Int32)), .unset, .unset, .unset] [])) _
    refine XS.iloadN X0.here hx rfl (hb hby at_46) rfl ?_
    show Steps p.tables e below (s₁.setTop (mkF m 47 #[.val (.int p1), .val (.int (0 : Int32)), .val (.int (1 : Int32)), .unset, .unset, .unset] [(.int (1 : Int32))])) _
    refine XS.ifNo X0.here hx rfl (hb hby at_47) rfl (by decide) ?_
    show Steps p.tables e below (s₁.setTop (mkF m 50 #[.val (.int p1), .val (.int (0 : Int32)), .val (.int (1 : Int32)), .unset, .unset, .unset] [])) _
    refine st1 _ ?_
    show Steps p.tables e below (T1.setTop (mkF m 53 #[.val (.int p1), .val (.int (0 : Int32)), .val (.int (1 : Int32)), .unset, .unset, .unset] [(.ref wPERSISTENT_SEQUENTIAL)])) _
    refine XS.astoreN X1.here hx rfl (hb hby at_53) rfl rfl (l' := #[.val (.int p1), .val (.int (0 : Int32)), .val (.int (1 : Int32)), .val (.ref wPERSISTENT_SEQUENTIAL), .unset, .unset]) rfl ?_
    show Steps p.tables e below (T1.setTop (mkF m 54 #[.val (.int p1), .val (.int (0 : Int32)), .val (.int (1 : Int32)), .val (.ref wPERSISTENT_SEQUENTIAL), .unset, .unset] [])) _
    refine XS.goto X1.here hx rfl (pc0 := 54) (pc' := 61) rfl (hb hby at_54) (by decide) (by decide) ?_
    show Steps p.tables e below (T1.setTop (mkF m 61 #[.val (.int p1), .val (.int (0 : Int32)), .val (.int (1 : Int32)), .val (.ref wPERSISTENT_SEQUENTIAL), .unset, .unset] [])) _
    refine XS.iloadN X1.here hx rfl (hb hby at_61) rfl ?_
    show Steps p.tables e below (T1.setTop (mkF m 62 #[.val (.int p1), .val (.int (0 : Int32)), .val (.int (1 : Int32)), .val (.ref wPERSISTENT_SEQUENTIAL), .unset, .unset] [(.int (0 : Int32))])) _
    refine XS.ifYes X1.here hx rfl (pc0 := 62) (pc' := 69) rfl (hb hby at_62) rfl (by decide) (by decide) (by decide) ?_
    show Steps p.tables e below (T1.setTop (mkF m 69 #[.val (.int p1), .val (.int (0 : Int32)), .val (.int (1 : Int32)), .val (.ref wPERSISTENT_SEQUENTIAL), .unset, .unset] [])) _
    refine XS.iconst X1.here hx rfl (hb hby at_69) ?_
    show Steps p.tables e below (T1.setTop (mkF m 70 #[.val (.int p1), .val (.int (0 : Int32)), .val (.int (1 : Int32)), .val (.ref wPERSISTENT_SEQUENTIAL), .unset, .unset] [(.int (0 : Int32))])) _
    refine XS.iloadN X1.here hx rfl (hb hby at_70) rfl ?_
    show Steps p.tables e below (T1.setTop (mkF m 71 #[.val (.int p1), .val (.int (0 : Int32)), .val (.int (1 : Int32)), .val (.ref wPERSISTENT_SEQUENTIAL), .unset, .unset] [(.int (1 : Int32)), (.int (0 : Int32))])) _
    refine XS.ifNo X1.here hx rfl (hb hby at_71) rfl (by decide) ?_
    show Steps p.tables e below (T1.setTop (mkF m 74 #[.val (.int p1), .val (.int (0 : Int32)), .val (.int (1 : Int32)), .val (.ref wPERSISTENT_SEQUENTIAL), .unset, .unset] [(.int (0 : Int32))])) _
    refine XS.iconst X1.here hx rfl (hb hby at_74) ?_
    show Steps p.tables e below (T1.setTop (mkF m 75 #[.val (.int p1), .val (.int (0 : Int32)), .val (.int (1 : Int32)), .val (.ref wPERSISTENT_SEQUENTIAL), .unset, .unset] [(.int (2 : Int32)), (.int (0 : Int32))])) _
    refine XS.goto X1.here hx rfl (pc0 := 75) (pc' := 79) rfl (hb hby at_75) (by decide) (by decide) ?_
    show Steps p.tables e below (T1.setTop (mkF m 79 #[.val (.int p1), .val (.int (0 : Int32)), .val (.int (1 : Int32)), .val (.ref wPERSISTENT_SEQUENTIAL), .unset, .unset] [(.int (2 : Int32)), (.int (0 : Int32))])) _
    refine XS.iadd X1.here hx rfl (hb hby at_79) rfl ?_
    show Steps p.tables e below (T1.setTop (mkF m 80 #[.val (.int p1), .val (.int (0 : Int32)), .val (.int (1 : Int32)), .val (.ref wPERSISTENT_SEQUENTIAL), .unset, .unset] [(.int ((0 : Int32) + (2 : Int32)))])) _
    refine castTop (g' := (mkF m 80 #[.val (.int p1), .val (.int (0 : Int32)), .val (.int (1 : Int32)), .val (.ref wPERSISTENT_SEQUENTIAL), .unset, .unset] [(.int (2 : Int32))])) (by rw [show ((0 : Int32) + (2 : Int32)) = (2 : Int32) from by decide]) ?_
    show Steps p.tables e below (T1.setTop (mkF m 80 #[.val (.int p1), .val (.int (0 : Int32)), .val (.int (1 : Int32)), .val (.ref wPERSISTENT_SEQUENTIAL), .unset, .unset] [(.int (2 : Int32))])) _
    refine XS.istore X1.here hx rfl (hb hby at_80) rfl (l' := #[.val (.int p1), .val (.int (0 : Int32)), .val (.int (1 : Int32)), .val (.ref wPERSISTENT_SEQUENTIAL), .val (.int (2 : Int32)), .unset]) rfl ?_
    show Steps p.tables e below (T1.setTop (mkF m 82 #[.val (.int p1), .val (.int (0 : Int32)), .val (.int (1 : Int32)), .val (.ref wPERSISTENT_SEQUENTIAL), .val (.int (2 : Int32)), .unset] [])) _
    refine XS.iloadN X1.here hx rfl (hb hby at_82) rfl ?_
    show Steps p.tables e below (T1.setTop (mkF m 83 #[.val (.int p1), .val (.int (0 : Int32)), .val (.int (1 : Int32)), .val (.ref wPERSISTENT_SEQUENTIAL), .val (.int (2 : Int32)), .unset] [(.int (0 : Int32))])) _
    refine XS.iloadN X1.here hx rfl (hb hby at_83) rfl ?_
    show Steps p.tables e below (T1.setTop (mkF m 84 #[.val (.int p1), .val (.int (0 : Int32)), .val (.int (1 : Int32)), .val (.ref wPERSISTENT_SEQUENTIAL), .val (.int (2 : Int32)), .unset] [(.int (1 : Int32)), (.int (0 : Int32))])) _
    refine st2 _ ?_
    show Steps p.tables e below (T2.setTop (mkF m 87 #[.val (.int p1), .val (.int (0 : Int32)), .val (.int (1 : Int32)), .val (.ref wPERSISTENT_SEQUENTIAL), .val (.int (2 : Int32)), .unset] [(.ref wPERSISTENT_SEQUENTIAL)])) _
    refine XS.astore X2.here hx rfl (hb hby at_87) rfl rfl (l' := #[.val (.int p1), .val (.int (0 : Int32)), .val (.int (1 : Int32)), .val (.ref wPERSISTENT_SEQUENTIAL), .val (.int (2 : Int32)), .val (.ref wPERSISTENT_SEQUENTIAL)]) rfl ?_
    show Steps p.tables e below (T2.setTop (mkF m 89 #[.val (.int p1), .val (.int (0 : Int32)), .val (.int (1 : Int32)), .val (.ref wPERSISTENT_SEQUENTIAL), .val (.int (2 : Int32)), .val (.ref wPERSISTENT_SEQUENTIAL)] [])) _
    refine XS.aload X2.here hx rfl (hb hby at_89) rfl rfl ?_
    show Steps p.tables e below (T2.setTop (mkF m 91 #[.val (.int p1), .val (.int (0 : Int32)), .val (.int (1 : Int32)), .val (.ref wPERSISTENT_SEQUENTIAL), .val (.int (2 : Int32)), .val (.ref wPERSISTENT_SEQUENTIAL)] [(.ref wPERSISTENT_SEQUENTIAL)])) _
    refine XS.ifnonnullYes X2.here hx rfl (pc0 := 91) (pc' := 96) rfl (hb hby at_91) rfl (by decide) (by decide) ?_
    show Steps p.tables e below (T2.setTop (mkF m 96 #[.val (.int p1), .val (.int (0 : Int32)), .val (.int (1 : Int32)), .val (.ref wPERSISTENT_SEQUENTIAL), .val (.int (2 : Int32)), .val (.ref wPERSISTENT_SEQUENTIAL)] [])) _
    refine XS.aload X2.here hx rfl (hb hby at_96) rfl rfl ?_
    show Steps p.tables e below (T2.setTop (mkF m 98 #[.val (.int p1), .val (.int (0 : Int32)), .val (.int (1 : Int32)), .val (.ref wPERSISTENT_SEQUENTIAL), .val (.int (2 : Int32)), .val (.ref wPERSISTENT_SEQUENTIAL)] [(.ref wPERSISTENT_SEQUENTIAL)])) _
    refine XS.aloadN X2.here hx rfl (hb hby at_98) rfl rfl ?_
    show Steps p.tables e below (T2.setTop (mkF m 99 #[.val (.int p1), .val (.int (0 : Int32)), .val (.int (1 : Int32)), .val (.ref wPERSISTENT_SEQUENTIAL), .val (.int (2 : Int32)), .val (.ref wPERSISTENT_SEQUENTIAL)] [(.ref wPERSISTENT_SEQUENTIAL), (.ref wPERSISTENT_SEQUENTIAL)])) _
    refine Jvm.RoadKit.acmp (g := (mkF m 99 #[.val (.int p1), .val (.int (0 : Int32)), .val (.int (1 : Int32)), .val (.ref wPERSISTENT_SEQUENTIAL), .val (.int (2 : Int32)), .val (.ref wPERSISTENT_SEQUENTIAL)] [(.ref wPERSISTENT_SEQUENTIAL), (.ref wPERSISTENT_SEQUENTIAL)])) X2 hx rfl rfl rfl (pc0 := 99) (pc' := 102) (same := true) rfl (hb hby at_99) rfl (decide_eq_true rfl) (by decide) (by decide) ?_
    show Steps p.tables e below (T2.setTop (mkF m 102 #[.val (.int p1), .val (.int (0 : Int32)), .val (.int (1 : Int32)), .val (.ref wPERSISTENT_SEQUENTIAL), .val (.int (2 : Int32)), .val (.ref wPERSISTENT_SEQUENTIAL)] [])) _
    refine XS.aload X2.here hx rfl (hb hby at_102) rfl rfl ?_
    show Steps p.tables e below (T2.setTop (mkF m 104 #[.val (.int p1), .val (.int (0 : Int32)), .val (.int (1 : Int32)), .val (.ref wPERSISTENT_SEQUENTIAL), .val (.int (2 : Int32)), .val (.ref wPERSISTENT_SEQUENTIAL)] [(.ref wPERSISTENT_SEQUENTIAL)])) _
    refine st3.trans ?_
    show Steps p.tables e below (T3.setTop (mkF m 107 #[.val (.int p1), .val (.int (0 : Int32)), .val (.int (1 : Int32)), .val (.ref wPERSISTENT_SEQUENTIAL), .val (.int (2 : Int32)), .val (.ref wPERSISTENT_SEQUENTIAL)] [(.int (0 : Int32))])) _
    refine XS.iloadN X3.here hx rfl (hb hby at_107) rfl ?_
    show Steps p.tables e below (T3.setTop (mkF m 108 #[.val (.int p1), .val (.int (0 : Int32)), .val (.int (1 : Int32)), .val (.ref wPERSISTENT_SEQUENTIAL), .val (.int (2 : Int32)), .val (.ref wPERSISTENT_SEQUENTIAL)] [(.int (0 : Int32)), (.int (0 : Int32))])) _
    refine XS.icmpNo X3.here hx rfl (hb hby at_108) rfl (by decide) ?_
    show Steps p.tables e below (T3.setTop (mkF m 111 #[.val (.int p1), .val (.int (0 : Int32)), .val (.int (1 : Int32)), .val (.ref wPERSISTENT_SEQUENTIAL), .val (.int (2 : Int32)), .val (.ref wPERSISTENT_SEQUENTIAL)] [])) _
    refine XS.aload X3.here hx rfl (hb hby at_111) rfl rfl ?_
    show Steps p.tables e below (T3.setTop (mkF m 113 #[.val (.int p1), .val (.int (0 : Int32)), .val (.int (1 : Int32)), .val (.ref wPERSISTENT_SEQUENTIAL), .val (.int (2 : Int32)), .val (.ref wPERSISTENT_SEQUENTIAL)] [(.ref wPERSISTENT_SEQUENTIAL)])) _
    refine st4.trans ?_
    show Steps p.tables e below (T4.setTop (mkF m 116 #[.val (.int p1), .val (.int (0 : Int32)), .val (.int (1 : Int32)), .val (.ref wPERSISTENT_SEQUENTIAL), .val (.int (2 : Int32)), .val (.ref wPERSISTENT_SEQUENTIAL)] [(.int (1 : Int32))])) _
    refine XS.iloadN X4.here hx rfl (hb hby at_116) rfl ?_
    show Steps p.tables e below (T4.setTop (mkF m 117 #[.val (.int p1), .val (.int (0 : Int32)), .val (.int (1 : Int32)), .val (.ref wPERSISTENT_SEQUENTIAL), .val (.int (2 : Int32)), .val (.ref wPERSISTENT_SEQUENTIAL)] [(.int (1 : Int32)), (.int (1 : Int32))])) _
    refine XS.icmpNo X4.here hx rfl (hb hby at_117) rfl (by decide) ?_
    show Steps p.tables e below (T4.setTop (mkF m 120 #[.val (.int p1), .val (.int (0 : Int32)), .val (.int (1 : Int32)), .val (.ref wPERSISTENT_SEQUENTIAL), .val (.int (2 : Int32)), .val (.ref wPERSISTENT_SEQUENTIAL)] [])) _
    refine XS.aload X4.here hx rfl (hb hby at_120) rfl rfl ?_
    show Steps p.tables e below (T4.setTop (mkF m 122 #[.val (.int p1), .val (.int (0 : Int32)), .val (.int (1 : Int32)), .val (.ref wPERSISTENT_SEQUENTIAL), .val (.int (2 : Int32)), .val (.ref wPERSISTENT_SEQUENTIAL)] [(.ref wPERSISTENT_SEQUENTIAL)])) _
    refine st5.trans ?_
    show Steps p.tables e below (T5.setTop (mkF m 125 #[.val (.int p1), .val (.int (0 : Int32)), .val (.int (1 : Int32)), .val (.ref wPERSISTENT_SEQUENTIAL), .val (.int (2 : Int32)), .val (.ref wPERSISTENT_SEQUENTIAL)] [(.int (2 : Int32))])) _
    refine XS.iload X5.here hx rfl (hb hby at_125) rfl ?_
    show Steps p.tables e below (T5.setTop (mkF m 127 #[.val (.int p1), .val (.int (0 : Int32)), .val (.int (1 : Int32)), .val (.ref wPERSISTENT_SEQUENTIAL), .val (.int (2 : Int32)), .val (.ref wPERSISTENT_SEQUENTIAL)] [(.int (2 : Int32)), (.int (2 : Int32))])) _
    refine XS.icmpNo X5.here hx rfl (hb hby at_127) rfl (by decide) ?_
    show Steps p.tables e below (T5.setTop (mkF m 130 #[.val (.int p1), .val (.int (0 : Int32)), .val (.int (1 : Int32)), .val (.ref wPERSISTENT_SEQUENTIAL), .val (.int (2 : Int32)), .val (.ref wPERSISTENT_SEQUENTIAL)] [])) _
    refine XS.iconst X5.here hx rfl (hb hby at_130) ?_
    show Steps p.tables e below (T5.setTop (mkF m 131 #[.val (.int p1), .val (.int (0 : Int32)), .val (.int (1 : Int32)), .val (.ref wPERSISTENT_SEQUENTIAL), .val (.int (2 : Int32)), .val (.ref wPERSISTENT_SEQUENTIAL)] [(.int (1 : Int32))])) _
    refine XS.goto X5.here hx rfl (pc0 := 131) (pc' := 135) rfl (hb hby at_131) (by decide) (by decide) ?_
    show Steps p.tables e below (T5.setTop (mkF m 135 #[.val (.int p1), .val (.int (0 : Int32)), .val (.int (1 : Int32)), .val (.ref wPERSISTENT_SEQUENTIAL), .val (.int (2 : Int32)), .val (.ref wPERSISTENT_SEQUENTIAL)] [(.int (1 : Int32))])) _
    exact retN X5 hx (t := .boolean) Bd.returns (by simp) (hb hby at_135) hr
  · exact ⟨rfl, N5⟩
def OwnQ_own_of_13 (Z : State) (wPERSISTENT : Addr) (wVALUES : Addr) (wEPHEMERAL : Addr) (wPERSISTENT_SEQUENTIAL : Addr) (wEPHEMERAL_SEQUENTIAL : Addr) (kVALUES : ClassId) (h0 : Heap) (n0 : Nat) (v : Option Value) (h : Heap) (L : List Loc) : Prop :=
  v = some (.ref wEPHEMERAL_SEQUENTIAL) ∧ Fr n0 L ∧ Keep h0 h []
set_option maxRecDepth 65536 in
set_option maxHeartbeats 40000000 in
theorem own_of_13 (l : Launch) (Z : State) (a0 : Array Value) (hw : ∀ d ∈ tables_1, d.before a0 Z = true) (ws : List Jvm.Cond) (wPERSISTENT : Addr) (wVALUES : Addr) (wEPHEMERAL : Addr) (wPERSISTENT_SEQUENTIAL : Addr) (wEPHEMERAL_SEQUENTIAL : Addr) (kVALUES : ClassId) (G : OwnG Z wPERSISTENT wVALUES wEPHEMERAL wPERSISTENT_SEQUENTIAL wEPHEMERAL_SEQUENTIAL kVALUES) (h0 : Heap) (n0 : Nat) (O0 : Old Z n0 h0) :
    MetFree l (⟨"com/example/nimble_quorum/nimblequorum/wire/CreateMode", "of", "(ZZ)Lcom/example/nimble_quorum/nimblequorum/wire/CreateMode;"⟩ : MethodName) (head1 (Jvm.Cond.code (⟨"com/example/nimble_quorum/nimblequorum/wire/CreateMode", "of", "(ZZ)Lcom/example/nimble_quorum/nimblequorum/wire/CreateMode;"⟩ : MethodName) prog_89_method_5_code 7 (some (.object "com/example/nimble_quorum/nimblequorum/wire/CreateMode")) :: ws) ({ frames := 2, cells := 1, slots := 4, locals := 25 } : Room)) (fun a U => a = #[(.int (1 : Int32)), (.int (1 : Int32))] ∧ Z.Warmed39 U.vm ∧ U.heap = h0) (fun _ _ _ _ _ => True) (fun _ U o U' => ∃ v L, o = .returned v ∧ OwnQ_own_of_13 Z wPERSISTENT wVALUES wEPHEMERAL wPERSISTENT_SEQUENTIAL wEPHEMERAL_SEQUENTIAL kVALUES h0 n0 v U'.heap L ∧ FrameEnd U o U' L ({ frames := 2, cells := 1, slots := 4, locals := 25 } : Room).cells ({ frames := 2, cells := 1, slots := 4, locals := 25 } : Room).slots) := by
  refine MetFree.of_bodySF (plainFor_of_name own_pn_1) hisR ?_
  intro p e s m args below meth c s₁ Bd hml0 hP hK
  obtain ⟨rfl, hZ, hh⟩ := hP
  have hx := Bd.exec
  have hby := Bd.bytes
  have hml : c.maxLocals = 7 := hml0
  have hown : s.vm.findClass "com/example/nimble_quorum/nimblequorum/wire/CreateMode" = some m.cls := findClass_of_methodNamed Bd.named
  have hnm := (name_of_methodNamed Bd.named Bd.method).1
  have X0 : Stand p l e ({ frames := 2, cells := 1, slots := 4, locals := 25 } : Room) s m #[(.int (1 : Int32)), (.int (1 : Int32))] below meth c s₁ [] 0 0 := Stand.of_body Bd
  have e0 : s₁.heap = h0 := by rw [← hh, Bd.state]; rfl
  have N0 := Fr.nil n0
  have pre0 : ∀ t, Steps p.tables e below (s₁.setTop (mkF m 0 #[.val (.int (1 : Int32)), .val (.int (1 : Int32)), .unset, .unset, .unset, .unset, .unset] [])) t → Steps p.tables e below (s₁.setTop (entryFrame m #[(.int (1 : Int32)), (.int (1 : Int32))] 7)) t := fun t k => castTop (own_ef_1_II m (1 : Int32) (1 : Int32)) k
  obtain ⟨_, _, ⟨T1, L1, k1, n1⟩, -, X1, ⟨Lc1, hQ1, l1, y1, z1⟩, st1⟩ := Jvm.LawKit.callS X0 hx (y := (⟨"com/example/nimble_quorum/nimblequorum/wire/CreateMode", "values", "()[Lcom/example/nimble_quorum/nimblequorum/wire/CreateMode;"⟩ : MethodName)) hown (mvT hZ (hw _ (List.mem_of_getElem? (i := 6) rfl))) (mvT hZ (hw _ (List.mem_of_getElem? (i := 7) rfl))) (mvT hZ (hw _ (List.mem_of_getElem? (i := 1) rfl))) (mvT hZ (hw _ (List.mem_of_getElem? (i := 8) rfl))) (by decide) (backOf (W := 0) (own_values_1 l Z a0 hw [] wPERSISTENT wVALUES wEPHEMERAL wPERSISTENT_SEQUENTIAL wEPHEMERAL_SEQUENTIAL kVALUES G h0 n0 O0) hZ (hw _ (List.mem_of_getElem? (i := 8) rfl)) (hw _ (List.mem_of_getElem? (i := 1) rfl)) (by decide) (by decide)) (g := (mkF m 2 #[.val (.int (1 : Int32)), .val (.int (1 : Int32)), .val .null, .unset, .unset, .unset, .unset] [])) rfl (by rw [hml]; rfl) (argsL := []) (rest := []) (lenOf own_pd_0 rfl) rfl (by show 2 * 0 + _ ≤ _; exact Nat.le_of_eq rfl) (hb hby own_d1_2) (fun _ _ => ⟨rfl, e0, (by decide : 0 + 1 ≤ _), (by decide : 0 + 4 ≤ _)⟩)
  dsimp only [Pt.U, Pt.locs, Pt.cells, Pt.slots] at X1 l1 y1 z1 st1 hQ1
  subst l1 y1 z1
  obtain ⟨b2_1, rfl, N1q, Kq1, ge_b2_1, sq_b2_1, q1_V_b2, q1_E_b2⟩ := hQ1
  have N1 := Fr.app N0 N1q
  have sz_b2_1 : h0.size ≤ b2_1 := Nat.le_trans (Keep.refl h0 []).1 sq_b2_1
  have O1 := O0.keep Kq1 all0
  have K1 := (Keep.refl h0 []).trans Kq1 all0
  obtain ⟨cl2, Ar2, qk2, Sz2, Nn2, Hs2, Gs2⟩ := id (q1_V_b2)
  have hin3 : ¬ ((0 : Int32) < 0 ∨ cl2.slots.size ≤ ((0 : Int32)).toNatClampNeg) := inb_of Sz2 ⟨by decide, by decide⟩
  have hat3 : cl2.slots[((0 : Int32)).toNatClampNeg]? = some (.ref wPERSISTENT) := Hs2.at hin3 rfl
  obtain ⟨T4, X4, e4, st4⟩ := getF X1 hx hZ hown (host := "") (Or.inl (hw _ (List.mem_of_getElem? (i := 24) rfl))) Via.refl rfl (G.2.2.2.2.2.2.2.2.2.2.1.ext O1.2) (g := (mkF m 28 #[.val (.int (1 : Int32)), .val (.int (1 : Int32)), .val .null, .val (.ref b2_1), .val (.int (4 : Int32)), .val (.int (0 : Int32)), .val (.ref wPERSISTENT)] [(.ref wPERSISTENT)])) rfl rfl (hb hby own_d1_28)
  have hin5 : ¬ ((1 : Int32) < 0 ∨ cl2.slots.size ≤ ((1 : Int32)).toNatClampNeg) := inb_of Sz2 ⟨by decide, by decide⟩
  have hat5 : cl2.slots[((1 : Int32)).toNatClampNeg]? = some (.ref wEPHEMERAL) := Hs2.at hin5 rfl
  obtain ⟨T6, X6, e6, st6⟩ := getF X4 hx hZ hown (host := "") (Or.inl (hw _ (List.mem_of_getElem? (i := 24) rfl))) Via.refl e4 (G.2.2.2.2.2.2.2.2.2.2.2.2.1.ext O1.2) (g := (mkF m 28 #[.val (.int (1 : Int32)), .val (.int (1 : Int32)), .val .null, .val (.ref b2_1), .val (.int (4 : Int32)), .val (.int (1 : Int32)), .val (.ref wEPHEMERAL)] [(.ref wEPHEMERAL)])) rfl rfl (hb hby own_d1_28)
  obtain ⟨T7, X7, e7, st7⟩ := getF X6 hx hZ hown (host := "") (Or.inl (hw _ (List.mem_of_getElem? (i := 26) rfl))) Via.refl e6 (G.2.2.2.2.2.2.2.2.2.2.2.2.2.2.2.2.2.1.ext O1.2) (g := (mkF m 37 #[.val (.int (1 : Int32)), .val (.int (1 : Int32)), .val .null, .val (.ref b2_1), .val (.int (4 : Int32)), .val (.int (1 : Int32)), .val (.ref wEPHEMERAL)] [(.ref wEPHEMERAL)])) rfl rfl (hb hby own_d1_37)
  have hin8 : ¬ ((2 : Int32) < 0 ∨ cl2.slots.size ≤ ((2 : Int32)).toNatClampNeg) := inb_of Sz2 ⟨by decide, by decide⟩
  have hat8 : cl2.slots[((2 : Int32)).toNatClampNeg]? = some (.ref wPERSISTENT_SEQUENTIAL) := Hs2.at hin8 rfl
  obtain ⟨T9, X9, e9, st9⟩ := getF X7 hx hZ hown (host := "") (Or.inl (hw _ (List.mem_of_getElem? (i := 24) rfl))) Via.refl e7 (G.2.2.2.2.2.2.2.2.2.2.2.2.2.1.ext O1.2) (g := (mkF m 28 #[.val (.int (1 : Int32)), .val (.int (1 : Int32)), .val .null, .val (.ref b2_1), .val (.int (4 : Int32)), .val (.int (2 : Int32)), .val (.ref wPERSISTENT_SEQUENTIAL)] [(.ref wPERSISTENT_SEQUENTIAL)])) rfl rfl (hb hby own_d1_28)
  have hin10 : ¬ ((3 : Int32) < 0 ∨ cl2.slots.size ≤ ((3 : Int32)).toNatClampNeg) := inb_of Sz2 ⟨by decide, by decide⟩
  have hat10 : cl2.slots[((3 : Int32)).toNatClampNeg]? = some (.ref wEPHEMERAL_SEQUENTIAL) := Hs2.at hin10 rfl
  obtain ⟨T11, X11, e11, st11⟩ := getF X9 hx hZ hown (host := "") (Or.inl (hw _ (List.mem_of_getElem? (i := 24) rfl))) Via.refl e9 (G.2.2.2.2.2.2.2.2.2.2.2.2.2.2.2.1.ext O1.2) (g := (mkF m 28 #[.val (.int (1 : Int32)), .val (.int (1 : Int32)), .val .null, .val (.ref b2_1), .val (.int (4 : Int32)), .val (.int (3 : Int32)), .val (.ref wEPHEMERAL_SEQUENTIAL)] [(.ref wEPHEMERAL_SEQUENTIAL)])) rfl rfl (hb hby own_d1_28)
  obtain ⟨T12, X12, e12, st12⟩ := getF X11 hx hZ hown (host := "") (Or.inl (hw _ (List.mem_of_getElem? (i := 26) rfl))) Via.refl e11 (G.2.2.2.2.2.2.2.2.2.2.2.2.2.2.2.2.2.2.1.ext O1.2) (g := (mkF m 37 #[.val (.int (1 : Int32)), .val (.int (1 : Int32)), .val .null, .val (.ref b2_1), .val (.int (4 : Int32)), .val (.int (3 : Int32)), .val (.ref wEPHEMERAL_SEQUENTIAL)] [(.ref wEPHEMERAL_SEQUENTIAL)])) rfl rfl (hb hby own_d1_37)
  obtain ⟨fs, hr, hrun, hended, hW, hsame⟩ := X12.leave (v := some (.ref wEPHEMERAL_SEQUENTIAL)) (fun h => by rw [Bd.returns] at h; cases h)
  refine ⟨_, _, pre0 _ ?_, hrun, hended, _, _, rfl, ?_, ⟨_, rfl⟩, hW, hsame.mono (by decide) (by decide)⟩
  · show Steps p.tables e below (s₁.setTop (mkF m 0 #[.val (.int (1 : Int32)), .val (.int (1 : Int32)), .unset, .unset, .unset, .unset, .unset] [])) _
    refine XS.aconstNull X0.here hx rfl (hb hby own_d1_0) ?_
    show Steps p.tables e below (s₁.setTop (mkF m 1 #[.val (.int (1 : Int32)), .val (.int (1 : Int32)), .unset, .unset, .unset, .unset, .unset] [.null])) _
    refine XS.astoreN X0.here hx rfl (hb hby own_d1_1) rfl rfl (l' := #[.val (.int (1 : Int32)), .val (.int (1 : Int32)), .val .null, .unset, .unset, .unset, .unset]) rfl ?_
    show Steps p.tables e below (s₁.setTop (mkF m 2 #[.val (.int (1 : Int32)), .val (.int (1 : Int32)), .val .null, .unset, .unset, .unset, .unset] [])) _
    refine st1 _ ?_
    show Steps p.tables e below (T1.setTop (mkF m 5 #[.val (.int (1 : Int32)), .val (.int (1 : Int32)), .val .null, .unset, .unset, .unset, .unset] [(.ref b2_1)])) _
    refine XS.astoreN X1.here hx rfl (hb hby own_d1_5) rfl rfl (l' := #[.val (.int (1 : Int32)), .val (.int (1 : Int32)), .val .null, .val (.ref b2_1), .unset, .unset, .unset]) rfl ?_
    show Steps p.tables e below (T1.setTop (mkF m 6 #[.val (.int (1 : Int32)), .val (.int (1 : Int32)), .val .null, .val (.ref b2_1), .unset, .unset, .unset] [])) _
    refine XS.aloadN X1.here hx rfl (hb hby own_d1_6) rfl rfl ?_
    show Steps p.tables e below (T1.setTop (mkF m 7 #[.val (.int (1 : Int32)), .val (.int (1 : Int32)), .val .null, .val (.ref b2_1), .unset, .unset, .unset] [(.ref b2_1)])) _
    refine X1.arraylength hx Ar2.1 (State.isArrayOf_alike hZ.alike Ar2.2.1) (g := (mkF m 7 #[.val (.int (1 : Int32)), .val (.int (1 : Int32)), .val .null, .val (.ref b2_1), .unset, .unset, .unset] [(.ref b2_1)])) rfl rfl (hb hby own_d1_7) _ ?_
    rw [len_of Sz2 Nn2]
    show Steps p.tables e below (T1.setTop (mkF m 8 #[.val (.int (1 : Int32)), .val (.int (1 : Int32)), .val .null, .val (.ref b2_1), .unset, .unset, .unset] [(.int (4 : Int32))])) _
    refine XS.istore X1.here hx rfl (hb hby own_d1_8) rfl (l' := #[.val (.int (1 : Int32)), .val (.int (1 : Int32)), .val .null, .val (.ref b2_1), .val (.int (4 : Int32)), .unset, .unset]) rfl ?_
    show Steps p.tables e below (T1.setTop (mkF m 10 #[.val (.int (1 : Int32)), .val (.int (1 : Int32)), .val .null, .val (.ref b2_1), .val (.int (4 : Int32)), .unset, .unset] [])) _
    refine XS.iconst X1.here hx rfl (hb hby own_d1_10) ?_
    show Steps p.tables e below (T1.setTop (mkF m 11 #[.val (.int (1 : Int32)), .val (.int (1 : Int32)), .val .null, .val (.ref b2_1), .val (.int (4 : Int32)), .unset, .unset] [(.int (0 : Int32))])) _
    refine XS.istore X1.here hx rfl (hb hby own_d1_11) rfl (l' := #[.val (.int (1 : Int32)), .val (.int (1 : Int32)), .val .null, .val (.ref b2_1), .val (.int (4 : Int32)), .val (.int (0 : Int32)), .unset]) rfl ?_
    show Steps p.tables e below (T1.setTop (mkF m 13 #[.val (.int (1 : Int32)), .val (.int (1 : Int32)), .val .null, .val (.ref b2_1), .val (.int (4 : Int32)), .val (.int (0 : Int32)), .unset] [])) _
    refine XS.iload X1.here hx rfl (hb hby own_d1_13) rfl ?_
    show Steps p.tables e below (T1.setTop (mkF m 15 #[.val (.int (1 : Int32)), .val (.int (1 : Int32)), .val .null, .val (.ref b2_1), .val (.int (4 : Int32)), .val (.int (0 : Int32)), .unset] [(.int (0 : Int32))])) _
    refine XS.iload X1.here hx rfl (hb hby own_d1_15) rfl ?_
    show Steps p.tables e below (T1.setTop (mkF m 17 #[.val (.int (1 : Int32)), .val (.int (1 : Int32)), .val .null, .val (.ref b2_1), .val (.int (4 : Int32)), .val (.int (0 : Int32)), .unset] [(.int (4 : Int32)), (.int (0 : Int32))])) _
    refine XS.icmpNo X1.here hx rfl (hb hby own_d1_17) rfl (by decide) ?_
    show Steps p.tables e below (T1.setTop (mkF m 20 #[.val (.int (1 : Int32)), .val (.int (1 : Int32)), .val .null, .val (.ref b2_1), .val (.int (4 : Int32)), .val (.int (0 : Int32)), .unset] [])) _
    refine XS.aloadN X1.here hx rfl (hb hby own_d1_20) rfl rfl ?_
    show Steps p.tables e below (T1.setTop (mkF m 21 #[.val (.int (1 : Int32)), .val (.int (1 : Int32)), .val .null, .val (.ref b2_1), .val (.int (4 : Int32)), .val (.int (0 : Int32)), .unset] [(.ref b2_1)])) _
    refine XS.iload X1.here hx rfl (hb hby own_d1_21) rfl ?_
    show Steps p.tables e below (T1.setTop (mkF m 23 #[.val (.int (1 : Int32)), .val (.int (1 : Int32)), .val .null, .val (.ref b2_1), .val (.int (4 : Int32)), .val (.int (0 : Int32)), .unset] [(.int (0 : Int32)), (.ref b2_1)])) _
    refine X1.aaload hx (j := (0 : Int32)) (v := (.ref wPERSISTENT)) Ar2.1 (State.isArrayOf_alike hZ.alike Ar2.2.1) rfl Ar2.2.2 hin3 hat3 (g := (mkF m 23 #[.val (.int (1 : Int32)), .val (.int (1 : Int32)), .val .null, .val (.ref b2_1), .val (.int (4 : Int32)), .val (.int (0 : Int32)), .unset] [(.int (0 : Int32)), (.ref b2_1)])) rfl rfl (hb hby own_d1_23) _ ?_
    show Steps p.tables e below (T1.setTop (mkF m 24 #[.val (.int (1 : Int32)), .val (.int (1 : Int32)), .val .null, .val (.ref b2_1), .val (.int (4 : Int32)), .val (.int (0 : Int32)), .unset] [(.ref wPERSISTENT)])) _
    refine XS.astore X1.here hx rfl (hb hby own_d1_24) rfl rfl (l' := #[.val (.int (1 : Int32)), .val (.int (1 : Int32)), .val .null, .val (.ref b2_1), .val (.int (4 : Int32)), .val (.int (0 : Int32)), .val (.ref wPERSISTENT)]) rfl ?_
    show Steps p.tables e below (T1.setTop (mkF m 26 #[.val (.int (1 : Int32)), .val (.int (1 : Int32)), .val .null, .val (.ref b2_1), .val (.int (4 : Int32)), .val (.int (0 : Int32)), .val (.ref wPERSISTENT)] [])) _
    refine XS.aload X1.here hx rfl (hb hby own_d1_26) rfl rfl ?_
    show Steps p.tables e below (T1.setTop (mkF m 28 #[.val (.int (1 : Int32)), .val (.int (1 : Int32)), .val .null, .val (.ref b2_1), .val (.int (4 : Int32)), .val (.int (0 : Int32)), .val (.ref wPERSISTENT)] [(.ref wPERSISTENT)])) _
    refine st4 _ ?_
    show Steps p.tables e below (T4.setTop (mkF m 31 #[.val (.int (1 : Int32)), .val (.int (1 : Int32)), .val .null, .val (.ref b2_1), .val (.int (4 : Int32)), .val (.int (0 : Int32)), .val (.ref wPERSISTENT)] [(.int (0 : Int32))])) _
    refine XS.iloadN X4.here hx rfl (hb hby own_d1_31) rfl ?_
    show Steps p.tables e below (T4.setTop (mkF m 32 #[.val (.int (1 : Int32)), .val (.int (1 : Int32)), .val .null, .val (.ref b2_1), .val (.int (4 : Int32)), .val (.int (0 : Int32)), .val (.ref wPERSISTENT)] [(.int (1 : Int32)), (.int (0 : Int32))])) _
    refine XS.icmpYes X4.here hx rfl (pc0 := 32) (pc' := 47) rfl (hb hby own_d1_32) rfl (by decide) (by decide) (by decide) ?_
    show Steps p.tables e below (T4.setTop (mkF m 47 #[.val (.int (1 : Int32)), .val (.int (1 : Int32)), .val .null, .val (.ref b2_1), .val (.int (4 : Int32)), .val (.int (0 : Int32)), .val (.ref wPERSISTENT)] [])) _
    refine XS.iinc X4.here hx rfl (hb hby own_d1_47) rfl (l' := #[.val (.int (1 : Int32)), .val (.int (1 : Int32)), .val .null, .val (.ref b2_1), .val (.int (4 : Int32)), .val (.int (1 : Int32)), .val (.ref wPERSISTENT)]) rfl ?_
    show Steps p.tables e below (T4.setTop (mkF m 50 #[.val (.int (1 : Int32)), .val (.int (1 : Int32)), .val .null, .val (.ref b2_1), .val (.int (4 : Int32)), .val (.int (1 : Int32)), .val (.ref wPERSISTENT)] [])) _
    refine XS.goto X4.here hx rfl (pc0 := 50) (pc' := 13) rfl (hb hby own_d1_50) (by decide) (by decide) ?_
    show Steps p.tables e below (T4.setTop (mkF m 13 #[.val (.int (1 : Int32)), .val (.int (1 : Int32)), .val .null, .val (.ref b2_1), .val (.int (4 : Int32)), .val (.int (1 : Int32)), .val (.ref wPERSISTENT)] [])) _
    refine XS.iload X4.here hx rfl (hb hby own_d1_13) rfl ?_
    show Steps p.tables e below (T4.setTop (mkF m 15 #[.val (.int (1 : Int32)), .val (.int (1 : Int32)), .val .null, .val (.ref b2_1), .val (.int (4 : Int32)), .val (.int (1 : Int32)), .val (.ref wPERSISTENT)] [(.int (1 : Int32))])) _
    refine XS.iload X4.here hx rfl (hb hby own_d1_15) rfl ?_
    show Steps p.tables e below (T4.setTop (mkF m 17 #[.val (.int (1 : Int32)), .val (.int (1 : Int32)), .val .null, .val (.ref b2_1), .val (.int (4 : Int32)), .val (.int (1 : Int32)), .val (.ref wPERSISTENT)] [(.int (4 : Int32)), (.int (1 : Int32))])) _
    refine XS.icmpNo X4.here hx rfl (hb hby own_d1_17) rfl (by decide) ?_
    show Steps p.tables e below (T4.setTop (mkF m 20 #[.val (.int (1 : Int32)), .val (.int (1 : Int32)), .val .null, .val (.ref b2_1), .val (.int (4 : Int32)), .val (.int (1 : Int32)), .val (.ref wPERSISTENT)] [])) _
    refine XS.aloadN X4.here hx rfl (hb hby own_d1_20) rfl rfl ?_
    show Steps p.tables e below (T4.setTop (mkF m 21 #[.val (.int (1 : Int32)), .val (.int (1 : Int32)), .val .null, .val (.ref b2_1), .val (.int (4 : Int32)), .val (.int (1 : Int32)), .val (.ref wPERSISTENT)] [(.ref b2_1)])) _
    refine XS.iload X4.here hx rfl (hb hby own_d1_21) rfl ?_
    show Steps p.tables e below (T4.setTop (mkF m 23 #[.val (.int (1 : Int32)), .val (.int (1 : Int32)), .val .null, .val (.ref b2_1), .val (.int (4 : Int32)), .val (.int (1 : Int32)), .val (.ref wPERSISTENT)] [(.int (1 : Int32)), (.ref b2_1)])) _
    refine X4.aaload hx (j := (1 : Int32)) (v := (.ref wEPHEMERAL)) (by rw [e4]; exact Ar2.1) (State.isArrayOf_alike hZ.alike Ar2.2.1) rfl Ar2.2.2 hin5 hat5 (g := (mkF m 23 #[.val (.int (1 : Int32)), .val (.int (1 : Int32)), .val .null, .val (.ref b2_1), .val (.int (4 : Int32)), .val (.int (1 : Int32)), .val (.ref wPERSISTENT)] [(.int (1 : Int32)), (.ref b2_1)])) rfl rfl (hb hby own_d1_23) _ ?_
    show Steps p.tables e below (T4.setTop (mkF m 24 #[.val (.int (1 : Int32)), .val (.int (1 : Int32)), .val .null, .val (.ref b2_1), .val (.int (4 : Int32)), .val (.int (1 : Int32)), .val (.ref wPERSISTENT)] [(.ref wEPHEMERAL)])) _
    refine XS.astore X4.here hx rfl (hb hby own_d1_24) rfl rfl (l' := #[.val (.int (1 : Int32)), .val (.int (1 : Int32)), .val .null, .val (.ref b2_1), .val (.int (4 : Int32)), .val (.int (1 : Int32)), .val (.ref wEPHEMERAL)]) rfl ?_
    show Steps p.tables e below (T4.setTop (mkF m 26 #[.val (.int (1 : Int32)), .val (.int (1 : Int32)), .val .null, .val (.ref b2_1), .val (.int (4 : Int32)), .val (.int (1 : Int32)), .val (.ref wEPHEMERAL)] [])) _
    refine XS.aload X4.here hx rfl (hb hby own_d1_26) rfl rfl ?_
    show Steps p.tables e below (T4.setTop (mkF m 28 #[.val (.int (1 : Int32)), .val (.int (1 : Int32)), .val .null, .val (.ref b2_1), .val (.int (4 : Int32)), .val (.int (1 : Int32)), .val (.ref wEPHEMERAL)] [(.ref wEPHEMERAL)])) _
    refine st6 _ ?_
    show Steps p.tables e below (T6.setTop (mkF m 31 #[.val (.int (1 : Int32)), .val (.int (1 : Int32)), .val .null, .val (.ref b2_1), .val (.int (4 : Int32)), .val (.int (1 : Int32)), .val (.ref wEPHEMERAL)] [(.int (1 : Int32))])) _
    refine XS.iloadN X6.here hx rfl (hb hby own_d1_31) rfl ?_
    show Steps p.tables e below (T6.setTop (mkF m 32 #[.val (.int (1 : Int32)), .val (.int (1 : Int32)), .val .null, .val (.ref b2_1), .val (.int (4 : Int32)), .val (.int (1 : Int32)), .val (.ref wEPHEMERAL)] [(.int (1 : Int32)), (.int (1 : Int32))])) _
    refine XS.icmpNo X6.here hx rfl (hb hby own_d1_32) rfl (by decide) ?_
    show Steps p.tables e below (T6.setTop (mkF m 35 #[.val (.int (1 : Int32)), .val (.int (1 : Int32)), .val .null, .val (.ref b2_1), .val (.int (4 : Int32)), .val (.int (1 : Int32)), .val (.ref wEPHEMERAL)] [])) _
    refine XS.aload X6.here hx rfl (hb hby own_d1_35) rfl rfl ?_
    show Steps p.tables e below (T6.setTop (mkF m 37 #[.val (.int (1 : Int32)), .val (.int (1 : Int32)), .val .null, .val (.ref b2_1), .val (.int (4 : Int32)), .val (.int (1 : Int32)), .val (.ref wEPHEMERAL)] [(.ref wEPHEMERAL)])) _
    refine st7 _ ?_
    show Steps p.tables e below (T7.setTop (mkF m 40 #[.val (.int (1 : Int32)), .val (.int (1 : Int32)), .val .null, .val (.ref b2_1), .val (.int (4 : Int32)), .val (.int (1 : Int32)), .val (.ref wEPHEMERAL)] [(.int (0 : Int32))])) _
    refine XS.iloadN X7.here hx rfl (hb hby own_d1_40) rfl ?_
    show Steps p.tables e below (T7.setTop (mkF m 41 #[.val (.int (1 : Int32)), .val (.int (1 : Int32)), .val .null, .val (.ref b2_1), .val (.int (4 : Int32)), .val (.int (1 : Int32)), .val (.ref wEPHEMERAL)] [(.int (1 : Int32)), (.int (0 : Int32))])) _
    refine XS.icmpYes X7.here hx rfl (pc0 := 41) (pc' := 47) rfl (hb hby own_d1_41) rfl (by decide) (by decide) (by decide) ?_
    show Steps p.tables e below (T7.setTop (mkF m 47 #[.val (.int (1 : Int32)), .val (.int (1 : Int32)), .val .null, .val (.ref b2_1), .val (.int (4 : Int32)), .val (.int (1 : Int32)), .val (.ref wEPHEMERAL)] [])) _
    refine XS.iinc X7.here hx rfl (hb hby own_d1_47) rfl (l' := #[.val (.int (1 : Int32)), .val (.int (1 : Int32)), .val .null, .val (.ref b2_1), .val (.int (4 : Int32)), .val (.int (2 : Int32)), .val (.ref wEPHEMERAL)]) rfl ?_
    show Steps p.tables e below (T7.setTop (mkF m 50 #[.val (.int (1 : Int32)), .val (.int (1 : Int32)), .val .null, .val (.ref b2_1), .val (.int (4 : Int32)), .val (.int (2 : Int32)), .val (.ref wEPHEMERAL)] [])) _
    refine XS.goto X7.here hx rfl (pc0 := 50) (pc' := 13) rfl (hb hby own_d1_50) (by decide) (by decide) ?_
    show Steps p.tables e below (T7.setTop (mkF m 13 #[.val (.int (1 : Int32)), .val (.int (1 : Int32)), .val .null, .val (.ref b2_1), .val (.int (4 : Int32)), .val (.int (2 : Int32)), .val (.ref wEPHEMERAL)] [])) _
    refine XS.iload X7.here hx rfl (hb hby own_d1_13) rfl ?_
    show Steps p.tables e below (T7.setTop (mkF m 15 #[.val (.int (1 : Int32)), .val (.int (1 : Int32)), .val .null, .val (.ref b2_1), .val (.int (4 : Int32)), .val (.int (2 : Int32)), .val (.ref wEPHEMERAL)] [(.int (2 : Int32))])) _
    refine XS.iload X7.here hx rfl (hb hby own_d1_15) rfl ?_
    show Steps p.tables e below (T7.setTop (mkF m 17 #[.val (.int (1 : Int32)), .val (.int (1 : Int32)), .val .null, .val (.ref b2_1), .val (.int (4 : Int32)), .val (.int (2 : Int32)), .val (.ref wEPHEMERAL)] [(.int (4 : Int32)), (.int (2 : Int32))])) _
    refine XS.icmpNo X7.here hx rfl (hb hby own_d1_17) rfl (by decide) ?_
    show Steps p.tables e below (T7.setTop (mkF m 20 #[.val (.int (1 : Int32)), .val (.int (1 : Int32)), .val .null, .val (.ref b2_1), .val (.int (4 : Int32)), .val (.int (2 : Int32)), .val (.ref wEPHEMERAL)] [])) _
    refine XS.aloadN X7.here hx rfl (hb hby own_d1_20) rfl rfl ?_
    show Steps p.tables e below (T7.setTop (mkF m 21 #[.val (.int (1 : Int32)), .val (.int (1 : Int32)), .val .null, .val (.ref b2_1), .val (.int (4 : Int32)), .val (.int (2 : Int32)), .val (.ref wEPHEMERAL)] [(.ref b2_1)])) _
    refine XS.iload X7.here hx rfl (hb hby own_d1_21) rfl ?_
    show Steps p.tables e below (T7.setTop (mkF m 23 #[.val (.int (1 : Int32)), .val (.int (1 : Int32)), .val .null, .val (.ref b2_1), .val (.int (4 : Int32)), .val (.int (2 : Int32)), .val (.ref wEPHEMERAL)] [(.int (2 : Int32)), (.ref b2_1)])) _
    refine X7.aaload hx (j := (2 : Int32)) (v := (.ref wPERSISTENT_SEQUENTIAL)) (by rw [e7]; exact Ar2.1) (State.isArrayOf_alike hZ.alike Ar2.2.1) rfl Ar2.2.2 hin8 hat8 (g := (mkF m 23 #[.val (.int (1 : Int32)), .val (.int (1 : Int32)), .val .null, .val (.ref b2_1), .val (.int (4 : Int32)), .val (.int (2 : Int32)), .val (.ref wEPHEMERAL)] [(.int (2 : Int32)), (.ref b2_1)])) rfl rfl (hb hby own_d1_23) _ ?_
    show Steps p.tables e below (T7.setTop (mkF m 24 #[.val (.int (1 : Int32)), .val (.int (1 : Int32)), .val .null, .val (.ref b2_1), .val (.int (4 : Int32)), .val (.int (2 : Int32)), .val (.ref wEPHEMERAL)] [(.ref wPERSISTENT_SEQUENTIAL)])) _
    refine XS.astore X7.here hx rfl (hb hby own_d1_24) rfl rfl (l' := #[.val (.int (1 : Int32)), .val (.int (1 : Int32)), .val .null, .val (.ref b2_1), .val (.int (4 : Int32)), .val (.int (2 : Int32)), .val (.ref wPERSISTENT_SEQUENTIAL)]) rfl ?_
    show Steps p.tables e below (T7.setTop (mkF m 26 #[.val (.int (1 : Int32)), .val (.int (1 : Int32)), .val .null, .val (.ref b2_1), .val (.int (4 : Int32)), .val (.int (2 : Int32)), .val (.ref wPERSISTENT_SEQUENTIAL)] [])) _
    refine XS.aload X7.here hx rfl (hb hby own_d1_26) rfl rfl ?_
    show Steps p.tables e below (T7.setTop (mkF m 28 #[.val (.int (1 : Int32)), .val (.int (1 : Int32)), .val .null, .val (.ref b2_1), .val (.int (4 : Int32)), .val (.int (2 : Int32)), .val (.ref wPERSISTENT_SEQUENTIAL)] [(.ref wPERSISTENT_SEQUENTIAL)])) _
    refine st9 _ ?_
    show Steps p.tables e below (T9.setTop (mkF m 31 #[.val (.int (1 : Int32)), .val (.int (1 : Int32)), .val .null, .val (.ref b2_1), .val (.int (4 : Int32)), .val (.int (2 : Int32)), .val (.ref wPERSISTENT_SEQUENTIAL)] [(.int (0 : Int32))])) _
    refine XS.iloadN X9.here hx rfl (hb hby own_d1_31) rfl ?_
    show Steps p.tables e below (T9.setTop (mkF m 32 #[.val (.int (1 : Int32)), .val (.int (1 : Int32)), .val .null, .val (.ref b2_1), .val (.int (4 : Int32)), .val (.int (2 : Int32)), .val (.ref wPERSISTENT_SEQUENTIAL)] [(.int (1 : Int32)), (.int (0 : Int32))])) _
    refine XS.icmpYes X9.here hx rfl (pc0 := 32) (pc' := 47) rfl (hb hby own_d1_32) rfl (by decide) (by decide) (by decide) ?_
    show Steps p.tables e below (T9.setTop (mkF m 47 #[.val (.int (1 : Int32)), .val (.int (1 : Int32)), .val .null, .val (.ref b2_1), .val (.int (4 : Int32)), .val (.int (2 : Int32)), .val (.ref wPERSISTENT_SEQUENTIAL)] [])) _
    refine XS.iinc X9.here hx rfl (hb hby own_d1_47) rfl (l' := #[.val (.int (1 : Int32)), .val (.int (1 : Int32)), .val .null, .val (.ref b2_1), .val (.int (4 : Int32)), .val (.int (3 : Int32)), .val (.ref wPERSISTENT_SEQUENTIAL)]) rfl ?_
    show Steps p.tables e below (T9.setTop (mkF m 50 #[.val (.int (1 : Int32)), .val (.int (1 : Int32)), .val .null, .val (.ref b2_1), .val (.int (4 : Int32)), .val (.int (3 : Int32)), .val (.ref wPERSISTENT_SEQUENTIAL)] [])) _
    refine XS.goto X9.here hx rfl (pc0 := 50) (pc' := 13) rfl (hb hby own_d1_50) (by decide) (by decide) ?_
    show Steps p.tables e below (T9.setTop (mkF m 13 #[.val (.int (1 : Int32)), .val (.int (1 : Int32)), .val .null, .val (.ref b2_1), .val (.int (4 : Int32)), .val (.int (3 : Int32)), .val (.ref wPERSISTENT_SEQUENTIAL)] [])) _
    refine XS.iload X9.here hx rfl (hb hby own_d1_13) rfl ?_
    show Steps p.tables e below (T9.setTop (mkF m 15 #[.val (.int (1 : Int32)), .val (.int (1 : Int32)), .val .null, .val (.ref b2_1), .val (.int (4 : Int32)), .val (.int (3 : Int32)), .val (.ref wPERSISTENT_SEQUENTIAL)] [(.int (3 : Int32))])) _
    refine XS.iload X9.here hx rfl (hb hby own_d1_15) rfl ?_
    show Steps p.tables e below (T9.setTop (mkF m 17 #[.val (.int (1 : Int32)), .val (.int (1 : Int32)), .val .null, .val (.ref b2_1), .val (.int (4 : Int32)), .val (.int (3 : Int32)), .val (.ref wPERSISTENT_SEQUENTIAL)] [(.int (4 : Int32)), (.int (3 : Int32))])) _
    refine XS.icmpNo X9.here hx rfl (hb hby own_d1_17) rfl (by decide) ?_
    show Steps p.tables e below (T9.setTop (mkF m 20 #[.val (.int (1 : Int32)), .val (.int (1 : Int32)), .val .null, .val (.ref b2_1), .val (.int (4 : Int32)), .val (.int (3 : Int32)), .val (.ref wPERSISTENT_SEQUENTIAL)] [])) _
    refine XS.aloadN X9.here hx rfl (hb hby own_d1_20) rfl rfl ?_
    show Steps p.tables e below (T9.setTop (mkF m 21 #[.val (.int (1 : Int32)), .val (.int (1 : Int32)), .val .null, .val (.ref b2_1), .val (.int (4 : Int32)), .val (.int (3 : Int32)), .val (.ref wPERSISTENT_SEQUENTIAL)] [(.ref b2_1)])) _
    refine XS.iload X9.here hx rfl (hb hby own_d1_21) rfl ?_
    show Steps p.tables e below (T9.setTop (mkF m 23 #[.val (.int (1 : Int32)), .val (.int (1 : Int32)), .val .null, .val (.ref b2_1), .val (.int (4 : Int32)), .val (.int (3 : Int32)), .val (.ref wPERSISTENT_SEQUENTIAL)] [(.int (3 : Int32)), (.ref b2_1)])) _
    refine X9.aaload hx (j := (3 : Int32)) (v := (.ref wEPHEMERAL_SEQUENTIAL)) (by rw [e9]; exact Ar2.1) (State.isArrayOf_alike hZ.alike Ar2.2.1) rfl Ar2.2.2 hin10 hat10 (g := (mkF m 23 #[.val (.int (1 : Int32)), .val (.int (1 : Int32)), .val .null, .val (.ref b2_1), .val (.int (4 : Int32)), .val (.int (3 : Int32)), .val (.ref wPERSISTENT_SEQUENTIAL)] [(.int (3 : Int32)), (.ref b2_1)])) rfl rfl (hb hby own_d1_23) _ ?_
    show Steps p.tables e below (T9.setTop (mkF m 24 #[.val (.int (1 : Int32)), .val (.int (1 : Int32)), .val .null, .val (.ref b2_1), .val (.int (4 : Int32)), .val (.int (3 : Int32)), .val (.ref wPERSISTENT_SEQUENTIAL)] [(.ref wEPHEMERAL_SEQUENTIAL)])) _
    refine XS.astore X9.here hx rfl (hb hby own_d1_24) rfl rfl (l' := #[.val (.int (1 : Int32)), .val (.int (1 : Int32)), .val .null, .val (.ref b2_1), .val (.int (4 : Int32)), .val (.int (3 : Int32)), .val (.ref wEPHEMERAL_SEQUENTIAL)]) rfl ?_
    show Steps p.tables e below (T9.setTop (mkF m 26 #[.val (.int (1 : Int32)), .val (.int (1 : Int32)), .val .null, .val (.ref b2_1), .val (.int (4 : Int32)), .val (.int (3 : Int32)), .val (.ref wEPHEMERAL_SEQUENTIAL)] [])) _
    refine XS.aload X9.here hx rfl (hb hby own_d1_26) rfl rfl ?_
    show Steps p.tables e below (T9.setTop (mkF m 28 #[.val (.int (1 : Int32)), .val (.int (1 : Int32)), .val .null, .val (.ref b2_1), .val (.int (4 : Int32)), .val (.int (3 : Int32)), .val (.ref wEPHEMERAL_SEQUENTIAL)] [(.ref wEPHEMERAL_SEQUENTIAL)])) _
    refine st11 _ ?_
    show Steps p.tables e below (T11.setTop (mkF m 31 #[.val (.int (1 : Int32)), .val (.int (1 : Int32)), .val .null, .val (.ref b2_1), .val (.int (4 : Int32)), .val (.int (3 : Int32)), .val (.ref wEPHEMERAL_SEQUENTIAL)] [(.int (1 : Int32))])) _
    refine XS.iloadN X11.here hx rfl (hb hby own_d1_31) rfl ?_
    show Steps p.tables e below (T11.setTop (mkF m 32 #[.val (.int (1 : Int32)), .val (.int (1 : Int32)), .val .null, .val (.ref b2_1), .val (.int (4 : Int32)), .val (.int (3 : Int32)), .val (.ref wEPHEMERAL_SEQUENTIAL)] [(.int (1 : Int32)), (.int (1 : Int32))])) _
    refine XS.icmpNo X11.here hx rfl (hb hby own_d1_32) rfl (by decide) ?_
    show Steps p.tables e below (T11.setTop (mkF m 35 #[.val (.int (1 : Int32)), .val (.int (1 : Int32)), .val .null, .val (.ref b2_1), .val (.int (4 : Int32)), .val (.int (3 : Int32)), .val (.ref wEPHEMERAL_SEQUENTIAL)] [])) _
    refine XS.aload X11.here hx rfl (hb hby own_d1_35) rfl rfl ?_
    show Steps p.tables e below (T11.setTop (mkF m 37 #[.val (.int (1 : Int32)), .val (.int (1 : Int32)), .val .null, .val (.ref b2_1), .val (.int (4 : Int32)), .val (.int (3 : Int32)), .val (.ref wEPHEMERAL_SEQUENTIAL)] [(.ref wEPHEMERAL_SEQUENTIAL)])) _
    refine st12 _ ?_
    show Steps p.tables e below (T12.setTop (mkF m 40 #[.val (.int (1 : Int32)), .val (.int (1 : Int32)), .val .null, .val (.ref b2_1), .val (.int (4 : Int32)), .val (.int (3 : Int32)), .val (.ref wEPHEMERAL_SEQUENTIAL)] [(.int (1 : Int32))])) _
    refine XS.iloadN X12.here hx rfl (hb hby own_d1_40) rfl ?_
    show Steps p.tables e below (T12.setTop (mkF m 41 #[.val (.int (1 : Int32)), .val (.int (1 : Int32)), .val .null, .val (.ref b2_1), .val (.int (4 : Int32)), .val (.int (3 : Int32)), .val (.ref wEPHEMERAL_SEQUENTIAL)] [(.int (1 : Int32)), (.int (1 : Int32))])) _
    refine XS.icmpNo X12.here hx rfl (hb hby own_d1_41) rfl (by decide) ?_
    show Steps p.tables e below (T12.setTop (mkF m 44 #[.val (.int (1 : Int32)), .val (.int (1 : Int32)), .val .null, .val (.ref b2_1), .val (.int (4 : Int32)), .val (.int (3 : Int32)), .val (.ref wEPHEMERAL_SEQUENTIAL)] [])) _
    refine XS.aload X12.here hx rfl (hb hby own_d1_44) rfl rfl ?_
    show Steps p.tables e below (T12.setTop (mkF m 46 #[.val (.int (1 : Int32)), .val (.int (1 : Int32)), .val .null, .val (.ref b2_1), .val (.int (4 : Int32)), .val (.int (3 : Int32)), .val (.ref wEPHEMERAL_SEQUENTIAL)] [(.ref wEPHEMERAL_SEQUENTIAL)])) _
    refine XS.astoreN X12.here hx rfl (hb hby own_d1_46) rfl rfl (l' := #[.val (.int (1 : Int32)), .val (.int (1 : Int32)), .val (.ref wEPHEMERAL_SEQUENTIAL), .val (.ref b2_1), .val (.int (4 : Int32)), .val (.int (3 : Int32)), .val (.ref wEPHEMERAL_SEQUENTIAL)]) rfl ?_
    show Steps p.tables e below (T12.setTop (mkF m 47 #[.val (.int (1 : Int32)), .val (.int (1 : Int32)), .val (.ref wEPHEMERAL_SEQUENTIAL), .val (.ref b2_1), .val (.int (4 : Int32)), .val (.int (3 : Int32)), .val (.ref wEPHEMERAL_SEQUENTIAL)] [])) _
    refine XS.iinc X12.here hx rfl (hb hby own_d1_47) rfl (l' := #[.val (.int (1 : Int32)), .val (.int (1 : Int32)), .val (.ref wEPHEMERAL_SEQUENTIAL), .val (.ref b2_1), .val (.int (4 : Int32)), .val (.int (4 : Int32)), .val (.ref wEPHEMERAL_SEQUENTIAL)]) rfl ?_
    show Steps p.tables e below (T12.setTop (mkF m 50 #[.val (.int (1 : Int32)), .val (.int (1 : Int32)), .val (.ref wEPHEMERAL_SEQUENTIAL), .val (.ref b2_1), .val (.int (4 : Int32)), .val (.int (4 : Int32)), .val (.ref wEPHEMERAL_SEQUENTIAL)] [])) _
    refine XS.goto X12.here hx rfl (pc0 := 50) (pc' := 13) rfl (hb hby own_d1_50) (by decide) (by decide) ?_
    show Steps p.tables e below (T12.setTop (mkF m 13 #[.val (.int (1 : Int32)), .val (.int (1 : Int32)), .val (.ref wEPHEMERAL_SEQUENTIAL), .val (.ref b2_1), .val (.int (4 : Int32)), .val (.int (4 : Int32)), .val (.ref wEPHEMERAL_SEQUENTIAL)] [])) _
    refine XS.iload X12.here hx rfl (hb hby own_d1_13) rfl ?_
    show Steps p.tables e below (T12.setTop (mkF m 15 #[.val (.int (1 : Int32)), .val (.int (1 : Int32)), .val (.ref wEPHEMERAL_SEQUENTIAL), .val (.ref b2_1), .val (.int (4 : Int32)), .val (.int (4 : Int32)), .val (.ref wEPHEMERAL_SEQUENTIAL)] [(.int (4 : Int32))])) _
    refine XS.iload X12.here hx rfl (hb hby own_d1_15) rfl ?_
    show Steps p.tables e below (T12.setTop (mkF m 17 #[.val (.int (1 : Int32)), .val (.int (1 : Int32)), .val (.ref wEPHEMERAL_SEQUENTIAL), .val (.ref b2_1), .val (.int (4 : Int32)), .val (.int (4 : Int32)), .val (.ref wEPHEMERAL_SEQUENTIAL)] [(.int (4 : Int32)), (.int (4 : Int32))])) _
    refine XS.icmpYes X12.here hx rfl (pc0 := 17) (pc' := 53) rfl (hb hby own_d1_17) rfl (by decide) (by decide) (by decide) ?_
    show Steps p.tables e below (T12.setTop (mkF m 53 #[.val (.int (1 : Int32)), .val (.int (1 : Int32)), .val (.ref wEPHEMERAL_SEQUENTIAL), .val (.ref b2_1), .val (.int (4 : Int32)), .val (.int (4 : Int32)), .val (.ref wEPHEMERAL_SEQUENTIAL)] [])) _
    refine XS.aloadN X12.here hx rfl (hb hby own_d1_53) rfl rfl ?_
    show Steps p.tables e below (T12.setTop (mkF m 54 #[.val (.int (1 : Int32)), .val (.int (1 : Int32)), .val (.ref wEPHEMERAL_SEQUENTIAL), .val (.ref b2_1), .val (.int (4 : Int32)), .val (.int (4 : Int32)), .val (.ref wEPHEMERAL_SEQUENTIAL)] [(.ref wEPHEMERAL_SEQUENTIAL)])) _
    jvm_step X12.here [X12.here.top, hx, (hb hby own_d1_54), X12.method', Bd.returns, Value.isRef, FieldType.isReference]
    first | (intro acts; rw [hr _ acts rfl rfl rfl]) | rw [hr _ _ rfl rfl rfl]
    exact Steps.refl _
  · show OwnQ_own_of_13 Z wPERSISTENT wVALUES wEPHEMERAL wPERSISTENT_SEQUENTIAL wEPHEMERAL_SEQUENTIAL kVALUES h0 n0 _ T12.heap _
    rw [e12]
    exact ⟨rfl, N1, K1⟩
set_option maxRecDepth 65536 in
set_option maxHeartbeats 40000000 in
theorem own_isEphemeral_14 (l : Launch) (Z : State) (a0 : Array Value) (hw : ∀ d ∈ tables_1, d.before a0 Z = true) (ws : List Jvm.Cond) (wPERSISTENT : Addr) (wVALUES : Addr) (wEPHEMERAL : Addr) (wPERSISTENT_SEQUENTIAL : Addr) (wEPHEMERAL_SEQUENTIAL : Addr) (kVALUES : ClassId) (G : OwnG Z wPERSISTENT wVALUES wEPHEMERAL wPERSISTENT_SEQUENTIAL wEPHEMERAL_SEQUENTIAL kVALUES) (h0 : Heap) (n0 : Nat) (O0 : Old Z n0 h0) :
    MetFree l (⟨"com/example/nimble_quorum/nimblequorum/wire/CreateMode", "isEphemeral", "()Z"⟩ : MethodName) (head1 (Jvm.Cond.code (⟨"com/example/nimble_quorum/nimblequorum/wire/CreateMode", "isEphemeral", "()Z"⟩ : MethodName) prog_89_method_7_code 1 (some .boolean) :: ws) ({ frames := 0, cells := 0, slots := 0, locals := 0 } : Room)) (fun a U => a = #[(.ref wEPHEMERAL_SEQUENTIAL)] ∧ Z.Warmed39 U.vm ∧ U.heap = h0) (fun _ _ _ _ _ => True) (fun _ U o U' => ∃ v L, o = .returned v ∧ OwnQ (some (.int (1 : Int32))) h0 n0 v U'.heap L ∧ FrameEnd U o U' L ({ frames := 0, cells := 0, slots := 0, locals := 0 } : Room).cells ({ frames := 0, cells := 0, slots := 0, locals := 0 } : Room).slots) := by
  refine MetFree.of_bodySF (plainFor_of_name own_pn_1) hisR ?_
  intro p e s m args below meth c s₁ Bd hml0 hP hK
  obtain ⟨rfl, hZ, hh⟩ := hP
  have hx := Bd.exec
  have hby := Bd.bytes
  have hml : c.maxLocals = 1 := hml0
  have hown : s.vm.findClass "com/example/nimble_quorum/nimblequorum/wire/CreateMode" = some m.cls := findClass_of_methodNamed Bd.named
  have hnm := (name_of_methodNamed Bd.named Bd.method).1
  have X0 : Stand p l e ({ frames := 0, cells := 0, slots := 0, locals := 0 } : Room) s m #[(.ref wEPHEMERAL_SEQUENTIAL)] below meth c s₁ [] 0 0 := Stand.of_body Bd
  have e0 : s₁.heap = h0 := by rw [← hh, Bd.state]; rfl
  have N0 := Fr.nil n0
  have pre0 : ∀ t, Steps p.tables e below (s₁.setTop (mkF m 0 #[.val (.ref wEPHEMERAL_SEQUENTIAL)] [])) t → Steps p.tables e below (s₁.setTop (entryFrame m #[(.ref wEPHEMERAL_SEQUENTIAL)] 1)) t := fun t k => castTop (own_ef_3_R m wEPHEMERAL_SEQUENTIAL) k
  obtain ⟨T1, X1, e1, st1⟩ := getF X0 hx hZ hown (host := "") (Or.inl (hw _ (List.mem_of_getElem? (i := 24) rfl))) Via.refl e0 (G.2.2.2.2.2.2.2.2.2.2.2.2.2.2.2.1.ext O0.2) (g := (mkF m 1 #[.val (.ref wEPHEMERAL_SEQUENTIAL)] [(.ref wEPHEMERAL_SEQUENTIAL)])) rfl rfl (hb hby own_d3_1)
  obtain ⟨fs, hr, hrun, hended, hW, hsame⟩ := X1.leave (v := some (.int (1 : Int32))) (fun h => by rw [Bd.returns] at h; cases h)
  refine ⟨_, _, pre0 _ ?_, hrun, hended, _, _, rfl, ?_, ⟨_, rfl⟩, hW, hsame.mono (by decide) (by decide)⟩
  · show Steps p.tables e below (s₁.setTop (mkF m 0 #[.val (.ref wEPHEMERAL_SEQUENTIAL)] [])) _
    refine XS.aloadN X0.here hx rfl (hb hby own_d3_0) rfl rfl ?_
    show Steps p.tables e below (s₁.setTop (mkF m 1 #[.val (.ref wEPHEMERAL_SEQUENTIAL)] [(.ref wEPHEMERAL_SEQUENTIAL)])) _
    refine st1 _ ?_
    show Steps p.tables e below (T1.setTop (mkF m 4 #[.val (.ref wEPHEMERAL_SEQUENTIAL)] [(.int (1 : Int32))])) _
    exact retN X1 hx (t := .boolean) Bd.returns (by simp) (hb hby own_d3_4) hr
  · show OwnQ _ h0 n0 _ T1.heap _
    exact ⟨rfl, N0, e1⟩
set_option maxRecDepth 65536 in
set_option maxHeartbeats 40000000 in
theorem own_isSequential_15 (l : Launch) (Z : State) (a0 : Array Value) (hw : ∀ d ∈ tables_1, d.before a0 Z = true) (ws : List Jvm.Cond) (wPERSISTENT : Addr) (wVALUES : Addr) (wEPHEMERAL : Addr) (wPERSISTENT_SEQUENTIAL : Addr) (wEPHEMERAL_SEQUENTIAL : Addr) (kVALUES : ClassId) (G : OwnG Z wPERSISTENT wVALUES wEPHEMERAL wPERSISTENT_SEQUENTIAL wEPHEMERAL_SEQUENTIAL kVALUES) (h0 : Heap) (n0 : Nat) (O0 : Old Z n0 h0) :
    MetFree l (⟨"com/example/nimble_quorum/nimblequorum/wire/CreateMode", "isSequential", "()Z"⟩ : MethodName) (head1 (Jvm.Cond.code (⟨"com/example/nimble_quorum/nimblequorum/wire/CreateMode", "isSequential", "()Z"⟩ : MethodName) prog_89_method_8_code 1 (some .boolean) :: ws) ({ frames := 0, cells := 0, slots := 0, locals := 0 } : Room)) (fun a U => a = #[(.ref wEPHEMERAL_SEQUENTIAL)] ∧ Z.Warmed39 U.vm ∧ U.heap = h0) (fun _ _ _ _ _ => True) (fun _ U o U' => ∃ v L, o = .returned v ∧ OwnQ (some (.int (1 : Int32))) h0 n0 v U'.heap L ∧ FrameEnd U o U' L ({ frames := 0, cells := 0, slots := 0, locals := 0 } : Room).cells ({ frames := 0, cells := 0, slots := 0, locals := 0 } : Room).slots) := by
  refine MetFree.of_bodySF (plainFor_of_name own_pn_1) hisR ?_
  intro p e s m args below meth c s₁ Bd hml0 hP hK
  obtain ⟨rfl, hZ, hh⟩ := hP
  have hx := Bd.exec
  have hby := Bd.bytes
  have hml : c.maxLocals = 1 := hml0
  have hown : s.vm.findClass "com/example/nimble_quorum/nimblequorum/wire/CreateMode" = some m.cls := findClass_of_methodNamed Bd.named
  have hnm := (name_of_methodNamed Bd.named Bd.method).1
  have X0 : Stand p l e ({ frames := 0, cells := 0, slots := 0, locals := 0 } : Room) s m #[(.ref wEPHEMERAL_SEQUENTIAL)] below meth c s₁ [] 0 0 := Stand.of_body Bd
  have e0 : s₁.heap = h0 := by rw [← hh, Bd.state]; rfl
  have N0 := Fr.nil n0
  have pre0 : ∀ t, Steps p.tables e below (s₁.setTop (mkF m 0 #[.val (.ref wEPHEMERAL_SEQUENTIAL)] [])) t → Steps p.tables e below (s₁.setTop (entryFrame m #[(.ref wEPHEMERAL_SEQUENTIAL)] 1)) t := fun t k => castTop (own_ef_4_R m wEPHEMERAL_SEQUENTIAL) k
  obtain ⟨T1, X1, e1, st1⟩ := getF X0 hx hZ hown (host := "") (Or.inl (hw _ (List.mem_of_getElem? (i := 26) rfl))) Via.refl e0 (G.2.2.2.2.2.2.2.2.2.2.2.2.2.2.2.2.2.2.1.ext O0.2) (g := (mkF m 1 #[.val (.ref wEPHEMERAL_SEQUENTIAL)] [(.ref wEPHEMERAL_SEQUENTIAL)])) rfl rfl (hb hby own_d4_1)
  obtain ⟨fs, hr, hrun, hended, hW, hsame⟩ := X1.leave (v := some (.int (1 : Int32))) (fun h => by rw [Bd.returns] at h; cases h)
  refine ⟨_, _, pre0 _ ?_, hrun, hended, _, _, rfl, ?_, ⟨_, rfl⟩, hW, hsame.mono (by decide) (by decide)⟩
  · show Steps p.tables e below (s₁.setTop (mkF m 0 #[.val (.ref wEPHEMERAL_SEQUENTIAL)] [])) _
    refine XS.aloadN X0.here hx rfl (hb hby own_d4_0) rfl rfl ?_
    show Steps p.tables e below (s₁.setTop (mkF m 1 #[.val (.ref wEPHEMERAL_SEQUENTIAL)] [(.ref wEPHEMERAL_SEQUENTIAL)])) _
    refine st1 _ ?_
    show Steps p.tables e below (T1.setTop (mkF m 4 #[.val (.ref wEPHEMERAL_SEQUENTIAL)] [(.int (1 : Int32))])) _
    exact retN X1 hx (t := .boolean) Bd.returns (by simp) (hb hby own_d4_4) hr
  · show OwnQ _ h0 n0 _ T1.heap _
    exact ⟨rfl, N0, e1⟩
set_option maxRecDepth 65536 in
set_option maxHeartbeats 40000000 in
theorem own_flags_16 (l : Launch) (Z : State) (a0 : Array Value) (hw : ∀ d ∈ tables_1, d.before a0 Z = true) (ws : List Jvm.Cond) (wPERSISTENT : Addr) (wVALUES : Addr) (wEPHEMERAL : Addr) (wPERSISTENT_SEQUENTIAL : Addr) (wEPHEMERAL_SEQUENTIAL : Addr) (kVALUES : ClassId) (G : OwnG Z wPERSISTENT wVALUES wEPHEMERAL wPERSISTENT_SEQUENTIAL wEPHEMERAL_SEQUENTIAL kVALUES) (h0 : Heap) (n0 : Nat) (O0 : Old Z n0 h0) :
    MetFree l (⟨"com/example/nimble_quorum/nimblequorum/wire/CreateMode", "flags", "()I"⟩ : MethodName) (head1 (Jvm.Cond.code (⟨"com/example/nimble_quorum/nimblequorum/wire/CreateMode", "flags", "()I"⟩ : MethodName) prog_89_method_6_code 1 (some .int) :: ws) ({ frames := 0, cells := 0, slots := 0, locals := 0 } : Room)) (fun a U => a = #[(.ref wEPHEMERAL_SEQUENTIAL)] ∧ Z.Warmed39 U.vm ∧ U.heap = h0) (fun _ _ _ _ _ => True) (fun _ U o U' => ∃ v L, o = .returned v ∧ OwnQ (some (.int (3 : Int32))) h0 n0 v U'.heap L ∧ FrameEnd U o U' L ({ frames := 0, cells := 0, slots := 0, locals := 0 } : Room).cells ({ frames := 0, cells := 0, slots := 0, locals := 0 } : Room).slots) := by
  refine MetFree.of_bodySF (plainFor_of_name own_pn_1) hisR ?_
  intro p e s m args below meth c s₁ Bd hml0 hP hK
  obtain ⟨rfl, hZ, hh⟩ := hP
  have hx := Bd.exec
  have hby := Bd.bytes
  have hml : c.maxLocals = 1 := hml0
  have hown : s.vm.findClass "com/example/nimble_quorum/nimblequorum/wire/CreateMode" = some m.cls := findClass_of_methodNamed Bd.named
  have hnm := (name_of_methodNamed Bd.named Bd.method).1
  have X0 : Stand p l e ({ frames := 0, cells := 0, slots := 0, locals := 0 } : Room) s m #[(.ref wEPHEMERAL_SEQUENTIAL)] below meth c s₁ [] 0 0 := Stand.of_body Bd
  have e0 : s₁.heap = h0 := by rw [← hh, Bd.state]; rfl
  have N0 := Fr.nil n0
  have pre0 : ∀ t, Steps p.tables e below (s₁.setTop (mkF m 0 #[.val (.ref wEPHEMERAL_SEQUENTIAL)] [])) t → Steps p.tables e below (s₁.setTop (entryFrame m #[(.ref wEPHEMERAL_SEQUENTIAL)] 1)) t := fun t k => castTop (own_ef_5_R m wEPHEMERAL_SEQUENTIAL) k
  obtain ⟨T1, X1, e1, st1⟩ := getF X0 hx hZ hown (host := "") (Or.inl (hw _ (List.mem_of_getElem? (i := 43) rfl))) Via.refl e0 (G.2.2.2.2.2.2.2.2.2.2.2.2.2.2.2.2.2.2.2.1.ext O0.2) (g := (mkF m 1 #[.val (.ref wEPHEMERAL_SEQUENTIAL)] [(.ref wEPHEMERAL_SEQUENTIAL)])) rfl rfl (hb hby own_d5_1)
  obtain ⟨fs, hr, hrun, hended, hW, hsame⟩ := X1.leave (v := some (.int (3 : Int32))) (fun h => by rw [Bd.returns] at h; cases h)
  refine ⟨_, _, pre0 _ ?_, hrun, hended, _, _, rfl, ?_, ⟨_, rfl⟩, hW, hsame.mono (by decide) (by decide)⟩
  · show Steps p.tables e below (s₁.setTop (mkF m 0 #[.val (.ref wEPHEMERAL_SEQUENTIAL)] [])) _
    refine XS.aloadN X0.here hx rfl (hb hby own_d5_0) rfl rfl ?_
    show Steps p.tables e below (s₁.setTop (mkF m 1 #[.val (.ref wEPHEMERAL_SEQUENTIAL)] [(.ref wEPHEMERAL_SEQUENTIAL)])) _
    refine st1 _ ?_
    show Steps p.tables e below (T1.setTop (mkF m 4 #[.val (.ref wEPHEMERAL_SEQUENTIAL)] [(.int (3 : Int32))])) _
    exact retI X1 hx Bd.returns (hb hby own_d5_4) hr
  · show OwnQ _ h0 n0 _ T1.heap _
    exact ⟨rfl, N0, e1⟩
set_option maxRecDepth 65536 in
set_option maxHeartbeats 40000000 in
theorem own_law_3 (l : Launch) (Z : State) (a0 : Array Value) (hw : ∀ d ∈ tables_1, d.before a0 Z = true) (ws : List Jvm.Cond) (wPERSISTENT : Addr) (wVALUES : Addr) (wEPHEMERAL : Addr) (wPERSISTENT_SEQUENTIAL : Addr) (wEPHEMERAL_SEQUENTIAL : Addr) (kVALUES : ClassId) (G : OwnG Z wPERSISTENT wVALUES wEPHEMERAL wPERSISTENT_SEQUENTIAL wEPHEMERAL_SEQUENTIAL kVALUES) (h0 : Heap) (n0 : Nat) (O0 : Old Z n0 h0) (p1 : Int32) (h1 : ¬ ((p1 &&& (1 : Int32)) = (0 : Int32))) (h2 : ¬ ((p1 &&& (2 : Int32)) = (0 : Int32))) :
    MetFree l x (head1 (Jvm.Cond.code x code maxLocals ret :: ws) room_1) (fun a U => a = #[(.int p1)] ∧ Z.Warmed39 U.vm ∧ U.heap = h0) (fun _ _ _ _ _ => True) (fun _ U o U' => ∃ v L, o = .returned v ∧ (v = some (.int 1) ∧ Fr n0 L) ∧ FrameEnd U o U' L room_1.cells room_1.slots) := by
  refine MetFree.of_bodySF (plainFor_of_name own_pn_0) hisR ?_
  intro p e s m args below meth c s₁ Bd hml0 hP hK
  obtain ⟨rfl, hZ, hh⟩ := hP
  have hx := Bd.exec
  have hby := Bd.bytes
  have hml : c.maxLocals = 6 := hml0
  have hown : s.vm.findClass "com/example/nimble_quorum/nimblequorum/wire/CreateModeOfPinLaw" = some m.cls := findClass_of_methodNamed Bd.named
  have hnm := (name_of_methodNamed Bd.named Bd.method).1
  have X0 : Stand p l e room_1 s m #[(.int p1)] below meth c s₁ [] 0 0 := Stand.of_body Bd
  have e0 : s₁.heap = h0 := by rw [← hh, Bd.state]; rfl
  have N0 := Fr.nil n0
  have pre0 : ∀ t, Steps p.tables e below (s₁.setTop (mkF m 0 #[.val (.int p1), .unset, .unset, .unset, .unset, .unset] [])) t → Steps p.tables e below (s₁.setTop (entryFrame m #[(.int p1)] maxLocals)) t := fun t k => castTop (own_ef_0_I m p1) k
  obtain ⟨T1, X1, e1, st1⟩ := getS2 X0 hx hZ hown (host := "") (Or.inl (hw _ (List.mem_of_getElem? (i := 45) rfl))) Via.refl e0 (G.2.2.2.2.2.2.2.2.1.ext O0.2) (g := (mkF m 32 #[.val (.int p1), .val (.int (1 : Int32)), .val (.int (1 : Int32)), .unset, .unset, .unset] [])) rfl (hb hby at_32)
  obtain ⟨_, _, ⟨T2, L2, k2, n2⟩, -, X2, ⟨Lc2, hQ2, l2, y2, z2⟩, st2⟩ := Jvm.LawKit.callS X1 hx (y := (⟨"com/example/nimble_quorum/nimblequorum/wire/CreateMode", "of", "(ZZ)Lcom/example/nimble_quorum/nimblequorum/wire/CreateMode;"⟩ : MethodName)) hown (mvT hZ (hw _ (List.mem_of_getElem? (i := 3) rfl))) (mvT hZ (hw _ (List.mem_of_getElem? (i := 4) rfl))) (mvT hZ (hw _ (List.mem_of_getElem? (i := 1) rfl))) (mvT hZ (hw _ (List.mem_of_getElem? (i := 5) rfl))) (by decide) (backOf (W := 0) (own_of_13 l Z a0 hw [] wPERSISTENT wVALUES wEPHEMERAL wPERSISTENT_SEQUENTIAL wEPHEMERAL_SEQUENTIAL kVALUES G h0 n0 O0) hZ (hw _ (List.mem_of_getElem? (i := 5) rfl)) (hw _ (List.mem_of_getElem? (i := 1) rfl)) (by decide) (by decide)) (g := (mkF m 84 #[.val (.int p1), .val (.int (1 : Int32)), .val (.int (1 : Int32)), .val (.ref wEPHEMERAL_SEQUENTIAL), .val (.int (3 : Int32)), .unset] [(.int (1 : Int32)), (.int (1 : Int32))])) rfl (by rw [hml]; rfl) (argsL := [(.int (1 : Int32)), (.int (1 : Int32))]) (rest := []) (lenOf own_pd_1 rfl) rfl (by show 2 * 0 + _ ≤ _; exact Nat.le_of_eq rfl) (hb hby at_84) (fun _ _ => ⟨rfl, e1, (by decide : 0 + 1 ≤ _), (by decide : 0 + 4 ≤ _)⟩)
  dsimp only [Pt.U, Pt.locs, Pt.cells, Pt.slots] at X2 l2 y2 z2 st2 hQ2
  subst l2 y2 z2
  obtain ⟨rfl, N2q, Kq2⟩ := hQ2
  have N2 := Fr.app N0 N2q
  have O2 := O0.keep Kq2 all0
  have K2 := (Keep.refl h0 []).trans Kq2 all0
  obtain ⟨cq3, kq3, q3a, q3b, q3c⟩ := isOf hZ rfl (G.2.2.2.2.2.2.2.2.2.1.ext O2.2)
  obtain ⟨_, _, ⟨T3, L3, k3, n3⟩, -, X3, ⟨Lc3, hQ3, l3, y3, z3⟩, st3⟩ := X2.virtualBack hx (y := (⟨"com/example/nimble_quorum/nimblequorum/wire/CreateMode", "isEphemeral", "()Z"⟩ : MethodName)) (z := (⟨"com/example/nimble_quorum/nimblequorum/wire/CreateMode", "isEphemeral", "()Z"⟩ : MethodName)) hown (mvT hZ (hw _ (List.mem_of_getElem? (i := 28) rfl))) (mvT hZ (hw _ (List.mem_of_getElem? (i := 29) rfl))) (notFace_of_selects (args := #[]) (mvT hZ (hw _ (List.mem_of_getElem? (i := 31) rfl)))) (mvT hZ (hw _ (List.mem_of_getElem? (i := 31) rfl))) (mvT hZ (hw _ (List.mem_of_getElem? (i := 30) rfl))) (by decide) (backOf (W := 0) (own_isEphemeral_14 l Z a0 hw [] wPERSISTENT wVALUES wEPHEMERAL wPERSISTENT_SEQUENTIAL wEPHEMERAL_SEQUENTIAL kVALUES G T2.heap n0 O2) hZ (hw _ (List.mem_of_getElem? (i := 32) rfl)) (hw _ (List.mem_of_getElem? (i := 1) rfl)) (by decide) (by decide)) q3a q3c (g := (mkF m 104 #[.val (.int p1), .val (.int (1 : Int32)), .val (.int (1 : Int32)), .val (.ref wEPHEMERAL_SEQUENTIAL), .val (.int (3 : Int32)), .val (.ref wEPHEMERAL_SEQUENTIAL)] [(.ref wEPHEMERAL_SEQUENTIAL)])) rfl (by rw [hml]; rfl) (Steps.refl _) (argsL := []) (rest := []) (lenOf own_pd_2 rfl) rfl (by show 2 * 0 + _ ≤ _; exact Nat.le_of_eq rfl) (hb hby at_104) (fun _ _ => ⟨rfl, rfl, (by decide : 1 + 0 ≤ _), (by decide : 4 + 0 ≤ _)⟩)
  dsimp only [Pt.U, Pt.locs, Pt.cells, Pt.slots] at X3 l3 y3 z3 st3 hQ3
  subst l3 y3 z3
  obtain ⟨rfl, N3q, e3⟩ := hQ3
  have N3 := Fr.app N2 N3q
  obtain ⟨cq4, kq4, q4a, q4b, q4c⟩ := isOf hZ e3 (G.2.2.2.2.2.2.2.2.2.1.ext O2.2)
  obtain ⟨_, _, ⟨T4, L4, k4, n4⟩, -, X4, ⟨Lc4, hQ4, l4, y4, z4⟩, st4⟩ := X3.virtualBack hx (y := (⟨"com/example/nimble_quorum/nimblequorum/wire/CreateMode", "isSequential", "()Z"⟩ : MethodName)) (z := (⟨"com/example/nimble_quorum/nimblequorum/wire/CreateMode", "isSequential", "()Z"⟩ : MethodName)) hown (mvT hZ (hw _ (List.mem_of_getElem? (i := 33) rfl))) (mvT hZ (hw _ (List.mem_of_getElem? (i := 34) rfl))) (notFace_of_selects (args := #[]) (mvT hZ (hw _ (List.mem_of_getElem? (i := 36) rfl)))) (mvT hZ (hw _ (List.mem_of_getElem? (i := 36) rfl))) (mvT hZ (hw _ (List.mem_of_getElem? (i := 35) rfl))) (by decide) (backOf (W := 0) (own_isSequential_15 l Z a0 hw [] wPERSISTENT wVALUES wEPHEMERAL wPERSISTENT_SEQUENTIAL wEPHEMERAL_SEQUENTIAL kVALUES G T2.heap n0 O2) hZ (hw _ (List.mem_of_getElem? (i := 37) rfl)) (hw _ (List.mem_of_getElem? (i := 1) rfl)) (by decide) (by decide)) q4a q4c (g := (mkF m 113 #[.val (.int p1), .val (.int (1 : Int32)), .val (.int (1 : Int32)), .val (.ref wEPHEMERAL_SEQUENTIAL), .val (.int (3 : Int32)), .val (.ref wEPHEMERAL_SEQUENTIAL)] [(.ref wEPHEMERAL_SEQUENTIAL)])) rfl (by rw [hml]; rfl) (Steps.refl _) (argsL := []) (rest := []) (lenOf own_pd_2 rfl) rfl (by show 2 * 0 + _ ≤ _; exact Nat.le_of_eq rfl) (hb hby at_113) (fun _ _ => ⟨rfl, e3, (by decide : 1 + 0 ≤ _), (by decide : 4 + 0 ≤ _)⟩)
  dsimp only [Pt.U, Pt.locs, Pt.cells, Pt.slots] at X4 l4 y4 z4 st4 hQ4
  subst l4 y4 z4
  obtain ⟨rfl, N4q, e4⟩ := hQ4
  have N4 := Fr.app N3 N4q
  obtain ⟨cq5, kq5, q5a, q5b, q5c⟩ := isOf hZ e4 (G.2.2.2.2.2.2.2.2.2.1.ext O2.2)
  obtain ⟨_, _, ⟨T5, L5, k5, n5⟩, -, X5, ⟨Lc5, hQ5, l5, y5, z5⟩, st5⟩ := X4.virtualBack hx (y := (⟨"com/example/nimble_quorum/nimblequorum/wire/CreateMode", "flags", "()I"⟩ : MethodName)) (z := (⟨"com/example/nimble_quorum/nimblequorum/wire/CreateMode", "flags", "()I"⟩ : MethodName)) hown (mvT hZ (hw _ (List.mem_of_getElem? (i := 38) rfl))) (mvT hZ (hw _ (List.mem_of_getElem? (i := 39) rfl))) (notFace_of_selects (args := #[]) (mvT hZ (hw _ (List.mem_of_getElem? (i := 41) rfl)))) (mvT hZ (hw _ (List.mem_of_getElem? (i := 41) rfl))) (mvT hZ (hw _ (List.mem_of_getElem? (i := 40) rfl))) (by decide) (backOf (W := 0) (own_flags_16 l Z a0 hw [] wPERSISTENT wVALUES wEPHEMERAL wPERSISTENT_SEQUENTIAL wEPHEMERAL_SEQUENTIAL kVALUES G T2.heap n0 O2) hZ (hw _ (List.mem_of_getElem? (i := 42) rfl)) (hw _ (List.mem_of_getElem? (i := 1) rfl)) (by decide) (by decide)) q5a q5c (g := (mkF m 122 #[.val (.int p1), .val (.int (1 : Int32)), .val (.int (1 : Int32)), .val (.ref wEPHEMERAL_SEQUENTIAL), .val (.int (3 : Int32)), .val (.ref wEPHEMERAL_SEQUENTIAL)] [(.ref wEPHEMERAL_SEQUENTIAL)])) rfl (by rw [hml]; rfl) (Steps.refl _) (argsL := []) (rest := []) (lenOf own_pd_3 rfl) rfl (by show 2 * 0 + _ ≤ _; exact Nat.le_of_eq rfl) (hb hby at_122) (fun _ _ => ⟨rfl, e4, (by decide : 1 + 0 ≤ _), (by decide : 4 + 0 ≤ _)⟩)
  dsimp only [Pt.U, Pt.locs, Pt.cells, Pt.slots] at X5 l5 y5 z5 st5 hQ5
  subst l5 y5 z5
  obtain ⟨rfl, N5q, e5⟩ := hQ5
  have N5 := Fr.app N4 N5q
  obtain ⟨fs, hr, hrun, hended, hW, hsame⟩ := X5.leave (v := some (.int (1 : Int32))) (fun h => by rw [Bd.returns] at h; cases h)
  refine ⟨_, _, pre0 _ ?_, hrun, hended, _, _, rfl, ?_, ⟨_, rfl⟩, hW, hsame.mono (by decide) (by decide)⟩
  · show Steps p.tables e below (s₁.setTop (mkF m 0 #[.val (.int p1), .unset, .unset, .unset, .unset, .unset] [])) _
    refine XS.iloadN X0.here hx rfl (hb hby at_0) rfl ?_
    show Steps p.tables e below (s₁.setTop (mkF m 1 #[.val (.int p1), .unset, .unset, .unset, .unset, .unset] [(.int p1)])) _
    refine XS.iconst X0.here hx rfl (hb hby at_1) ?_
    show Steps p.tables e below (s₁.setTop (mkF m 2 #[.val (.int p1), .unset, .unset, .unset, .unset, .unset] [(.int (1 : Int32)), (.int p1)])) _
    refine XS.iand X0.here hx rfl (hb hby at_2) rfl ?_
    show Steps p.tables e below (s₁.setTop (mkF m 3 #[.val (.int p1), .unset, .unset, .unset, .unset, .unset] [(.int (p1 &&& (1 : Int32)))])) _
    refine XS.ifNo X0.here hx rfl (hb hby at_3) rfl ((if0 _ _).trans (feq (h1 : ¬ ((p1 &&& (1 : Int32)) = (0 : Int32)))).1) ?_
    show Steps p.tables e below (s₁.setTop (mkF m 6 #[.val (.int p1), .unset, .unset, .unset, .unset, .unset] [])) _
    refine XS.iconst X0.here hx rfl (hb hby at_6) ?_
    show Steps p.tables e below (s₁.setTop (mkF m 7 #[.val (.int p1), .unset, .unset, .unset, .unset, .unset] [(.int (1 : Int32))])) _
    refine XS.goto X0.here hx rfl (pc0 := 7) (pc' := 11) rfl (hb hby at_7) (by decide) (by decide) ?_
    show Steps p.tables e below (s₁.setTop (mkF m 11 #[.val (.int p1), .unset, .unset, .unset, .unset, .unset] [(.int (1 : Int32))])) _
    refine XS.istoreN X0.here hx rfl (hb hby at_11) rfl (l' := #[.val (.int p1), .val (.int (1 : Int32)), .unset, .unset, .unset, .unset]) rfl ?_
    show Steps p.tables e below (s₁.setTop (mkF m 12 #[.val (.int p1), .val (.int (1 : Int32)), .unset, .unset, .unset, .unset] [])) _
    refine XS.iloadN X0.here hx rfl (hb hby at_12) rfl ?_
    show Steps p.tables e below (s₁.setTop (mkF m 13 #[.val (.int p1), .val (.int (1 : Int32)), .unset, .unset, .unset, .unset] [(.int p1)])) _
    refine XS.iconst X0.here hx rfl (hb hby at_13) ?_
    show Steps p.tables e below (s₁.setTop (mkF m 14 #[.val (.int p1), .val (.int (1 : Int32)), .unset, .unset, .unset, .unset] [(.int (2 : Int32)), (.int p1)])) _
    refine XS.iand X0.here hx rfl (hb hby at_14) rfl ?_
    show Steps p.tables e below (s₁.setTop (mkF m 15 #[.val (.int p1), .val (.int (1 : Int32)), .unset, .unset, .unset, .unset] [(.int (p1 &&& (2 : Int32)))])) _
    refine XS.ifNo X0.here hx rfl (hb hby at_15) rfl ((if0 _ _).trans (feq (h2 : ¬ ((p1 &&& (2 : Int32)) = (0 : Int32)))).1) ?_
    show Steps p.tables e below (s₁.setTop (mkF m 18 #[.val (.int p1), .val (.int (1 : Int32)), .unset, .unset, .unset, .unset] [])) _
    refine XS.iconst X0.here hx rfl (hb hby at_18) ?_
    show Steps p.tables e below (s₁.setTop (mkF m 19 #[.val (.int p1), .val (.int (1 : Int32)), .unset, .unset, .unset, .unset] [(.int (1 : Int32))])) _
    refine XS.goto X0.here hx rfl (pc0 := 19) (pc' := 23) rfl (hb hby at_19) (by decide) (by decide) ?_
    show Steps p.tables e below (s₁.setTop (mkF m 23 #[.val (.int p1), .val (.int (1 : Int32)), .unset, .unset, .unset, .unset] [(.int (1 : Int32))])) _
    refine XS.istoreN X0.here hx rfl (hb hby at_23) rfl (l' := #[.val (.int p1), .val (.int (1 : Int32)), .val (.int (1 : Int32)), .unset, .unset, .unset]) rfl ?_
    show Steps p.tables e below (s₁.setTop (mkF m 24 #[.val (.int p1), .val (.int (1 : Int32)), .val (.int (1 : Int32)), .unset, .unset, .unset] [])) _
    refine XS.iloadN X0.here hx rfl (hb hby at_24) rfl ?_
    show Steps p.tables e below (s₁.setTop (mkF m 25 #[.val (.int p1), .val (.int (1 : Int32)), .val (.int (1 : Int32)), .unset, .unset, .unset] [(.int (1 : Int32))])) _
    refine XS.ifNo X0.here hx rfl (hb hby at_25) rfl (by decide) ?_
    show Steps p.tables e below (s₁.setTop (mkF m 28 #[.val (.int p1), .val (.int (1 : Int32)), .val (.int (1 : Int32)), .unset, .unset, .unset] [])) _
    refine XS.iloadN X0.here hx rfl (hb hby at_28) rfl ?_
    show Steps p.tables e below (s₁.setTop (mkF m 29 #[.val (.int p1), .val (.int (1 : Int32)), .val (.int (1 : Int32)), .unset, .unset, .unset] [(.int (1 : Int32))])) _
    refine XS.ifNo X0.here hx rfl (hb hby at_29) rfl (by decide) ?_
    show Steps p.tables e below (s₁.setTop (mkF m 32 #[.val (.int p1), .val (.int (1 : Int32)), .val (.int (1 : Int32)), .unset, .unset, .unset] [])) _
    refine st1 _ ?_
    show Steps p.tables e below (T1.setTop (mkF m 35 #[.val (.int p1), .val (.int (1 : Int32)), .val (.int (1 : Int32)), .unset, .unset, .unset] [(.ref wEPHEMERAL_SEQUENTIAL)])) _
    refine XS.astoreN X1.here hx rfl (hb hby at_35) rfl rfl (l' := #[.val (.int p1), .val (.int (1 : Int32)), .val (.int (1 : Int32)), .val (.ref wEPHEMERAL_SEQUENTIAL), .unset, .unset]) rfl ?_
    show Steps p.tables e below (T1.setTop (mkF m 36 #[.val (.int p1), .val (.int (1 : Int32)), .val (.int (1 : Int32)), .val (.ref wEPHEMERAL_SEQUENTIAL), .unset, .unset] [])) _
    refine XS.goto X1.here hx rfl (pc0 := 36) (pc' := 61) rfl (hb hby at_36) (by decide) (by decide) ?_
    show Steps p.tables e below (T1.setTop (mkF m 61 #[.val (.int p1), .val (.int (1 : Int32)), .val (.int (1 : Int32)), .val (.ref wEPHEMERAL_SEQUENTIAL), .unset, .unset] [])) _
    refine XS.iloadN X1.here hx rfl (hb hby at_61) rfl ?_
    show Steps p.tables e below (T1.setTop (mkF m 62 #[.val (.int p1), .val (.int (1 : Int32)), .val (.int (1 : Int32)), .val (.ref wEPHEMERAL_SEQUENTIAL), .unset, .unset] [(.int (1 : Int32))])) _
    refine XS.ifNo X1.here hx rfl (hb hby at_62) rfl (by decide) ?_
    show Steps p.tables e below (T1.setTop (mkF m 65 #[.val (.int p1), .val (.int (1 : Int32)), .val (.int (1 : Int32)), .val (.ref wEPHEMERAL_SEQUENTIAL), .unset, .unset] [])) _
    refine XS.iconst X1.here hx rfl (hb hby at_65) ?_
    show Steps p.tables e below (T1.setTop (mkF m 66 #[.val (.int p1), .val (.int (1 : Int32)), .val (.int (1 : Int32)), .val (.ref wEPHEMERAL_SEQUENTIAL), .unset, .unset] [(.int (1 : Int32))])) _
    refine XS.goto X1.here hx rfl (pc0 := 66) (pc' := 70) rfl (hb hby at_66) (by decide) (by decide) ?_
    show Steps p.tables e below (T1.setTop (mkF m 70 #[.val (.int p1), .val (.int (1 : Int32)), .val (.int (1 : Int32)), .val (.ref wEPHEMERAL_SEQUENTIAL), .unset, .unset] [(.int (1 : Int32))])) _
    refine XS.iloadN X1.here hx rfl (hb hby at_70) rfl ?_
    show Steps p.tables e below (T1.setTop (mkF m 71 #[.val (.int p1), .val (.int (1 : Int32)), .val (.int (1 : Int32)), .val (.ref wEPHEMERAL_SEQUENTIAL), .unset, .unset] [(.int (1 : Int32)), (.int (1 : Int32))])) _
    refine XS.ifNo X1.here hx rfl (hb hby at_71) rfl (by decide) ?_
    show Steps p.tables e below (T1.setTop (mkF m 74 #[.val (.int p1), .val (.int (1 : Int32)), .val (.int (1 : Int32)), .val (.ref wEPHEMERAL_SEQUENTIAL), .unset, .unset] [(.int (1 : Int32))])) _
    refine XS.iconst X1.here hx rfl (hb hby at_74) ?_
    show Steps p.tables e below (T1.setTop (mkF m 75 #[.val (.int p1), .val (.int (1 : Int32)), .val (.int (1 : Int32)), .val (.ref wEPHEMERAL_SEQUENTIAL), .unset, .unset] [(.int (2 : Int32)), (.int (1 : Int32))])) _
    refine XS.goto X1.here hx rfl (pc0 := 75) (pc' := 79) rfl (hb hby at_75) (by decide) (by decide) ?_
    show Steps p.tables e below (T1.setTop (mkF m 79 #[.val (.int p1), .val (.int (1 : Int32)), .val (.int (1 : Int32)), .val (.ref wEPHEMERAL_SEQUENTIAL), .unset, .unset] [(.int (2 : Int32)), (.int (1 : Int32))])) _
    refine XS.iadd X1.here hx rfl (hb hby at_79) rfl ?_
    show Steps p.tables e below (T1.setTop (mkF m 80 #[.val (.int p1), .val (.int (1 : Int32)), .val (.int (1 : Int32)), .val (.ref wEPHEMERAL_SEQUENTIAL), .unset, .unset] [(.int ((1 : Int32) + (2 : Int32)))])) _
    refine castTop (g' := (mkF m 80 #[.val (.int p1), .val (.int (1 : Int32)), .val (.int (1 : Int32)), .val (.ref wEPHEMERAL_SEQUENTIAL), .unset, .unset] [(.int (3 : Int32))])) (by rw [show ((1 : Int32) + (2 : Int32)) = (3 : Int32) from by decide]) ?_
    show Steps p.tables e below (T1.setTop (mkF m 80 #[.val (.int p1), .val (.int (1 : Int32)), .val (.int (1 : Int32)), .val (.ref wEPHEMERAL_SEQUENTIAL), .unset, .unset] [(.int (3 : Int32))])) _
    refine XS.istore X1.here hx rfl (hb hby at_80) rfl (l' := #[.val (.int p1), .val (.int (1 : Int32)), .val (.int (1 : Int32)), .val (.ref wEPHEMERAL_SEQUENTIAL), .val (.int (3 : Int32)), .unset]) rfl ?_
    show Steps p.tables e below (T1.setTop (mkF m 82 #[.val (.int p1), .val (.int (1 : Int32)), .val (.int (1 : Int32)), .val (.ref wEPHEMERAL_SEQUENTIAL), .val (.int (3 : Int32)), .unset] [])) _
    refine XS.iloadN X1.here hx rfl (hb hby at_82) rfl ?_
    show Steps p.tables e below (T1.setTop (mkF m 83 #[.val (.int p1), .val (.int (1 : Int32)), .val (.int (1 : Int32)), .val (.ref wEPHEMERAL_SEQUENTIAL), .val (.int (3 : Int32)), .unset] [(.int (1 : Int32))])) _
    refine XS.iloadN X1.here hx rfl (hb hby at_83) rfl ?_
    show Steps p.tables e below (T1.setTop (mkF m 84 #[.val (.int p1), .val (.int (1 : Int32)), .val (.int (1 : Int32)), .val (.ref wEPHEMERAL_SEQUENTIAL), .val (.int (3 : Int32)), .unset] [(.int (1 : Int32)), (.int (1 : Int32))])) _
    refine st2 _ ?_
    show Steps p.tables e below (T2.setTop (mkF m 87 #[.val (.int p1), .val (.int (1 : Int32)), .val (.int (1 : Int32)), .val (.ref wEPHEMERAL_SEQUENTIAL), .val (.int (3 : Int32)), .unset] [(.ref wEPHEMERAL_SEQUENTIAL)])) _
    refine XS.astore X2.here hx rfl (hb hby at_87) rfl rfl (l' := #[.val (.int p1), .val (.int (1 : Int32)), .val (.int (1 : Int32)), .val (.ref wEPHEMERAL_SEQUENTIAL), .val (.int (3 : Int32)), .val (.ref wEPHEMERAL_SEQUENTIAL)]) rfl ?_
    show Steps p.tables e below (T2.setTop (mkF m 89 #[.val (.int p1), .val (.int (1 : Int32)), .val (.int (1 : Int32)), .val (.ref wEPHEMERAL_SEQUENTIAL), .val (.int (3 : Int32)), .val (.ref wEPHEMERAL_SEQUENTIAL)] [])) _
    refine XS.aload X2.here hx rfl (hb hby at_89) rfl rfl ?_
    show Steps p.tables e below (T2.setTop (mkF m 91 #[.val (.int p1), .val (.int (1 : Int32)), .val (.int (1 : Int32)), .val (.ref wEPHEMERAL_SEQUENTIAL), .val (.int (3 : Int32)), .val (.ref wEPHEMERAL_SEQUENTIAL)] [(.ref wEPHEMERAL_SEQUENTIAL)])) _
    refine XS.ifnonnullYes X2.here hx rfl (pc0 := 91) (pc' := 96) rfl (hb hby at_91) rfl (by decide) (by decide) ?_
    show Steps p.tables e below (T2.setTop (mkF m 96 #[.val (.int p1), .val (.int (1 : Int32)), .val (.int (1 : Int32)), .val (.ref wEPHEMERAL_SEQUENTIAL), .val (.int (3 : Int32)), .val (.ref wEPHEMERAL_SEQUENTIAL)] [])) _
    refine XS.aload X2.here hx rfl (hb hby at_96) rfl rfl ?_
    show Steps p.tables e below (T2.setTop (mkF m 98 #[.val (.int p1), .val (.int (1 : Int32)), .val (.int (1 : Int32)), .val (.ref wEPHEMERAL_SEQUENTIAL), .val (.int (3 : Int32)), .val (.ref wEPHEMERAL_SEQUENTIAL)] [(.ref wEPHEMERAL_SEQUENTIAL)])) _
    refine XS.aloadN X2.here hx rfl (hb hby at_98) rfl rfl ?_
    show Steps p.tables e below (T2.setTop (mkF m 99 #[.val (.int p1), .val (.int (1 : Int32)), .val (.int (1 : Int32)), .val (.ref wEPHEMERAL_SEQUENTIAL), .val (.int (3 : Int32)), .val (.ref wEPHEMERAL_SEQUENTIAL)] [(.ref wEPHEMERAL_SEQUENTIAL), (.ref wEPHEMERAL_SEQUENTIAL)])) _
    refine Jvm.RoadKit.acmp (g := (mkF m 99 #[.val (.int p1), .val (.int (1 : Int32)), .val (.int (1 : Int32)), .val (.ref wEPHEMERAL_SEQUENTIAL), .val (.int (3 : Int32)), .val (.ref wEPHEMERAL_SEQUENTIAL)] [(.ref wEPHEMERAL_SEQUENTIAL), (.ref wEPHEMERAL_SEQUENTIAL)])) X2 hx rfl rfl rfl (pc0 := 99) (pc' := 102) (same := true) rfl (hb hby at_99) rfl (decide_eq_true rfl) (by decide) (by decide) ?_
    show Steps p.tables e below (T2.setTop (mkF m 102 #[.val (.int p1), .val (.int (1 : Int32)), .val (.int (1 : Int32)), .val (.ref wEPHEMERAL_SEQUENTIAL), .val (.int (3 : Int32)), .val (.ref wEPHEMERAL_SEQUENTIAL)] [])) _
    refine XS.aload X2.here hx rfl (hb hby at_102) rfl rfl ?_
    show Steps p.tables e below (T2.setTop (mkF m 104 #[.val (.int p1), .val (.int (1 : Int32)), .val (.int (1 : Int32)), .val (.ref wEPHEMERAL_SEQUENTIAL), .val (.int (3 : Int32)), .val (.ref wEPHEMERAL_SEQUENTIAL)] [(.ref wEPHEMERAL_SEQUENTIAL)])) _
    refine st3.trans ?_
    show Steps p.tables e below (T3.setTop (mkF m 107 #[.val (.int p1), .val (.int (1 : Int32)), .val (.int (1 : Int32)), .val (.ref wEPHEMERAL_SEQUENTIAL), .val (.int (3 : Int32)), .val (.ref wEPHEMERAL_SEQUENTIAL)] [(.int (1 : Int32))])) _
    refine XS.iloadN X3.here hx rfl (hb hby at_107) rfl ?_
    show Steps p.tables e below (T3.setTop (mkF m 108 #[.val (.int p1), .val (.int (1 : Int32)), .val (.int (1 : Int32)), .val (.ref wEPHEMERAL_SEQUENTIAL), .val (.int (3 : Int32)), .val (.ref wEPHEMERAL_SEQUENTIAL)] [(.int (1 : Int32)), (.int (1 : Int32))])) _
    refine XS.icmpNo X3.here hx rfl (hb hby at_108) rfl (by decide) ?_
    show Steps p.tables e below (T3.setTop (mkF m 111 #[.val (.int p1), .val (.int (1 : Int32)), .val (.int (1 : Int32)), .val (.ref wEPHEMERAL_SEQUENTIAL), .val (.int (3 : Int32)), .val (.ref wEPHEMERAL_SEQUENTIAL)] [])) _
    refine XS.aload X3.here hx rfl (hb hby at_111) rfl rfl ?_
    show Steps p.tables e below (T3.setTop (mkF m 113 #[.val (.int p1), .val (.int (1 : Int32)), .val (.int (1 : Int32)), .val (.ref wEPHEMERAL_SEQUENTIAL), .val (.int (3 : Int32)), .val (.ref wEPHEMERAL_SEQUENTIAL)] [(.ref wEPHEMERAL_SEQUENTIAL)])) _
    refine st4.trans ?_
    show Steps p.tables e below (T4.setTop (mkF m 116 #[.val (.int p1), .val (.int (1 : Int32)), .val (.int (1 : Int32)), .val (.ref wEPHEMERAL_SEQUENTIAL), .val (.int (3 : Int32)), .val (.ref wEPHEMERAL_SEQUENTIAL)] [(.int (1 : Int32))])) _
    refine XS.iloadN X4.here hx rfl (hb hby at_116) rfl ?_
    show Steps p.tables e below (T4.setTop (mkF m 117 #[.val (.int p1), .val (.int (1 : Int32)), .val (.int (1 : Int32)), .val (.ref wEPHEMERAL_SEQUENTIAL), .val (.int (3 : Int32)), .val (.ref wEPHEMERAL_SEQUENTIAL)] [(.int (1 : Int32)), (.int (1 : Int32))])) _
    refine XS.icmpNo X4.here hx rfl (hb hby at_117) rfl (by decide) ?_
    show Steps p.tables e below (T4.setTop (mkF m 120 #[.val (.int p1), .val (.int (1 : Int32)), .val (.int (1 : Int32)), .val (.ref wEPHEMERAL_SEQUENTIAL), .val (.int (3 : Int32)), .val (.ref wEPHEMERAL_SEQUENTIAL)] [])) _
    refine XS.aload X4.here hx rfl (hb hby at_120) rfl rfl ?_
    show Steps p.tables e below (T4.setTop (mkF m 122 #[.val (.int p1), .val (.int (1 : Int32)), .val (.int (1 : Int32)), .val (.ref wEPHEMERAL_SEQUENTIAL), .val (.int (3 : Int32)), .val (.ref wEPHEMERAL_SEQUENTIAL)] [(.ref wEPHEMERAL_SEQUENTIAL)])) _
    refine st5.trans ?_
    show Steps p.tables e below (T5.setTop (mkF m 125 #[.val (.int p1), .val (.int (1 : Int32)), .val (.int (1 : Int32)), .val (.ref wEPHEMERAL_SEQUENTIAL), .val (.int (3 : Int32)), .val (.ref wEPHEMERAL_SEQUENTIAL)] [(.int (3 : Int32))])) _
    refine XS.iload X5.here hx rfl (hb hby at_125) rfl ?_
    show Steps p.tables e below (T5.setTop (mkF m 127 #[.val (.int p1), .val (.int (1 : Int32)), .val (.int (1 : Int32)), .val (.ref wEPHEMERAL_SEQUENTIAL), .val (.int (3 : Int32)), .val (.ref wEPHEMERAL_SEQUENTIAL)] [(.int (3 : Int32)), (.int (3 : Int32))])) _
    refine XS.icmpNo X5.here hx rfl (hb hby at_127) rfl (by decide) ?_
    show Steps p.tables e below (T5.setTop (mkF m 130 #[.val (.int p1), .val (.int (1 : Int32)), .val (.int (1 : Int32)), .val (.ref wEPHEMERAL_SEQUENTIAL), .val (.int (3 : Int32)), .val (.ref wEPHEMERAL_SEQUENTIAL)] [])) _
    refine XS.iconst X5.here hx rfl (hb hby at_130) ?_
    show Steps p.tables e below (T5.setTop (mkF m 131 #[.val (.int p1), .val (.int (1 : Int32)), .val (.int (1 : Int32)), .val (.ref wEPHEMERAL_SEQUENTIAL), .val (.int (3 : Int32)), .val (.ref wEPHEMERAL_SEQUENTIAL)] [(.int (1 : Int32))])) _
    refine XS.goto X5.here hx rfl (pc0 := 131) (pc' := 135) rfl (hb hby at_131) (by decide) (by decide) ?_
    show Steps p.tables e below (T5.setTop (mkF m 135 #[.val (.int p1), .val (.int (1 : Int32)), .val (.int (1 : Int32)), .val (.ref wEPHEMERAL_SEQUENTIAL), .val (.int (3 : Int32)), .val (.ref wEPHEMERAL_SEQUENTIAL)] [(.int (1 : Int32))])) _
    exact retN X5 hx (t := .boolean) Bd.returns (by simp) (hb hby at_135) hr
  · exact ⟨rfl, N5⟩
theorem own_law (l : Launch) (Z : State) (a0 : Array Value) (hw : ∀ d ∈ tables_1, d.before a0 Z = true) (ws : List Jvm.Cond) (wPERSISTENT : Addr) (wVALUES : Addr) (wEPHEMERAL : Addr) (wPERSISTENT_SEQUENTIAL : Addr) (wEPHEMERAL_SEQUENTIAL : Addr) (kVALUES : ClassId) (G : OwnG Z wPERSISTENT wVALUES wEPHEMERAL wPERSISTENT_SEQUENTIAL wEPHEMERAL_SEQUENTIAL kVALUES) (h0 : Heap) (n0 : Nat) (O0 : Old Z n0 h0) (p1 : Int32) :
    MetFree l x (head1 (Jvm.Cond.code x code maxLocals ret :: ws) room_1) (fun a U => a = #[(.int p1)] ∧ Z.Warmed39 U.vm ∧ U.heap = h0) (fun _ _ _ _ _ => True) (fun _ U o U' => ∃ v L, o = .returned v ∧ (v = some (.int 1) ∧ Fr n0 L) ∧ FrameEnd U o U' L room_1.cells room_1.slots) := by
  by_cases h1 : (p1 &&& (1 : Int32)) = (0 : Int32) <;> by_cases h2 : (p1 &&& (2 : Int32)) = (0 : Int32)
  · exact own_law_0 l Z a0 hw ws wPERSISTENT wVALUES wEPHEMERAL wPERSISTENT_SEQUENTIAL wEPHEMERAL_SEQUENTIAL kVALUES G h0 n0 O0 p1 h1 h2
  · exact own_law_2 l Z a0 hw ws wPERSISTENT wVALUES wEPHEMERAL wPERSISTENT_SEQUENTIAL wEPHEMERAL_SEQUENTIAL kVALUES G h0 n0 O0 p1 h1 h2
  · exact own_law_1 l Z a0 hw ws wPERSISTENT wVALUES wEPHEMERAL wPERSISTENT_SEQUENTIAL wEPHEMERAL_SEQUENTIAL kVALUES G h0 n0 O0 p1 h1 h2
  · exact own_law_3 l Z a0 hw ws wPERSISTENT wVALUES wEPHEMERAL wPERSISTENT_SEQUENTIAL wEPHEMERAL_SEQUENTIAL kVALUES G h0 n0 O0 p1 h1 h2
set_option maxRecDepth 65536 in
set_option maxHeartbeats 40000000 in
theorem comes_1 {Post : Tables → Env → Array Value → State → Outcome → State → Prop} (hpost : ∀ tb e args s v u, (limb_1_1.after args s (.returned v) u = true ∧ limb_1_2.after args s (.returned v) u = true ∧ True) → FrameEnd s (.returned v) u (Jvm.fieldLocs frame_1_writes args s ++ Jvm.arrayLocs frame_1_arrays args s ++ Jvm.staticLocs frame_1_statics s) 16 128 → Post tb e args s (.returned v) u) :
    ArmFor flags0 classFile x code maxLocals ret World_1 tables_1 room_1 Calls_1 rest_1 Pre_1 Post := by
  intro l hfl _ _ p e ha hc hk s m args below hf hA hF happ hP
  obtain ⟨hcalls, hrest, hpre⟩ := hP
  obtain ⟨-, -, -, hnamed, -, -, -, hat⟩ := (Spec.applies_iff hf).mp happ
  obtain ⟨hg, hn⟩ := and_e (Cond.before_iff.mp (show (Jvm.Cond.and given_1 narrow_1).before args s = true from hpre))
  obtain ⟨hgv0, hgm0⟩ := and_e hg
  have hgv1 := hgm0
  obtain ⟨w0, rfl⟩ : ∃ w0 : Value, args = #[w0] := by
    have hs : args.size = 1 := by simpa [Cond.value, given_1] using hgv0
    obtain ⟨L⟩ := args
    match L, hs with
    | [w0], _ => exact ⟨w0, rfl⟩
  have hw := fun d (hd : d ∈ tables_1) => atoms_spec (ws := Jvm.Cond.code x code maxLocals ret :: tables_1) hat d (List.mem_cons_of_mem _ hd)
  have hfit : Fit s := fun {y c} hc i hi => by
    obtain ⟨ha, rfl⟩ := Array.getElem?_eq_some_iff.mp hc
    have q := List.all_eq_true.mp ((Array.all_eq_true_iff_forall_mem.mp hF) _ (Array.getElem_mem ha)) i (List.mem_range.mpr hi)
    simpa [Array.getElem?_eq_getElem hi] using q
  obtain ⟨i0, ei0⟩ := is_v hgv1
  obtain rfl : w0 = (.int i0) := Option.some.inj ei0
  obtain ⟨hc0, hm0⟩ := and_e hn
  obtain ⟨hc1, hm1⟩ := and_e hm0
  obtain ⟨hc2, hm2⟩ := and_e hm1
  obtain ⟨hc3, hm3⟩ := and_e hm2
  obtain ⟨hc4, hm4⟩ := and_e hm3
  obtain ⟨hc5, hm5⟩ := and_e hm4
  obtain ⟨hc6, hm6⟩ := and_e hm5
  obtain ⟨hc7, hm7⟩ := and_e hm6
  obtain ⟨hc8, hm8⟩ := and_e hm7
  obtain ⟨hc9, hm9⟩ := and_e hm8
  obtain ⟨hc10, hm10⟩ := and_e hm9
  obtain ⟨hc11, hm11⟩ := and_e hm10
  obtain ⟨hc12, hm12⟩ := and_e hm11
  obtain ⟨hc13, hm13⟩ := and_e hm12
  obtain ⟨hc14, hm14⟩ := and_e hm13
  obtain ⟨hc15, hm15⟩ := and_e hm14
  obtain ⟨hc16, hm16⟩ := and_e hm15
  obtain ⟨hc17, hm17⟩ := and_e hm16
  obtain ⟨hc18, hm18⟩ := and_e hm17
  obtain ⟨hc19, hm19⟩ := and_e hm18
  obtain ⟨hc20, hm20⟩ := and_e hm19
  obtain ⟨hc21, hm21⟩ := and_e hm20
  have hc22 := hm21
  obtain ⟨wPERSISTENT, ev_wPERSISTENT⟩ := exa_v hc0
  obtain ⟨wVALUES, ev_wVALUES⟩ := arr_v hc1
  obtain ⟨wEPHEMERAL, ev_wEPHEMERAL⟩ := exa_v hc5
  obtain ⟨wPERSISTENT_SEQUENTIAL, ev_wPERSISTENT_SEQUENTIAL⟩ := exa_v hc7
  obtain ⟨wEPHEMERAL_SEQUENTIAL, ev_wEPHEMERAL_SEQUENTIAL⟩ := exa_v hc9
  obtain ⟨cl_wVALUES, Ar_wVALUES⟩ := Arr.start ev_wVALUES hc1
  obtain ⟨kVALUES, hk_wVALUES⟩ : ∃ k, k = cl_wVALUES.cls := ⟨_, rfl⟩
  obtain ⟨lq_wVALUES, le_wVALUES⟩ := own_len ev_wVALUES Ar_wVALUES.1 hc3
  have gf0 := Sta.start ev_wPERSISTENT (Or.inr ⟨(hw _ (List.mem_of_getElem? (i := 1) rfl)), (hw _ (List.mem_of_getElem? (i := 2) rfl))⟩)
  have gf1 := Exa.start ev_wPERSISTENT hc0
  have gf2 := Sta.start ev_wVALUES (Or.inr ⟨(hw _ (List.mem_of_getElem? (i := 1) rfl)), (hw _ (List.mem_of_getElem? (i := 10) rfl))⟩)
  have gf3 := Exa.start ev_wVALUES hc2
  have gf4 := Sta.start ev_wEPHEMERAL (Or.inr ⟨(hw _ (List.mem_of_getElem? (i := 1) rfl)), (hw _ (List.mem_of_getElem? (i := 18) rfl))⟩)
  have gf5 := Exa.start ev_wEPHEMERAL hc5
  have gf6 := Sta.start ev_wPERSISTENT_SEQUENTIAL (Or.inr ⟨(hw _ (List.mem_of_getElem? (i := 1) rfl)), (hw _ (List.mem_of_getElem? (i := 19) rfl))⟩)
  have gf7 := Exa.start ev_wPERSISTENT_SEQUENTIAL hc7
  have gf8 := Sta.start ev_wEPHEMERAL_SEQUENTIAL (Or.inr ⟨(hw _ (List.mem_of_getElem? (i := 1) rfl)), (hw _ (List.mem_of_getElem? (i := 20) rfl))⟩)
  have gf9 := Exa.start ev_wEPHEMERAL_SEQUENTIAL hc9
  have gf10 := Fld.start ((fld_at ev_wPERSISTENT).symm.trans (own_eqi hc11))
  have gf11 := Fld.start ((fld_at ev_wPERSISTENT).symm.trans (own_eqi hc12))
  have gf12 := Fld.start ((fld_at ev_wEPHEMERAL).symm.trans (own_eqi hc13))
  have gf13 := Fld.start ((fld_at ev_wPERSISTENT_SEQUENTIAL).symm.trans (own_eqi hc14))
  have gf14 := Fld.start ((fld_at ev_wPERSISTENT_SEQUENTIAL).symm.trans (own_eqi hc15))
  have gf15 := Fld.start ((fld_at ev_wEPHEMERAL_SEQUENTIAL).symm.trans (own_eqi hc16))
  have gf16 := Fld.start ((fld_at ev_wPERSISTENT).symm.trans (own_eqi hc17))
  have gf17 := Fld.start ((fld_at ev_wEPHEMERAL).symm.trans (own_eqi hc18))
  have gf18 := Fld.start ((fld_at ev_wEPHEMERAL_SEQUENTIAL).symm.trans (own_eqi hc19))
  have gf19 := Fld.start ((fld_at ev_wEPHEMERAL_SEQUENTIAL).symm.trans (own_eqi hc20))
  have gf20 := Fld.start ((fld_at ev_wPERSISTENT_SEQUENTIAL).symm.trans (own_eqi hc21))
  have gf21 := Fld.start ((fld_at ev_wEPHEMERAL).symm.trans (own_eqi hc22))
  have gf22 : Arv s s.heap wVALUES kVALUES (.object "com/example/nimble_quorum/nimblequorum/wire/CreateMode") (4 : Int32) [(.ref wPERSISTENT), (.ref wEPHEMERAL), (.ref wPERSISTENT_SEQUENTIAL), (.ref wEPHEMERAL_SEQUENTIAL)] .null := by rw [hk_wVALUES]; exact Arv.start hfit Ar_wVALUES lq_wVALUES le_wVALUES (by decide) rfl ⟨(own_el ev_wVALUES Ar_wVALUES.1 hc4 ev_wPERSISTENT).2, (own_el ev_wVALUES Ar_wVALUES.1 hc6 ev_wEPHEMERAL).2, (own_el ev_wVALUES Ar_wVALUES.1 hc8 ev_wPERSISTENT_SEQUENTIAL).2, (own_el ev_wVALUES Ar_wVALUES.1 hc10 ev_wEPHEMERAL_SEQUENTIAL).2, trivial⟩
  have G : OwnG s wPERSISTENT wVALUES wEPHEMERAL wPERSISTENT_SEQUENTIAL wEPHEMERAL_SEQUENTIAL kVALUES := ⟨gf0, gf1, gf2, gf3, gf4, gf5, gf6, gf7, gf8, gf9, gf10, gf11, gf12, gf13, gf14, gf15, gf16, gf17, gf18, gf19, gf20, gf21, gf22, Fld.ne gf10 gf12 (by decide), Fld.ne gf10 gf15 (by decide), Fld.ne gf12 gf13 (by decide), Fld.ne gf13 gf15 (by decide), Fld.ne gf11 gf14 (by decide), Fld.ne gf17 gf18 (by decide)⟩
  obtain ⟨n, o, h1, h2, h3, _, L, rfl, ⟨rfl, N⟩, hq⟩ := own_law l s _ hw tables_1 wPERSISTENT wVALUES wEPHEMERAL wPERSISTENT_SEQUENTIAL wEPHEMERAL_SEQUENTIAL kVALUES G s.heap s.heap.size (Old.start s) i0 p e ha hc hk s m _ below hf ((Spec.applies_iff_loose hf).mp happ).1 ⟨rfl, State.Warmed39.refl s, rfl⟩ trivial
  exact ⟨n, _, h1, h2, h3, hpost _ _ _ _ _ _ ⟨Cond.after_iff.mpr rfl, Cond.after_iff.mpr (eq_i res_at (Term.int_eval (1)) rfl), trivial⟩ ⟨hq.1, hq.2.1, (hq.2.2.sift fun y hy => Or.inr (N y hy)).mono (by decide) (by decide)⟩⟩
theorem main_1_1 : Claimed_1_1 := comes_1 fun _ _ _ _ _ _ h hF => ⟨h.1, hF⟩
theorem main_1_2 : Claimed_1_2 := comes_1 fun _ _ _ _ _ _ h hF => ⟨h.2.1, hF⟩
end Jvm.Pilot.@@N@@
namespace Jvm.Pilot.@@N@@
open Jvm Jvm.ClassFile Sem Op Lib Jvm.Free Jvm.Stand Jvm.Pilot.@@N@@.Jvm.D
/-! MADE BY PROGRAM (witnessworld.py) out of the Statement's table words and the real class files: 13 classes; the members and pool entries that the words name. The judged class is class 1, her method 1. -/
namespace start1
open Jvm.ClassFile
def u (s : String) : CpInfo := .utf8 (stringToUtf16 s)
/-- a pool by its gaps: so many unusable entries, then the entry; so many at the end -/
def gap : Nat → List CpInfo → List CpInfo
  | 0, r => r
  | n + 1, r => .unusable :: gap n r
def poolList (es : List (Nat × CpInfo)) (last : Nat) : List CpInfo := es.foldr (fun e r => gap e.1 (e.2 :: r)) (gap last [])
def pool (es : List (Nat × CpInfo)) (last : Nat) : Array CpInfo := ⟨poolList es last⟩
def fileOf (pool : Array CpInfo) (this : Nat) (attrs : Array Attribute := #[]) (ms : Array MethodInfo := #[]) (fl : Nat := 33) (sup : Nat := 0) (ifs : Array Nat := #[]) (fds : Array FieldInfo := #[]) : ClassFile where
  minorVersion := 0
  majorVersion := 65
  constantPool := pool
  accessFlags := fl
  thisClass := this
  superClass := sup
  interfaces := ifs
  fields := fds
  methods := ms
  attributes := attrs
def plain (name : String) (sup : Option ClassId) : Class where
  name := name
  kind := .ordinary
  loader := none
  accessFlags := 33
  super := sup
  interfaces := #[]
  cf := none
  fields := #[]
  methods := #[]
  instanceTypes := #[]
  staticTypes := #[]
  resolved := #[]
  callSites := []
  init := .initialized
  statics := none
  mirror := none

def pool0 : Array CpInfo := pool [(5, u "<init>"), (0, u "()V"), (1, .class_ 10), (1, u "java/lang/Object"), (85, u "clone"), (0, u "()Ljava/lang/Object;")] 26

def k0m0 : Method := { name := "<init>", desc := "()V", sig := { parameters := [], returnType := none }, accessFlags := 1, code := none }
def k0m1 : Method := { name := "clone", desc := "()Ljava/lang/Object;", sig := { parameters := [], returnType := some (.object "java/lang/Object") }, accessFlags := 260, code := none }
/-- java/lang/Object -/
def k0 : Class := { plain "java/lang/Object" none with
  accessFlags := 33
  interfaces := #[]
  cf := some (fileOf pool0 8 #[] #[{ accessFlags := 1, nameIndex := 5, descriptorIndex := 6, attributes := #[] }, { accessFlags := 260, nameIndex := 96, descriptorIndex := 97, attributes := #[] }] 33 0 #[] #[])
  fields := #[]
  methods := #[k0m0, k0m1]
  instanceTypes := #[]
  staticTypes := #[]
  resolved := Array.replicate 124 none
  statics := none }

def pool1 : Array CpInfo := pool [(2, .class_ 4), (1, u "java/lang/Object"), (0, u "<init>"), (0, u "()V"), (0, .fieldref 8 9), (0, .class_ 10), (0, .nameAndType 11 12), (0, u "com/example/nimble_quorum/nimblequorum/wire/CreateMode"), (0, u "EPHEMERAL_SEQUENTIAL"), (0, u "Lcom/example/nimble_quorum/nimblequorum/wire/CreateMode;"), (0, .fieldref 8 14), (0, .nameAndType 15 12), (0, u "EPHEMERAL"), (0, .fieldref 8 17), (0, .nameAndType 18 12), (0, u "PERSISTENT_SEQUENTIAL"), (0, .fieldref 8 20), (0, .nameAndType 21 12), (0, u "PERSISTENT"), (0, .methodref 8 23), (0, .nameAndType 24 25), (0, u "of"), (0, u "(ZZ)Lcom/example/nimble_quorum/nimblequorum/wire/CreateMode;"), (0, .methodref 8 27), (0, .nameAndType 28 29), (0, u "isEphemeral"), (0, u "()Z"), (0, .methodref 8 31), (0, .nameAndType 32 29), (0, u "isSequential"), (0, .methodref 8 34), (0, .nameAndType 35 36), (0, u "flags"), (0, u "()I"), (0, .class_ 38), (0, u "com/example/nimble_quorum/nimblequorum/wire/CreateModeOfPinLaw"), (2, u "law"), (0, u "(I)Z")] 3

def k1m0 : Method := { name := "<init>", desc := "()V", sig := { parameters := [], returnType := none }, accessFlags := 2, code := none }
def k1c1 : Code := { maxStack := 2, maxLocals := 6, code := code, exceptionTable := #[], attributes := #[] }
def k1m1 : Method := { name := "law", desc := "(I)Z", sig := { parameters := [.int], returnType := some .boolean }, accessFlags := 9, code := some k1c1 }
/-- com/example/nimble_quorum/nimblequorum/wire/CreateModeOfPinLaw -/
def k1 : Class := { plain "com/example/nimble_quorum/nimblequorum/wire/CreateModeOfPinLaw" (some 0) with
  accessFlags := 49
  interfaces := #[]
  cf := some (fileOf pool1 37 #[] #[{ accessFlags := 2, nameIndex := 5, descriptorIndex := 6, attributes := #[] }, { accessFlags := 9, nameIndex := 41, descriptorIndex := 42, attributes := #[] }] 49 2 #[] #[])
  fields := #[]
  methods := #[k1m0, k1m1]
  instanceTypes := #[]
  staticTypes := #[]
  resolved := Array.replicate 46 none
  statics := none }

def pool2 : Array CpInfo := pool [(1, .class_ 2), (0, u "java/lang/constant/Constable"), (0, .class_ 4), (0, u "java/lang/Object")] 6

/-- java/lang/constant/Constable -/
def k2 : Class := { plain "java/lang/constant/Constable" (some 0) with
  accessFlags := 1537
  interfaces := #[]
  cf := some (fileOf pool2 1 #[] #[] 1537 3 #[] #[])
  fields := #[]
  methods := #[]
  instanceTypes := #[]
  staticTypes := #[]
  resolved := Array.replicate 11 none
  statics := none }

def pool3 : Array CpInfo := pool [(1, .class_ 2), (0, u "java/lang/Comparable"), (0, .class_ 4), (0, u "java/lang/Object")] 7

/-- java/lang/Comparable -/
def k3 : Class := { plain "java/lang/Comparable" (some 0) with
  accessFlags := 1537
  interfaces := #[]
  cf := some (fileOf pool3 1 #[] #[] 1537 3 #[] #[])
  fields := #[]
  methods := #[]
  instanceTypes := #[]
  staticTypes := #[]
  resolved := Array.replicate 12 none
  statics := none }

def pool4 : Array CpInfo := pool [(1, .class_ 2), (0, u "java/io/Serializable"), (0, .class_ 4), (0, u "java/lang/Object")] 2

/-- java/io/Serializable -/
def k4 : Class := { plain "java/io/Serializable" (some 0) with
  accessFlags := 1537
  interfaces := #[]
  cf := some (fileOf pool4 1 #[] #[] 1537 3 #[] #[])
  fields := #[]
  methods := #[]
  instanceTypes := #[]
  staticTypes := #[]
  resolved := Array.replicate 7 none
  statics := none }

def pool5 : Array CpInfo := pool [(2, .class_ 4), (1, u "java/lang/Enum"), (0, u "name"), (0, u "Ljava/lang/String;"), (2, u "ordinal"), (0, u "I"), (1, .class_ 14), (1, u "java/lang/Object"), (4, u "hash"), (86, .class_ 108), (1, u "java/lang/Enum$EnumDesc"), (2, .class_ 112), (0, u "java/lang/constant/Constable"), (0, .class_ 114), (0, u "java/lang/Comparable"), (0, .class_ 116), (0, u "java/io/Serializable")] 87

/-- java/lang/Enum -/
def k5 : Class := { plain "java/lang/Enum" (some 0) with
  accessFlags := 1057
  interfaces := #[2, 3, 4]
  cf := some (fileOf pool5 2 #[.nestMembers #[106]] #[] 1057 12 #[111, 113, 115] #[{ accessFlags := 18, nameIndex := 5, descriptorIndex := 6, attributes := #[] }, { accessFlags := 18, nameIndex := 9, descriptorIndex := 10, attributes := #[] }, { accessFlags := 2, nameIndex := 19, descriptorIndex := 10, attributes := #[] }])
  fields := #[{ name := "name", type := (.object "java/lang/String"), accessFlags := 18, slot := 0, constantValue := 0 }, { name := "ordinal", type := .int, accessFlags := 18, slot := 1, constantValue := 0 }, { name := "hash", type := .int, accessFlags := 2, slot := 2, constantValue := 0 }]
  methods := #[]
  instanceTypes := #[(.object "java/lang/String"), .int, .int]
  staticTypes := #[]
  resolved := Array.replicate 204 none
  statics := none }

def pool6 : Array CpInfo := pool [(1, .class_ 2), (0, u "com/example/nimble_quorum/nimblequorum/wire/CreateMode"), (2, u "PERSISTENT"), (0, u "Lcom/example/nimble_quorum/nimblequorum/wire/CreateMode;"), (2, u "EPHEMERAL"), (2, u "PERSISTENT_SEQUENTIAL"), (2, u "EPHEMERAL_SEQUENTIAL"), (0, .fieldref 1 17), (0, .nameAndType 18 19), (0, u "$VALUES"), (0, u "[Lcom/example/nimble_quorum/nimblequorum/wire/CreateMode;"), (0, .methodref 21 22), (0, .class_ 19), (0, .nameAndType 23 24), (0, u "clone"), (0, u "()Ljava/lang/Object;"), (1, .class_ 28), (1, u "java/lang/Enum"), (6, .fieldref 1 36), (0, .nameAndType 37 38), (0, u "flags"), (0, u "I"), (0, .fieldref 1 40), (0, .nameAndType 41 42), (0, u "ephemeral"), (0, u "Z"), (0, .fieldref 1 44), (0, .nameAndType 45 42), (0, u "sequential"), (0, .methodref 1 47), (0, .nameAndType 48 49), (0, u "values"), (0, u "()[Lcom/example/nimble_quorum/nimblequorum/wire/CreateMode;"), (10, u "LAST_DEFINED_FLAGS"), (8, u "of"), (2, u "(ZZ)Lcom/example/nimble_quorum/nimblequorum/wire/CreateMode;"), (0, u "()I"), (0, u "isEphemeral"), (0, u "()Z"), (0, u "isSequential")] 5

def k6c0 : Code := { maxStack := 1, maxLocals := 0, code := prog_89_method_1_code, exceptionTable := #[], attributes := #[] }
def k6m0 : Method := { name := "values", desc := "()[Lcom/example/nimble_quorum/nimblequorum/wire/CreateMode;", sig := { parameters := [], returnType := some (.array (.object "com/example/nimble_quorum/nimblequorum/wire/CreateMode")) }, accessFlags := 9, code := some k6c0 }
def k6c1 : Code := { maxStack := 2, maxLocals := 7, code := prog_89_method_5_code, exceptionTable := #[], attributes := #[] }
def k6m1 : Method := { name := "of", desc := "(ZZ)Lcom/example/nimble_quorum/nimblequorum/wire/CreateMode;", sig := { parameters := [.boolean, .boolean], returnType := some (.object "com/example/nimble_quorum/nimblequorum/wire/CreateMode") }, accessFlags := 9, code := some k6c1 }
def k6c2 : Code := { maxStack := 1, maxLocals := 1, code := prog_89_method_6_code, exceptionTable := #[], attributes := #[] }
def k6m2 : Method := { name := "flags", desc := "()I", sig := { parameters := [], returnType := some .int }, accessFlags := 1, code := some k6c2 }
def k6c3 : Code := { maxStack := 1, maxLocals := 1, code := prog_89_method_7_code, exceptionTable := #[], attributes := #[] }
def k6m3 : Method := { name := "isEphemeral", desc := "()Z", sig := { parameters := [], returnType := some .boolean }, accessFlags := 1, code := some k6c3 }
def k6c4 : Code := { maxStack := 1, maxLocals := 1, code := prog_89_method_8_code, exceptionTable := #[], attributes := #[] }
def k6m4 : Method := { name := "isSequential", desc := "()Z", sig := { parameters := [], returnType := some .boolean }, accessFlags := 1, code := some k6c4 }
/-- com/example/nimble_quorum/nimblequorum/wire/CreateMode -/
def k6 : Class := { plain "com/example/nimble_quorum/nimblequorum/wire/CreateMode" (some 5) with
  accessFlags := 16433
  interfaces := #[]
  cf := some (fileOf pool6 1 #[] #[{ accessFlags := 9, nameIndex := 48, descriptorIndex := 49, attributes := #[] }, { accessFlags := 9, nameIndex := 69, descriptorIndex := 72, attributes := #[] }, { accessFlags := 1, nameIndex := 37, descriptorIndex := 73, attributes := #[] }, { accessFlags := 1, nameIndex := 74, descriptorIndex := 75, attributes := #[] }, { accessFlags := 1, nameIndex := 76, descriptorIndex := 75, attributes := #[] }] 16433 26 #[] #[{ accessFlags := 16409, nameIndex := 5, descriptorIndex := 6, attributes := #[] }, { accessFlags := 16409, nameIndex := 9, descriptorIndex := 6, attributes := #[] }, { accessFlags := 16409, nameIndex := 12, descriptorIndex := 6, attributes := #[] }, { accessFlags := 16409, nameIndex := 15, descriptorIndex := 6, attributes := #[] }, { accessFlags := 25, nameIndex := 60, descriptorIndex := 38, attributes := #[] }, { accessFlags := 18, nameIndex := 37, descriptorIndex := 38, attributes := #[] }, { accessFlags := 18, nameIndex := 41, descriptorIndex := 42, attributes := #[] }, { accessFlags := 18, nameIndex := 45, descriptorIndex := 42, attributes := #[] }, { accessFlags := 4122, nameIndex := 18, descriptorIndex := 19, attributes := #[] }])
  fields := #[{ name := "PERSISTENT", type := (.object "com/example/nimble_quorum/nimblequorum/wire/CreateMode"), accessFlags := 16409, slot := 0, constantValue := 0 }, { name := "EPHEMERAL", type := (.object "com/example/nimble_quorum/nimblequorum/wire/CreateMode"), accessFlags := 16409, slot := 1, constantValue := 0 }, { name := "PERSISTENT_SEQUENTIAL", type := (.object "com/example/nimble_quorum/nimblequorum/wire/CreateMode"), accessFlags := 16409, slot := 2, constantValue := 0 }, { name := "EPHEMERAL_SEQUENTIAL", type := (.object "com/example/nimble_quorum/nimblequorum/wire/CreateMode"), accessFlags := 16409, slot := 3, constantValue := 0 }, { name := "LAST_DEFINED_FLAGS", type := .int, accessFlags := 25, slot := 4, constantValue := 0 }, { name := "flags", type := .int, accessFlags := 18, slot := 3, constantValue := 0 }, { name := "ephemeral", type := .boolean, accessFlags := 18, slot := 4, constantValue := 0 }, { name := "sequential", type := .boolean, accessFlags := 18, slot := 5, constantValue := 0 }, { name := "$VALUES", type := (.array (.object "com/example/nimble_quorum/nimblequorum/wire/CreateMode")), accessFlags := 4122, slot := 5, constantValue := 0 }]
  methods := #[k6m0, k6m1, k6m2, k6m3, k6m4]
  instanceTypes := #[(.object "java/lang/String"), .int, .int, .int, .boolean, .boolean]
  staticTypes := #[(.object "com/example/nimble_quorum/nimblequorum/wire/CreateMode"), (.object "com/example/nimble_quorum/nimblequorum/wire/CreateMode"), (.object "com/example/nimble_quorum/nimblequorum/wire/CreateMode"), (.object "com/example/nimble_quorum/nimblequorum/wire/CreateMode"), .int, (.array (.object "com/example/nimble_quorum/nimblequorum/wire/CreateMode"))]
  resolved := Array.replicate 82 none
  statics := some 0 }

def pool7 : Array CpInfo := pool [(1, .class_ 2), (0, u "java/lang/Cloneable"), (0, .class_ 4), (0, u "java/lang/Object")] 2

/-- java/lang/Cloneable -/
def k7 : Class := { plain "java/lang/Cloneable" (some 0) with
  accessFlags := 1537
  interfaces := #[]
  cf := some (fileOf pool7 1 #[] #[] 1537 3 #[] #[])
  fields := #[]
  methods := #[]
  instanceTypes := #[]
  staticTypes := #[]
  resolved := Array.replicate 7 none
  statics := none }

/-- the primitive byte -/
def k8 : Class := { plain "byte" none with kind := .primitive 'B', accessFlags := 0x411 }
/-- [B -/
def k9 : Class := { plain "[B" (some 0) with kind := .array 8 .byte, interfaces := #[7, 4], accessFlags := 1041 }

/-- the primitive int -/
def k10 : Class := { plain "int" none with kind := .primitive 'I', accessFlags := 0x411 }
/-- [I -/
def k11 : Class := { plain "[I" (some 0) with kind := .array 10 .int, interfaces := #[7, 4], accessFlags := 1041 }

/-- [Lcom/example/nimble_quorum/nimblequorum/wire/CreateMode; -/
def k12 : Class := { plain "[Lcom/example/nimble_quorum/nimblequorum/wire/CreateMode;" (some 0) with kind := .array 6 (.object "com/example/nimble_quorum/nimblequorum/wire/CreateMode"), interfaces := #[7, 4], accessFlags := 1041 }

def heap : Heap := #[{ cls := 6, slots := #[.ref 2, .ref 3, .ref 4, .ref 5, .int 0, .ref 1], vm := .statics 6 },
  { cls := 12, slots := #[.ref 2, .ref 3, .ref 4, .ref 5], vm := .none },
  { cls := 6, slots := #[.null, .int 0, .int 0, .int 0, .int 0, .int 0], vm := .none },
  { cls := 6, slots := #[.null, .int 0, .int 0, .int 1, .int 1, .int 0], vm := .none },
  { cls := 6, slots := #[.null, .int 0, .int 0, .int 2, .int 0, .int 1], vm := .none },
  { cls := 6, slots := #[.null, .int 0, .int 0, .int 3, .int 1, .int 1], vm := .none }]
def classes : Array Class := #[k0, k1, k2, k3, k4, k5, k6, k7, k8, k9, k10, k11, k12]
def interned : List (Array UInt16 × Addr) := []
def slotsUsed : Nat := 34
def theMethod : MethodId := ⟨1, 1⟩
def args0 : Array Value := #[.int 3]
def aboutOver (below : List Frame) : State where
  vm := { classes := classes, interned := interned.toArray }
  heap := heap
  slotsUsed := slotsUsed
  threads := #[{ frames := .invoking theMethod args0 :: below }]
def below0 : List Frame := [.native { method := ⟨0, 0⟩, args := #[] }]
def about1 : State := aboutOver below0
def p0 : Program := .bare "" "" ""
def e0 : Env := launch0.env 0 0 0
theorem w_frames : about1.frames = Frame.invoking theMethod args0 :: below0 := rfl
set_option maxRecDepth 65536 in
theorem w_args : argsFit about1.vm theMethod args0 = true := by decide +kernel
set_option maxRecDepth 65536 in
theorem w_heap : heapFits about1 = true := by decide +kernel
set_option maxRecDepth 65536 in
theorem w_runnable : about1.curStatus? = some .runnable := by decide +kernel
set_option maxRecDepth 65536 in
theorem w_alone : about1.alone = true := by decide +kernel
set_option maxRecDepth 65536 in
theorem w_named : about1.methodNamed? x = some theMethod := by decide +kernel
set_option maxRecDepth 65536 in
theorem w_hears : about1.hears theMethod below0 = true := by decide +kernel
set_option maxRecDepth 65536 in
theorem w_ripe : about1.ripe theMethod args0 below0 = true := by decide +kernel
theorem w_running : about1.status = .running := rfl
set_option maxRecDepth 65536 in
theorem w_room : about1.hasRoom e0.platform room_1 = true :=
  launch0.hasRoom_least _ room_1 (by decide +kernel) (by decide +kernel) (by decide +kernel) (by decide +kernel) (by decide +kernel) (by decide +kernel)
theorem allAtoms_all (ts : List Jvm.Cond) (a : Array Jvm.Value) (st : Jvm.State) : (allAtoms ts).before a st = ts.all (fun c => c.before a st) := by
  induction ts with
  | nil => rfl
  | cons c t ih =>
    show (Jvm.Cond.and c (allAtoms t)).before a st = _
    rw [Jvm.Cond.before_and, ih, List.all_cons]
def words1 : List Jvm.Cond := Jvm.Cond.code x code maxLocals ret :: tables_1
/-- a 'code' word, met by the world's own term for the bytes: nothing is compared byte by byte -/
theorem code_word {y : MethodName} {bytes : ByteArray} {mx : Nat} {rt : Option FieldType} {a : Array Value} {s : State} {m : MethodId} {meth : Method} {c : Code} (h1 : s.methodNamed? y = some m) (h2 : s.vm.method? m = some meth) (h3 : meth.code = some c) (h4 : c.code = bytes)
    (h5 : (c.maxLocals == mx && c.exceptionTable.isEmpty && decide (c.maxStack ≤ mostOperands) && decide (meth.sig.returnType = rt) && !meth.locks && decide (parseMethodDescriptor y.desc = some meth.sig)) = true) : (Jvm.Cond.code y bytes mx rt).before a s = true := by
  simp only [Bool.and_eq_true, beq_iff_eq, Bool.not_eq_true', decide_eq_true_eq] at h5
  obtain ⟨⟨⟨⟨⟨g1, g2⟩, g3⟩, g4⟩, g5⟩, g6⟩ := h5
  simp [Cond.before, Cond.holds, Cond.value, h1, h2, h3, h4, g1, g2, g3, g4, g5, g6]
def isCode : Jvm.Cond → Bool
  | .code _ _ _ _ => true
  | _ => false
theorem all_split {L : List Jvm.Cond} {P : Jvm.Cond → Bool} (h1 : L.all (fun c => isCode c || P c) = true) (h2 : ∀ c ∈ L.filter isCode, P c = true) : L.all P = true := by
  refine List.all_eq_true.mpr fun c hc => ?_
  have h := List.all_eq_true.mp h1 c hc
  rcases Bool.eq_false_or_eq_true (isCode c) with hi | hi
  · exact h2 c (List.mem_filter.mpr ⟨hc, hi⟩)
  · simpa [hi] using h
set_option maxRecDepth 65536 in
theorem w_c0 : (Jvm.Cond.code x code maxLocals ret).before args0 about1 = true := code_word (m := ⟨1, 1⟩) (meth := k1m1) (c := k1c1) (by decide +kernel) rfl rfl rfl (by decide +kernel)
set_option maxRecDepth 65536 in
theorem w_c1 : (Jvm.Cond.code ({ cls := "com/example/nimble_quorum/nimblequorum/wire/CreateMode", name := "of", desc := "(ZZ)Lcom/example/nimble_quorum/nimblequorum/wire/CreateMode;" } : Jvm.MethodName) prog_89_method_5_code (7 : Nat) (Option.some (Jvm.ClassFile.FieldType.object "com/example/nimble_quorum/nimblequorum/wire/CreateMode"))).before args0 about1 = true := code_word (m := ⟨6, 1⟩) (meth := k6m1) (c := k6c1) (by decide +kernel) rfl rfl rfl (by decide +kernel)
set_option maxRecDepth 65536 in
theorem w_c2 : (Jvm.Cond.code ({ cls := "com/example/nimble_quorum/nimblequorum/wire/CreateMode", name := "values", desc := "()[Lcom/example/nimble_quorum/nimblequorum/wire/CreateMode;" } : Jvm.MethodName) prog_89_method_1_code (0 : Nat) (Option.some (Jvm.ClassFile.FieldType.array (Jvm.ClassFile.FieldType.object "com/example/nimble_quorum/nimblequorum/wire/CreateMode")))).before args0 about1 = true := code_word (m := ⟨6, 0⟩) (meth := k6m0) (c := k6c0) (by decide +kernel) rfl rfl rfl (by decide +kernel)
set_option maxRecDepth 65536 in
theorem w_c3 : (Jvm.Cond.code ({ cls := "com/example/nimble_quorum/nimblequorum/wire/CreateMode", name := "isEphemeral", desc := "()Z" } : Jvm.MethodName) prog_89_method_7_code (1 : Nat) (Option.some Jvm.ClassFile.FieldType.boolean)).before args0 about1 = true := code_word (m := ⟨6, 3⟩) (meth := k6m3) (c := k6c3) (by decide +kernel) rfl rfl rfl (by decide +kernel)
set_option maxRecDepth 65536 in
theorem w_c4 : (Jvm.Cond.code ({ cls := "com/example/nimble_quorum/nimblequorum/wire/CreateMode", name := "isSequential", desc := "()Z" } : Jvm.MethodName) prog_89_method_8_code (1 : Nat) (Option.some Jvm.ClassFile.FieldType.boolean)).before args0 about1 = true := code_word (m := ⟨6, 4⟩) (meth := k6m4) (c := k6c4) (by decide +kernel) rfl rfl rfl (by decide +kernel)
set_option maxRecDepth 65536 in
theorem w_c5 : (Jvm.Cond.code ({ cls := "com/example/nimble_quorum/nimblequorum/wire/CreateMode", name := "flags", desc := "()I" } : Jvm.MethodName) prog_89_method_6_code (1 : Nat) (Option.some Jvm.ClassFile.FieldType.int)).before args0 about1 = true := code_word (m := ⟨6, 2⟩) (meth := k6m2) (c := k6c2) (by decide +kernel) rfl rfl rfl (by decide +kernel)
def codes1 : List Jvm.Cond := [Jvm.Cond.code x code maxLocals ret, Jvm.Cond.code ({ cls := "com/example/nimble_quorum/nimblequorum/wire/CreateMode", name := "of", desc := "(ZZ)Lcom/example/nimble_quorum/nimblequorum/wire/CreateMode;" } : Jvm.MethodName) prog_89_method_5_code (7 : Nat) (Option.some (Jvm.ClassFile.FieldType.object "com/example/nimble_quorum/nimblequorum/wire/CreateMode")), Jvm.Cond.code ({ cls := "com/example/nimble_quorum/nimblequorum/wire/CreateMode", name := "values", desc := "()[Lcom/example/nimble_quorum/nimblequorum/wire/CreateMode;" } : Jvm.MethodName) prog_89_method_1_code (0 : Nat) (Option.some (Jvm.ClassFile.FieldType.array (Jvm.ClassFile.FieldType.object "com/example/nimble_quorum/nimblequorum/wire/CreateMode"))), Jvm.Cond.code ({ cls := "com/example/nimble_quorum/nimblequorum/wire/CreateMode", name := "isEphemeral", desc := "()Z" } : Jvm.MethodName) prog_89_method_7_code (1 : Nat) (Option.some Jvm.ClassFile.FieldType.boolean), Jvm.Cond.code ({ cls := "com/example/nimble_quorum/nimblequorum/wire/CreateMode", name := "isSequential", desc := "()Z" } : Jvm.MethodName) prog_89_method_8_code (1 : Nat) (Option.some Jvm.ClassFile.FieldType.boolean), Jvm.Cond.code ({ cls := "com/example/nimble_quorum/nimblequorum/wire/CreateMode", name := "flags", desc := "()I" } : Jvm.MethodName) prog_89_method_6_code (1 : Nat) (Option.some Jvm.ClassFile.FieldType.int)]
set_option maxRecDepth 65536 in
theorem codes_eq : words1.filter isCode = codes1 := rfl
theorem w_codes : ∀ c ∈ words1.filter isCode, c.before args0 about1 = true := by
  rw [codes_eq]
  intro c hc
  simp only [codes1, List.mem_cons, List.not_mem_nil, or_false] at hc
  rcases hc with rfl | rfl | rfl | rfl | rfl | rfl
  · exact w_c0
  · exact w_c1
  · exact w_c2
  · exact w_c3
  · exact w_c4
  · exact w_c5
set_option maxRecDepth 65536 in
theorem w_t1 : (words1.take 24).all (fun c => isCode c || c.before args0 about1) = true := by decide +kernel
set_option maxRecDepth 65536 in
theorem w_t2 : ((words1.drop 24).take 24).all (fun c => isCode c || c.before args0 about1) = true := by decide +kernel
set_option maxRecDepth 65536 in
theorem w_t3 : ((words1.drop 24).drop 24).all (fun c => isCode c || c.before args0 about1) = true := by decide +kernel
theorem w_tables : (allAtoms (Jvm.Cond.code x code maxLocals ret :: tables_1)).before args0 about1 = true := by
  rw [allAtoms_all]
  show words1.all (fun c => c.before args0 about1) = true
  refine all_split ?_ w_codes
  rw [← List.take_append_drop 24 words1, List.all_append, w_t1, ← List.take_append_drop 24 (words1.drop 24), List.all_append, w_t2, w_t3]
  rfl
set_option maxRecDepth 65536 in
theorem w_case : (Jvm.Cond.and given_1 narrow_1).before args0 about1 = true := by decide +kernel
theorem w_applies : (headSpec (Jvm.Cond.code x code maxLocals ret :: tables_1) room_1).applies x e0.platform about1 = true :=
  (Spec.applies_iff w_frames).mpr ⟨w_running, w_runnable, w_alone, w_named, w_hears, w_ripe, w_room, w_tables⟩
theorem atStart : AtStart classFile x code maxLocals ret World_1 tables_1 room_1 Calls_1 rest_1 Pre_1 launch0 p0 e0 about1 theMethod args0 below0 :=
  ⟨lists_1, trivial, launch0.admits_env _ _ _, launch0.least_env, fairChoices_fair.cas, fairChoices_fair.clock, w_frames, w_args, w_heap, w_applies, trivial, trivial, w_case⟩
end start1
theorem witness_1 : WitnessClaimed_1 := ⟨start1.p0, start1.e0, start1.about1, start1.theMethod, start1.args0, start1.below0, start1.atStart⟩
end Jvm.Pilot.@@N@@
