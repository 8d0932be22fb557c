import JvmDerived
import JvmDerived.Pilot.@@N@@Statement
import JvmDerived.Pilot.@@N@@Code
set_option linter.unusedVariables false
set_option linter.unusedSimpArgs false
namespace Jvm.RoadKit
open Sem ClassFile Op Lib Jvm.Stand Jvm.Free Jvm.LawKit
section New
variable {p : Program} {l : Launch} {e : Env} {R : Room} {s : State} {m : MethodId} {args : Array Value} {below : List Frame} {meth : Method} {c : Code} {T : State} {locs : List Loc} {cells slots : Nat}
theorem retI (X : Stand p l e R s m args below meth c T locs cells slots) (hx : p.tables.exec = Jvm.exec) {pc : Nat} {Ls : Array Slot} {z : Int32} {rest : List Value} (hret : meth.sig.returnType = some .int) (hd : decode c.code pc = .ok (.ireturn, 1)) {fs : List Frame}
    (hl : ∀ (f : JFrame) (acts : List Action), f.method = m → f.locked = none → f.entered = [] → (doReturn e (T.setTop f) acts (some (.int z))).1 = T.setFrames fs) : Steps p.tables e below (T.setTop (mkF m pc Ls (.int z :: rest))) (T.setFrames fs) := by
  have hm' : T.vm.method? m = some meth := X.method'
  have hn : narrow .int (.int z) = .int z := rfl
  show Steps p.tables e below (T.setTop { method := m, pc := pc, locals := Ls, stack := _ :: rest, locked := none }) _
  jvm_step X.here [X.here.top, hx, hd, hm', hret, hn]
  first | (intro acts; rw [hl _ acts rfl rfl rfl]) | rw [hl _ _ rfl rfl rfl]
  exact Steps.refl _
end New
end Jvm.RoadKit
namespace Jvm.Pilot.@@N@@
open Jvm Jvm.ClassFile Sem Op Lib Jvm.Free Jvm.Stand Jvm.LawKit Jvm.RoadKit Bundle Jvm.Pilot.@@N@@.Jvm.D
def OwnQ (r : Option Value) (h0 : Heap) (n0 : Nat) (v : Option Value) (h : Heap) (L : List Loc) : Prop := v = r ∧ Fr n0 L ∧ h = h0
theorem own_sz {Z : State} {n0 : Nat} {h : Heap} (O : Old Z n0 h) : n0 ≤ h.size := O.1 ▸ O.2.1
theorem own_new {Z : State} {n0 : Nat} {h : Heap} {b : Addr} (O : Old Z n0 h) (g : b = h.size) : n0 ≤ b := Nat.le_trans (own_sz O) (Nat.le_of_eq g.symm)
theorem own_eqi {args : Array Value} {first s : State} {o : Option Outcome} {idx : List Nat} {a : Term} {k : Int32} (h : (Cond.eq a (Term.int k)).value args first o s idx = some true) : a.eval args first o idx s = some (.int k) := by
  obtain ⟨x, y, h1, h2, h3, -⟩ := cmp_v (Or.inl h)
  have e2 : y = .int k := (Option.some.inj ((Term.int_eval k).symm.trans h2)).symm
  subst e2
  cases x with
  | int z =>
    have q : z = k := by
      have h4 := h
      simp only [Cond.value, h1, h2] at h4
      simpa using h4
    rw [h1, q]
  | _ => first | (obtain ⟨z, hz⟩ := h3; cases hz) | (cases h3.2)
theorem own_len {args : Array Value} {first s : State} {o : Option Outcome} {idx : List Nat} {t : Term} {a : Addr} {cl : Cell} {k : Int32} (ht : t.eval args first o idx s = some (.ref a)) (hc : s.heap[a]? = some cl) (h : (Cond.eq (Term.length t) (Term.int k)).value args first o s idx = some true) : cl.slots.size < 2 ^ 31 ∧ cl.slots.size.toInt32 = k := by
  have h1 := own_eqi h
  obtain ⟨a', cell, ha', hat, hv⟩ := Term.length_spec h1
  cases ht.symm.trans ha'
  cases hc.symm.trans (State.arrayAt?_spec hat).1
  refine ⟨?_, (Value.int.inj hv).symm⟩
  by_cases q : cl.slots.size < 2147483648
  · exact q
  · exfalso
    simp [Term.eval, ht, hat, q] at h1
theorem own_el {args : Array Value} {first s : State} {o : Option Outcome} {idx : List Nat} {t u : Term} {a b : Addr} {cl : Cell} {j : Int32} (ht : t.eval args first o idx s = some (.ref a)) (hc : s.heap[a]? = some cl) (h : (Cond.eq (Term.elem t (Term.int j)) u).value args first o s idx = some true) (hu : u.eval args first o idx s = some (.ref b)) :
    ¬ (j < 0 ∨ cl.slots.size ≤ j.toNatClampNeg) ∧ cl.slots[j.toNatClampNeg]? = some (.ref b) := by
  obtain ⟨x, y, h1, h2, h3, h4⟩ := cmp_v (Or.inl h)
  cases hu.symm.trans h2
  have q := gotT (eq_R h1 h2 h4.2 rfl) h
  subst q
  exact elem_in h1 ht (Term.int_eval j) hc
def OwnG (Z : State) (wVALUES : Addr) (wLOOKING : Addr) (wFOLLOWING : Addr) (wLEADING : Addr) (kVALUES : ClassId) : Prop := Sta Z Z.heap "com/example/nimble_quorum/nimblequorum/quorum/PeerState" "$VALUES" "[Lcom/example/nimble_quorum/nimblequorum/quorum/PeerState;" (.ref wVALUES) ∧
  Exa Z Z.heap wVALUES "[Lcom/example/nimble_quorum/nimblequorum/quorum/PeerState;" ∧
  Sta Z Z.heap "com/example/nimble_quorum/nimblequorum/quorum/PeerState" "LOOKING" "Lcom/example/nimble_quorum/nimblequorum/quorum/PeerState;" (.ref wLOOKING) ∧
  Exa Z Z.heap wLOOKING "com/example/nimble_quorum/nimblequorum/quorum/PeerState" ∧
  Sta Z Z.heap "com/example/nimble_quorum/nimblequorum/quorum/PeerState" "FOLLOWING" "Lcom/example/nimble_quorum/nimblequorum/quorum/PeerState;" (.ref wFOLLOWING) ∧
  Exa Z Z.heap wFOLLOWING "com/example/nimble_quorum/nimblequorum/quorum/PeerState" ∧
  Sta Z Z.heap "com/example/nimble_quorum/nimblequorum/quorum/PeerState" "LEADING" "Lcom/example/nimble_quorum/nimblequorum/quorum/PeerState;" (.ref wLEADING) ∧
  Exa Z Z.heap wLEADING "com/example/nimble_quorum/nimblequorum/quorum/PeerState" ∧
  Fld Z Z.heap wLOOKING "com/example/nimble_quorum/nimblequorum/quorum/PeerState" "code" "I" (.int (0 : Int32)) ∧
  Fld Z Z.heap wFOLLOWING "com/example/nimble_quorum/nimblequorum/quorum/PeerState" "code" "I" (.int (1 : Int32)) ∧
  Fld Z Z.heap wLEADING "com/example/nimble_quorum/nimblequorum/quorum/PeerState" "code" "I" (.int (2 : Int32)) ∧
  Arv Z Z.heap wVALUES kVALUES (.object "com/example/nimble_quorum/nimblequorum/quorum/PeerState") (3 : Int32) [(.ref wLOOKING), (.ref wFOLLOWING), (.ref wLEADING)] .null ∧
  wLOOKING ≠ wFOLLOWING ∧
  wLOOKING ≠ wLEADING ∧
  wFOLLOWING ≠ wLEADING
theorem own_pn_0 : plainName "com/example/nimble_quorum/nimblequorum/quorum/PeerStateOfPinLaw" = true := by first | (simp [plainName, overriddenIn]; done) | decide +kernel
theorem own_ef_0_II (m : MethodId) (x0 : Int32) (x1 : Int32) : entryFrame m #[(.int x0), (.int x1)] maxLocals = mkF m 0 #[.val (.int x0), .val (.int x1), .unset, .unset, .unset] [] := by first | (simp [entryFrame, mkF, argsToLocals, Value.category, maxLocals]; done) | rfl
theorem own_pn_1 : plainName "com/example/nimble_quorum/nimblequorum/quorum/PeerState" = true := by first | (simp [plainName, overriddenIn]; done) | decide +kernel
theorem own_ef_1_I (m : MethodId) (x0 : Int32) : entryFrame m #[(.int x0)] 6 = mkF m 0 #[.val (.int x0), .unset, .unset, .unset, .unset, .unset] [] := by first | (simp [entryFrame, mkF, argsToLocals, Value.category]; done) | rfl
theorem own_ef_2_ (m : MethodId)  : entryFrame m #[] 0 = mkF m 0 #[] [] := by first | (simp [entryFrame, mkF, argsToLocals, Value.category]; done) | rfl
theorem own_d2_0 : decode prog_14_method_1_code 0 = .ok (.getstatic 13, 3) := by decide +kernel
theorem own_d2_3 : decode prog_14_method_1_code 3 = .ok (.invokevirtual 17, 3) := by decide +kernel
theorem own_d2_6 : decode prog_14_method_1_code 6 = .ok (.checkcast 18, 3) := by decide +kernel
theorem own_d2_9 : decode prog_14_method_1_code 9 = .ok (.areturn, 1) := by decide +kernel
def OwnQ_own_values_1 (Z : State) (wVALUES : Addr) (wLOOKING : Addr) (wFOLLOWING : Addr) (wLEADING : Addr) (kVALUES : ClassId) (h0 : Heap) (n0 : Nat) (v : Option Value) (h : Heap) (L : List Loc) : Prop :=
  ∃ (b2 : Addr), v = some (.ref b2) ∧ Fr n0 L ∧ Keep h0 h [] ∧ n0 ≤ b2 ∧ h0.size ≤ b2 ∧ Arv Z h b2 kVALUES (.object "com/example/nimble_quorum/nimblequorum/quorum/PeerState") (3 : Int32) [(.ref wLOOKING), (.ref wFOLLOWING), (.ref wLEADING)] .null ∧ Exa Z h b2 "[Lcom/example/nimble_quorum/nimblequorum/quorum/PeerState;"
set_option maxRecDepth 65536 in
set_option maxHeartbeats 40000000 in
theorem own_values_1 (l : Launch) (Z : State) (a0 : Array Value) (hw : ∀ d ∈ tables_1, d.before a0 Z = true) (ws : List Jvm.Cond) (wVALUES : Addr) (wLOOKING : Addr) (wFOLLOWING : Addr) (wLEADING : Addr) (kVALUES : ClassId) (G : OwnG Z wVALUES wLOOKING wFOLLOWING wLEADING kVALUES) (h0 : Heap) (n0 : Nat) (O0 : Old Z n0 h0) :
    MetFree l (⟨"com/example/nimble_quorum/nimblequorum/quorum/PeerState", "values", "()[Lcom/example/nimble_quorum/nimblequorum/quorum/PeerState;"⟩ : MethodName) (head1 (Jvm.Cond.code (⟨"com/example/nimble_quorum/nimblequorum/quorum/PeerState", "values", "()[Lcom/example/nimble_quorum/nimblequorum/quorum/PeerState;"⟩ : MethodName) prog_14_method_1_code 0 (some (.array (.object "com/example/nimble_quorum/nimblequorum/quorum/PeerState"))) :: ws) ({ frames := 1, cells := 1, slots := 3, locals := 14 } : Room)) (fun a U => a = #[] ∧ Z.Warmed39 U.vm ∧ U.heap = h0) (fun _ _ _ _ _ => True) (fun _ U o U' => ∃ v L, o = .returned v ∧ OwnQ_own_values_1 Z wVALUES wLOOKING wFOLLOWING wLEADING kVALUES h0 n0 v U'.heap L ∧ FrameEnd U o U' L ({ frames := 1, cells := 1, slots := 3, locals := 14 } : Room).cells ({ frames := 1, cells := 1, slots := 3, locals := 14 } : Room).slots) := by
  refine MetFree.of_bodySF (plainFor_of_name own_pn_1) hisR ?_
  intro p e s m args below meth c s₁ Bd hml0 hP hK
  obtain ⟨rfl, hZ, hh⟩ := hP
  have hx := Bd.exec
  have hby := Bd.bytes
  have hml : c.maxLocals = 0 := hml0
  have hown : s.vm.findClass "com/example/nimble_quorum/nimblequorum/quorum/PeerState" = some m.cls := findClass_of_methodNamed Bd.named
  have hnm := (name_of_methodNamed Bd.named Bd.method).1
  have X0 : Stand p l e ({ frames := 1, cells := 1, slots := 3, locals := 14 } : Room) s m #[] below meth c s₁ [] 0 0 := Stand.of_body Bd
  have e0 : s₁.heap = h0 := by rw [← hh, Bd.state]; rfl
  have N0 := Fr.nil n0
  have pre0 : ∀ t, Steps p.tables e below (s₁.setTop (mkF m 0 #[] [])) t → Steps p.tables e below (s₁.setTop (entryFrame m #[] 0)) t := fun t k => castTop (own_ef_2_ m ) k
  obtain ⟨T1, X1, e1, st1⟩ := getS2 X0 hx hZ hown (host := "") (Or.inl (hw _ (List.mem_of_getElem? (i := 7) rfl))) Via.refl e0 (G.1.ext O0.2) (g := (mkF m 0 #[] [])) rfl (hb hby own_d2_0)
  obtain ⟨T2, h2, X2, e2, E2, V2, A2, st2⟩ := cloneH X1 hx hZ hown (hw _ (List.mem_of_getElem? (i := 9) rfl)) (hw _ (List.mem_of_getElem? (i := 10) rfl)) (hw _ (List.mem_of_getElem? (i := 14) rfl)) (hw _ (List.mem_of_getElem? (i := 12) rfl)) (hw _ (List.mem_of_getElem? (i := 13) rfl)) (hw _ (List.mem_of_getElem? (i := 15) rfl)) e1 (hs := []) (G.2.2.2.2.2.2.2.2.2.2.2.1.ext O0.2) (G.2.1.ext O0.2) (g := (mkF m 3 #[] [(.ref wVALUES)])) rfl (by rw [hml]; rfl) rfl (hb hby own_d2_3) (by decide) (W := 0) (cap := 3) (by show 2 * 0 + _ ≤ _; exact Nat.le_of_eq rfl) (by decide) (by decide) (by decide) (by decide)
  obtain ⟨b2, g2⟩ : ∃ z, z = h0.size := ⟨_, rfl⟩
  rw [← g2] at A2 V2 st2
  have ge_b2 : n0 ≤ b2 := own_new O0 g2
  have sz_b2 : h0.size ≤ b2 := Nat.le_trans (Keep.refl h0 []).1 (Nat.le_of_eq g2.symm)
  have O2 := O0.ext E2
  have K2 := (Keep.refl h0 []).ext E2
  have Vc2 : Arv Z h2 b2 kVALUES (.object "com/example/nimble_quorum/nimblequorum/quorum/PeerState") (3 : Int32) [(.ref wLOOKING), (.ref wFOLLOWING), (.ref wLEADING)] .null := V2
  obtain ⟨T3, X3, e3, st3⟩ := castY X2 hx hZ hown (hw _ (List.mem_of_getElem? (i := 20) rfl)) e2 (Ins.self A2) (g := (mkF m 6 #[] [(.ref b2)])) rfl rfl (hb hby own_d2_6)
  obtain ⟨fs, hr, hrun, hended, hW, hsame⟩ := X3.leave (v := some (.ref b2)) (fun h => by rw [Bd.returns] at h; cases h)
  refine ⟨_, _, pre0 _ ?_, hrun, hended, _, _, rfl, ?_, ⟨_, rfl⟩, hW, hsame.mono (by decide) (by decide)⟩
  · show Steps p.tables e below (s₁.setTop (mkF m 0 #[] [])) _
    refine st1 _ ?_
    show Steps p.tables e below (T1.setTop (mkF m 3 #[] [(.ref wVALUES)])) _
    refine st2 _ ?_
    show Steps p.tables e below (T2.setTop (mkF m 6 #[] [(.ref b2)])) _
    refine st3 _ ?_
    show Steps p.tables e below (T3.setTop (mkF m 9 #[] [(.ref b2)])) _
    jvm_step X3.here [X3.here.top, hx, (hb hby own_d2_9), X3.method', Bd.returns, Value.isRef, FieldType.isReference]
    first | (intro acts; rw [hr _ acts rfl rfl rfl]) | rw [hr _ _ rfl rfl rfl]
    exact Steps.refl _
  · show OwnQ_own_values_1 Z wVALUES wLOOKING wFOLLOWING wLEADING kVALUES h0 n0 _ T3.heap _
    rw [e3]
    exact ⟨b2, rfl, N0, K2, ge_b2, sz_b2, Vc2, A2⟩
theorem own_pd_0 : parseMethodDescriptor "()[Lcom/example/nimble_quorum/nimblequorum/quorum/PeerState;" = some ⟨[], some (.array (.object "com/example/nimble_quorum/nimblequorum/quorum/PeerState"))⟩ := by decide +kernel
theorem own_d1_0 : decode prog_14_method_5_code 0 = .ok (.aconst_null, 1) := by decide +kernel
theorem own_d1_1 : decode prog_14_method_5_code 1 = .ok (.astore_n 1, 1) := by decide +kernel
theorem own_d1_2 : decode prog_14_method_5_code 2 = .ok (.invokestatic 36, 3) := by decide +kernel
theorem own_d1_5 : decode prog_14_method_5_code 5 = .ok (.astore_n 2, 1) := by decide +kernel
theorem own_d1_6 : decode prog_14_method_5_code 6 = .ok (.aload_n 2, 1) := by decide +kernel
theorem own_d1_7 : decode prog_14_method_5_code 7 = .ok (.arraylength, 1) := by decide +kernel
theorem own_d1_8 : decode prog_14_method_5_code 8 = .ok (.istore_n 3, 1) := by decide +kernel
theorem own_d1_9 : decode prog_14_method_5_code 9 = .ok (.iconst 0, 1) := by decide +kernel
theorem own_d1_10 : decode prog_14_method_5_code 10 = .ok (.istore 4, 2) := by decide +kernel
theorem own_d1_12 : decode prog_14_method_5_code 12 = .ok (.iload 4, 2) := by decide +kernel
theorem own_d1_14 : decode prog_14_method_5_code 14 = .ok (.iload_n 3, 1) := by decide +kernel
theorem own_d1_15 : decode prog_14_method_5_code 15 = .ok (.if_icmp .ge 27, 3) := by decide +kernel
theorem own_d1_18 : decode prog_14_method_5_code 18 = .ok (.aload_n 2, 1) := by decide +kernel
theorem own_d1_19 : decode prog_14_method_5_code 19 = .ok (.iload 4, 2) := by decide +kernel
theorem own_d1_21 : decode prog_14_method_5_code 21 = .ok (.aaload, 1) := by decide +kernel
theorem own_d1_22 : decode prog_14_method_5_code 22 = .ok (.astore 5, 2) := by decide +kernel
theorem own_d1_24 : decode prog_14_method_5_code 24 = .ok (.aload 5, 2) := by decide +kernel
theorem own_d1_26 : decode prog_14_method_5_code 26 = .ok (.getfield 32, 3) := by decide +kernel
theorem own_d1_29 : decode prog_14_method_5_code 29 = .ok (.iload_n 0, 1) := by decide +kernel
theorem own_d1_30 : decode prog_14_method_5_code 30 = .ok (.if_icmp .ne 6, 3) := by decide +kernel
theorem own_d1_33 : decode prog_14_method_5_code 33 = .ok (.aload 5, 2) := by decide +kernel
theorem own_d1_35 : decode prog_14_method_5_code 35 = .ok (.astore_n 1, 1) := by decide +kernel
theorem own_d1_36 : decode prog_14_method_5_code 36 = .ok (.iinc 4 1, 3) := by decide +kernel
theorem own_d1_39 : decode prog_14_method_5_code 39 = .ok (.goto (-27), 3) := by decide +kernel
theorem own_d1_42 : decode prog_14_method_5_code 42 = .ok (.aload_n 1, 1) := by decide +kernel
theorem own_d1_43 : decode prog_14_method_5_code 43 = .ok (.areturn, 1) := by decide +kernel
def OwnQ_own_of_0 (Z : State) (wVALUES : Addr) (wLOOKING : Addr) (wFOLLOWING : Addr) (wLEADING : Addr) (kVALUES : ClassId) (v1 : Int32) (h0 : Heap) (n0 : Nat) (v : Option Value) (h : Heap) (L : List Loc) : Prop :=
  v = some (.ref wLOOKING) ∧ Fr n0 L ∧ Keep h0 h []
set_option maxRecDepth 65536 in
set_option maxHeartbeats 40000000 in
theorem own_of_0 (l : Launch) (Z : State) (a0 : Array Value) (hw : ∀ d ∈ tables_1, d.before a0 Z = true) (ws : List Jvm.Cond) (wVALUES : Addr) (wLOOKING : Addr) (wFOLLOWING : Addr) (wLEADING : Addr) (kVALUES : ClassId) (G : OwnG Z wVALUES wLOOKING wFOLLOWING wLEADING kVALUES) (h0 : Heap) (n0 : Nat) (O0 : Old Z n0 h0) (v1 : Int32) (hp1 : v1 = (0 : Int32)) (hp2 : ¬ (v1 = (1 : Int32))) (hp3 : ¬ (v1 = (2 : Int32))) :
    MetFree l (⟨"com/example/nimble_quorum/nimblequorum/quorum/PeerState", "of", "(I)Lcom/example/nimble_quorum/nimblequorum/quorum/PeerState;"⟩ : MethodName) (head1 (Jvm.Cond.code (⟨"com/example/nimble_quorum/nimblequorum/quorum/PeerState", "of", "(I)Lcom/example/nimble_quorum/nimblequorum/quorum/PeerState;"⟩ : MethodName) prog_14_method_5_code 6 (some (.object "com/example/nimble_quorum/nimblequorum/quorum/PeerState")) :: ws) ({ frames := 2, cells := 1, slots := 3, locals := 25 } : Room)) (fun a U => a = #[(.int v1)] ∧ Z.Warmed39 U.vm ∧ U.heap = h0) (fun _ _ _ _ _ => True) (fun _ U o U' => ∃ v L, o = .returned v ∧ OwnQ_own_of_0 Z wVALUES wLOOKING wFOLLOWING wLEADING kVALUES v1 h0 n0 v U'.heap L ∧ FrameEnd U o U' L ({ frames := 2, cells := 1, slots := 3, locals := 25 } : Room).cells ({ frames := 2, cells := 1, slots := 3, locals := 25 } : Room).slots) := by
  refine MetFree.of_bodySF (plainFor_of_name own_pn_1) hisR ?_
  intro p e s m args below meth c s₁ Bd hml0 hP hK
  obtain ⟨rfl, hZ, hh⟩ := hP
  have hx := Bd.exec
  have hby := Bd.bytes
  have hml : c.maxLocals = 6 := hml0
  have hown : s.vm.findClass "com/example/nimble_quorum/nimblequorum/quorum/PeerState" = some m.cls := findClass_of_methodNamed Bd.named
  have hnm := (name_of_methodNamed Bd.named Bd.method).1
  have X0 : Stand p l e ({ frames := 2, cells := 1, slots := 3, locals := 25 } : Room) s m #[(.int v1)] below meth c s₁ [] 0 0 := Stand.of_body Bd
  have e0 : s₁.heap = h0 := by rw [← hh, Bd.state]; rfl
  have N0 := Fr.nil n0
  have pre0 : ∀ t, Steps p.tables e below (s₁.setTop (mkF m 0 #[.val (.int v1), .unset, .unset, .unset, .unset, .unset] [])) t → Steps p.tables e below (s₁.setTop (entryFrame m #[(.int v1)] 6)) t := fun t k => castTop (own_ef_1_I m v1) k
  obtain ⟨_, _, ⟨T1, L1, k1, n1⟩, -, X1, ⟨Lc1, hQ1, l1, y1, z1⟩, st1⟩ := Jvm.LawKit.callS X0 hx (y := (⟨"com/example/nimble_quorum/nimblequorum/quorum/PeerState", "values", "()[Lcom/example/nimble_quorum/nimblequorum/quorum/PeerState;"⟩ : MethodName)) hown (mvT hZ (hw _ (List.mem_of_getElem? (i := 4) rfl))) (mvT hZ (hw _ (List.mem_of_getElem? (i := 5) rfl))) (mvT hZ (hw _ (List.mem_of_getElem? (i := 2) rfl))) (mvT hZ (hw _ (List.mem_of_getElem? (i := 6) rfl))) (by decide) (backOf (W := 0) (own_values_1 l Z a0 hw [] wVALUES wLOOKING wFOLLOWING wLEADING kVALUES G h0 n0 O0) hZ (hw _ (List.mem_of_getElem? (i := 6) rfl)) (hw _ (List.mem_of_getElem? (i := 2) rfl)) (by decide) (by decide)) (g := (mkF m 2 #[.val (.int v1), .val .null, .unset, .unset, .unset, .unset] [])) rfl (by rw [hml]; rfl) (argsL := []) (rest := []) (lenOf own_pd_0 rfl) rfl (by show 2 * 0 + _ ≤ _; exact Nat.le_of_eq rfl) (hb hby own_d1_2) (fun _ _ => ⟨rfl, e0, (by decide : 0 + 1 ≤ _), (by decide : 0 + 3 ≤ _)⟩)
  dsimp only [Pt.U, Pt.locs, Pt.cells, Pt.slots] at X1 l1 y1 z1 st1 hQ1
  subst l1 y1 z1
  obtain ⟨b2_1, rfl, N1q, Kq1, ge_b2_1, sq_b2_1, q1_V_b2, q1_E_b2⟩ := hQ1
  have N1 := Fr.app N0 N1q
  have sz_b2_1 : h0.size ≤ b2_1 := Nat.le_trans (Keep.refl h0 []).1 sq_b2_1
  have O1 := O0.keep Kq1 all0
  have K1 := (Keep.refl h0 []).trans Kq1 all0
  obtain ⟨cl2, Ar2, qk2, Sz2, Nn2, Hs2, Gs2⟩ := id (q1_V_b2)
  have hin3 : ¬ ((0 : Int32) < 0 ∨ cl2.slots.size ≤ ((0 : Int32)).toNatClampNeg) := inb_of Sz2 ⟨by decide, by decide⟩
  have hat3 : cl2.slots[((0 : Int32)).toNatClampNeg]? = some (.ref wLOOKING) := Hs2.at hin3 rfl
  obtain ⟨T4, X4, e4, st4⟩ := getF X1 hx hZ hown (host := "") (Or.inl (hw _ (List.mem_of_getElem? (i := 22) rfl))) Via.refl rfl (G.2.2.2.2.2.2.2.2.1.ext O1.2) (g := (mkF m 26 #[.val (.int v1), .val .null, .val (.ref b2_1), .val (.int (3 : Int32)), .val (.int (0 : Int32)), .val (.ref wLOOKING)] [(.ref wLOOKING)])) rfl rfl (hb hby own_d1_26)
  have hin5 : ¬ ((1 : Int32) < 0 ∨ cl2.slots.size ≤ ((1 : Int32)).toNatClampNeg) := inb_of Sz2 ⟨by decide, by decide⟩
  have hat5 : cl2.slots[((1 : Int32)).toNatClampNeg]? = some (.ref wFOLLOWING) := Hs2.at hin5 rfl
  obtain ⟨T6, X6, e6, st6⟩ := getF X4 hx hZ hown (host := "") (Or.inl (hw _ (List.mem_of_getElem? (i := 22) rfl))) Via.refl e4 (G.2.2.2.2.2.2.2.2.2.1.ext O1.2) (g := (mkF m 26 #[.val (.int v1), .val (.ref wLOOKING), .val (.ref b2_1), .val (.int (3 : Int32)), .val (.int (1 : Int32)), .val (.ref wFOLLOWING)] [(.ref wFOLLOWING)])) rfl rfl (hb hby own_d1_26)
  have hin7 : ¬ ((2 : Int32) < 0 ∨ cl2.slots.size ≤ ((2 : Int32)).toNatClampNeg) := inb_of Sz2 ⟨by decide, by decide⟩
  have hat7 : cl2.slots[((2 : Int32)).toNatClampNeg]? = some (.ref wLEADING) := Hs2.at hin7 rfl
  obtain ⟨T8, X8, e8, st8⟩ := getF X6 hx hZ hown (host := "") (Or.inl (hw _ (List.mem_of_getElem? (i := 22) rfl))) Via.refl e6 (G.2.2.2.2.2.2.2.2.2.2.1.ext O1.2) (g := (mkF m 26 #[.val (.int v1), .val (.ref wLOOKING), .val (.ref b2_1), .val (.int (3 : Int32)), .val (.int (2 : Int32)), .val (.ref wLEADING)] [(.ref wLEADING)])) rfl rfl (hb hby own_d1_26)
  obtain ⟨fs, hr, hrun, hended, hW, hsame⟩ := X8.leave (v := some (.ref wLOOKING)) (fun h => by rw [Bd.returns] at h; cases h)
  refine ⟨_, _, pre0 _ ?_, hrun, hended, _, _, rfl, ?_, ⟨_, rfl⟩, hW, hsame.mono (by decide) (by decide)⟩
  · show Steps p.tables e below (s₁.setTop (mkF m 0 #[.val (.int v1), .unset, .unset, .unset, .unset, .unset] [])) _
    refine XS.aconstNull X0.here hx rfl (hb hby own_d1_0) ?_
    show Steps p.tables e below (s₁.setTop (mkF m 1 #[.val (.int v1), .unset, .unset, .unset, .unset, .unset] [.null])) _
    refine XS.astoreN X0.here hx rfl (hb hby own_d1_1) rfl rfl (l' := #[.val (.int v1), .val .null, .unset, .unset, .unset, .unset]) rfl ?_
    show Steps p.tables e below (s₁.setTop (mkF m 2 #[.val (.int v1), .val .null, .unset, .unset, .unset, .unset] [])) _
    refine st1 _ ?_
    show Steps p.tables e below (T1.setTop (mkF m 5 #[.val (.int v1), .val .null, .unset, .unset, .unset, .unset] [(.ref b2_1)])) _
    refine XS.astoreN X1.here hx rfl (hb hby own_d1_5) rfl rfl (l' := #[.val (.int v1), .val .null, .val (.ref b2_1), .unset, .unset, .unset]) rfl ?_
    show Steps p.tables e below (T1.setTop (mkF m 6 #[.val (.int v1), .val .null, .val (.ref b2_1), .unset, .unset, .unset] [])) _
    refine XS.aloadN X1.here hx rfl (hb hby own_d1_6) rfl rfl ?_
    show Steps p.tables e below (T1.setTop (mkF m 7 #[.val (.int v1), .val .null, .val (.ref b2_1), .unset, .unset, .unset] [(.ref b2_1)])) _
    refine X1.arraylength hx Ar2.1 (State.isArrayOf_alike hZ.alike Ar2.2.1) (g := (mkF m 7 #[.val (.int v1), .val .null, .val (.ref b2_1), .unset, .unset, .unset] [(.ref b2_1)])) rfl rfl (hb hby own_d1_7) _ ?_
    rw [len_of Sz2 Nn2]
    show Steps p.tables e below (T1.setTop (mkF m 8 #[.val (.int v1), .val .null, .val (.ref b2_1), .unset, .unset, .unset] [(.int (3 : Int32))])) _
    refine XS.istoreN X1.here hx rfl (hb hby own_d1_8) rfl (l' := #[.val (.int v1), .val .null, .val (.ref b2_1), .val (.int (3 : Int32)), .unset, .unset]) rfl ?_
    show Steps p.tables e below (T1.setTop (mkF m 9 #[.val (.int v1), .val .null, .val (.ref b2_1), .val (.int (3 : Int32)), .unset, .unset] [])) _
    refine XS.iconst X1.here hx rfl (hb hby own_d1_9) ?_
    show Steps p.tables e below (T1.setTop (mkF m 10 #[.val (.int v1), .val .null, .val (.ref b2_1), .val (.int (3 : Int32)), .unset, .unset] [(.int (0 : Int32))])) _
    refine XS.istore X1.here hx rfl (hb hby own_d1_10) rfl (l' := #[.val (.int v1), .val .null, .val (.ref b2_1), .val (.int (3 : Int32)), .val (.int (0 : Int32)), .unset]) rfl ?_
    show Steps p.tables e below (T1.setTop (mkF m 12 #[.val (.int v1), .val .null, .val (.ref b2_1), .val (.int (3 : Int32)), .val (.int (0 : Int32)), .unset] [])) _
    refine XS.iload X1.here hx rfl (hb hby own_d1_12) rfl ?_
    show Steps p.tables e below (T1.setTop (mkF m 14 #[.val (.int v1), .val .null, .val (.ref b2_1), .val (.int (3 : Int32)), .val (.int (0 : Int32)), .unset] [(.int (0 : Int32))])) _
    refine XS.iloadN X1.here hx rfl (hb hby own_d1_14) rfl ?_
    show Steps p.tables e below (T1.setTop (mkF m 15 #[.val (.int v1), .val .null, .val (.ref b2_1), .val (.int (3 : Int32)), .val (.int (0 : Int32)), .unset] [(.int (3 : Int32)), (.int (0 : Int32))])) _
    refine XS.icmpNo X1.here hx rfl (hb hby own_d1_15) rfl (by decide) ?_
    show Steps p.tables e below (T1.setTop (mkF m 18 #[.val (.int v1), .val .null, .val (.ref b2_1), .val (.int (3 : Int32)), .val (.int (0 : Int32)), .unset] [])) _
    refine XS.aloadN X1.here hx rfl (hb hby own_d1_18) rfl rfl ?_
    show Steps p.tables e below (T1.setTop (mkF m 19 #[.val (.int v1), .val .null, .val (.ref b2_1), .val (.int (3 : Int32)), .val (.int (0 : Int32)), .unset] [(.ref b2_1)])) _
    refine XS.iload X1.here hx rfl (hb hby own_d1_19) rfl ?_
    show Steps p.tables e below (T1.setTop (mkF m 21 #[.val (.int v1), .val .null, .val (.ref b2_1), .val (.int (3 : Int32)), .val (.int (0 : Int32)), .unset] [(.int (0 : Int32)), (.ref b2_1)])) _
    refine X1.aaload hx (j := (0 : Int32)) (v := (.ref wLOOKING)) Ar2.1 (State.isArrayOf_alike hZ.alike Ar2.2.1) rfl Ar2.2.2 hin3 hat3 (g := (mkF m 21 #[.val (.int v1), .val .null, .val (.ref b2_1), .val (.int (3 : Int32)), .val (.int (0 : Int32)), .unset] [(.int (0 : Int32)), (.ref b2_1)])) rfl rfl (hb hby own_d1_21) _ ?_
    show Steps p.tables e below (T1.setTop (mkF m 22 #[.val (.int v1), .val .null, .val (.ref b2_1), .val (.int (3 : Int32)), .val (.int (0 : Int32)), .unset] [(.ref wLOOKING)])) _
    refine XS.astore X1.here hx rfl (hb hby own_d1_22) rfl rfl (l' := #[.val (.int v1), .val .null, .val (.ref b2_1), .val (.int (3 : Int32)), .val (.int (0 : Int32)), .val (.ref wLOOKING)]) rfl ?_
    show Steps p.tables e below (T1.setTop (mkF m 24 #[.val (.int v1), .val .null, .val (.ref b2_1), .val (.int (3 : Int32)), .val (.int (0 : Int32)), .val (.ref wLOOKING)] [])) _
    refine XS.aload X1.here hx rfl (hb hby own_d1_24) rfl rfl ?_
    show Steps p.tables e below (T1.setTop (mkF m 26 #[.val (.int v1), .val .null, .val (.ref b2_1), .val (.int (3 : Int32)), .val (.int (0 : Int32)), .val (.ref wLOOKING)] [(.ref wLOOKING)])) _
    refine st4 _ ?_
    show Steps p.tables e below (T4.setTop (mkF m 29 #[.val (.int v1), .val .null, .val (.ref b2_1), .val (.int (3 : Int32)), .val (.int (0 : Int32)), .val (.ref wLOOKING)] [(.int (0 : Int32))])) _
    refine XS.iloadN X4.here hx rfl (hb hby own_d1_29) rfl ?_
    show Steps p.tables e below (T4.setTop (mkF m 30 #[.val (.int v1), .val .null, .val (.ref b2_1), .val (.int (3 : Int32)), .val (.int (0 : Int32)), .val (.ref wLOOKING)] [(.int v1), (.int (0 : Int32))])) _
    refine XS.icmpNo X4.here hx rfl (hb hby own_d1_30) rfl (teq ((Eq.symm hp1) : (0 : Int32) = v1)).2 ?_
    show Steps p.tables e below (T4.setTop (mkF m 33 #[.val (.int v1), .val .null, .val (.ref b2_1), .val (.int (3 : Int32)), .val (.int (0 : Int32)), .val (.ref wLOOKING)] [])) _
    refine XS.aload X4.here hx rfl (hb hby own_d1_33) rfl rfl ?_
    show Steps p.tables e below (T4.setTop (mkF m 35 #[.val (.int v1), .val .null, .val (.ref b2_1), .val (.int (3 : Int32)), .val (.int (0 : Int32)), .val (.ref wLOOKING)] [(.ref wLOOKING)])) _
    refine XS.astoreN X4.here hx rfl (hb hby own_d1_35) rfl rfl (l' := #[.val (.int v1), .val (.ref wLOOKING), .val (.ref b2_1), .val (.int (3 : Int32)), .val (.int (0 : Int32)), .val (.ref wLOOKING)]) rfl ?_
    show Steps p.tables e below (T4.setTop (mkF m 36 #[.val (.int v1), .val (.ref wLOOKING), .val (.ref b2_1), .val (.int (3 : Int32)), .val (.int (0 : Int32)), .val (.ref wLOOKING)] [])) _
    refine XS.iinc X4.here hx rfl (hb hby own_d1_36) rfl (l' := #[.val (.int v1), .val (.ref wLOOKING), .val (.ref b2_1), .val (.int (3 : Int32)), .val (.int (1 : Int32)), .val (.ref wLOOKING)]) rfl ?_
    show Steps p.tables e below (T4.setTop (mkF m 39 #[.val (.int v1), .val (.ref wLOOKING), .val (.ref b2_1), .val (.int (3 : Int32)), .val (.int (1 : Int32)), .val (.ref wLOOKING)] [])) _
    refine XS.goto X4.here hx rfl (pc0 := 39) (pc' := 12) rfl (hb hby own_d1_39) (by decide) (by decide) ?_
    show Steps p.tables e below (T4.setTop (mkF m 12 #[.val (.int v1), .val (.ref wLOOKING), .val (.ref b2_1), .val (.int (3 : Int32)), .val (.int (1 : Int32)), .val (.ref wLOOKING)] [])) _
    refine XS.iload X4.here hx rfl (hb hby own_d1_12) rfl ?_
    show Steps p.tables e below (T4.setTop (mkF m 14 #[.val (.int v1), .val (.ref wLOOKING), .val (.ref b2_1), .val (.int (3 : Int32)), .val (.int (1 : Int32)), .val (.ref wLOOKING)] [(.int (1 : Int32))])) _
    refine XS.iloadN X4.here hx rfl (hb hby own_d1_14) rfl ?_
    show Steps p.tables e below (T4.setTop (mkF m 15 #[.val (.int v1), .val (.ref wLOOKING), .val (.ref b2_1), .val (.int (3 : Int32)), .val (.int (1 : Int32)), .val (.ref wLOOKING)] [(.int (3 : Int32)), (.int (1 : Int32))])) _
    refine XS.icmpNo X4.here hx rfl (hb hby own_d1_15) rfl (by decide) ?_
    show Steps p.tables e below (T4.setTop (mkF m 18 #[.val (.int v1), .val (.ref wLOOKING), .val (.ref b2_1), .val (.int (3 : Int32)), .val (.int (1 : Int32)), .val (.ref wLOOKING)] [])) _
    refine XS.aloadN X4.here hx rfl (hb hby own_d1_18) rfl rfl ?_
    show Steps p.tables e below (T4.setTop (mkF m 19 #[.val (.int v1), .val (.ref wLOOKING), .val (.ref b2_1), .val (.int (3 : Int32)), .val (.int (1 : Int32)), .val (.ref wLOOKING)] [(.ref b2_1)])) _
    refine XS.iload X4.here hx rfl (hb hby own_d1_19) rfl ?_
    show Steps p.tables e below (T4.setTop (mkF m 21 #[.val (.int v1), .val (.ref wLOOKING), .val (.ref b2_1), .val (.int (3 : Int32)), .val (.int (1 : Int32)), .val (.ref wLOOKING)] [(.int (1 : Int32)), (.ref b2_1)])) _
    refine X4.aaload hx (j := (1 : Int32)) (v := (.ref wFOLLOWING)) (by rw [e4]; exact Ar2.1) (State.isArrayOf_alike hZ.alike Ar2.2.1) rfl Ar2.2.2 hin5 hat5 (g := (mkF m 21 #[.val (.int v1), .val (.ref wLOOKING), .val (.ref b2_1), .val (.int (3 : Int32)), .val (.int (1 : Int32)), .val (.ref wLOOKING)] [(.int (1 : Int32)), (.ref b2_1)])) rfl rfl (hb hby own_d1_21) _ ?_
    show Steps p.tables e below (T4.setTop (mkF m 22 #[.val (.int v1), .val (.ref wLOOKING), .val (.ref b2_1), .val (.int (3 : Int32)), .val (.int (1 : Int32)), .val (.ref wLOOKING)] [(.ref wFOLLOWING)])) _
    refine XS.astore X4.here hx rfl (hb hby own_d1_22) rfl rfl (l' := #[.val (.int v1), .val (.ref wLOOKING), .val (.ref b2_1), .val (.int (3 : Int32)), .val (.int (1 : Int32)), .val (.ref wFOLLOWING)]) rfl ?_
    show Steps p.tables e below (T4.setTop (mkF m 24 #[.val (.int v1), .val (.ref wLOOKING), .val (.ref b2_1), .val (.int (3 : Int32)), .val (.int (1 : Int32)), .val (.ref wFOLLOWING)] [])) _
    refine XS.aload X4.here hx rfl (hb hby own_d1_24) rfl rfl ?_
    show Steps p.tables e below (T4.setTop (mkF m 26 #[.val (.int v1), .val (.ref wLOOKING), .val (.ref b2_1), .val (.int (3 : Int32)), .val (.int (1 : Int32)), .val (.ref wFOLLOWING)] [(.ref wFOLLOWING)])) _
    refine st6 _ ?_
    show Steps p.tables e below (T6.setTop (mkF m 29 #[.val (.int v1), .val (.ref wLOOKING), .val (.ref b2_1), .val (.int (3 : Int32)), .val (.int (1 : Int32)), .val (.ref wFOLLOWING)] [(.int (1 : Int32))])) _
    refine XS.iloadN X6.here hx rfl (hb hby own_d1_29) rfl ?_
    show Steps p.tables e below (T6.setTop (mkF m 30 #[.val (.int v1), .val (.ref wLOOKING), .val (.ref b2_1), .val (.int (3 : Int32)), .val (.int (1 : Int32)), .val (.ref wFOLLOWING)] [(.int v1), (.int (1 : Int32))])) _
    refine XS.icmpYes X6.here hx rfl (pc0 := 30) (pc' := 36) rfl (hb hby own_d1_30) rfl (feq ((Ne.symm hp2) : ¬ ((1 : Int32) = v1))).2 (by decide) (by decide) ?_
    show Steps p.tables e below (T6.setTop (mkF m 36 #[.val (.int v1), .val (.ref wLOOKING), .val (.ref b2_1), .val (.int (3 : Int32)), .val (.int (1 : Int32)), .val (.ref wFOLLOWING)] [])) _
    refine XS.iinc X6.here hx rfl (hb hby own_d1_36) rfl (l' := #[.val (.int v1), .val (.ref wLOOKING), .val (.ref b2_1), .val (.int (3 : Int32)), .val (.int (2 : Int32)), .val (.ref wFOLLOWING)]) rfl ?_
    show Steps p.tables e below (T6.setTop (mkF m 39 #[.val (.int v1), .val (.ref wLOOKING), .val (.ref b2_1), .val (.int (3 : Int32)), .val (.int (2 : Int32)), .val (.ref wFOLLOWING)] [])) _
    refine XS.goto X6.here hx rfl (pc0 := 39) (pc' := 12) rfl (hb hby own_d1_39) (by decide) (by decide) ?_
    show Steps p.tables e below (T6.setTop (mkF m 12 #[.val (.int v1), .val (.ref wLOOKING), .val (.ref b2_1), .val (.int (3 : Int32)), .val (.int (2 : Int32)), .val (.ref wFOLLOWING)] [])) _
    refine XS.iload X6.here hx rfl (hb hby own_d1_12) rfl ?_
    show Steps p.tables e below (T6.setTop (mkF m 14 #[.val (.int v1), .val (.ref wLOOKING), .val (.ref b2_1), .val (.int (3 : Int32)), .val (.int (2 : Int32)), .val (.ref wFOLLOWING)] [(.int (2 : Int32))])) _
    refine XS.iloadN X6.here hx rfl (hb hby own_d1_14) rfl ?_
    show Steps p.tables e below (T6.setTop (mkF m 15 #[.val (.int v1), .val (.ref wLOOKING), .val (.ref b2_1), .val (.int (3 : Int32)), .val (.int (2 : Int32)), .val (.ref wFOLLOWING)] [(.int (3 : Int32)), (.int (2 : Int32))])) _
    refine XS.icmpNo X6.here hx rfl (hb hby own_d1_15) rfl (by decide) ?_
    show Steps p.tables e below (T6.setTop (mkF m 18 #[.val (.int v1), .val (.ref wLOOKING), .val (.ref b2_1), .val (.int (3 : Int32)), .val (.int (2 : Int32)), .val (.ref wFOLLOWING)] [])) _
    refine XS.aloadN X6.here hx rfl (hb hby own_d1_18) rfl rfl ?_
    show Steps p.tables e below (T6.setTop (mkF m 19 #[.val (.int v1), .val (.ref wLOOKING), .val (.ref b2_1), .val (.int (3 : Int32)), .val (.int (2 : Int32)), .val (.ref wFOLLOWING)] [(.ref b2_1)])) _
    refine XS.iload X6.here hx rfl (hb hby own_d1_19) rfl ?_
    show Steps p.tables e below (T6.setTop (mkF m 21 #[.val (.int v1), .val (.ref wLOOKING), .val (.ref b2_1), .val (.int (3 : Int32)), .val (.int (2 : Int32)), .val (.ref wFOLLOWING)] [(.int (2 : Int32)), (.ref b2_1)])) _
    refine X6.aaload hx (j := (2 : Int32)) (v := (.ref wLEADING)) (by rw [e6]; exact Ar2.1) (State.isArrayOf_alike hZ.alike Ar2.2.1) rfl Ar2.2.2 hin7 hat7 (g := (mkF m 21 #[.val (.int v1), .val (.ref wLOOKING), .val (.ref b2_1), .val (.int (3 : Int32)), .val (.int (2 : Int32)), .val (.ref wFOLLOWING)] [(.int (2 : Int32)), (.ref b2_1)])) rfl rfl (hb hby own_d1_21) _ ?_
    show Steps p.tables e below (T6.setTop (mkF m 22 #[.val (.int v1), .val (.ref wLOOKING), .val (.ref b2_1), .val (.int (3 : Int32)), .val (.int (2 : Int32)), .val (.ref wFOLLOWING)] [(.ref wLEADING)])) _
    refine XS.astore X6.here hx rfl (hb hby own_d1_22) rfl rfl (l' := #[.val (.int v1), .val (.ref wLOOKING), .val (.ref b2_1), .val (.int (3 : Int32)), .val (.int (2 : Int32)), .val (.ref wLEADING)]) rfl ?_
    show Steps p.tables e below (T6.setTop (mkF m 24 #[.val (.int v1), .val (.ref wLOOKING), .val (.ref b2_1), .val (.int (3 : Int32)), .val (.int (2 : Int32)), .val (.ref wLEADING)] [])) _
    refine XS.aload X6.here hx rfl (hb hby own_d1_24) rfl rfl ?_
    show Steps p.tables e below (T6.setTop (mkF m 26 #[.val (.int v1), .val (.ref wLOOKING), .val (.ref b2_1), .val (.int (3 : Int32)), .val (.int (2 : Int32)), .val (.ref wLEADING)] [(.ref wLEADING)])) _
    refine st8 _ ?_
    show Steps p.tables e below (T8.setTop (mkF m 29 #[.val (.int v1), .val (.ref wLOOKING), .val (.ref b2_1), .val (.int (3 : Int32)), .val (.int (2 : Int32)), .val (.ref wLEADING)] [(.int (2 : Int32))])) _
    refine XS.iloadN X8.here hx rfl (hb hby own_d1_29) rfl ?_
    show Steps p.tables e below (T8.setTop (mkF m 30 #[.val (.int v1), .val (.ref wLOOKING), .val (.ref b2_1), .val (.int (3 : Int32)), .val (.int (2 : Int32)), .val (.ref wLEADING)] [(.int v1), (.int (2 : Int32))])) _
    refine XS.icmpYes X8.here hx rfl (pc0 := 30) (pc' := 36) rfl (hb hby own_d1_30) rfl (feq ((Ne.symm hp3) : ¬ ((2 : Int32) = v1))).2 (by decide) (by decide) ?_
    show Steps p.tables e below (T8.setTop (mkF m 36 #[.val (.int v1), .val (.ref wLOOKING), .val (.ref b2_1), .val (.int (3 : Int32)), .val (.int (2 : Int32)), .val (.ref wLEADING)] [])) _
    refine XS.iinc X8.here hx rfl (hb hby own_d1_36) rfl (l' := #[.val (.int v1), .val (.ref wLOOKING), .val (.ref b2_1), .val (.int (3 : Int32)), .val (.int (3 : Int32)), .val (.ref wLEADING)]) rfl ?_
    show Steps p.tables e below (T8.setTop (mkF m 39 #[.val (.int v1), .val (.ref wLOOKING), .val (.ref b2_1), .val (.int (3 : Int32)), .val (.int (3 : Int32)), .val (.ref wLEADING)] [])) _
    refine XS.goto X8.here hx rfl (pc0 := 39) (pc' := 12) rfl (hb hby own_d1_39) (by decide) (by decide) ?_
    show Steps p.tables e below (T8.setTop (mkF m 12 #[.val (.int v1), .val (.ref wLOOKING), .val (.ref b2_1), .val (.int (3 : Int32)), .val (.int (3 : Int32)), .val (.ref wLEADING)] [])) _
    refine XS.iload X8.here hx rfl (hb hby own_d1_12) rfl ?_
    show Steps p.tables e below (T8.setTop (mkF m 14 #[.val (.int v1), .val (.ref wLOOKING), .val (.ref b2_1), .val (.int (3 : Int32)), .val (.int (3 : Int32)), .val (.ref wLEADING)] [(.int (3 : Int32))])) _
    refine XS.iloadN X8.here hx rfl (hb hby own_d1_14) rfl ?_
    show Steps p.tables e below (T8.setTop (mkF m 15 #[.val (.int v1), .val (.ref wLOOKING), .val (.ref b2_1), .val (.int (3 : Int32)), .val (.int (3 : Int32)), .val (.ref wLEADING)] [(.int (3 : Int32)), (.int (3 : Int32))])) _
    refine XS.icmpYes X8.here hx rfl (pc0 := 15) (pc' := 42) rfl (hb hby own_d1_15) rfl (by decide) (by decide) (by decide) ?_
    show Steps p.tables e below (T8.setTop (mkF m 42 #[.val (.int v1), .val (.ref wLOOKING), .val (.ref b2_1), .val (.int (3 : Int32)), .val (.int (3 : Int32)), .val (.ref wLEADING)] [])) _
    refine XS.aloadN X8.here hx rfl (hb hby own_d1_42) rfl rfl ?_
    show Steps p.tables e below (T8.setTop (mkF m 43 #[.val (.int v1), .val (.ref wLOOKING), .val (.ref b2_1), .val (.int (3 : Int32)), .val (.int (3 : Int32)), .val (.ref wLEADING)] [(.ref wLOOKING)])) _
    jvm_step X8.here [X8.here.top, hx, (hb hby own_d1_43), X8.method', Bd.returns, Value.isRef, FieldType.isReference]
    first | (intro acts; rw [hr _ acts rfl rfl rfl]) | rw [hr _ _ rfl rfl rfl]
    exact Steps.refl _
  · show OwnQ_own_of_0 Z wVALUES wLOOKING wFOLLOWING wLEADING kVALUES v1 h0 n0 _ T8.heap _
    rw [e8]
    exact ⟨rfl, N1, K1⟩
theorem own_pd_1 : parseMethodDescriptor "(I)Lcom/example/nimble_quorum/nimblequorum/quorum/PeerState;" = some ⟨[.int], some (.object "com/example/nimble_quorum/nimblequorum/quorum/PeerState")⟩ := by decide +kernel
theorem own_ef_3_I (m : MethodId) (x0 : Int32) : entryFrame m #[(.int x0)] 1 = mkF m 0 #[.val (.int x0)] [] := by first | (simp [entryFrame, mkF, argsToLocals, Value.category]; done) | rfl
theorem own_d3_0 : decode method_2_code 0 = .ok (.iload_n 0, 1) := by decide +kernel
theorem own_d3_1 : decode method_2_code 1 = .ok (.ifCond .ne 7, 3) := by decide +kernel
theorem own_d3_4 : decode method_2_code 4 = .ok (.getstatic 7, 3) := by decide +kernel
theorem own_d3_7 : decode method_2_code 7 = .ok (.areturn, 1) := by decide +kernel
set_option maxRecDepth 65536 in
set_option maxHeartbeats 40000000 in
theorem own_expected_2 (l : Launch) (Z : State) (a0 : Array Value) (hw : ∀ d ∈ tables_1, d.before a0 Z = true) (ws : List Jvm.Cond) (wVALUES : Addr) (wLOOKING : Addr) (wFOLLOWING : Addr) (wLEADING : Addr) (kVALUES : ClassId) (G : OwnG Z wVALUES wLOOKING wFOLLOWING wLEADING kVALUES) (h0 : Heap) (n0 : Nat) (O0 : Old Z n0 h0) (v1 : Int32) (hp1 : v1 = (0 : Int32)) (hp2 : ¬ (v1 = (1 : Int32))) (hp3 : ¬ (v1 = (2 : Int32))) :
    MetFree l (⟨"com/example/nimble_quorum/nimblequorum/quorum/PeerStateOfPinLaw", "expected", "(I)Lcom/example/nimble_quorum/nimblequorum/quorum/PeerState;"⟩ : MethodName) (head1 (Jvm.Cond.code (⟨"com/example/nimble_quorum/nimblequorum/quorum/PeerStateOfPinLaw", "expected", "(I)Lcom/example/nimble_quorum/nimblequorum/quorum/PeerState;"⟩ : MethodName) method_2_code 1 (some (.object "com/example/nimble_quorum/nimblequorum/quorum/PeerState")) :: ws) ({ frames := 0, cells := 0, slots := 0, locals := 0 } : Room)) (fun a U => a = #[(.int v1)] ∧ Z.Warmed39 U.vm ∧ U.heap = h0) (fun _ _ _ _ _ => True) (fun _ U o U' => ∃ v L, o = .returned v ∧ OwnQ (some (.ref wLOOKING)) h0 n0 v U'.heap L ∧ FrameEnd U o U' L ({ frames := 0, cells := 0, slots := 0, locals := 0 } : Room).cells ({ frames := 0, cells := 0, slots := 0, locals := 0 } : Room).slots) := by
  refine MetFree.of_bodySF (plainFor_of_name own_pn_0) hisR ?_
  intro p e s m args below meth c s₁ Bd hml0 hP hK
  obtain ⟨rfl, hZ, hh⟩ := hP
  have hx := Bd.exec
  have hby := Bd.bytes
  have hml : c.maxLocals = 1 := hml0
  have hown : s.vm.findClass "com/example/nimble_quorum/nimblequorum/quorum/PeerStateOfPinLaw" = some m.cls := findClass_of_methodNamed Bd.named
  have hnm := (name_of_methodNamed Bd.named Bd.method).1
  have X0 : Stand p l e ({ frames := 0, cells := 0, slots := 0, locals := 0 } : Room) s m #[(.int v1)] below meth c s₁ [] 0 0 := Stand.of_body Bd
  have e0 : s₁.heap = h0 := by rw [← hh, Bd.state]; rfl
  have N0 := Fr.nil n0
  have pre0 : ∀ t, Steps p.tables e below (s₁.setTop (mkF m 0 #[.val (.int v1)] [])) t → Steps p.tables e below (s₁.setTop (entryFrame m #[(.int v1)] 1)) t := fun t k => castTop (own_ef_3_I m v1) k
  obtain ⟨T1, X1, e1, st1⟩ := getS2 X0 hx hZ hown (host := "") (Or.inl (hw _ (List.mem_of_getElem? (i := 28) rfl))) Via.refl e0 (G.2.2.1.ext O0.2) (g := (mkF m 4 #[.val (.int v1)] [])) rfl (hb hby own_d3_4)
  obtain ⟨fs, hr, hrun, hended, hW, hsame⟩ := X1.leave (v := some (.ref wLOOKING)) (fun h => by rw [Bd.returns] at h; cases h)
  refine ⟨_, _, pre0 _ ?_, hrun, hended, _, _, rfl, ?_, ⟨_, rfl⟩, hW, hsame.mono (by decide) (by decide)⟩
  · show Steps p.tables e below (s₁.setTop (mkF m 0 #[.val (.int v1)] [])) _
    refine XS.iloadN X0.here hx rfl (hb hby own_d3_0) rfl ?_
    show Steps p.tables e below (s₁.setTop (mkF m 1 #[.val (.int v1)] [(.int v1)])) _
    refine XS.ifNo X0.here hx rfl (hb hby own_d3_1) rfl ((if0 _ _).trans (teq (hp1 : v1 = (0 : Int32))).2) ?_
    show Steps p.tables e below (s₁.setTop (mkF m 4 #[.val (.int v1)] [])) _
    refine st1 _ ?_
    show Steps p.tables e below (T1.setTop (mkF m 7 #[.val (.int v1)] [(.ref wLOOKING)])) _
    jvm_step X1.here [X1.here.top, hx, (hb hby own_d3_7), X1.method', Bd.returns, Value.isRef, FieldType.isReference]
    first | (intro acts; rw [hr _ acts rfl rfl rfl]) | rw [hr _ _ rfl rfl rfl]
    exact Steps.refl _
  · show OwnQ _ h0 n0 _ T1.heap _
    exact ⟨rfl, N0, e1⟩
set_option maxRecDepth 65536 in
set_option maxHeartbeats 40000000 in
theorem own_law_00 (l : Launch) (Z : State) (a0 : Array Value) (hw : ∀ d ∈ tables_1, d.before a0 Z = true) (ws : List Jvm.Cond) (wVALUES : Addr) (wLOOKING : Addr) (wFOLLOWING : Addr) (wLEADING : Addr) (kVALUES : ClassId) (G : OwnG Z wVALUES wLOOKING wFOLLOWING wLEADING kVALUES) (h0 : Heap) (n0 : Nat) (O0 : Old Z n0 h0) (p1 : Int32) (p2 : Int32) (d : Int32) (c0 : p1 = (0 : Int32)) (c1 : ¬ (p1 = (1 : Int32))) (c2 : ¬ (p1 = (2 : Int32))) (hd : ((p2 &&& (7 : Int32)) - (2 : Int32)) = d) (d0 : d = (0 : Int32)) (d1 : ¬ (d = (1 : Int32))) (d2 : ¬ (d = (2 : Int32))) :
    MetFree l x (head1 (Jvm.Cond.code x code maxLocals ret :: ws) room_1) (fun a U => a = #[(.int p1), (.int p2)] ∧ Z.Warmed39 U.vm ∧ U.heap = h0) (fun _ _ _ _ _ => True) (fun _ U o U' => ∃ v L, o = .returned v ∧ (v = some (.int 1) ∧ Fr n0 L) ∧ FrameEnd U o U' L room_1.cells room_1.slots) := by
  refine MetFree.of_bodySF (plainFor_of_name own_pn_0) hisR ?_
  intro p e s m args below meth c s₁ Bd hml0 hP hK
  obtain ⟨rfl, hZ, hh⟩ := hP
  have hx := Bd.exec
  have hby := Bd.bytes
  have hml : c.maxLocals = 5 := hml0
  have hown : s.vm.findClass "com/example/nimble_quorum/nimblequorum/quorum/PeerStateOfPinLaw" = some m.cls := findClass_of_methodNamed Bd.named
  have hnm := (name_of_methodNamed Bd.named Bd.method).1
  have X0 : Stand p l e room_1 s m #[(.int p1), (.int p2)] below meth c s₁ [] 0 0 := Stand.of_body Bd
  have e0 : s₁.heap = h0 := by rw [← hh, Bd.state]; rfl
  have N0 := Fr.nil n0
  have pre0 : ∀ t, Steps p.tables e below (s₁.setTop (mkF m 0 #[.val (.int p1), .val (.int p2), .unset, .unset, .unset] [])) t → Steps p.tables e below (s₁.setTop (entryFrame m #[(.int p1), (.int p2)] maxLocals)) t := fun t k => castTop (own_ef_0_II m p1 p2) k
  obtain ⟨_, _, ⟨T1, L1, k1, n1⟩, -, X1, ⟨Lc1, hQ1, l1, y1, z1⟩, st1⟩ := Jvm.LawKit.callS X0 hx (y := (⟨"com/example/nimble_quorum/nimblequorum/quorum/PeerState", "of", "(I)Lcom/example/nimble_quorum/nimblequorum/quorum/PeerState;"⟩ : MethodName)) hown (mvT hZ (hw _ (List.mem_of_getElem? (i := 0) rfl))) (mvT hZ (hw _ (List.mem_of_getElem? (i := 1) rfl))) (mvT hZ (hw _ (List.mem_of_getElem? (i := 2) rfl))) (mvT hZ (hw _ (List.mem_of_getElem? (i := 3) rfl))) (by decide) (backOf (W := 0) (own_of_0 l Z a0 hw [] wVALUES wLOOKING wFOLLOWING wLEADING kVALUES G h0 n0 O0 p1 c0 c1 c2) hZ (hw _ (List.mem_of_getElem? (i := 3) rfl)) (hw _ (List.mem_of_getElem? (i := 2) rfl)) (by decide) (by decide)) (g := (mkF m 8 #[.val (.int p1), .val (.int p2), .val (.int d), .unset, .unset] [(.int p1)])) rfl (by rw [hml]; rfl) (argsL := [(.int p1)]) (rest := []) (lenOf own_pd_1 rfl) rfl (by show 2 * 0 + _ ≤ _; exact Nat.le_of_eq rfl) (hb hby at_8) (fun _ _ => ⟨rfl, e0, (by decide : 0 + 1 ≤ _), (by decide : 0 + 3 ≤ _)⟩)
  dsimp only [Pt.U, Pt.locs, Pt.cells, Pt.slots] at X1 l1 y1 z1 st1 hQ1
  subst l1 y1 z1
  obtain ⟨rfl, N1q, Kq1⟩ := hQ1
  have N1 := Fr.app N0 N1q
  have O1 := O0.keep Kq1 all0
  have K1 := (Keep.refl h0 []).trans Kq1 all0
  obtain ⟨_, _, ⟨T2, L2, k2, n2⟩, -, X2, ⟨Lc2, hQ2, l2, y2, z2⟩, st2⟩ := Jvm.LawKit.callS X1 hx (y := (⟨"com/example/nimble_quorum/nimblequorum/quorum/PeerState", "of", "(I)Lcom/example/nimble_quorum/nimblequorum/quorum/PeerState;"⟩ : MethodName)) hown (mvT hZ (hw _ (List.mem_of_getElem? (i := 0) rfl))) (mvT hZ (hw _ (List.mem_of_getElem? (i := 1) rfl))) (mvT hZ (hw _ (List.mem_of_getElem? (i := 2) rfl))) (mvT hZ (hw _ (List.mem_of_getElem? (i := 3) rfl))) (by decide) (backOf (W := 0) (own_of_0 l Z a0 hw [] wVALUES wLOOKING wFOLLOWING wLEADING kVALUES G T1.heap n0 O1 d d0 d1 d2) hZ (hw _ (List.mem_of_getElem? (i := 3) rfl)) (hw _ (List.mem_of_getElem? (i := 2) rfl)) (by decide) (by decide)) (g := (mkF m 13 #[.val (.int p1), .val (.int p2), .val (.int d), .val (.ref wLOOKING), .unset] [(.int d)])) rfl (by rw [hml]; rfl) (argsL := [(.int d)]) (rest := []) (lenOf own_pd_1 rfl) rfl (by show 2 * 0 + _ ≤ _; exact Nat.le_of_eq rfl) (hb hby at_13) (fun _ _ => ⟨rfl, rfl, (by decide : 1 + 1 ≤ _), (by decide : 3 + 3 ≤ _)⟩)
  dsimp only [Pt.U, Pt.locs, Pt.cells, Pt.slots] at X2 l2 y2 z2 st2 hQ2
  subst l2 y2 z2
  obtain ⟨rfl, N2q, Kq2⟩ := hQ2
  have N2 := Fr.app N1 N2q
  have O2 := O1.keep Kq2 all0
  have K2 := K1.trans Kq2 all0
  obtain ⟨_, _, ⟨T3, L3, k3, n3⟩, -, X3, ⟨Lc3, hQ3, l3, y3, z3⟩, st3⟩ := Jvm.LawKit.callS X2 hx (y := (⟨"com/example/nimble_quorum/nimblequorum/quorum/PeerStateOfPinLaw", "expected", "(I)Lcom/example/nimble_quorum/nimblequorum/quorum/PeerState;"⟩ : MethodName)) hown (mvT hZ (hw _ (List.mem_of_getElem? (i := 24) rfl))) (mvT hZ (hw _ (List.mem_of_getElem? (i := 25) rfl))) (mvT hZ (hw _ (List.mem_of_getElem? (i := 26) rfl))) (mvT hZ (hw _ (List.mem_of_getElem? (i := 27) rfl))) (by decide) (backOf (W := 1) (own_expected_2 l Z a0 hw [] wVALUES wLOOKING wFOLLOWING wLEADING kVALUES G T2.heap n0 O2 p1 c0 c1 c2) hZ (hw _ (List.mem_of_getElem? (i := 27) rfl)) (hw _ (List.mem_of_getElem? (i := 26) rfl)) (by decide) (by decide)) (g := (mkF m 20 #[.val (.int p1), .val (.int p2), .val (.int d), .val (.ref wLOOKING), .val (.ref wLOOKING)] [(.int p1), (.ref wLOOKING)])) rfl (by rw [hml]; rfl) (argsL := [(.int p1)]) (rest := [(.ref wLOOKING)]) (lenOf own_pd_1 rfl) rfl (by show 2 * 0 + _ ≤ _; exact Nat.le_of_eq rfl) (hb hby at_20) (fun _ _ => ⟨rfl, rfl, (by decide : 2 + 0 ≤ _), (by decide : 6 + 0 ≤ _)⟩)
  dsimp only [Pt.U, Pt.locs, Pt.cells, Pt.slots] at X3 l3 y3 z3 st3 hQ3
  subst l3 y3 z3
  obtain ⟨rfl, N3q, e3⟩ := hQ3
  have N3 := Fr.app N2 N3q
  obtain ⟨_, _, ⟨T4, L4, k4, n4⟩, -, X4, ⟨Lc4, hQ4, l4, y4, z4⟩, st4⟩ := Jvm.LawKit.callS X3 hx (y := (⟨"com/example/nimble_quorum/nimblequorum/quorum/PeerStateOfPinLaw", "expected", "(I)Lcom/example/nimble_quorum/nimblequorum/quorum/PeerState;"⟩ : MethodName)) hown (mvT hZ (hw _ (List.mem_of_getElem? (i := 24) rfl))) (mvT hZ (hw _ (List.mem_of_getElem? (i := 25) rfl))) (mvT hZ (hw _ (List.mem_of_getElem? (i := 26) rfl))) (mvT hZ (hw _ (List.mem_of_getElem? (i := 27) rfl))) (by decide) (backOf (W := 1) (own_expected_2 l Z a0 hw [] wVALUES wLOOKING wFOLLOWING wLEADING kVALUES G T2.heap n0 O2 d d0 d1 d2) hZ (hw _ (List.mem_of_getElem? (i := 27) rfl)) (hw _ (List.mem_of_getElem? (i := 26) rfl)) (by decide) (by decide)) (g := (mkF m 29 #[.val (.int p1), .val (.int p2), .val (.int d), .val (.ref wLOOKING), .val (.ref wLOOKING)] [(.int d), (.ref wLOOKING)])) rfl (by rw [hml]; rfl) (argsL := [(.int d)]) (rest := [(.ref wLOOKING)]) (lenOf own_pd_1 rfl) rfl (by show 2 * 0 + _ ≤ _; exact Nat.le_of_eq rfl) (hb hby at_29) (fun _ _ => ⟨rfl, e3, (by decide : 2 + 0 ≤ _), (by decide : 6 + 0 ≤ _)⟩)
  dsimp only [Pt.U, Pt.locs, Pt.cells, Pt.slots] at X4 l4 y4 z4 st4 hQ4
  subst l4 y4 z4
  obtain ⟨rfl, N4q, e4⟩ := hQ4
  have N4 := Fr.app N3 N4q
  obtain ⟨fs, hr, hrun, hended, hW, hsame⟩ := X4.leave (v := some (.int (1 : Int32))) (fun h => by rw [Bd.returns] at h; cases h)
  refine ⟨_, _, pre0 _ ?_, hrun, hended, _, _, rfl, ?_, ⟨_, rfl⟩, hW, hsame.mono (by decide) (by decide)⟩
  · show Steps p.tables e below (s₁.setTop (mkF m 0 #[.val (.int p1), .val (.int p2), .unset, .unset, .unset] [])) _
    refine XS.iloadN X0.here hx rfl (hb hby at_0) rfl ?_
    show Steps p.tables e below (s₁.setTop (mkF m 1 #[.val (.int p1), .val (.int p2), .unset, .unset, .unset] [(.int p2)])) _
    refine XS.bipush X0.here hx rfl (hb hby at_1) ?_
    show Steps p.tables e below (s₁.setTop (mkF m 3 #[.val (.int p1), .val (.int p2), .unset, .unset, .unset] [(.int (7 : Int32)), (.int p2)])) _
    refine XS.iand X0.here hx rfl (hb hby at_3) rfl ?_
    show Steps p.tables e below (s₁.setTop (mkF m 4 #[.val (.int p1), .val (.int p2), .unset, .unset, .unset] [(.int (p2 &&& (7 : Int32)))])) _
    refine XS.iconst X0.here hx rfl (hb hby at_4) ?_
    show Steps p.tables e below (s₁.setTop (mkF m 5 #[.val (.int p1), .val (.int p2), .unset, .unset, .unset] [(.int (2 : Int32)), (.int (p2 &&& (7 : Int32)))])) _
    refine XS.isub X0.here hx rfl (hb hby at_5) rfl ?_
    show Steps p.tables e below (s₁.setTop (mkF m 6 #[.val (.int p1), .val (.int p2), .unset, .unset, .unset] [(.int ((p2 &&& (7 : Int32)) - (2 : Int32)))])) _
    refine castTop (g' := (mkF m 6 #[.val (.int p1), .val (.int p2), .unset, .unset, .unset] [(.int d)])) (by rw [hd]) ?_
    show Steps p.tables e below (s₁.setTop (mkF m 6 #[.val (.int p1), .val (.int p2), .unset, .unset, .unset] [(.int d)])) _
    refine XS.istoreN X0.here hx rfl (hb hby at_6) rfl (l' := #[.val (.int p1), .val (.int p2), .val (.int d), .unset, .unset]) rfl ?_
    show Steps p.tables e below (s₁.setTop (mkF m 7 #[.val (.int p1), .val (.int p2), .val (.int d), .unset, .unset] [])) _
    refine XS.iloadN X0.here hx rfl (hb hby at_7) rfl ?_
    show Steps p.tables e below (s₁.setTop (mkF m 8 #[.val (.int p1), .val (.int p2), .val (.int d), .unset, .unset] [(.int p1)])) _
    refine st1 _ ?_
    show Steps p.tables e below (T1.setTop (mkF m 11 #[.val (.int p1), .val (.int p2), .val (.int d), .unset, .unset] [(.ref wLOOKING)])) _
    refine XS.astoreN X1.here hx rfl (hb hby at_11) rfl rfl (l' := #[.val (.int p1), .val (.int p2), .val (.int d), .val (.ref wLOOKING), .unset]) rfl ?_
    show Steps p.tables e below (T1.setTop (mkF m 12 #[.val (.int p1), .val (.int p2), .val (.int d), .val (.ref wLOOKING), .unset] [])) _
    refine XS.iloadN X1.here hx rfl (hb hby at_12) rfl ?_
    show Steps p.tables e below (T1.setTop (mkF m 13 #[.val (.int p1), .val (.int p2), .val (.int d), .val (.ref wLOOKING), .unset] [(.int d)])) _
    refine st2 _ ?_
    show Steps p.tables e below (T2.setTop (mkF m 16 #[.val (.int p1), .val (.int p2), .val (.int d), .val (.ref wLOOKING), .unset] [(.ref wLOOKING)])) _
    refine XS.astore X2.here hx rfl (hb hby at_16) rfl rfl (l' := #[.val (.int p1), .val (.int p2), .val (.int d), .val (.ref wLOOKING), .val (.ref wLOOKING)]) rfl ?_
    show Steps p.tables e below (T2.setTop (mkF m 18 #[.val (.int p1), .val (.int p2), .val (.int d), .val (.ref wLOOKING), .val (.ref wLOOKING)] [])) _
    refine XS.aloadN X2.here hx rfl (hb hby at_18) rfl rfl ?_
    show Steps p.tables e below (T2.setTop (mkF m 19 #[.val (.int p1), .val (.int p2), .val (.int d), .val (.ref wLOOKING), .val (.ref wLOOKING)] [(.ref wLOOKING)])) _
    refine XS.iloadN X2.here hx rfl (hb hby at_19) rfl ?_
    show Steps p.tables e below (T2.setTop (mkF m 20 #[.val (.int p1), .val (.int p2), .val (.int d), .val (.ref wLOOKING), .val (.ref wLOOKING)] [(.int p1), (.ref wLOOKING)])) _
    refine st3 _ ?_
    show Steps p.tables e below (T3.setTop (mkF m 23 #[.val (.int p1), .val (.int p2), .val (.int d), .val (.ref wLOOKING), .val (.ref wLOOKING)] [(.ref wLOOKING), (.ref wLOOKING)])) _
    refine Jvm.RoadKit.acmp (g := (mkF m 23 #[.val (.int p1), .val (.int p2), .val (.int d), .val (.ref wLOOKING), .val (.ref wLOOKING)] [(.ref wLOOKING), (.ref wLOOKING)])) X3 hx rfl rfl rfl (pc0 := 23) (pc' := 26) (same := true) rfl (hb hby at_23) rfl (decide_eq_true rfl) (by decide) (by decide) ?_
    show Steps p.tables e below (T3.setTop (mkF m 26 #[.val (.int p1), .val (.int p2), .val (.int d), .val (.ref wLOOKING), .val (.ref wLOOKING)] [])) _
    refine XS.aload X3.here hx rfl (hb hby at_26) rfl rfl ?_
    show Steps p.tables e below (T3.setTop (mkF m 28 #[.val (.int p1), .val (.int p2), .val (.int d), .val (.ref wLOOKING), .val (.ref wLOOKING)] [(.ref wLOOKING)])) _
    refine XS.iloadN X3.here hx rfl (hb hby at_28) rfl ?_
    show Steps p.tables e below (T3.setTop (mkF m 29 #[.val (.int p1), .val (.int p2), .val (.int d), .val (.ref wLOOKING), .val (.ref wLOOKING)] [(.int d), (.ref wLOOKING)])) _
    refine st4 _ ?_
    show Steps p.tables e below (T4.setTop (mkF m 32 #[.val (.int p1), .val (.int p2), .val (.int d), .val (.ref wLOOKING), .val (.ref wLOOKING)] [(.ref wLOOKING), (.ref wLOOKING)])) _
    refine Jvm.RoadKit.acmp (g := (mkF m 32 #[.val (.int p1), .val (.int p2), .val (.int d), .val (.ref wLOOKING), .val (.ref wLOOKING)] [(.ref wLOOKING), (.ref wLOOKING)])) X4 hx rfl rfl rfl (pc0 := 32) (pc' := 35) (same := true) rfl (hb hby at_32) rfl (decide_eq_true rfl) (by decide) (by decide) ?_
    show Steps p.tables e below (T4.setTop (mkF m 35 #[.val (.int p1), .val (.int p2), .val (.int d), .val (.ref wLOOKING), .val (.ref wLOOKING)] [])) _
    refine XS.iconst X4.here hx rfl (hb hby at_35) ?_
    show Steps p.tables e below (T4.setTop (mkF m 36 #[.val (.int p1), .val (.int p2), .val (.int d), .val (.ref wLOOKING), .val (.ref wLOOKING)] [(.int (1 : Int32))])) _
    refine XS.goto X4.here hx rfl (pc0 := 36) (pc' := 40) rfl (hb hby at_36) (by decide) (by decide) ?_
    show Steps p.tables e below (T4.setTop (mkF m 40 #[.val (.int p1), .val (.int p2), .val (.int d), .val (.ref wLOOKING), .val (.ref wLOOKING)] [(.int (1 : Int32))])) _
    exact retN X4 hx (t := .boolean) Bd.returns (by simp) (hb hby at_40) hr
  · exact ⟨rfl, N4⟩
def OwnQ_own_of_3 (Z : State) (wVALUES : Addr) (wLOOKING : Addr) (wFOLLOWING : Addr) (wLEADING : Addr) (kVALUES : ClassId) (v1 : Int32) (h0 : Heap) (n0 : Nat) (v : Option Value) (h : Heap) (L : List Loc) : Prop :=
  v = some (.ref wFOLLOWING) ∧ Fr n0 L ∧ Keep h0 h []
set_option maxRecDepth 65536 in
set_option maxHeartbeats 40000000 in
theorem own_of_3 (l : Launch) (Z : State) (a0 : Array Value) (hw : ∀ d ∈ tables_1, d.before a0 Z = true) (ws : List Jvm.Cond) (wVALUES : Addr) (wLOOKING : Addr) (wFOLLOWING : Addr) (wLEADING : Addr) (kVALUES : ClassId) (G : OwnG Z wVALUES wLOOKING wFOLLOWING wLEADING kVALUES) (h0 : Heap) (n0 : Nat) (O0 : Old Z n0 h0) (v1 : Int32) (hp1 : ¬ (v1 = (0 : Int32))) (hp2 : v1 = (1 : Int32)) (hp3 : ¬ (v1 = (2 : Int32))) :
    MetFree l (⟨"com/example/nimble_quorum/nimblequorum/quorum/PeerState", "of", "(I)Lcom/example/nimble_quorum/nimblequorum/quorum/PeerState;"⟩ : MethodName) (head1 (Jvm.Cond.code (⟨"com/example/nimble_quorum/nimblequorum/quorum/PeerState", "of", "(I)Lcom/example/nimble_quorum/nimblequorum/quorum/PeerState;"⟩ : MethodName) prog_14_method_5_code 6 (some (.object "com/example/nimble_quorum/nimblequorum/quorum/PeerState")) :: ws) ({ frames := 2, cells := 1, slots := 3, locals := 25 } : Room)) (fun a U => a = #[(.int v1)] ∧ Z.Warmed39 U.vm ∧ U.heap = h0) (fun _ _ _ _ _ => True) (fun _ U o U' => ∃ v L, o = .returned v ∧ OwnQ_own_of_3 Z wVALUES wLOOKING wFOLLOWING wLEADING kVALUES v1 h0 n0 v U'.heap L ∧ FrameEnd U o U' L ({ frames := 2, cells := 1, slots := 3, locals := 25 } : Room).cells ({ frames := 2, cells := 1, slots := 3, locals := 25 } : Room).slots) := by
  refine MetFree.of_bodySF (plainFor_of_name own_pn_1) hisR ?_
  intro p e s m args below meth c s₁ Bd hml0 hP hK
  obtain ⟨rfl, hZ, hh⟩ := hP
  have hx := Bd.exec
  have hby := Bd.bytes
  have hml : c.maxLocals = 6 := hml0
  have hown : s.vm.findClass "com/example/nimble_quorum/nimblequorum/quorum/PeerState" = some m.cls := findClass_of_methodNamed Bd.named
  have hnm := (name_of_methodNamed Bd.named Bd.method).1
  have X0 : Stand p l e ({ frames := 2, cells := 1, slots := 3, locals := 25 } : Room) s m #[(.int v1)] below meth c s₁ [] 0 0 := Stand.of_body Bd
  have e0 : s₁.heap = h0 := by rw [← hh, Bd.state]; rfl
  have N0 := Fr.nil n0
  have pre0 : ∀ t, Steps p.tables e below (s₁.setTop (mkF m 0 #[.val (.int v1), .unset, .unset, .unset, .unset, .unset] [])) t → Steps p.tables e below (s₁.setTop (entryFrame m #[(.int v1)] 6)) t := fun t k => castTop (own_ef_1_I m v1) k
  obtain ⟨_, _, ⟨T1, L1, k1, n1⟩, -, X1, ⟨Lc1, hQ1, l1, y1, z1⟩, st1⟩ := Jvm.LawKit.callS X0 hx (y := (⟨"com/example/nimble_quorum/nimblequorum/quorum/PeerState", "values", "()[Lcom/example/nimble_quorum/nimblequorum/quorum/PeerState;"⟩ : MethodName)) hown (mvT hZ (hw _ (List.mem_of_getElem? (i := 4) rfl))) (mvT hZ (hw _ (List.mem_of_getElem? (i := 5) rfl))) (mvT hZ (hw _ (List.mem_of_getElem? (i := 2) rfl))) (mvT hZ (hw _ (List.mem_of_getElem? (i := 6) rfl))) (by decide) (backOf (W := 0) (own_values_1 l Z a0 hw [] wVALUES wLOOKING wFOLLOWING wLEADING kVALUES G h0 n0 O0) hZ (hw _ (List.mem_of_getElem? (i := 6) rfl)) (hw _ (List.mem_of_getElem? (i := 2) rfl)) (by decide) (by decide)) (g := (mkF m 2 #[.val (.int v1), .val .null, .unset, .unset, .unset, .unset] [])) rfl (by rw [hml]; rfl) (argsL := []) (rest := []) (lenOf own_pd_0 rfl) rfl (by show 2 * 0 + _ ≤ _; exact Nat.le_of_eq rfl) (hb hby own_d1_2) (fun _ _ => ⟨rfl, e0, (by decide : 0 + 1 ≤ _), (by decide : 0 + 3 ≤ _)⟩)
  dsimp only [Pt.U, Pt.locs, Pt.cells, Pt.slots] at X1 l1 y1 z1 st1 hQ1
  subst l1 y1 z1
  obtain ⟨b2_1, rfl, N1q, Kq1, ge_b2_1, sq_b2_1, q1_V_b2, q1_E_b2⟩ := hQ1
  have N1 := Fr.app N0 N1q
  have sz_b2_1 : h0.size ≤ b2_1 := Nat.le_trans (Keep.refl h0 []).1 sq_b2_1
  have O1 := O0.keep Kq1 all0
  have K1 := (Keep.refl h0 []).trans Kq1 all0
  obtain ⟨cl2, Ar2, qk2, Sz2, Nn2, Hs2, Gs2⟩ := id (q1_V_b2)
  have hin3 : ¬ ((0 : Int32) < 0 ∨ cl2.slots.size ≤ ((0 : Int32)).toNatClampNeg) := inb_of Sz2 ⟨by decide, by decide⟩
  have hat3 : cl2.slots[((0 : Int32)).toNatClampNeg]? = some (.ref wLOOKING) := Hs2.at hin3 rfl
  obtain ⟨T4, X4, e4, st4⟩ := getF X1 hx hZ hown (host := "") (Or.inl (hw _ (List.mem_of_getElem? (i := 22) rfl))) Via.refl rfl (G.2.2.2.2.2.2.2.2.1.ext O1.2) (g := (mkF m 26 #[.val (.int v1), .val .null, .val (.ref b2_1), .val (.int (3 : Int32)), .val (.int (0 : Int32)), .val (.ref wLOOKING)] [(.ref wLOOKING)])) rfl rfl (hb hby own_d1_26)
  have hin5 : ¬ ((1 : Int32) < 0 ∨ cl2.slots.size ≤ ((1 : Int32)).toNatClampNeg) := inb_of Sz2 ⟨by decide, by decide⟩
  have hat5 : cl2.slots[((1 : Int32)).toNatClampNeg]? = some (.ref wFOLLOWING) := Hs2.at hin5 rfl
  obtain ⟨T6, X6, e6, st6⟩ := getF X4 hx hZ hown (host := "") (Or.inl (hw _ (List.mem_of_getElem? (i := 22) rfl))) Via.refl e4 (G.2.2.2.2.2.2.2.2.2.1.ext O1.2) (g := (mkF m 26 #[.val (.int v1), .val .null, .val (.ref b2_1), .val (.int (3 : Int32)), .val (.int (1 : Int32)), .val (.ref wFOLLOWING)] [(.ref wFOLLOWING)])) rfl rfl (hb hby own_d1_26)
  have hin7 : ¬ ((2 : Int32) < 0 ∨ cl2.slots.size ≤ ((2 : Int32)).toNatClampNeg) := inb_of Sz2 ⟨by decide, by decide⟩
  have hat7 : cl2.slots[((2 : Int32)).toNatClampNeg]? = some (.ref wLEADING) := Hs2.at hin7 rfl
  obtain ⟨T8, X8, e8, st8⟩ := getF X6 hx hZ hown (host := "") (Or.inl (hw _ (List.mem_of_getElem? (i := 22) rfl))) Via.refl e6 (G.2.2.2.2.2.2.2.2.2.2.1.ext O1.2) (g := (mkF m 26 #[.val (.int v1), .val (.ref wFOLLOWING), .val (.ref b2_1), .val (.int (3 : Int32)), .val (.int (2 : Int32)), .val (.ref wLEADING)] [(.ref wLEADING)])) rfl rfl (hb hby own_d1_26)
  obtain ⟨fs, hr, hrun, hended, hW, hsame⟩ := X8.leave (v := some (.ref wFOLLOWING)) (fun h => by rw [Bd.returns] at h; cases h)
  refine ⟨_, _, pre0 _ ?_, hrun, hended, _, _, rfl, ?_, ⟨_, rfl⟩, hW, hsame.mono (by decide) (by decide)⟩
  · show Steps p.tables e below (s₁.setTop (mkF m 0 #[.val (.int v1), .unset, .unset, .unset, .unset, .unset] [])) _
    refine XS.aconstNull X0.here hx rfl (hb hby own_d1_0) ?_
    show Steps p.tables e below (s₁.setTop (mkF m 1 #[.val (.int v1), .unset, .unset, .unset, .unset, .unset] [.null])) _
    refine XS.astoreN X0.here hx rfl (hb hby own_d1_1) rfl rfl (l' := #[.val (.int v1), .val .null, .unset, .unset, .unset, .unset]) rfl ?_
    show Steps p.tables e below (s₁.setTop (mkF m 2 #[.val (.int v1), .val .null, .unset, .unset, .unset, .unset] [])) _
    refine st1 _ ?_
    show Steps p.tables e below (T1.setTop (mkF m 5 #[.val (.int v1), .val .null, .unset, .unset, .unset, .unset] [(.ref b2_1)])) _
    refine XS.astoreN X1.here hx rfl (hb hby own_d1_5) rfl rfl (l' := #[.val (.int v1), .val .null, .val (.ref b2_1), .unset, .unset, .unset]) rfl ?_
    show Steps p.tables e below (T1.setTop (mkF m 6 #[.val (.int v1), .val .null, .val (.ref b2_1), .unset, .unset, .unset] [])) _
    refine XS.aloadN X1.here hx rfl (hb hby own_d1_6) rfl rfl ?_
    show Steps p.tables e below (T1.setTop (mkF m 7 #[.val (.int v1), .val .null, .val (.ref b2_1), .unset, .unset, .unset] [(.ref b2_1)])) _
    refine X1.arraylength hx Ar2.1 (State.isArrayOf_alike hZ.alike Ar2.2.1) (g := (mkF m 7 #[.val (.int v1), .val .null, .val (.ref b2_1), .unset, .unset, .unset] [(.ref b2_1)])) rfl rfl (hb hby own_d1_7) _ ?_
    rw [len_of Sz2 Nn2]
    show Steps p.tables e below (T1.setTop (mkF m 8 #[.val (.int v1), .val .null, .val (.ref b2_1), .unset, .unset, .unset] [(.int (3 : Int32))])) _
    refine XS.istoreN X1.here hx rfl (hb hby own_d1_8) rfl (l' := #[.val (.int v1), .val .null, .val (.ref b2_1), .val (.int (3 : Int32)), .unset, .unset]) rfl ?_
    show Steps p.tables e below (T1.setTop (mkF m 9 #[.val (.int v1), .val .null, .val (.ref b2_1), .val (.int (3 : Int32)), .unset, .unset] [])) _
    refine XS.iconst X1.here hx rfl (hb hby own_d1_9) ?_
    show Steps p.tables e below (T1.setTop (mkF m 10 #[.val (.int v1), .val .null, .val (.ref b2_1), .val (.int (3 : Int32)), .unset, .unset] [(.int (0 : Int32))])) _
    refine XS.istore X1.here hx rfl (hb hby own_d1_10) rfl (l' := #[.val (.int v1), .val .null, .val (.ref b2_1), .val (.int (3 : Int32)), .val (.int (0 : Int32)), .unset]) rfl ?_
    show Steps p.tables e below (T1.setTop (mkF m 12 #[.val (.int v1), .val .null, .val (.ref b2_1), .val (.int (3 : Int32)), .val (.int (0 : Int32)), .unset] [])) _
    refine XS.iload X1.here hx rfl (hb hby own_d1_12) rfl ?_
    show Steps p.tables e below (T1.setTop (mkF m 14 #[.val (.int v1), .val .null, .val (.ref b2_1), .val (.int (3 : Int32)), .val (.int (0 : Int32)), .unset] [(.int (0 : Int32))])) _
    refine XS.iloadN X1.here hx rfl (hb hby own_d1_14) rfl ?_
    show Steps p.tables e below (T1.setTop (mkF m 15 #[.val (.int v1), .val .null, .val (.ref b2_1), .val (.int (3 : Int32)), .val (.int (0 : Int32)), .unset] [(.int (3 : Int32)), (.int (0 : Int32))])) _
    refine XS.icmpNo X1.here hx rfl (hb hby own_d1_15) rfl (by decide) ?_
    show Steps p.tables e below (T1.setTop (mkF m 18 #[.val (.int v1), .val .null, .val (.ref b2_1), .val (.int (3 : Int32)), .val (.int (0 : Int32)), .unset] [])) _
    refine XS.aloadN X1.here hx rfl (hb hby own_d1_18) rfl rfl ?_
    show Steps p.tables e below (T1.setTop (mkF m 19 #[.val (.int v1), .val .null, .val (.ref b2_1), .val (.int (3 : Int32)), .val (.int (0 : Int32)), .unset] [(.ref b2_1)])) _
    refine XS.iload X1.here hx rfl (hb hby own_d1_19) rfl ?_
    show Steps p.tables e below (T1.setTop (mkF m 21 #[.val (.int v1), .val .null, .val (.ref b2_1), .val (.int (3 : Int32)), .val (.int (0 : Int32)), .unset] [(.int (0 : Int32)), (.ref b2_1)])) _
    refine X1.aaload hx (j := (0 : Int32)) (v := (.ref wLOOKING)) Ar2.1 (State.isArrayOf_alike hZ.alike Ar2.2.1) rfl Ar2.2.2 hin3 hat3 (g := (mkF m 21 #[.val (.int v1), .val .null, .val (.ref b2_1), .val (.int (3 : Int32)), .val (.int (0 : Int32)), .unset] [(.int (0 : Int32)), (.ref b2_1)])) rfl rfl (hb hby own_d1_21) _ ?_
    show Steps p.tables e below (T1.setTop (mkF m 22 #[.val (.int v1), .val .null, .val (.ref b2_1), .val (.int (3 : Int32)), .val (.int (0 : Int32)), .unset] [(.ref wLOOKING)])) _
    refine XS.astore X1.here hx rfl (hb hby own_d1_22) rfl rfl (l' := #[.val (.int v1), .val .null, .val (.ref b2_1), .val (.int (3 : Int32)), .val (.int (0 : Int32)), .val (.ref wLOOKING)]) rfl ?_
    show Steps p.tables e below (T1.setTop (mkF m 24 #[.val (.int v1), .val .null, .val (.ref b2_1), .val (.int (3 : Int32)), .val (.int (0 : Int32)), .val (.ref wLOOKING)] [])) _
    refine XS.aload X1.here hx rfl (hb hby own_d1_24) rfl rfl ?_
    show Steps p.tables e below (T1.setTop (mkF m 26 #[.val (.int v1), .val .null, .val (.ref b2_1), .val (.int (3 : Int32)), .val (.int (0 : Int32)), .val (.ref wLOOKING)] [(.ref wLOOKING)])) _
    refine st4 _ ?_
    show Steps p.tables e below (T4.setTop (mkF m 29 #[.val (.int v1), .val .null, .val (.ref b2_1), .val (.int (3 : Int32)), .val (.int (0 : Int32)), .val (.ref wLOOKING)] [(.int (0 : Int32))])) _
    refine XS.iloadN X4.here hx rfl (hb hby own_d1_29) rfl ?_
    show Steps p.tables e below (T4.setTop (mkF m 30 #[.val (.int v1), .val .null, .val (.ref b2_1), .val (.int (3 : Int32)), .val (.int (0 : Int32)), .val (.ref wLOOKING)] [(.int v1), (.int (0 : Int32))])) _
    refine XS.icmpYes X4.here hx rfl (pc0 := 30) (pc' := 36) rfl (hb hby own_d1_30) rfl (feq ((Ne.symm hp1) : ¬ ((0 : Int32) = v1))).2 (by decide) (by decide) ?_
    show Steps p.tables e below (T4.setTop (mkF m 36 #[.val (.int v1), .val .null, .val (.ref b2_1), .val (.int (3 : Int32)), .val (.int (0 : Int32)), .val (.ref wLOOKING)] [])) _
    refine XS.iinc X4.here hx rfl (hb hby own_d1_36) rfl (l' := #[.val (.int v1), .val .null, .val (.ref b2_1), .val (.int (3 : Int32)), .val (.int (1 : Int32)), .val (.ref wLOOKING)]) rfl ?_
    show Steps p.tables e below (T4.setTop (mkF m 39 #[.val (.int v1), .val .null, .val (.ref b2_1), .val (.int (3 : Int32)), .val (.int (1 : Int32)), .val (.ref wLOOKING)] [])) _
    refine XS.goto X4.here hx rfl (pc0 := 39) (pc' := 12) rfl (hb hby own_d1_39) (by decide) (by decide) ?_
    show Steps p.tables e below (T4.setTop (mkF m 12 #[.val (.int v1), .val .null, .val (.ref b2_1), .val (.int (3 : Int32)), .val (.int (1 : Int32)), .val (.ref wLOOKING)] [])) _
    refine XS.iload X4.here hx rfl (hb hby own_d1_12) rfl ?_
    show Steps p.tables e below (T4.setTop (mkF m 14 #[.val (.int v1), .val .null, .val (.ref b2_1), .val (.int (3 : Int32)), .val (.int (1 : Int32)), .val (.ref wLOOKING)] [(.int (1 : Int32))])) _
    refine XS.iloadN X4.here hx rfl (hb hby own_d1_14) rfl ?_
    show Steps p.tables e below (T4.setTop (mkF m 15 #[.val (.int v1), .val .null, .val (.ref b2_1), .val (.int (3 : Int32)), .val (.int (1 : Int32)), .val (.ref wLOOKING)] [(.int (3 : Int32)), (.int (1 : Int32))])) _
    refine XS.icmpNo X4.here hx rfl (hb hby own_d1_15) rfl (by decide) ?_
    show Steps p.tables e below (T4.setTop (mkF m 18 #[.val (.int v1), .val .null, .val (.ref b2_1), .val (.int (3 : Int32)), .val (.int (1 : Int32)), .val (.ref wLOOKING)] [])) _
    refine XS.aloadN X4.here hx rfl (hb hby own_d1_18) rfl rfl ?_
    show Steps p.tables e below (T4.setTop (mkF m 19 #[.val (.int v1), .val .null, .val (.ref b2_1), .val (.int (3 : Int32)), .val (.int (1 : Int32)), .val (.ref wLOOKING)] [(.ref b2_1)])) _
    refine XS.iload X4.here hx rfl (hb hby own_d1_19) rfl ?_
    show Steps p.tables e below (T4.setTop (mkF m 21 #[.val (.int v1), .val .null, .val (.ref b2_1), .val (.int (3 : Int32)), .val (.int (1 : Int32)), .val (.ref wLOOKING)] [(.int (1 : Int32)), (.ref b2_1)])) _
    refine X4.aaload hx (j := (1 : Int32)) (v := (.ref wFOLLOWING)) (by rw [e4]; exact Ar2.1) (State.isArrayOf_alike hZ.alike Ar2.2.1) rfl Ar2.2.2 hin5 hat5 (g := (mkF m 21 #[.val (.int v1), .val .null, .val (.ref b2_1), .val (.int (3 : Int32)), .val (.int (1 : Int32)), .val (.ref wLOOKING)] [(.int (1 : Int32)), (.ref b2_1)])) rfl rfl (hb hby own_d1_21) _ ?_
    show Steps p.tables e below (T4.setTop (mkF m 22 #[.val (.int v1), .val .null, .val (.ref b2_1), .val (.int (3 : Int32)), .val (.int (1 : Int32)), .val (.ref wLOOKING)] [(.ref wFOLLOWING)])) _
    refine XS.astore X4.here hx rfl (hb hby own_d1_22) rfl rfl (l' := #[.val (.int v1), .val .null, .val (.ref b2_1), .val (.int (3 : Int32)), .val (.int (1 : Int32)), .val (.ref wFOLLOWING)]) rfl ?_
    show Steps p.tables e below (T4.setTop (mkF m 24 #[.val (.int v1), .val .null, .val (.ref b2_1), .val (.int (3 : Int32)), .val (.int (1 : Int32)), .val (.ref wFOLLOWING)] [])) _
    refine XS.aload X4.here hx rfl (hb hby own_d1_24) rfl rfl ?_
    show Steps p.tables e below (T4.setTop (mkF m 26 #[.val (.int v1), .val .null, .val (.ref b2_1), .val (.int (3 : Int32)), .val (.int (1 : Int32)), .val (.ref wFOLLOWING)] [(.ref wFOLLOWING)])) _
    refine st6 _ ?_
    show Steps p.tables e below (T6.setTop (mkF m 29 #[.val (.int v1), .val .null, .val (.ref b2_1), .val (.int (3 : Int32)), .val (.int (1 : Int32)), .val (.ref wFOLLOWING)] [(.int (1 : Int32))])) _
    refine XS.iloadN X6.here hx rfl (hb hby own_d1_29) rfl ?_
    show Steps p.tables e below (T6.setTop (mkF m 30 #[.val (.int v1), .val .null, .val (.ref b2_1), .val (.int (3 : Int32)), .val (.int (1 : Int32)), .val (.ref wFOLLOWING)] [(.int v1), (.int (1 : Int32))])) _
    refine XS.icmpNo X6.here hx rfl (hb hby own_d1_30) rfl (teq ((Eq.symm hp2) : (1 : Int32) = v1)).2 ?_
    show Steps p.tables e below (T6.setTop (mkF m 33 #[.val (.int v1), .val .null, .val (.ref b2_1), .val (.int (3 : Int32)), .val (.int (1 : Int32)), .val (.ref wFOLLOWING)] [])) _
    refine XS.aload X6.here hx rfl (hb hby own_d1_33) rfl rfl ?_
    show Steps p.tables e below (T6.setTop (mkF m 35 #[.val (.int v1), .val .null, .val (.ref b2_1), .val (.int (3 : Int32)), .val (.int (1 : Int32)), .val (.ref wFOLLOWING)] [(.ref wFOLLOWING)])) _
    refine XS.astoreN X6.here hx rfl (hb hby own_d1_35) rfl rfl (l' := #[.val (.int v1), .val (.ref wFOLLOWING), .val (.ref b2_1), .val (.int (3 : Int32)), .val (.int (1 : Int32)), .val (.ref wFOLLOWING)]) rfl ?_
    show Steps p.tables e below (T6.setTop (mkF m 36 #[.val (.int v1), .val (.ref wFOLLOWING), .val (.ref b2_1), .val (.int (3 : Int32)), .val (.int (1 : Int32)), .val (.ref wFOLLOWING)] [])) _
    refine XS.iinc X6.here hx rfl (hb hby own_d1_36) rfl (l' := #[.val (.int v1), .val (.ref wFOLLOWING), .val (.ref b2_1), .val (.int (3 : Int32)), .val (.int (2 : Int32)), .val (.ref wFOLLOWING)]) rfl ?_
    show Steps p.tables e below (T6.setTop (mkF m 39 #[.val (.int v1), .val (.ref wFOLLOWING), .val (.ref b2_1), .val (.int (3 : Int32)), .val (.int (2 : Int32)), .val (.ref wFOLLOWING)] [])) _
    refine XS.goto X6.here hx rfl (pc0 := 39) (pc' := 12) rfl (hb hby own_d1_39) (by decide) (by decide) ?_
    show Steps p.tables e below (T6.setTop (mkF m 12 #[.val (.int v1), .val (.ref wFOLLOWING), .val (.ref b2_1), .val (.int (3 : Int32)), .val (.int (2 : Int32)), .val (.ref wFOLLOWING)] [])) _
    refine XS.iload X6.here hx rfl (hb hby own_d1_12) rfl ?_
    show Steps p.tables e below (T6.setTop (mkF m 14 #[.val (.int v1), .val (.ref wFOLLOWING), .val (.ref b2_1), .val (.int (3 : Int32)), .val (.int (2 : Int32)), .val (.ref wFOLLOWING)] [(.int (2 : Int32))])) _
    refine XS.iloadN X6.here hx rfl (hb hby own_d1_14) rfl ?_
    show Steps p.tables e below (T6.setTop (mkF m 15 #[.val (.int v1), .val (.ref wFOLLOWING), .val (.ref b2_1), .val (.int (3 : Int32)), .val (.int (2 : Int32)), .val (.ref wFOLLOWING)] [(.int (3 : Int32)), (.int (2 : Int32))])) _
    refine XS.icmpNo X6.here hx rfl (hb hby own_d1_15) rfl (by decide) ?_
    show Steps p.tables e below (T6.setTop (mkF m 18 #[.val (.int v1), .val (.ref wFOLLOWING), .val (.ref b2_1), .val (.int (3 : Int32)), .val (.int (2 : Int32)), .val (.ref wFOLLOWING)] [])) _
    refine XS.aloadN X6.here hx rfl (hb hby own_d1_18) rfl rfl ?_
    show Steps p.tables e below (T6.setTop (mkF m 19 #[.val (.int v1), .val (.ref wFOLLOWING), .val (.ref b2_1), .val (.int (3 : Int32)), .val (.int (2 : Int32)), .val (.ref wFOLLOWING)] [(.ref b2_1)])) _
    refine XS.iload X6.here hx rfl (hb hby own_d1_19) rfl ?_
    show Steps p.tables e below (T6.setTop (mkF m 21 #[.val (.int v1), .val (.ref wFOLLOWING), .val (.ref b2_1), .val (.int (3 : Int32)), .val (.int (2 : Int32)), .val (.ref wFOLLOWING)] [(.int (2 : Int32)), (.ref b2_1)])) _
    refine X6.aaload hx (j := (2 : Int32)) (v := (.ref wLEADING)) (by rw [e6]; exact Ar2.1) (State.isArrayOf_alike hZ.alike Ar2.2.1) rfl Ar2.2.2 hin7 hat7 (g := (mkF m 21 #[.val (.int v1), .val (.ref wFOLLOWING), .val (.ref b2_1), .val (.int (3 : Int32)), .val (.int (2 : Int32)), .val (.ref wFOLLOWING)] [(.int (2 : Int32)), (.ref b2_1)])) rfl rfl (hb hby own_d1_21) _ ?_
    show Steps p.tables e below (T6.setTop (mkF m 22 #[.val (.int v1), .val (.ref wFOLLOWING), .val (.ref b2_1), .val (.int (3 : Int32)), .val (.int (2 : Int32)), .val (.ref wFOLLOWING)] [(.ref wLEADING)])) _
    refine XS.astore X6.here hx rfl (hb hby own_d1_22) rfl rfl (l' := #[.val (.int v1), .val (.ref wFOLLOWING), .val (.ref b2_1), .val (.int (3 : Int32)), .val (.int (2 : Int32)), .val (.ref wLEADING)]) rfl ?_
    show Steps p.tables e below (T6.setTop (mkF m 24 #[.val (.int v1), .val (.ref wFOLLOWING), .val (.ref b2_1), .val (.int (3 : Int32)), .val (.int (2 : Int32)), .val (.ref wLEADING)] [])) _
    refine XS.aload X6.here hx rfl (hb hby own_d1_24) rfl rfl ?_
    show Steps p.tables e below (T6.setTop (mkF m 26 #[.val (.int v1), .val (.ref wFOLLOWING), .val (.ref b2_1), .val (.int (3 : Int32)), .val (.int (2 : Int32)), .val (.ref wLEADING)] [(.ref wLEADING)])) _
    refine st8 _ ?_
    show Steps p.tables e below (T8.setTop (mkF m 29 #[.val (.int v1), .val (.ref wFOLLOWING), .val (.ref b2_1), .val (.int (3 : Int32)), .val (.int (2 : Int32)), .val (.ref wLEADING)] [(.int (2 : Int32))])) _
    refine XS.iloadN X8.here hx rfl (hb hby own_d1_29) rfl ?_
    show Steps p.tables e below (T8.setTop (mkF m 30 #[.val (.int v1), .val (.ref wFOLLOWING), .val (.ref b2_1), .val (.int (3 : Int32)), .val (.int (2 : Int32)), .val (.ref wLEADING)] [(.int v1), (.int (2 : Int32))])) _
    refine XS.icmpYes X8.here hx rfl (pc0 := 30) (pc' := 36) rfl (hb hby own_d1_30) rfl (feq ((Ne.symm hp3) : ¬ ((2 : Int32) = v1))).2 (by decide) (by decide) ?_
    show Steps p.tables e below (T8.setTop (mkF m 36 #[.val (.int v1), .val (.ref wFOLLOWING), .val (.ref b2_1), .val (.int (3 : Int32)), .val (.int (2 : Int32)), .val (.ref wLEADING)] [])) _
    refine XS.iinc X8.here hx rfl (hb hby own_d1_36) rfl (l' := #[.val (.int v1), .val (.ref wFOLLOWING), .val (.ref b2_1), .val (.int (3 : Int32)), .val (.int (3 : Int32)), .val (.ref wLEADING)]) rfl ?_
    show Steps p.tables e below (T8.setTop (mkF m 39 #[.val (.int v1), .val (.ref wFOLLOWING), .val (.ref b2_1), .val (.int (3 : Int32)), .val (.int (3 : Int32)), .val (.ref wLEADING)] [])) _
    refine XS.goto X8.here hx rfl (pc0 := 39) (pc' := 12) rfl (hb hby own_d1_39) (by decide) (by decide) ?_
    show Steps p.tables e below (T8.setTop (mkF m 12 #[.val (.int v1), .val (.ref wFOLLOWING), .val (.ref b2_1), .val (.int (3 : Int32)), .val (.int (3 : Int32)), .val (.ref wLEADING)] [])) _
    refine XS.iload X8.here hx rfl (hb hby own_d1_12) rfl ?_
    show Steps p.tables e below (T8.setTop (mkF m 14 #[.val (.int v1), .val (.ref wFOLLOWING), .val (.ref b2_1), .val (.int (3 : Int32)), .val (.int (3 : Int32)), .val (.ref wLEADING)] [(.int (3 : Int32))])) _
    refine XS.iloadN X8.here hx rfl (hb hby own_d1_14) rfl ?_
    show Steps p.tables e below (T8.setTop (mkF m 15 #[.val (.int v1), .val (.ref wFOLLOWING), .val (.ref b2_1), .val (.int (3 : Int32)), .val (.int (3 : Int32)), .val (.ref wLEADING)] [(.int (3 : Int32)), (.int (3 : Int32))])) _
    refine XS.icmpYes X8.here hx rfl (pc0 := 15) (pc' := 42) rfl (hb hby own_d1_15) rfl (by decide) (by decide) (by decide) ?_
    show Steps p.tables e below (T8.setTop (mkF m 42 #[.val (.int v1), .val (.ref wFOLLOWING), .val (.ref b2_1), .val (.int (3 : Int32)), .val (.int (3 : Int32)), .val (.ref wLEADING)] [])) _
    refine XS.aloadN X8.here hx rfl (hb hby own_d1_42) rfl rfl ?_
    show Steps p.tables e below (T8.setTop (mkF m 43 #[.val (.int v1), .val (.ref wFOLLOWING), .val (.ref b2_1), .val (.int (3 : Int32)), .val (.int (3 : Int32)), .val (.ref wLEADING)] [(.ref wFOLLOWING)])) _
    jvm_step X8.here [X8.here.top, hx, (hb hby own_d1_43), X8.method', Bd.returns, Value.isRef, FieldType.isReference]
    first | (intro acts; rw [hr _ acts rfl rfl rfl]) | rw [hr _ _ rfl rfl rfl]
    exact Steps.refl _
  · show OwnQ_own_of_3 Z wVALUES wLOOKING wFOLLOWING wLEADING kVALUES v1 h0 n0 _ T8.heap _
    rw [e8]
    exact ⟨rfl, N1, K1⟩
theorem own_d3_8 : decode method_2_code 8 = .ok (.iload_n 0, 1) := by decide +kernel
theorem own_d3_9 : decode method_2_code 9 = .ok (.iconst 1, 1) := by decide +kernel
theorem own_d3_10 : decode method_2_code 10 = .ok (.if_icmp .ne 7, 3) := by decide +kernel
theorem own_d3_13 : decode method_2_code 13 = .ok (.getstatic 13, 3) := by decide +kernel
theorem own_d3_16 : decode method_2_code 16 = .ok (.areturn, 1) := by decide +kernel
set_option maxRecDepth 65536 in
set_option maxHeartbeats 40000000 in
theorem own_expected_4 (l : Launch) (Z : State) (a0 : Array Value) (hw : ∀ d ∈ tables_1, d.before a0 Z = true) (ws : List Jvm.Cond) (wVALUES : Addr) (wLOOKING : Addr) (wFOLLOWING : Addr) (wLEADING : Addr) (kVALUES : ClassId) (G : OwnG Z wVALUES wLOOKING wFOLLOWING wLEADING kVALUES) (h0 : Heap) (n0 : Nat) (O0 : Old Z n0 h0) (v1 : Int32) (hp1 : ¬ (v1 = (0 : Int32))) (hp2 : v1 = (1 : Int32)) (hp3 : ¬ (v1 = (2 : Int32))) :
    MetFree l (⟨"com/example/nimble_quorum/nimblequorum/quorum/PeerStateOfPinLaw", "expected", "(I)Lcom/example/nimble_quorum/nimblequorum/quorum/PeerState;"⟩ : MethodName) (head1 (Jvm.Cond.code (⟨"com/example/nimble_quorum/nimblequorum/quorum/PeerStateOfPinLaw", "expected", "(I)Lcom/example/nimble_quorum/nimblequorum/quorum/PeerState;"⟩ : MethodName) method_2_code 1 (some (.object "com/example/nimble_quorum/nimblequorum/quorum/PeerState")) :: ws) ({ frames := 0, cells := 0, slots := 0, locals := 0 } : Room)) (fun a U => a = #[(.int v1)] ∧ Z.Warmed39 U.vm ∧ U.heap = h0) (fun _ _ _ _ _ => True) (fun _ U o U' => ∃ v L, o = .returned v ∧ OwnQ (some (.ref wFOLLOWING)) h0 n0 v U'.heap L ∧ FrameEnd U o U' L ({ frames := 0, cells := 0, slots := 0, locals := 0 } : Room).cells ({ frames := 0, cells := 0, slots := 0, locals := 0 } : Room).slots) := by
  refine MetFree.of_bodySF (plainFor_of_name own_pn_0) hisR ?_
  intro p e s m args below meth c s₁ Bd hml0 hP hK
  obtain ⟨rfl, hZ, hh⟩ := hP
  have hx := Bd.exec
  have hby := Bd.bytes
  have hml : c.maxLocals = 1 := hml0
  have hown : s.vm.findClass "com/example/nimble_quorum/nimblequorum/quorum/PeerStateOfPinLaw" = some m.cls := findClass_of_methodNamed Bd.named
  have hnm := (name_of_methodNamed Bd.named Bd.method).1
  have X0 : Stand p l e ({ frames := 0, cells := 0, slots := 0, locals := 0 } : Room) s m #[(.int v1)] below meth c s₁ [] 0 0 := Stand.of_body Bd
  have e0 : s₁.heap = h0 := by rw [← hh, Bd.state]; rfl
  have N0 := Fr.nil n0
  have pre0 : ∀ t, Steps p.tables e below (s₁.setTop (mkF m 0 #[.val (.int v1)] [])) t → Steps p.tables e below (s₁.setTop (entryFrame m #[(.int v1)] 1)) t := fun t k => castTop (own_ef_3_I m v1) k
  obtain ⟨T1, X1, e1, st1⟩ := getS2 X0 hx hZ hown (host := "") (Or.inl (hw _ (List.mem_of_getElem? (i := 29) rfl))) Via.refl e0 (G.2.2.2.2.1.ext O0.2) (g := (mkF m 13 #[.val (.int v1)] [])) rfl (hb hby own_d3_13)
  obtain ⟨fs, hr, hrun, hended, hW, hsame⟩ := X1.leave (v := some (.ref wFOLLOWING)) (fun h => by rw [Bd.returns] at h; cases h)
  refine ⟨_, _, pre0 _ ?_, hrun, hended, _, _, rfl, ?_, ⟨_, rfl⟩, hW, hsame.mono (by decide) (by decide)⟩
  · show Steps p.tables e below (s₁.setTop (mkF m 0 #[.val (.int v1)] [])) _
    refine XS.iloadN X0.here hx rfl (hb hby own_d3_0) rfl ?_
    show Steps p.tables e below (s₁.setTop (mkF m 1 #[.val (.int v1)] [(.int v1)])) _
    refine XS.ifYes X0.here hx rfl (pc0 := 1) (pc' := 8) rfl (hb hby own_d3_1) rfl ((if0 _ _).trans (feq (hp1 : ¬ (v1 = (0 : Int32)))).2) (by decide) (by decide) ?_
    show Steps p.tables e below (s₁.setTop (mkF m 8 #[.val (.int v1)] [])) _
    refine XS.iloadN X0.here hx rfl (hb hby own_d3_8) rfl ?_
    show Steps p.tables e below (s₁.setTop (mkF m 9 #[.val (.int v1)] [(.int v1)])) _
    refine XS.iconst X0.here hx rfl (hb hby own_d3_9) ?_
    show Steps p.tables e below (s₁.setTop (mkF m 10 #[.val (.int v1)] [(.int (1 : Int32)), (.int v1)])) _
    refine XS.icmpNo X0.here hx rfl (hb hby own_d3_10) rfl (teq (hp2 : v1 = (1 : Int32))).2 ?_
    show Steps p.tables e below (s₁.setTop (mkF m 13 #[.val (.int v1)] [])) _
    refine st1 _ ?_
    show Steps p.tables e below (T1.setTop (mkF m 16 #[.val (.int v1)] [(.ref wFOLLOWING)])) _
    jvm_step X1.here [X1.here.top, hx, (hb hby own_d3_16), X1.method', Bd.returns, Value.isRef, FieldType.isReference]
    first | (intro acts; rw [hr _ acts rfl rfl rfl]) | rw [hr _ _ rfl rfl rfl]
    exact Steps.refl _
  · show OwnQ _ h0 n0 _ T1.heap _
    exact ⟨rfl, N0, e1⟩
set_option maxRecDepth 65536 in
set_option maxHeartbeats 40000000 in
theorem own_law_01 (l : Launch) (Z : State) (a0 : Array Value) (hw : ∀ d ∈ tables_1, d.before a0 Z = true) (ws : List Jvm.Cond) (wVALUES : Addr) (wLOOKING : Addr) (wFOLLOWING : Addr) (wLEADING : Addr) (kVALUES : ClassId) (G : OwnG Z wVALUES wLOOKING wFOLLOWING wLEADING kVALUES) (h0 : Heap) (n0 : Nat) (O0 : Old Z n0 h0) (p1 : Int32) (p2 : Int32) (d : Int32) (c0 : p1 = (0 : Int32)) (c1 : ¬ (p1 = (1 : Int32))) (c2 : ¬ (p1 = (2 : Int32))) (hd : ((p2 &&& (7 : Int32)) - (2 : Int32)) = d) (d0 : ¬ (d = (0 : Int32))) (d1 : d = (1 : Int32)) (d2 : ¬ (d = (2 : Int32))) :
    MetFree l x (head1 (Jvm.Cond.code x code maxLocals ret :: ws) room_1) (fun a U => a = #[(.int p1), (.int p2)] ∧ Z.Warmed39 U.vm ∧ U.heap = h0) (fun _ _ _ _ _ => True) (fun _ U o U' => ∃ v L, o = .returned v ∧ (v = some (.int 1) ∧ Fr n0 L) ∧ FrameEnd U o U' L room_1.cells room_1.slots) := by
  refine MetFree.of_bodySF (plainFor_of_name own_pn_0) hisR ?_
  intro p e s m args below meth c s₁ Bd hml0 hP hK
  obtain ⟨rfl, hZ, hh⟩ := hP
  have hx := Bd.exec
  have hby := Bd.bytes
  have hml : c.maxLocals = 5 := hml0
  have hown : s.vm.findClass "com/example/nimble_quorum/nimblequorum/quorum/PeerStateOfPinLaw" = some m.cls := findClass_of_methodNamed Bd.named
  have hnm := (name_of_methodNamed Bd.named Bd.method).1
  have X0 : Stand p l e room_1 s m #[(.int p1), (.int p2)] below meth c s₁ [] 0 0 := Stand.of_body Bd
  have e0 : s₁.heap = h0 := by rw [← hh, Bd.state]; rfl
  have N0 := Fr.nil n0
  have pre0 : ∀ t, Steps p.tables e below (s₁.setTop (mkF m 0 #[.val (.int p1), .val (.int p2), .unset, .unset, .unset] [])) t → Steps p.tables e below (s₁.setTop (entryFrame m #[(.int p1), (.int p2)] maxLocals)) t := fun t k => castTop (own_ef_0_II m p1 p2) k
  obtain ⟨_, _, ⟨T1, L1, k1, n1⟩, -, X1, ⟨Lc1, hQ1, l1, y1, z1⟩, st1⟩ := Jvm.LawKit.callS X0 hx (y := (⟨"com/example/nimble_quorum/nimblequorum/quorum/PeerState", "of", "(I)Lcom/example/nimble_quorum/nimblequorum/quorum/PeerState;"⟩ : MethodName)) hown (mvT hZ (hw _ (List.mem_of_getElem? (i := 0) rfl))) (mvT hZ (hw _ (List.mem_of_getElem? (i := 1) rfl))) (mvT hZ (hw _ (List.mem_of_getElem? (i := 2) rfl))) (mvT hZ (hw _ (List.mem_of_getElem? (i := 3) rfl))) (by decide) (backOf (W := 0) (own_of_0 l Z a0 hw [] wVALUES wLOOKING wFOLLOWING wLEADING kVALUES G h0 n0 O0 p1 c0 c1 c2) hZ (hw _ (List.mem_of_getElem? (i := 3) rfl)) (hw _ (List.mem_of_getElem? (i := 2) rfl)) (by decide) (by decide)) (g := (mkF m 8 #[.val (.int p1), .val (.int p2), .val (.int d), .unset, .unset] [(.int p1)])) rfl (by rw [hml]; rfl) (argsL := [(.int p1)]) (rest := []) (lenOf own_pd_1 rfl) rfl (by show 2 * 0 + _ ≤ _; exact Nat.le_of_eq rfl) (hb hby at_8) (fun _ _ => ⟨rfl, e0, (by decide : 0 + 1 ≤ _), (by decide : 0 + 3 ≤ _)⟩)
  dsimp only [Pt.U, Pt.locs, Pt.cells, Pt.slots] at X1 l1 y1 z1 st1 hQ1
  subst l1 y1 z1
  obtain ⟨rfl, N1q, Kq1⟩ := hQ1
  have N1 := Fr.app N0 N1q
  have O1 := O0.keep Kq1 all0
  have K1 := (Keep.refl h0 []).trans Kq1 all0
  obtain ⟨_, _, ⟨T2, L2, k2, n2⟩, -, X2, ⟨Lc2, hQ2, l2, y2, z2⟩, st2⟩ := Jvm.LawKit.callS X1 hx (y := (⟨"com/example/nimble_quorum/nimblequorum/quorum/PeerState", "of", "(I)Lcom/example/nimble_quorum/nimblequorum/quorum/PeerState;"⟩ : MethodName)) hown (mvT hZ (hw _ (List.mem_of_getElem? (i := 0) rfl))) (mvT hZ (hw _ (List.mem_of_getElem? (i := 1) rfl))) (mvT hZ (hw _ (List.mem_of_getElem? (i := 2) rfl))) (mvT hZ (hw _ (List.mem_of_getElem? (i := 3) rfl))) (by decide) (backOf (W := 0) (own_of_3 l Z a0 hw [] wVALUES wLOOKING wFOLLOWING wLEADING kVALUES G T1.heap n0 O1 d d0 d1 d2) hZ (hw _ (List.mem_of_getElem? (i := 3) rfl)) (hw _ (List.mem_of_getElem? (i := 2) rfl)) (by decide) (by decide)) (g := (mkF m 13 #[.val (.int p1), .val (.int p2), .val (.int d), .val (.ref wLOOKING), .unset] [(.int d)])) rfl (by rw [hml]; rfl) (argsL := [(.int d)]) (rest := []) (lenOf own_pd_1 rfl) rfl (by show 2 * 0 + _ ≤ _; exact Nat.le_of_eq rfl) (hb hby at_13) (fun _ _ => ⟨rfl, rfl, (by decide : 1 + 1 ≤ _), (by decide : 3 + 3 ≤ _)⟩)
  dsimp only [Pt.U, Pt.locs, Pt.cells, Pt.slots] at X2 l2 y2 z2 st2 hQ2
  subst l2 y2 z2
  obtain ⟨rfl, N2q, Kq2⟩ := hQ2
  have N2 := Fr.app N1 N2q
  have O2 := O1.keep Kq2 all0
  have K2 := K1.trans Kq2 all0
  obtain ⟨_, _, ⟨T3, L3, k3, n3⟩, -, X3, ⟨Lc3, hQ3, l3, y3, z3⟩, st3⟩ := Jvm.LawKit.callS X2 hx (y := (⟨"com/example/nimble_quorum/nimblequorum/quorum/PeerStateOfPinLaw", "expected", "(I)Lcom/example/nimble_quorum/nimblequorum/quorum/PeerState;"⟩ : MethodName)) hown (mvT hZ (hw _ (List.mem_of_getElem? (i := 24) rfl))) (mvT hZ (hw _ (List.mem_of_getElem? (i := 25) rfl))) (mvT hZ (hw _ (List.mem_of_getElem? (i := 26) rfl))) (mvT hZ (hw _ (List.mem_of_getElem? (i := 27) rfl))) (by decide) (backOf (W := 1) (own_expected_2 l Z a0 hw [] wVALUES wLOOKING wFOLLOWING wLEADING kVALUES G T2.heap n0 O2 p1 c0 c1 c2) hZ (hw _ (List.mem_of_getElem? (i := 27) rfl)) (hw _ (List.mem_of_getElem? (i := 26) rfl)) (by decide) (by decide)) (g := (mkF m 20 #[.val (.int p1), .val (.int p2), .val (.int d), .val (.ref wLOOKING), .val (.ref wFOLLOWING)] [(.int p1), (.ref wLOOKING)])) rfl (by rw [hml]; rfl) (argsL := [(.int p1)]) (rest := [(.ref wLOOKING)]) (lenOf own_pd_1 rfl) rfl (by show 2 * 0 + _ ≤ _; exact Nat.le_of_eq rfl) (hb hby at_20) (fun _ _ => ⟨rfl, rfl, (by decide : 2 + 0 ≤ _), (by decide : 6 + 0 ≤ _)⟩)
  dsimp only [Pt.U, Pt.locs, Pt.cells, Pt.slots] at X3 l3 y3 z3 st3 hQ3
  subst l3 y3 z3
  obtain ⟨rfl, N3q, e3⟩ := hQ3
  have N3 := Fr.app N2 N3q
  obtain ⟨_, _, ⟨T4, L4, k4, n4⟩, -, X4, ⟨Lc4, hQ4, l4, y4, z4⟩, st4⟩ := Jvm.LawKit.callS X3 hx (y := (⟨"com/example/nimble_quorum/nimblequorum/quorum/PeerStateOfPinLaw", "expected", "(I)Lcom/example/nimble_quorum/nimblequorum/quorum/PeerState;"⟩ : MethodName)) hown (mvT hZ (hw _ (List.mem_of_getElem? (i := 24) rfl))) (mvT hZ (hw _ (List.mem_of_getElem? (i := 25) rfl))) (mvT hZ (hw _ (List.mem_of_getElem? (i := 26) rfl))) (mvT hZ (hw _ (List.mem_of_getElem? (i := 27) rfl))) (by decide) (backOf (W := 1) (own_expected_4 l Z a0 hw [] wVALUES wLOOKING wFOLLOWING wLEADING kVALUES G T2.heap n0 O2 d d0 d1 d2) hZ (hw _ (List.mem_of_getElem? (i := 27) rfl)) (hw _ (List.mem_of_getElem? (i := 26) rfl)) (by decide) (by decide)) (g := (mkF m 29 #[.val (.int p1), .val (.int p2), .val (.int d), .val (.ref wLOOKING), .val (.ref wFOLLOWING)] [(.int d), (.ref wFOLLOWING)])) rfl (by rw [hml]; rfl) (argsL := [(.int d)]) (rest := [(.ref wFOLLOWING)]) (lenOf own_pd_1 rfl) rfl (by show 2 * 0 + _ ≤ _; exact Nat.le_of_eq rfl) (hb hby at_29) (fun _ _ => ⟨rfl, e3, (by decide : 2 + 0 ≤ _), (by decide : 6 + 0 ≤ _)⟩)
  dsimp only [Pt.U, Pt.locs, Pt.cells, Pt.slots] at X4 l4 y4 z4 st4 hQ4
  subst l4 y4 z4
  obtain ⟨rfl, N4q, e4⟩ := hQ4
  have N4 := Fr.app N3 N4q
  obtain ⟨fs, hr, hrun, hended, hW, hsame⟩ := X4.leave (v := some (.int (1 : Int32))) (fun h => by rw [Bd.returns] at h; cases h)
  refine ⟨_, _, pre0 _ ?_, hrun, hended, _, _, rfl, ?_, ⟨_, rfl⟩, hW, hsame.mono (by decide) (by decide)⟩
  · show Steps p.tables e below (s₁.setTop (mkF m 0 #[.val (.int p1), .val (.int p2), .unset, .unset, .unset] [])) _
    refine XS.iloadN X0.here hx rfl (hb hby at_0) rfl ?_
    show Steps p.tables e below (s₁.setTop (mkF m 1 #[.val (.int p1), .val (.int p2), .unset, .unset, .unset] [(.int p2)])) _
    refine XS.bipush X0.here hx rfl (hb hby at_1) ?_
    show Steps p.tables e below (s₁.setTop (mkF m 3 #[.val (.int p1), .val (.int p2), .unset, .unset, .unset] [(.int (7 : Int32)), (.int p2)])) _
    refine XS.iand X0.here hx rfl (hb hby at_3) rfl ?_
    show Steps p.tables e below (s₁.setTop (mkF m 4 #[.val (.int p1), .val (.int p2), .unset, .unset, .unset] [(.int (p2 &&& (7 : Int32)))])) _
    refine XS.iconst X0.here hx rfl (hb hby at_4) ?_
    show Steps p.tables e below (s₁.setTop (mkF m 5 #[.val (.int p1), .val (.int p2), .unset, .unset, .unset] [(.int (2 : Int32)), (.int (p2 &&& (7 : Int32)))])) _
    refine XS.isub X0.here hx rfl (hb hby at_5) rfl ?_
    show Steps p.tables e below (s₁.setTop (mkF m 6 #[.val (.int p1), .val (.int p2), .unset, .unset, .unset] [(.int ((p2 &&& (7 : Int32)) - (2 : Int32)))])) _
    refine castTop (g' := (mkF m 6 #[.val (.int p1), .val (.int p2), .unset, .unset, .unset] [(.int d)])) (by rw [hd]) ?_
    show Steps p.tables e below (s₁.setTop (mkF m 6 #[.val (.int p1), .val (.int p2), .unset, .unset, .unset] [(.int d)])) _
    refine XS.istoreN X0.here hx rfl (hb hby at_6) rfl (l' := #[.val (.int p1), .val (.int p2), .val (.int d), .unset, .unset]) rfl ?_
    show Steps p.tables e below (s₁.setTop (mkF m 7 #[.val (.int p1), .val (.int p2), .val (.int d), .unset, .unset] [])) _
    refine XS.iloadN X0.here hx rfl (hb hby at_7) rfl ?_
    show Steps p.tables e below (s₁.setTop (mkF m 8 #[.val (.int p1), .val (.int p2), .val (.int d), .unset, .unset] [(.int p1)])) _
    refine st1 _ ?_
    show Steps p.tables e below (T1.setTop (mkF m 11 #[.val (.int p1), .val (.int p2), .val (.int d), .unset, .unset] [(.ref wLOOKING)])) _
    refine XS.astoreN X1.here hx rfl (hb hby at_11) rfl rfl (l' := #[.val (.int p1), .val (.int p2), .val (.int d), .val (.ref wLOOKING), .unset]) rfl ?_
    show Steps p.tables e below (T1.setTop (mkF m 12 #[.val (.int p1), .val (.int p2), .val (.int d), .val (.ref wLOOKING), .unset] [])) _
    refine XS.iloadN X1.here hx rfl (hb hby at_12) rfl ?_
    show Steps p.tables e below (T1.setTop (mkF m 13 #[.val (.int p1), .val (.int p2), .val (.int d), .val (.ref wLOOKING), .unset] [(.int d)])) _
    refine st2 _ ?_
    show Steps p.tables e below (T2.setTop (mkF m 16 #[.val (.int p1), .val (.int p2), .val (.int d), .val (.ref wLOOKING), .unset] [(.ref wFOLLOWING)])) _
    refine XS.astore X2.here hx rfl (hb hby at_16) rfl rfl (l' := #[.val (.int p1), .val (.int p2), .val (.int d), .val (.ref wLOOKING), .val (.ref wFOLLOWING)]) rfl ?_
    show Steps p.tables e below (T2.setTop (mkF m 18 #[.val (.int p1), .val (.int p2), .val (.int d), .val (.ref wLOOKING), .val (.ref wFOLLOWING)] [])) _
    refine XS.aloadN X2.here hx rfl (hb hby at_18) rfl rfl ?_
    show Steps p.tables e below (T2.setTop (mkF m 19 #[.val (.int p1), .val (.int p2), .val (.int d), .val (.ref wLOOKING), .val (.ref wFOLLOWING)] [(.ref wLOOKING)])) _
    refine XS.iloadN X2.here hx rfl (hb hby at_19) rfl ?_
    show Steps p.tables e below (T2.setTop (mkF m 20 #[.val (.int p1), .val (.int p2), .val (.int d), .val (.ref wLOOKING), .val (.ref wFOLLOWING)] [(.int p1), (.ref wLOOKING)])) _
    refine st3 _ ?_
    show Steps p.tables e below (T3.setTop (mkF m 23 #[.val (.int p1), .val (.int p2), .val (.int d), .val (.ref wLOOKING), .val (.ref wFOLLOWING)] [(.ref wLOOKING), (.ref wLOOKING)])) _
    refine Jvm.RoadKit.acmp (g := (mkF m 23 #[.val (.int p1), .val (.int p2), .val (.int d), .val (.ref wLOOKING), .val (.ref wFOLLOWING)] [(.ref wLOOKING), (.ref wLOOKING)])) X3 hx rfl rfl rfl (pc0 := 23) (pc' := 26) (same := true) rfl (hb hby at_23) rfl (decide_eq_true rfl) (by decide) (by decide) ?_
    show Steps p.tables e below (T3.setTop (mkF m 26 #[.val (.int p1), .val (.int p2), .val (.int d), .val (.ref wLOOKING), .val (.ref wFOLLOWING)] [])) _
    refine XS.aload X3.here hx rfl (hb hby at_26) rfl rfl ?_
    show Steps p.tables e below (T3.setTop (mkF m 28 #[.val (.int p1), .val (.int p2), .val (.int d), .val (.ref wLOOKING), .val (.ref wFOLLOWING)] [(.ref wFOLLOWING)])) _
    refine XS.iloadN X3.here hx rfl (hb hby at_28) rfl ?_
    show Steps p.tables e below (T3.setTop (mkF m 29 #[.val (.int p1), .val (.int p2), .val (.int d), .val (.ref wLOOKING), .val (.ref wFOLLOWING)] [(.int d), (.ref wFOLLOWING)])) _
    refine st4 _ ?_
    show Steps p.tables e below (T4.setTop (mkF m 32 #[.val (.int p1), .val (.int p2), .val (.int d), .val (.ref wLOOKING), .val (.ref wFOLLOWING)] [(.ref wFOLLOWING), (.ref wFOLLOWING)])) _
    refine Jvm.RoadKit.acmp (g := (mkF m 32 #[.val (.int p1), .val (.int p2), .val (.int d), .val (.ref wLOOKING), .val (.ref wFOLLOWING)] [(.ref wFOLLOWING), (.ref wFOLLOWING)])) X4 hx rfl rfl rfl (pc0 := 32) (pc' := 35) (same := true) rfl (hb hby at_32) rfl (decide_eq_true rfl) (by decide) (by decide) ?_
    show Steps p.tables e below (T4.setTop (mkF m 35 #[.val (.int p1), .val (.int p2), .val (.int d), .val (.ref wLOOKING), .val (.ref wFOLLOWING)] [])) _
    refine XS.iconst X4.here hx rfl (hb hby at_35) ?_
    show Steps p.tables e below (T4.setTop (mkF m 36 #[.val (.int p1), .val (.int p2), .val (.int d), .val (.ref wLOOKING), .val (.ref wFOLLOWING)] [(.int (1 : Int32))])) _
    refine XS.goto X4.here hx rfl (pc0 := 36) (pc' := 40) rfl (hb hby at_36) (by decide) (by decide) ?_
    show Steps p.tables e below (T4.setTop (mkF m 40 #[.val (.int p1), .val (.int p2), .val (.int d), .val (.ref wLOOKING), .val (.ref wFOLLOWING)] [(.int (1 : Int32))])) _
    exact retN X4 hx (t := .boolean) Bd.returns (by simp) (hb hby at_40) hr
  · exact ⟨rfl, N4⟩
def OwnQ_own_of_5 (Z : State) (wVALUES : Addr) (wLOOKING : Addr) (wFOLLOWING : Addr) (wLEADING : Addr) (kVALUES : ClassId) (v1 : Int32) (h0 : Heap) (n0 : Nat) (v : Option Value) (h : Heap) (L : List Loc) : Prop :=
  v = some (.ref wLEADING) ∧ Fr n0 L ∧ Keep h0 h []
set_option maxRecDepth 65536 in
set_option maxHeartbeats 40000000 in
theorem own_of_5 (l : Launch) (Z : State) (a0 : Array Value) (hw : ∀ d ∈ tables_1, d.before a0 Z = true) (ws : List Jvm.Cond) (wVALUES : Addr) (wLOOKING : Addr) (wFOLLOWING : Addr) (wLEADING : Addr) (kVALUES : ClassId) (G : OwnG Z wVALUES wLOOKING wFOLLOWING wLEADING kVALUES) (h0 : Heap) (n0 : Nat) (O0 : Old Z n0 h0) (v1 : Int32) (hp1 : ¬ (v1 = (0 : Int32))) (hp2 : ¬ (v1 = (1 : Int32))) (hp3 : v1 = (2 : Int32)) :
    MetFree l (⟨"com/example/nimble_quorum/nimblequorum/quorum/PeerState", "of", "(I)Lcom/example/nimble_quorum/nimblequorum/quorum/PeerState;"⟩ : MethodName) (head1 (Jvm.Cond.code (⟨"com/example/nimble_quorum/nimblequorum/quorum/PeerState", "of", "(I)Lcom/example/nimble_quorum/nimblequorum/quorum/PeerState;"⟩ : MethodName) prog_14_method_5_code 6 (some (.object "com/example/nimble_quorum/nimblequorum/quorum/PeerState")) :: ws) ({ frames := 2, cells := 1, slots := 3, locals := 25 } : Room)) (fun a U => a = #[(.int v1)] ∧ Z.Warmed39 U.vm ∧ U.heap = h0) (fun _ _ _ _ _ => True) (fun _ U o U' => ∃ v L, o = .returned v ∧ OwnQ_own_of_5 Z wVALUES wLOOKING wFOLLOWING wLEADING kVALUES v1 h0 n0 v U'.heap L ∧ FrameEnd U o U' L ({ frames := 2, cells := 1, slots := 3, locals := 25 } : Room).cells ({ frames := 2, cells := 1, slots := 3, locals := 25 } : Room).slots) := by
  refine MetFree.of_bodySF (plainFor_of_name own_pn_1) hisR ?_
  intro p e s m args below meth c s₁ Bd hml0 hP hK
  obtain ⟨rfl, hZ, hh⟩ := hP
  have hx := Bd.exec
  have hby := Bd.bytes
  have hml : c.maxLocals = 6 := hml0
  have hown : s.vm.findClass "com/example/nimble_quorum/nimblequorum/quorum/PeerState" = some m.cls := findClass_of_methodNamed Bd.named
  have hnm := (name_of_methodNamed Bd.named Bd.method).1
  have X0 : Stand p l e ({ frames := 2, cells := 1, slots := 3, locals := 25 } : Room) s m #[(.int v1)] below meth c s₁ [] 0 0 := Stand.of_body Bd
  have e0 : s₁.heap = h0 := by rw [← hh, Bd.state]; rfl
  have N0 := Fr.nil n0
  have pre0 : ∀ t, Steps p.tables e below (s₁.setTop (mkF m 0 #[.val (.int v1), .unset, .unset, .unset, .unset, .unset] [])) t → Steps p.tables e below (s₁.setTop (entryFrame m #[(.int v1)] 6)) t := fun t k => castTop (own_ef_1_I m v1) k
  obtain ⟨_, _, ⟨T1, L1, k1, n1⟩, -, X1, ⟨Lc1, hQ1, l1, y1, z1⟩, st1⟩ := Jvm.LawKit.callS X0 hx (y := (⟨"com/example/nimble_quorum/nimblequorum/quorum/PeerState", "values", "()[Lcom/example/nimble_quorum/nimblequorum/quorum/PeerState;"⟩ : MethodName)) hown (mvT hZ (hw _ (List.mem_of_getElem? (i := 4) rfl))) (mvT hZ (hw _ (List.mem_of_getElem? (i := 5) rfl))) (mvT hZ (hw _ (List.mem_of_getElem? (i := 2) rfl))) (mvT hZ (hw _ (List.mem_of_getElem? (i := 6) rfl))) (by decide) (backOf (W := 0) (own_values_1 l Z a0 hw [] wVALUES wLOOKING wFOLLOWING wLEADING kVALUES G h0 n0 O0) hZ (hw _ (List.mem_of_getElem? (i := 6) rfl)) (hw _ (List.mem_of_getElem? (i := 2) rfl)) (by decide) (by decide)) (g := (mkF m 2 #[.val (.int v1), .val .null, .unset, .unset, .unset, .unset] [])) rfl (by rw [hml]; rfl) (argsL := []) (rest := []) (lenOf own_pd_0 rfl) rfl (by show 2 * 0 + _ ≤ _; exact Nat.le_of_eq rfl) (hb hby own_d1_2) (fun _ _ => ⟨rfl, e0, (by decide : 0 + 1 ≤ _), (by decide : 0 + 3 ≤ _)⟩)
  dsimp only [Pt.U, Pt.locs, Pt.cells, Pt.slots] at X1 l1 y1 z1 st1 hQ1
  subst l1 y1 z1
  obtain ⟨b2_1, rfl, N1q, Kq1, ge_b2_1, sq_b2_1, q1_V_b2, q1_E_b2⟩ := hQ1
  have N1 := Fr.app N0 N1q
  have sz_b2_1 : h0.size ≤ b2_1 := Nat.le_trans (Keep.refl h0 []).1 sq_b2_1
  have O1 := O0.keep Kq1 all0
  have K1 := (Keep.refl h0 []).trans Kq1 all0
  obtain ⟨cl2, Ar2, qk2, Sz2, Nn2, Hs2, Gs2⟩ := id (q1_V_b2)
  have hin3 : ¬ ((0 : Int32) < 0 ∨ cl2.slots.size ≤ ((0 : Int32)).toNatClampNeg) := inb_of Sz2 ⟨by decide, by decide⟩
  have hat3 : cl2.slots[((0 : Int32)).toNatClampNeg]? = some (.ref wLOOKING) := Hs2.at hin3 rfl
  obtain ⟨T4, X4, e4, st4⟩ := getF X1 hx hZ hown (host := "") (Or.inl (hw _ (List.mem_of_getElem? (i := 22) rfl))) Via.refl rfl (G.2.2.2.2.2.2.2.2.1.ext O1.2) (g := (mkF m 26 #[.val (.int v1), .val .null, .val (.ref b2_1), .val (.int (3 : Int32)), .val (.int (0 : Int32)), .val (.ref wLOOKING)] [(.ref wLOOKING)])) rfl rfl (hb hby own_d1_26)
  have hin5 : ¬ ((1 : Int32) < 0 ∨ cl2.slots.size ≤ ((1 : Int32)).toNatClampNeg) := inb_of Sz2 ⟨by decide, by decide⟩
  have hat5 : cl2.slots[((1 : Int32)).toNatClampNeg]? = some (.ref wFOLLOWING) := Hs2.at hin5 rfl
  obtain ⟨T6, X6, e6, st6⟩ := getF X4 hx hZ hown (host := "") (Or.inl (hw _ (List.mem_of_getElem? (i := 22) rfl))) Via.refl e4 (G.2.2.2.2.2.2.2.2.2.1.ext O1.2) (g := (mkF m 26 #[.val (.int v1), .val .null, .val (.ref b2_1), .val (.int (3 : Int32)), .val (.int (1 : Int32)), .val (.ref wFOLLOWING)] [(.ref wFOLLOWING)])) rfl rfl (hb hby own_d1_26)
  have hin7 : ¬ ((2 : Int32) < 0 ∨ cl2.slots.size ≤ ((2 : Int32)).toNatClampNeg) := inb_of Sz2 ⟨by decide, by decide⟩
  have hat7 : cl2.slots[((2 : Int32)).toNatClampNeg]? = some (.ref wLEADING) := Hs2.at hin7 rfl
  obtain ⟨T8, X8, e8, st8⟩ := getF X6 hx hZ hown (host := "") (Or.inl (hw _ (List.mem_of_getElem? (i := 22) rfl))) Via.refl e6 (G.2.2.2.2.2.2.2.2.2.2.1.ext O1.2) (g := (mkF m 26 #[.val (.int v1), .val .null, .val (.ref b2_1), .val (.int (3 : Int32)), .val (.int (2 : Int32)), .val (.ref wLEADING)] [(.ref wLEADING)])) rfl rfl (hb hby own_d1_26)
  obtain ⟨fs, hr, hrun, hended, hW, hsame⟩ := X8.leave (v := some (.ref wLEADING)) (fun h => by rw [Bd.returns] at h; cases h)
  refine ⟨_, _, pre0 _ ?_, hrun, hended, _, _, rfl, ?_, ⟨_, rfl⟩, hW, hsame.mono (by decide) (by decide)⟩
  · show Steps p.tables e below (s₁.setTop (mkF m 0 #[.val (.int v1), .unset, .unset, .unset, .unset, .unset] [])) _
    refine XS.aconstNull X0.here hx rfl (hb hby own_d1_0) ?_
    show Steps p.tables e below (s₁.setTop (mkF m 1 #[.val (.int v1), .unset, .unset, .unset, .unset, .unset] [.null])) _
    refine XS.astoreN X0.here hx rfl (hb hby own_d1_1) rfl rfl (l' := #[.val (.int v1), .val .null, .unset, .unset, .unset, .unset]) rfl ?_
    show Steps p.tables e below (s₁.setTop (mkF m 2 #[.val (.int v1), .val .null, .unset, .unset, .unset, .unset] [])) _
    refine st1 _ ?_
    show Steps p.tables e below (T1.setTop (mkF m 5 #[.val (.int v1), .val .null, .unset, .unset, .unset, .unset] [(.ref b2_1)])) _
    refine XS.astoreN X1.here hx rfl (hb hby own_d1_5) rfl rfl (l' := #[.val (.int v1), .val .null, .val (.ref b2_1), .unset, .unset, .unset]) rfl ?_
    show Steps p.tables e below (T1.setTop (mkF m 6 #[.val (.int v1), .val .null, .val (.ref b2_1), .unset, .unset, .unset] [])) _
    refine XS.aloadN X1.here hx rfl (hb hby own_d1_6) rfl rfl ?_
    show Steps p.tables e below (T1.setTop (mkF m 7 #[.val (.int v1), .val .null, .val (.ref b2_1), .unset, .unset, .unset] [(.ref b2_1)])) _
    refine X1.arraylength hx Ar2.1 (State.isArrayOf_alike hZ.alike Ar2.2.1) (g := (mkF m 7 #[.val (.int v1), .val .null, .val (.ref b2_1), .unset, .unset, .unset] [(.ref b2_1)])) rfl rfl (hb hby own_d1_7) _ ?_
    rw [len_of Sz2 Nn2]
    show Steps p.tables e below (T1.setTop (mkF m 8 #[.val (.int v1), .val .null, .val (.ref b2_1), .unset, .unset, .unset] [(.int (3 : Int32))])) _
    refine XS.istoreN X1.here hx rfl (hb hby own_d1_8) rfl (l' := #[.val (.int v1), .val .null, .val (.ref b2_1), .val (.int (3 : Int32)), .unset, .unset]) rfl ?_
    show Steps p.tables e below (T1.setTop (mkF m 9 #[.val (.int v1), .val .null, .val (.ref b2_1), .val (.int (3 : Int32)), .unset, .unset] [])) _
    refine XS.iconst X1.here hx rfl (hb hby own_d1_9) ?_
    show Steps p.tables e below (T1.setTop (mkF m 10 #[.val (.int v1), .val .null, .val (.ref b2_1), .val (.int (3 : Int32)), .unset, .unset] [(.int (0 : Int32))])) _
    refine XS.istore X1.here hx rfl (hb hby own_d1_10) rfl (l' := #[.val (.int v1), .val .null, .val (.ref b2_1), .val (.int (3 : Int32)), .val (.int (0 : Int32)), .unset]) rfl ?_
    show Steps p.tables e below (T1.setTop (mkF m 12 #[.val (.int v1), .val .null, .val (.ref b2_1), .val (.int (3 : Int32)), .val (.int (0 : Int32)), .unset] [])) _
    refine XS.iload X1.here hx rfl (hb hby own_d1_12) rfl ?_
    show Steps p.tables e below (T1.setTop (mkF m 14 #[.val (.int v1), .val .null, .val (.ref b2_1), .val (.int (3 : Int32)), .val (.int (0 : Int32)), .unset] [(.int (0 : Int32))])) _
    refine XS.iloadN X1.here hx rfl (hb hby own_d1_14) rfl ?_
    show Steps p.tables e below (T1.setTop (mkF m 15 #[.val (.int v1), .val .null, .val (.ref b2_1), .val (.int (3 : Int32)), .val (.int (0 : Int32)), .unset] [(.int (3 : Int32)), (.int (0 : Int32))])) _
    refine XS.icmpNo X1.here hx rfl (hb hby own_d1_15) rfl (by decide) ?_
    show Steps p.tables e below (T1.setTop (mkF m 18 #[.val (.int v1), .val .null, .val (.ref b2_1), .val (.int (3 : Int32)), .val (.int (0 : Int32)), .unset] [])) _
    refine XS.aloadN X1.here hx rfl (hb hby own_d1_18) rfl rfl ?_
    show Steps p.tables e below (T1.setTop (mkF m 19 #[.val (.int v1), .val .null, .val (.ref b2_1), .val (.int (3 : Int32)), .val (.int (0 : Int32)), .unset] [(.ref b2_1)])) _
    refine XS.iload X1.here hx rfl (hb hby own_d1_19) rfl ?_
    show Steps p.tables e below (T1.setTop (mkF m 21 #[.val (.int v1), .val .null, .val (.ref b2_1), .val (.int (3 : Int32)), .val (.int (0 : Int32)), .unset] [(.int (0 : Int32)), (.ref b2_1)])) _
    refine X1.aaload hx (j := (0 : Int32)) (v := (.ref wLOOKING)) Ar2.1 (State.isArrayOf_alike hZ.alike Ar2.2.1) rfl Ar2.2.2 hin3 hat3 (g := (mkF m 21 #[.val (.int v1), .val .null, .val (.ref b2_1), .val (.int (3 : Int32)), .val (.int (0 : Int32)), .unset] [(.int (0 : Int32)), (.ref b2_1)])) rfl rfl (hb hby own_d1_21) _ ?_
    show Steps p.tables e below (T1.setTop (mkF m 22 #[.val (.int v1), .val .null, .val (.ref b2_1), .val (.int (3 : Int32)), .val (.int (0 : Int32)), .unset] [(.ref wLOOKING)])) _
    refine XS.astore X1.here hx rfl (hb hby own_d1_22) rfl rfl (l' := #[.val (.int v1), .val .null, .val (.ref b2_1), .val (.int (3 : Int32)), .val (.int (0 : Int32)), .val (.ref wLOOKING)]) rfl ?_
    show Steps p.tables e below (T1.setTop (mkF m 24 #[.val (.int v1), .val .null, .val (.ref b2_1), .val (.int (3 : Int32)), .val (.int (0 : Int32)), .val (.ref wLOOKING)] [])) _
    refine XS.aload X1.here hx rfl (hb hby own_d1_24) rfl rfl ?_
    show Steps p.tables e below (T1.setTop (mkF m 26 #[.val (.int v1), .val .null, .val (.ref b2_1), .val (.int (3 : Int32)), .val (.int (0 : Int32)), .val (.ref wLOOKING)] [(.ref wLOOKING)])) _
    refine st4 _ ?_
    show Steps p.tables e below (T4.setTop (mkF m 29 #[.val (.int v1), .val .null, .val (.ref b2_1), .val (.int (3 : Int32)), .val (.int (0 : Int32)), .val (.ref wLOOKING)] [(.int (0 : Int32))])) _
    refine XS.iloadN X4.here hx rfl (hb hby own_d1_29) rfl ?_
    show Steps p.tables e below (T4.setTop (mkF m 30 #[.val (.int v1), .val .null, .val (.ref b2_1), .val (.int (3 : Int32)), .val (.int (0 : Int32)), .val (.ref wLOOKING)] [(.int v1), (.int (0 : Int32))])) _
    refine XS.icmpYes X4.here hx rfl (pc0 := 30) (pc' := 36) rfl (hb hby own_d1_30) rfl (feq ((Ne.symm hp1) : ¬ ((0 : Int32) = v1))).2 (by decide) (by decide) ?_
    show Steps p.tables e below (T4.setTop (mkF m 36 #[.val (.int v1), .val .null, .val (.ref b2_1), .val (.int (3 : Int32)), .val (.int (0 : Int32)), .val (.ref wLOOKING)] [])) _
    refine XS.iinc X4.here hx rfl (hb hby own_d1_36) rfl (l' := #[.val (.int v1), .val .null, .val (.ref b2_1), .val (.int (3 : Int32)), .val (.int (1 : Int32)), .val (.ref wLOOKING)]) rfl ?_
    show Steps p.tables e below (T4.setTop (mkF m 39 #[.val (.int v1), .val .null, .val (.ref b2_1), .val (.int (3 : Int32)), .val (.int (1 : Int32)), .val (.ref wLOOKING)] [])) _
    refine XS.goto X4.here hx rfl (pc0 := 39) (pc' := 12) rfl (hb hby own_d1_39) (by decide) (by decide) ?_
    show Steps p.tables e below (T4.setTop (mkF m 12 #[.val (.int v1), .val .null, .val (.ref b2_1), .val (.int (3 : Int32)), .val (.int (1 : Int32)), .val (.ref wLOOKING)] [])) _
    refine XS.iload X4.here hx rfl (hb hby own_d1_12) rfl ?_
    show Steps p.tables e below (T4.setTop (mkF m 14 #[.val (.int v1), .val .null, .val (.ref b2_1), .val (.int (3 : Int32)), .val (.int (1 : Int32)), .val (.ref wLOOKING)] [(.int (1 : Int32))])) _
    refine XS.iloadN X4.here hx rfl (hb hby own_d1_14) rfl ?_
    show Steps p.tables e below (T4.setTop (mkF m 15 #[.val (.int v1), .val .null, .val (.ref b2_1), .val (.int (3 : Int32)), .val (.int (1 : Int32)), .val (.ref wLOOKING)] [(.int (3 : Int32)), (.int (1 : Int32))])) _
    refine XS.icmpNo X4.here hx rfl (hb hby own_d1_15) rfl (by decide) ?_
    show Steps p.tables e below (T4.setTop (mkF m 18 #[.val (.int v1), .val .null, .val (.ref b2_1), .val (.int (3 : Int32)), .val (.int (1 : Int32)), .val (.ref wLOOKING)] [])) _
    refine XS.aloadN X4.here hx rfl (hb hby own_d1_18) rfl rfl ?_
    show Steps p.tables e below (T4.setTop (mkF m 19 #[.val (.int v1), .val .null, .val (.ref b2_1), .val (.int (3 : Int32)), .val (.int (1 : Int32)), .val (.ref wLOOKING)] [(.ref b2_1)])) _
    refine XS.iload X4.here hx rfl (hb hby own_d1_19) rfl ?_
    show Steps p.tables e below (T4.setTop (mkF m 21 #[.val (.int v1), .val .null, .val (.ref b2_1), .val (.int (3 : Int32)), .val (.int (1 : Int32)), .val (.ref wLOOKING)] [(.int (1 : Int32)), (.ref b2_1)])) _
    refine X4.aaload hx (j := (1 : Int32)) (v := (.ref wFOLLOWING)) (by rw [e4]; exact Ar2.1) (State.isArrayOf_alike hZ.alike Ar2.2.1) rfl Ar2.2.2 hin5 hat5 (g := (mkF m 21 #[.val (.int v1), .val .null, .val (.ref b2_1), .val (.int (3 : Int32)), .val (.int (1 : Int32)), .val (.ref wLOOKING)] [(.int (1 : Int32)), (.ref b2_1)])) rfl rfl (hb hby own_d1_21) _ ?_
    show Steps p.tables e below (T4.setTop (mkF m 22 #[.val (.int v1), .val .null, .val (.ref b2_1), .val (.int (3 : Int32)), .val (.int (1 : Int32)), .val (.ref wLOOKING)] [(.ref wFOLLOWING)])) _
    refine XS.astore X4.here hx rfl (hb hby own_d1_22) rfl rfl (l' := #[.val (.int v1), .val .null, .val (.ref b2_1), .val (.int (3 : Int32)), .val (.int (1 : Int32)), .val (.ref wFOLLOWING)]) rfl ?_
    show Steps p.tables e below (T4.setTop (mkF m 24 #[.val (.int v1), .val .null, .val (.ref b2_1), .val (.int (3 : Int32)), .val (.int (1 : Int32)), .val (.ref wFOLLOWING)] [])) _
    refine XS.aload X4.here hx rfl (hb hby own_d1_24) rfl rfl ?_
    show Steps p.tables e below (T4.setTop (mkF m 26 #[.val (.int v1), .val .null, .val (.ref b2_1), .val (.int (3 : Int32)), .val (.int (1 : Int32)), .val (.ref wFOLLOWING)] [(.ref wFOLLOWING)])) _
    refine st6 _ ?_
    show Steps p.tables e below (T6.setTop (mkF m 29 #[.val (.int v1), .val .null, .val (.ref b2_1), .val (.int (3 : Int32)), .val (.int (1 : Int32)), .val (.ref wFOLLOWING)] [(.int (1 : Int32))])) _
    refine XS.iloadN X6.here hx rfl (hb hby own_d1_29) rfl ?_
    show Steps p.tables e below (T6.setTop (mkF m 30 #[.val (.int v1), .val .null, .val (.ref b2_1), .val (.int (3 : Int32)), .val (.int (1 : Int32)), .val (.ref wFOLLOWING)] [(.int v1), (.int (1 : Int32))])) _
    refine XS.icmpYes X6.here hx rfl (pc0 := 30) (pc' := 36) rfl (hb hby own_d1_30) rfl (feq ((Ne.symm hp2) : ¬ ((1 : Int32) = v1))).2 (by decide) (by decide) ?_
    show Steps p.tables e below (T6.setTop (mkF m 36 #[.val (.int v1), .val .null, .val (.ref b2_1), .val (.int (3 : Int32)), .val (.int (1 : Int32)), .val (.ref wFOLLOWING)] [])) _
    refine XS.iinc X6.here hx rfl (hb hby own_d1_36) rfl (l' := #[.val (.int v1), .val .null, .val (.ref b2_1), .val (.int (3 : Int32)), .val (.int (2 : Int32)), .val (.ref wFOLLOWING)]) rfl ?_
    show Steps p.tables e below (T6.setTop (mkF m 39 #[.val (.int v1), .val .null, .val (.ref b2_1), .val (.int (3 : Int32)), .val (.int (2 : Int32)), .val (.ref wFOLLOWING)] [])) _
    refine XS.goto X6.here hx rfl (pc0 := 39) (pc' := 12) rfl (hb hby own_d1_39) (by decide) (by decide) ?_
    show Steps p.tables e below (T6.setTop (mkF m 12 #[.val (.int v1), .val .null, .val (.ref b2_1), .val (.int (3 : Int32)), .val (.int (2 : Int32)), .val (.ref wFOLLOWING)] [])) _
    refine XS.iload X6.here hx rfl (hb hby own_d1_12) rfl ?_
    show Steps p.tables e below (T6.setTop (mkF m 14 #[.val (.int v1), .val .null, .val (.ref b2_1), .val (.int (3 : Int32)), .val (.int (2 : Int32)), .val (.ref wFOLLOWING)] [(.int (2 : Int32))])) _
    refine XS.iloadN X6.here hx rfl (hb hby own_d1_14) rfl ?_
    show Steps p.tables e below (T6.setTop (mkF m 15 #[.val (.int v1), .val .null, .val (.ref b2_1), .val (.int (3 : Int32)), .val (.int (2 : Int32)), .val (.ref wFOLLOWING)] [(.int (3 : Int32)), (.int (2 : Int32))])) _
    refine XS.icmpNo X6.here hx rfl (hb hby own_d1_15) rfl (by decide) ?_
    show Steps p.tables e below (T6.setTop (mkF m 18 #[.val (.int v1), .val .null, .val (.ref b2_1), .val (.int (3 : Int32)), .val (.int (2 : Int32)), .val (.ref wFOLLOWING)] [])) _
    refine XS.aloadN X6.here hx rfl (hb hby own_d1_18) rfl rfl ?_
    show Steps p.tables e below (T6.setTop (mkF m 19 #[.val (.int v1), .val .null, .val (.ref b2_1), .val (.int (3 : Int32)), .val (.int (2 : Int32)), .val (.ref wFOLLOWING)] [(.ref b2_1)])) _
    refine XS.iload X6.here hx rfl (hb hby own_d1_19) rfl ?_
    show Steps p.tables e below (T6.setTop (mkF m 21 #[.val (.int v1), .val .null, .val (.ref b2_1), .val (.int (3 : Int32)), .val (.int (2 : Int32)), .val (.ref wFOLLOWING)] [(.int (2 : Int32)), (.ref b2_1)])) _
    refine X6.aaload hx (j := (2 : Int32)) (v := (.ref wLEADING)) (by rw [e6]; exact Ar2.1) (State.isArrayOf_alike hZ.alike Ar2.2.1) rfl Ar2.2.2 hin7 hat7 (g := (mkF m 21 #[.val (.int v1), .val .null, .val (.ref b2_1), .val (.int (3 : Int32)), .val (.int (2 : Int32)), .val (.ref wFOLLOWING)] [(.int (2 : Int32)), (.ref b2_1)])) rfl rfl (hb hby own_d1_21) _ ?_
    show Steps p.tables e below (T6.setTop (mkF m 22 #[.val (.int v1), .val .null, .val (.ref b2_1), .val (.int (3 : Int32)), .val (.int (2 : Int32)), .val (.ref wFOLLOWING)] [(.ref wLEADING)])) _
    refine XS.astore X6.here hx rfl (hb hby own_d1_22) rfl rfl (l' := #[.val (.int v1), .val .null, .val (.ref b2_1), .val (.int (3 : Int32)), .val (.int (2 : Int32)), .val (.ref wLEADING)]) rfl ?_
    show Steps p.tables e below (T6.setTop (mkF m 24 #[.val (.int v1), .val .null, .val (.ref b2_1), .val (.int (3 : Int32)), .val (.int (2 : Int32)), .val (.ref wLEADING)] [])) _
    refine XS.aload X6.here hx rfl (hb hby own_d1_24) rfl rfl ?_
    show Steps p.tables e below (T6.setTop (mkF m 26 #[.val (.int v1), .val .null, .val (.ref b2_1), .val (.int (3 : Int32)), .val (.int (2 : Int32)), .val (.ref wLEADING)] [(.ref wLEADING)])) _
    refine st8 _ ?_
    show Steps p.tables e below (T8.setTop (mkF m 29 #[.val (.int v1), .val .null, .val (.ref b2_1), .val (.int (3 : Int32)), .val (.int (2 : Int32)), .val (.ref wLEADING)] [(.int (2 : Int32))])) _
    refine XS.iloadN X8.here hx rfl (hb hby own_d1_29) rfl ?_
    show Steps p.tables e below (T8.setTop (mkF m 30 #[.val (.int v1), .val .null, .val (.ref b2_1), .val (.int (3 : Int32)), .val (.int (2 : Int32)), .val (.ref wLEADING)] [(.int v1), (.int (2 : Int32))])) _
    refine XS.icmpNo X8.here hx rfl (hb hby own_d1_30) rfl (teq ((Eq.symm hp3) : (2 : Int32) = v1)).2 ?_
    show Steps p.tables e below (T8.setTop (mkF m 33 #[.val (.int v1), .val .null, .val (.ref b2_1), .val (.int (3 : Int32)), .val (.int (2 : Int32)), .val (.ref wLEADING)] [])) _
    refine XS.aload X8.here hx rfl (hb hby own_d1_33) rfl rfl ?_
    show Steps p.tables e below (T8.setTop (mkF m 35 #[.val (.int v1), .val .null, .val (.ref b2_1), .val (.int (3 : Int32)), .val (.int (2 : Int32)), .val (.ref wLEADING)] [(.ref wLEADING)])) _
    refine XS.astoreN X8.here hx rfl (hb hby own_d1_35) rfl rfl (l' := #[.val (.int v1), .val (.ref wLEADING), .val (.ref b2_1), .val (.int (3 : Int32)), .val (.int (2 : Int32)), .val (.ref wLEADING)]) rfl ?_
    show Steps p.tables e below (T8.setTop (mkF m 36 #[.val (.int v1), .val (.ref wLEADING), .val (.ref b2_1), .val (.int (3 : Int32)), .val (.int (2 : Int32)), .val (.ref wLEADING)] [])) _
    refine XS.iinc X8.here hx rfl (hb hby own_d1_36) rfl (l' := #[.val (.int v1), .val (.ref wLEADING), .val (.ref b2_1), .val (.int (3 : Int32)), .val (.int (3 : Int32)), .val (.ref wLEADING)]) rfl ?_
    show Steps p.tables e below (T8.setTop (mkF m 39 #[.val (.int v1), .val (.ref wLEADING), .val (.ref b2_1), .val (.int (3 : Int32)), .val (.int (3 : Int32)), .val (.ref wLEADING)] [])) _
    refine XS.goto X8.here hx rfl (pc0 := 39) (pc' := 12) rfl (hb hby own_d1_39) (by decide) (by decide) ?_
    show Steps p.tables e below (T8.setTop (mkF m 12 #[.val (.int v1), .val (.ref wLEADING), .val (.ref b2_1), .val (.int (3 : Int32)), .val (.int (3 : Int32)), .val (.ref wLEADING)] [])) _
    refine XS.iload X8.here hx rfl (hb hby own_d1_12) rfl ?_
    show Steps p.tables e below (T8.setTop (mkF m 14 #[.val (.int v1), .val (.ref wLEADING), .val (.ref b2_1), .val (.int (3 : Int32)), .val (.int (3 : Int32)), .val (.ref wLEADING)] [(.int (3 : Int32))])) _
    refine XS.iloadN X8.here hx rfl (hb hby own_d1_14) rfl ?_
    show Steps p.tables e below (T8.setTop (mkF m 15 #[.val (.int v1), .val (.ref wLEADING), .val (.ref b2_1), .val (.int (3 : Int32)), .val (.int (3 : Int32)), .val (.ref wLEADING)] [(.int (3 : Int32)), (.int (3 : Int32))])) _
    refine XS.icmpYes X8.here hx rfl (pc0 := 15) (pc' := 42) rfl (hb hby own_d1_15) rfl (by decide) (by decide) (by decide) ?_
    show Steps p.tables e below (T8.setTop (mkF m 42 #[.val (.int v1), .val (.ref wLEADING), .val (.ref b2_1), .val (.int (3 : Int32)), .val (.int (3 : Int32)), .val (.ref wLEADING)] [])) _
    refine XS.aloadN X8.here hx rfl (hb hby own_d1_42) rfl rfl ?_
    show Steps p.tables e below (T8.setTop (mkF m 43 #[.val (.int v1), .val (.ref wLEADING), .val (.ref b2_1), .val (.int (3 : Int32)), .val (.int (3 : Int32)), .val (.ref wLEADING)] [(.ref wLEADING)])) _
    jvm_step X8.here [X8.here.top, hx, (hb hby own_d1_43), X8.method', Bd.returns, Value.isRef, FieldType.isReference]
    first | (intro acts; rw [hr _ acts rfl rfl rfl]) | rw [hr _ _ rfl rfl rfl]
    exact Steps.refl _
  · show OwnQ_own_of_5 Z wVALUES wLOOKING wFOLLOWING wLEADING kVALUES v1 h0 n0 _ T8.heap _
    rw [e8]
    exact ⟨rfl, N1, K1⟩
theorem own_d3_17 : decode method_2_code 17 = .ok (.iload_n 0, 1) := by decide +kernel
theorem own_d3_18 : decode method_2_code 18 = .ok (.iconst 2, 1) := by decide +kernel
theorem own_d3_19 : decode method_2_code 19 = .ok (.if_icmp .ne 7, 3) := by decide +kernel
theorem own_d3_22 : decode method_2_code 22 = .ok (.getstatic 16, 3) := by decide +kernel
theorem own_d3_25 : decode method_2_code 25 = .ok (.areturn, 1) := by decide +kernel
set_option maxRecDepth 65536 in
set_option maxHeartbeats 40000000 in
theorem own_expected_6 (l : Launch) (Z : State) (a0 : Array Value) (hw : ∀ d ∈ tables_1, d.before a0 Z = true) (ws : List Jvm.Cond) (wVALUES : Addr) (wLOOKING : Addr) (wFOLLOWING : Addr) (wLEADING : Addr) (kVALUES : ClassId) (G : OwnG Z wVALUES wLOOKING wFOLLOWING wLEADING kVALUES) (h0 : Heap) (n0 : Nat) (O0 : Old Z n0 h0) (v1 : Int32) (hp1 : ¬ (v1 = (0 : Int32))) (hp2 : ¬ (v1 = (1 : Int32))) (hp3 : v1 = (2 : Int32)) :
    MetFree l (⟨"com/example/nimble_quorum/nimblequorum/quorum/PeerStateOfPinLaw", "expected", "(I)Lcom/example/nimble_quorum/nimblequorum/quorum/PeerState;"⟩ : MethodName) (head1 (Jvm.Cond.code (⟨"com/example/nimble_quorum/nimblequorum/quorum/PeerStateOfPinLaw", "expected", "(I)Lcom/example/nimble_quorum/nimblequorum/quorum/PeerState;"⟩ : MethodName) method_2_code 1 (some (.object "com/example/nimble_quorum/nimblequorum/quorum/PeerState")) :: ws) ({ frames := 0, cells := 0, slots := 0, locals := 0 } : Room)) (fun a U => a = #[(.int v1)] ∧ Z.Warmed39 U.vm ∧ U.heap = h0) (fun _ _ _ _ _ => True) (fun _ U o U' => ∃ v L, o = .returned v ∧ OwnQ (some (.ref wLEADING)) h0 n0 v U'.heap L ∧ FrameEnd U o U' L ({ frames := 0, cells := 0, slots := 0, locals := 0 } : Room).cells ({ frames := 0, cells := 0, slots := 0, locals := 0 } : Room).slots) := by
  refine MetFree.of_bodySF (plainFor_of_name own_pn_0) hisR ?_
  intro p e s m args below meth c s₁ Bd hml0 hP hK
  obtain ⟨rfl, hZ, hh⟩ := hP
  have hx := Bd.exec
  have hby := Bd.bytes
  have hml : c.maxLocals = 1 := hml0
  have hown : s.vm.findClass "com/example/nimble_quorum/nimblequorum/quorum/PeerStateOfPinLaw" = some m.cls := findClass_of_methodNamed Bd.named
  have hnm := (name_of_methodNamed Bd.named Bd.method).1
  have X0 : Stand p l e ({ frames := 0, cells := 0, slots := 0, locals := 0 } : Room) s m #[(.int v1)] below meth c s₁ [] 0 0 := Stand.of_body Bd
  have e0 : s₁.heap = h0 := by rw [← hh, Bd.state]; rfl
  have N0 := Fr.nil n0
  have pre0 : ∀ t, Steps p.tables e below (s₁.setTop (mkF m 0 #[.val (.int v1)] [])) t → Steps p.tables e below (s₁.setTop (entryFrame m #[(.int v1)] 1)) t := fun t k => castTop (own_ef_3_I m v1) k
  obtain ⟨T1, X1, e1, st1⟩ := getS2 X0 hx hZ hown (host := "") (Or.inl (hw _ (List.mem_of_getElem? (i := 30) rfl))) Via.refl e0 (G.2.2.2.2.2.2.1.ext O0.2) (g := (mkF m 22 #[.val (.int v1)] [])) rfl (hb hby own_d3_22)
  obtain ⟨fs, hr, hrun, hended, hW, hsame⟩ := X1.leave (v := some (.ref wLEADING)) (fun h => by rw [Bd.returns] at h; cases h)
  refine ⟨_, _, pre0 _ ?_, hrun, hended, _, _, rfl, ?_, ⟨_, rfl⟩, hW, hsame.mono (by decide) (by decide)⟩
  · show Steps p.tables e below (s₁.setTop (mkF m 0 #[.val (.int v1)] [])) _
    refine XS.iloadN X0.here hx rfl (hb hby own_d3_0) rfl ?_
    show Steps p.tables e below (s₁.setTop (mkF m 1 #[.val (.int v1)] [(.int v1)])) _
    refine XS.ifYes X0.here hx rfl (pc0 := 1) (pc' := 8) rfl (hb hby own_d3_1) rfl ((if0 _ _).trans (feq (hp1 : ¬ (v1 = (0 : Int32)))).2) (by decide) (by decide) ?_
    show Steps p.tables e below (s₁.setTop (mkF m 8 #[.val (.int v1)] [])) _
    refine XS.iloadN X0.here hx rfl (hb hby own_d3_8) rfl ?_
    show Steps p.tables e below (s₁.setTop (mkF m 9 #[.val (.int v1)] [(.int v1)])) _
    refine XS.iconst X0.here hx rfl (hb hby own_d3_9) ?_
    show Steps p.tables e below (s₁.setTop (mkF m 10 #[.val (.int v1)] [(.int (1 : Int32)), (.int v1)])) _
    refine XS.icmpYes X0.here hx rfl (pc0 := 10) (pc' := 17) rfl (hb hby own_d3_10) rfl (feq (hp2 : ¬ (v1 = (1 : Int32)))).2 (by decide) (by decide) ?_
    show Steps p.tables e below (s₁.setTop (mkF m 17 #[.val (.int v1)] [])) _
    refine XS.iloadN X0.here hx rfl (hb hby own_d3_17) rfl ?_
    show Steps p.tables e below (s₁.setTop (mkF m 18 #[.val (.int v1)] [(.int v1)])) _
    refine XS.iconst X0.here hx rfl (hb hby own_d3_18) ?_
    show Steps p.tables e below (s₁.setTop (mkF m 19 #[.val (.int v1)] [(.int (2 : Int32)), (.int v1)])) _
    refine XS.icmpNo X0.here hx rfl (hb hby own_d3_19) rfl (teq (hp3 : v1 = (2 : Int32))).2 ?_
    show Steps p.tables e below (s₁.setTop (mkF m 22 #[.val (.int v1)] [])) _
    refine st1 _ ?_
    show Steps p.tables e below (T1.setTop (mkF m 25 #[.val (.int v1)] [(.ref wLEADING)])) _
    jvm_step X1.here [X1.here.top, hx, (hb hby own_d3_25), X1.method', Bd.returns, Value.isRef, FieldType.isReference]
    first | (intro acts; rw [hr _ acts rfl rfl rfl]) | rw [hr _ _ rfl rfl rfl]
    exact Steps.refl _
  · show OwnQ _ h0 n0 _ T1.heap _
    exact ⟨rfl, N0, e1⟩
set_option maxRecDepth 65536 in
set_option maxHeartbeats 40000000 in
theorem own_law_02 (l : Launch) (Z : State) (a0 : Array Value) (hw : ∀ d ∈ tables_1, d.before a0 Z = true) (ws : List Jvm.Cond) (wVALUES : Addr) (wLOOKING : Addr) (wFOLLOWING : Addr) (wLEADING : Addr) (kVALUES : ClassId) (G : OwnG Z wVALUES wLOOKING wFOLLOWING wLEADING kVALUES) (h0 : Heap) (n0 : Nat) (O0 : Old Z n0 h0) (p1 : Int32) (p2 : Int32) (d : Int32) (c0 : p1 = (0 : Int32)) (c1 : ¬ (p1 = (1 : Int32))) (c2 : ¬ (p1 = (2 : Int32))) (hd : ((p2 &&& (7 : Int32)) - (2 : Int32)) = d) (d0 : ¬ (d = (0 : Int32))) (d1 : ¬ (d = (1 : Int32))) (d2 : d = (2 : Int32)) :
    MetFree l x (head1 (Jvm.Cond.code x code maxLocals ret :: ws) room_1) (fun a U => a = #[(.int p1), (.int p2)] ∧ Z.Warmed39 U.vm ∧ U.heap = h0) (fun _ _ _ _ _ => True) (fun _ U o U' => ∃ v L, o = .returned v ∧ (v = some (.int 1) ∧ Fr n0 L) ∧ FrameEnd U o U' L room_1.cells room_1.slots) := by
  refine MetFree.of_bodySF (plainFor_of_name own_pn_0) hisR ?_
  intro p e s m args below meth c s₁ Bd hml0 hP hK
  obtain ⟨rfl, hZ, hh⟩ := hP
  have hx := Bd.exec
  have hby := Bd.bytes
  have hml : c.maxLocals = 5 := hml0
  have hown : s.vm.findClass "com/example/nimble_quorum/nimblequorum/quorum/PeerStateOfPinLaw" = some m.cls := findClass_of_methodNamed Bd.named
  have hnm := (name_of_methodNamed Bd.named Bd.method).1
  have X0 : Stand p l e room_1 s m #[(.int p1), (.int p2)] below meth c s₁ [] 0 0 := Stand.of_body Bd
  have e0 : s₁.heap = h0 := by rw [← hh, Bd.state]; rfl
  have N0 := Fr.nil n0
  have pre0 : ∀ t, Steps p.tables e below (s₁.setTop (mkF m 0 #[.val (.int p1), .val (.int p2), .unset, .unset, .unset] [])) t → Steps p.tables e below (s₁.setTop (entryFrame m #[(.int p1), (.int p2)] maxLocals)) t := fun t k => castTop (own_ef_0_II m p1 p2) k
  obtain ⟨_, _, ⟨T1, L1, k1, n1⟩, -, X1, ⟨Lc1, hQ1, l1, y1, z1⟩, st1⟩ := Jvm.LawKit.callS X0 hx (y := (⟨"com/example/nimble_quorum/nimblequorum/quorum/PeerState", "of", "(I)Lcom/example/nimble_quorum/nimblequorum/quorum/PeerState;"⟩ : MethodName)) hown (mvT hZ (hw _ (List.mem_of_getElem? (i := 0) rfl))) (mvT hZ (hw _ (List.mem_of_getElem? (i := 1) rfl))) (mvT hZ (hw _ (List.mem_of_getElem? (i := 2) rfl))) (mvT hZ (hw _ (List.mem_of_getElem? (i := 3) rfl))) (by decide) (backOf (W := 0) (own_of_0 l Z a0 hw [] wVALUES wLOOKING wFOLLOWING wLEADING kVALUES G h0 n0 O0 p1 c0 c1 c2) hZ (hw _ (List.mem_of_getElem? (i := 3) rfl)) (hw _ (List.mem_of_getElem? (i := 2) rfl)) (by decide) (by decide)) (g := (mkF m 8 #[.val (.int p1), .val (.int p2), .val (.int d), .unset, .unset] [(.int p1)])) rfl (by rw [hml]; rfl) (argsL := [(.int p1)]) (rest := []) (lenOf own_pd_1 rfl) rfl (by show 2 * 0 + _ ≤ _; exact Nat.le_of_eq rfl) (hb hby at_8) (fun _ _ => ⟨rfl, e0, (by decide : 0 + 1 ≤ _), (by decide : 0 + 3 ≤ _)⟩)
  dsimp only [Pt.U, Pt.locs, Pt.cells, Pt.slots] at X1 l1 y1 z1 st1 hQ1
  subst l1 y1 z1
  obtain ⟨rfl, N1q, Kq1⟩ := hQ1
  have N1 := Fr.app N0 N1q
  have O1 := O0.keep Kq1 all0
  have K1 := (Keep.refl h0 []).trans Kq1 all0
  obtain ⟨_, _, ⟨T2, L2, k2, n2⟩, -, X2, ⟨Lc2, hQ2, l2, y2, z2⟩, st2⟩ := Jvm.LawKit.callS X1 hx (y := (⟨"com/example/nimble_quorum/nimblequorum/quorum/PeerState", "of", "(I)Lcom/example/nimble_quorum/nimblequorum/quorum/PeerState;"⟩ : MethodName)) hown (mvT hZ (hw _ (List.mem_of_getElem? (i := 0) rfl))) (mvT hZ (hw _ (List.mem_of_getElem? (i := 1) rfl))) (mvT hZ (hw _ (List.mem_of_getElem? (i := 2) rfl))) (mvT hZ (hw _ (List.mem_of_getElem? (i := 3) rfl))) (by decide) (backOf (W := 0) (own_of_5 l Z a0 hw [] wVALUES wLOOKING wFOLLOWING wLEADING kVALUES G T1.heap n0 O1 d d0 d1 d2) hZ (hw _ (List.mem_of_getElem? (i := 3) rfl)) (hw _ (List.mem_of_getElem? (i := 2) rfl)) (by decide) (by decide)) (g := (mkF m 13 #[.val (.int p1), .val (.int p2), .val (.int d), .val (.ref wLOOKING), .unset] [(.int d)])) rfl (by rw [hml]; rfl) (argsL := [(.int d)]) (rest := []) (lenOf own_pd_1 rfl) rfl (by show 2 * 0 + _ ≤ _; exact Nat.le_of_eq rfl) (hb hby at_13) (fun _ _ => ⟨rfl, rfl, (by decide : 1 + 1 ≤ _), (by decide : 3 + 3 ≤ _)⟩)
  dsimp only [Pt.U, Pt.locs, Pt.cells, Pt.slots] at X2 l2 y2 z2 st2 hQ2
  subst l2 y2 z2
  obtain ⟨rfl, N2q, Kq2⟩ := hQ2
  have N2 := Fr.app N1 N2q
  have O2 := O1.keep Kq2 all0
  have K2 := K1.trans Kq2 all0
  obtain ⟨_, _, ⟨T3, L3, k3, n3⟩, -, X3, ⟨Lc3, hQ3, l3, y3, z3⟩, st3⟩ := Jvm.LawKit.callS X2 hx (y := (⟨"com/example/nimble_quorum/nimblequorum/quorum/PeerStateOfPinLaw", "expected", "(I)Lcom/example/nimble_quorum/nimblequorum/quorum/PeerState;"⟩ : MethodName)) hown (mvT hZ (hw _ (List.mem_of_getElem? (i := 24) rfl))) (mvT hZ (hw _ (List.mem_of_getElem? (i := 25) rfl))) (mvT hZ (hw _ (List.mem_of_getElem? (i := 26) rfl))) (mvT hZ (hw _ (List.mem_of_getElem? (i := 27) rfl))) (by decide) (backOf (W := 1) (own_expected_2 l Z a0 hw [] wVALUES wLOOKING wFOLLOWING wLEADING kVALUES G T2.heap n0 O2 p1 c0 c1 c2) hZ (hw _ (List.mem_of_getElem? (i := 27) rfl)) (hw _ (List.mem_of_getElem? (i := 26) rfl)) (by decide) (by decide)) (g := (mkF m 20 #[.val (.int p1), .val (.int p2), .val (.int d), .val (.ref wLOOKING), .val (.ref wLEADING)] [(.int p1), (.ref wLOOKING)])) rfl (by rw [hml]; rfl) (argsL := [(.int p1)]) (rest := [(.ref wLOOKING)]) (lenOf own_pd_1 rfl) rfl (by show 2 * 0 + _ ≤ _; exact Nat.le_of_eq rfl) (hb hby at_20) (fun _ _ => ⟨rfl, rfl, (by decide : 2 + 0 ≤ _), (by decide : 6 + 0 ≤ _)⟩)
  dsimp only [Pt.U, Pt.locs, Pt.cells, Pt.slots] at X3 l3 y3 z3 st3 hQ3
  subst l3 y3 z3
  obtain ⟨rfl, N3q, e3⟩ := hQ3
  have N3 := Fr.app N2 N3q
  obtain ⟨_, _, ⟨T4, L4, k4, n4⟩, -, X4, ⟨Lc4, hQ4, l4, y4, z4⟩, st4⟩ := Jvm.LawKit.callS X3 hx (y := (⟨"com/example/nimble_quorum/nimblequorum/quorum/PeerStateOfPinLaw", "expected", "(I)Lcom/example/nimble_quorum/nimblequorum/quorum/PeerState;"⟩ : MethodName)) hown (mvT hZ (hw _ (List.mem_of_getElem? (i := 24) rfl))) (mvT hZ (hw _ (List.mem_of_getElem? (i := 25) rfl))) (mvT hZ (hw _ (List.mem_of_getElem? (i := 26) rfl))) (mvT hZ (hw _ (List.mem_of_getElem? (i := 27) rfl))) (by decide) (backOf (W := 1) (own_expected_6 l Z a0 hw [] wVALUES wLOOKING wFOLLOWING wLEADING kVALUES G T2.heap n0 O2 d d0 d1 d2) hZ (hw _ (List.mem_of_getElem? (i := 27) rfl)) (hw _ (List.mem_of_getElem? (i := 26) rfl)) (by decide) (by decide)) (g := (mkF m 29 #[.val (.int p1), .val (.int p2), .val (.int d), .val (.ref wLOOKING), .val (.ref wLEADING)] [(.int d), (.ref wLEADING)])) rfl (by rw [hml]; rfl) (argsL := [(.int d)]) (rest := [(.ref wLEADING)]) (lenOf own_pd_1 rfl) rfl (by show 2 * 0 + _ ≤ _; exact Nat.le_of_eq rfl) (hb hby at_29) (fun _ _ => ⟨rfl, e3, (by decide : 2 + 0 ≤ _), (by decide : 6 + 0 ≤ _)⟩)
  dsimp only [Pt.U, Pt.locs, Pt.cells, Pt.slots] at X4 l4 y4 z4 st4 hQ4
  subst l4 y4 z4
  obtain ⟨rfl, N4q, e4⟩ := hQ4
  have N4 := Fr.app N3 N4q
  obtain ⟨fs, hr, hrun, hended, hW, hsame⟩ := X4.leave (v := some (.int (1 : Int32))) (fun h => by rw [Bd.returns] at h; cases h)
  refine ⟨_, _, pre0 _ ?_, hrun, hended, _, _, rfl, ?_, ⟨_, rfl⟩, hW, hsame.mono (by decide) (by decide)⟩
  · show Steps p.tables e below (s₁.setTop (mkF m 0 #[.val (.int p1), .val (.int p2), .unset, .unset, .unset] [])) _
    refine XS.iloadN X0.here hx rfl (hb hby at_0) rfl ?_
    show Steps p.tables e below (s₁.setTop (mkF m 1 #[.val (.int p1), .val (.int p2), .unset, .unset, .unset] [(.int p2)])) _
    refine XS.bipush X0.here hx rfl (hb hby at_1) ?_
    show Steps p.tables e below (s₁.setTop (mkF m 3 #[.val (.int p1), .val (.int p2), .unset, .unset, .unset] [(.int (7 : Int32)), (.int p2)])) _
    refine XS.iand X0.here hx rfl (hb hby at_3) rfl ?_
    show Steps p.tables e below (s₁.setTop (mkF m 4 #[.val (.int p1), .val (.int p2), .unset, .unset, .unset] [(.int (p2 &&& (7 : Int32)))])) _
    refine XS.iconst X0.here hx rfl (hb hby at_4) ?_
    show Steps p.tables e below (s₁.setTop (mkF m 5 #[.val (.int p1), .val (.int p2), .unset, .unset, .unset] [(.int (2 : Int32)), (.int (p2 &&& (7 : Int32)))])) _
    refine XS.isub X0.here hx rfl (hb hby at_5) rfl ?_
    show Steps p.tables e below (s₁.setTop (mkF m 6 #[.val (.int p1), .val (.int p2), .unset, .unset, .unset] [(.int ((p2 &&& (7 : Int32)) - (2 : Int32)))])) _
    refine castTop (g' := (mkF m 6 #[.val (.int p1), .val (.int p2), .unset, .unset, .unset] [(.int d)])) (by rw [hd]) ?_
    show Steps p.tables e below (s₁.setTop (mkF m 6 #[.val (.int p1), .val (.int p2), .unset, .unset, .unset] [(.int d)])) _
    refine XS.istoreN X0.here hx rfl (hb hby at_6) rfl (l' := #[.val (.int p1), .val (.int p2), .val (.int d), .unset, .unset]) rfl ?_
    show Steps p.tables e below (s₁.setTop (mkF m 7 #[.val (.int p1), .val (.int p2), .val (.int d), .unset, .unset] [])) _
    refine XS.iloadN X0.here hx rfl (hb hby at_7) rfl ?_
    show Steps p.tables e below (s₁.setTop (mkF m 8 #[.val (.int p1), .val (.int p2), .val (.int d), .unset, .unset] [(.int p1)])) _
    refine st1 _ ?_
    show Steps p.tables e below (T1.setTop (mkF m 11 #[.val (.int p1), .val (.int p2), .val (.int d), .unset, .unset] [(.ref wLOOKING)])) _
    refine XS.astoreN X1.here hx rfl (hb hby at_11) rfl rfl (l' := #[.val (.int p1), .val (.int p2), .val (.int d), .val (.ref wLOOKING), .unset]) rfl ?_
    show Steps p.tables e below (T1.setTop (mkF m 12 #[.val (.int p1), .val (.int p2), .val (.int d), .val (.ref wLOOKING), .unset] [])) _
    refine XS.iloadN X1.here hx rfl (hb hby at_12) rfl ?_
    show Steps p.tables e below (T1.setTop (mkF m 13 #[.val (.int p1), .val (.int p2), .val (.int d), .val (.ref wLOOKING), .unset] [(.int d)])) _
    refine st2 _ ?_
    show Steps p.tables e below (T2.setTop (mkF m 16 #[.val (.int p1), .val (.int p2), .val (.int d), .val (.ref wLOOKING), .unset] [(.ref wLEADING)])) _
    refine XS.astore X2.here hx rfl (hb hby at_16) rfl rfl (l' := #[.val (.int p1), .val (.int p2), .val (.int d), .val (.ref wLOOKING), .val (.ref wLEADING)]) rfl ?_
    show Steps p.tables e below (T2.setTop (mkF m 18 #[.val (.int p1), .val (.int p2), .val (.int d), .val (.ref wLOOKING), .val (.ref wLEADING)] [])) _
    refine XS.aloadN X2.here hx rfl (hb hby at_18) rfl rfl ?_
    show Steps p.tables e below (T2.setTop (mkF m 19 #[.val (.int p1), .val (.int p2), .val (.int d), .val (.ref wLOOKING), .val (.ref wLEADING)] [(.ref wLOOKING)])) _
    refine XS.iloadN X2.here hx rfl (hb hby at_19) rfl ?_
    show Steps p.tables e below (T2.setTop (mkF m 20 #[.val (.int p1), .val (.int p2), .val (.int d), .val (.ref wLOOKING), .val (.ref wLEADING)] [(.int p1), (.ref wLOOKING)])) _
    refine st3 _ ?_
    show Steps p.tables e below (T3.setTop (mkF m 23 #[.val (.int p1), .val (.int p2), .val (.int d), .val (.ref wLOOKING), .val (.ref wLEADING)] [(.ref wLOOKING), (.ref wLOOKING)])) _
    refine Jvm.RoadKit.acmp (g := (mkF m 23 #[.val (.int p1), .val (.int p2), .val (.int d), .val (.ref wLOOKING), .val (.ref wLEADING)] [(.ref wLOOKING), (.ref wLOOKING)])) X3 hx rfl rfl rfl (pc0 := 23) (pc' := 26) (same := true) rfl (hb hby at_23) rfl (decide_eq_true rfl) (by decide) (by decide) ?_
    show Steps p.tables e below (T3.setTop (mkF m 26 #[.val (.int p1), .val (.int p2), .val (.int d), .val (.ref wLOOKING), .val (.ref wLEADING)] [])) _
    refine XS.aload X3.here hx rfl (hb hby at_26) rfl rfl ?_
    show Steps p.tables e below (T3.setTop (mkF m 28 #[.val (.int p1), .val (.int p2), .val (.int d), .val (.ref wLOOKING), .val (.ref wLEADING)] [(.ref wLEADING)])) _
    refine XS.iloadN X3.here hx rfl (hb hby at_28) rfl ?_
    show Steps p.tables e below (T3.setTop (mkF m 29 #[.val (.int p1), .val (.int p2), .val (.int d), .val (.ref wLOOKING), .val (.ref wLEADING)] [(.int d), (.ref wLEADING)])) _
    refine st4 _ ?_
    show Steps p.tables e below (T4.setTop (mkF m 32 #[.val (.int p1), .val (.int p2), .val (.int d), .val (.ref wLOOKING), .val (.ref wLEADING)] [(.ref wLEADING), (.ref wLEADING)])) _
    refine Jvm.RoadKit.acmp (g := (mkF m 32 #[.val (.int p1), .val (.int p2), .val (.int d), .val (.ref wLOOKING), .val (.ref wLEADING)] [(.ref wLEADING), (.ref wLEADING)])) X4 hx rfl rfl rfl (pc0 := 32) (pc' := 35) (same := true) rfl (hb hby at_32) rfl (decide_eq_true rfl) (by decide) (by decide) ?_
    show Steps p.tables e below (T4.setTop (mkF m 35 #[.val (.int p1), .val (.int p2), .val (.int d), .val (.ref wLOOKING), .val (.ref wLEADING)] [])) _
    refine XS.iconst X4.here hx rfl (hb hby at_35) ?_
    show Steps p.tables e below (T4.setTop (mkF m 36 #[.val (.int p1), .val (.int p2), .val (.int d), .val (.ref wLOOKING), .val (.ref wLEADING)] [(.int (1 : Int32))])) _
    refine XS.goto X4.here hx rfl (pc0 := 36) (pc' := 40) rfl (hb hby at_36) (by decide) (by decide) ?_
    show Steps p.tables e below (T4.setTop (mkF m 40 #[.val (.int p1), .val (.int p2), .val (.int d), .val (.ref wLOOKING), .val (.ref wLEADING)] [(.int (1 : Int32))])) _
    exact retN X4 hx (t := .boolean) Bd.returns (by simp) (hb hby at_40) hr
  · exact ⟨rfl, N4⟩
def OwnQ_own_of_7 (Z : State) (wVALUES : Addr) (wLOOKING : Addr) (wFOLLOWING : Addr) (wLEADING : Addr) (kVALUES : ClassId) (v1 : Int32) (h0 : Heap) (n0 : Nat) (v : Option Value) (h : Heap) (L : List Loc) : Prop :=
  v = some .null ∧ Fr n0 L ∧ Keep h0 h []
set_option maxRecDepth 65536 in
set_option maxHeartbeats 40000000 in
theorem own_of_7 (l : Launch) (Z : State) (a0 : Array Value) (hw : ∀ d ∈ tables_1, d.before a0 Z = true) (ws : List Jvm.Cond) (wVALUES : Addr) (wLOOKING : Addr) (wFOLLOWING : Addr) (wLEADING : Addr) (kVALUES : ClassId) (G : OwnG Z wVALUES wLOOKING wFOLLOWING wLEADING kVALUES) (h0 : Heap) (n0 : Nat) (O0 : Old Z n0 h0) (v1 : Int32) (hp1 : ¬ (v1 = (0 : Int32))) (hp2 : ¬ (v1 = (1 : Int32))) (hp3 : ¬ (v1 = (2 : Int32))) :
    MetFree l (⟨"com/example/nimble_quorum/nimblequorum/quorum/PeerState", "of", "(I)Lcom/example/nimble_quorum/nimblequorum/quorum/PeerState;"⟩ : MethodName) (head1 (Jvm.Cond.code (⟨"com/example/nimble_quorum/nimblequorum/quorum/PeerState", "of", "(I)Lcom/example/nimble_quorum/nimblequorum/quorum/PeerState;"⟩ : MethodName) prog_14_method_5_code 6 (some (.object "com/example/nimble_quorum/nimblequorum/quorum/PeerState")) :: ws) ({ frames := 2, cells := 1, slots := 3, locals := 25 } : Room)) (fun a U => a = #[(.int v1)] ∧ Z.Warmed39 U.vm ∧ U.heap = h0) (fun _ _ _ _ _ => True) (fun _ U o U' => ∃ v L, o = .returned v ∧ OwnQ_own_of_7 Z wVALUES wLOOKING wFOLLOWING wLEADING kVALUES v1 h0 n0 v U'.heap L ∧ FrameEnd U o U' L ({ frames := 2, cells := 1, slots := 3, locals := 25 } : Room).cells ({ frames := 2, cells := 1, slots := 3, locals := 25 } : Room).slots) := by
  refine MetFree.of_bodySF (plainFor_of_name own_pn_1) hisR ?_
  intro p e s m args below meth c s₁ Bd hml0 hP hK
  obtain ⟨rfl, hZ, hh⟩ := hP
  have hx := Bd.exec
  have hby := Bd.bytes
  have hml : c.maxLocals = 6 := hml0
  have hown : s.vm.findClass "com/example/nimble_quorum/nimblequorum/quorum/PeerState" = some m.cls := findClass_of_methodNamed Bd.named
  have hnm := (name_of_methodNamed Bd.named Bd.method).1
  have X0 : Stand p l e ({ frames := 2, cells := 1, slots := 3, locals := 25 } : Room) s m #[(.int v1)] below meth c s₁ [] 0 0 := Stand.of_body Bd
  have e0 : s₁.heap = h0 := by rw [← hh, Bd.state]; rfl
  have N0 := Fr.nil n0
  have pre0 : ∀ t, Steps p.tables e below (s₁.setTop (mkF m 0 #[.val (.int v1), .unset, .unset, .unset, .unset, .unset] [])) t → Steps p.tables e below (s₁.setTop (entryFrame m #[(.int v1)] 6)) t := fun t k => castTop (own_ef_1_I m v1) k
  obtain ⟨_, _, ⟨T1, L1, k1, n1⟩, -, X1, ⟨Lc1, hQ1, l1, y1, z1⟩, st1⟩ := Jvm.LawKit.callS X0 hx (y := (⟨"com/example/nimble_quorum/nimblequorum/quorum/PeerState", "values", "()[Lcom/example/nimble_quorum/nimblequorum/quorum/PeerState;"⟩ : MethodName)) hown (mvT hZ (hw _ (List.mem_of_getElem? (i := 4) rfl))) (mvT hZ (hw _ (List.mem_of_getElem? (i := 5) rfl))) (mvT hZ (hw _ (List.mem_of_getElem? (i := 2) rfl))) (mvT hZ (hw _ (List.mem_of_getElem? (i := 6) rfl))) (by decide) (backOf (W := 0) (own_values_1 l Z a0 hw [] wVALUES wLOOKING wFOLLOWING wLEADING kVALUES G h0 n0 O0) hZ (hw _ (List.mem_of_getElem? (i := 6) rfl)) (hw _ (List.mem_of_getElem? (i := 2) rfl)) (by decide) (by decide)) (g := (mkF m 2 #[.val (.int v1), .val .null, .unset, .unset, .unset, .unset] [])) rfl (by rw [hml]; rfl) (argsL := []) (rest := []) (lenOf own_pd_0 rfl) rfl (by show 2 * 0 + _ ≤ _; exact Nat.le_of_eq rfl) (hb hby own_d1_2) (fun _ _ => ⟨rfl, e0, (by decide : 0 + 1 ≤ _), (by decide : 0 + 3 ≤ _)⟩)
  dsimp only [Pt.U, Pt.locs, Pt.cells, Pt.slots] at X1 l1 y1 z1 st1 hQ1
  subst l1 y1 z1
  obtain ⟨b2_1, rfl, N1q, Kq1, ge_b2_1, sq_b2_1, q1_V_b2, q1_E_b2⟩ := hQ1
  have N1 := Fr.app N0 N1q
  have sz_b2_1 : h0.size ≤ b2_1 := Nat.le_trans (Keep.refl h0 []).1 sq_b2_1
  have O1 := O0.keep Kq1 all0
  have K1 := (Keep.refl h0 []).trans Kq1 all0
  obtain ⟨cl2, Ar2, qk2, Sz2, Nn2, Hs2, Gs2⟩ := id (q1_V_b2)
  have hin3 : ¬ ((0 : Int32) < 0 ∨ cl2.slots.size ≤ ((0 : Int32)).toNatClampNeg) := inb_of Sz2 ⟨by decide, by decide⟩
  have hat3 : cl2.slots[((0 : Int32)).toNatClampNeg]? = some (.ref wLOOKING) := Hs2.at hin3 rfl
  obtain ⟨T4, X4, e4, st4⟩ := getF X1 hx hZ hown (host := "") (Or.inl (hw _ (List.mem_of_getElem? (i := 22) rfl))) Via.refl rfl (G.2.2.2.2.2.2.2.2.1.ext O1.2) (g := (mkF m 26 #[.val (.int v1), .val .null, .val (.ref b2_1), .val (.int (3 : Int32)), .val (.int (0 : Int32)), .val (.ref wLOOKING)] [(.ref wLOOKING)])) rfl rfl (hb hby own_d1_26)
  have hin5 : ¬ ((1 : Int32) < 0 ∨ cl2.slots.size ≤ ((1 : Int32)).toNatClampNeg) := inb_of Sz2 ⟨by decide, by decide⟩
  have hat5 : cl2.slots[((1 : Int32)).toNatClampNeg]? = some (.ref wFOLLOWING) := Hs2.at hin5 rfl
  obtain ⟨T6, X6, e6, st6⟩ := getF X4 hx hZ hown (host := "") (Or.inl (hw _ (List.mem_of_getElem? (i := 22) rfl))) Via.refl e4 (G.2.2.2.2.2.2.2.2.2.1.ext O1.2) (g := (mkF m 26 #[.val (.int v1), .val .null, .val (.ref b2_1), .val (.int (3 : Int32)), .val (.int (1 : Int32)), .val (.ref wFOLLOWING)] [(.ref wFOLLOWING)])) rfl rfl (hb hby own_d1_26)
  have hin7 : ¬ ((2 : Int32) < 0 ∨ cl2.slots.size ≤ ((2 : Int32)).toNatClampNeg) := inb_of Sz2 ⟨by decide, by decide⟩
  have hat7 : cl2.slots[((2 : Int32)).toNatClampNeg]? = some (.ref wLEADING) := Hs2.at hin7 rfl
  obtain ⟨T8, X8, e8, st8⟩ := getF X6 hx hZ hown (host := "") (Or.inl (hw _ (List.mem_of_getElem? (i := 22) rfl))) Via.refl e6 (G.2.2.2.2.2.2.2.2.2.2.1.ext O1.2) (g := (mkF m 26 #[.val (.int v1), .val .null, .val (.ref b2_1), .val (.int (3 : Int32)), .val (.int (2 : Int32)), .val (.ref wLEADING)] [(.ref wLEADING)])) rfl rfl (hb hby own_d1_26)
  obtain ⟨fs, hr, hrun, hended, hW, hsame⟩ := X8.leave (v := some .null) (fun h => by rw [Bd.returns] at h; cases h)
  refine ⟨_, _, pre0 _ ?_, hrun, hended, _, _, rfl, ?_, ⟨_, rfl⟩, hW, hsame.mono (by decide) (by decide)⟩
  · show Steps p.tables e below (s₁.setTop (mkF m 0 #[.val (.int v1), .unset, .unset, .unset, .unset, .unset] [])) _
    refine XS.aconstNull X0.here hx rfl (hb hby own_d1_0) ?_
    show Steps p.tables e below (s₁.setTop (mkF m 1 #[.val (.int v1), .unset, .unset, .unset, .unset, .unset] [.null])) _
    refine XS.astoreN X0.here hx rfl (hb hby own_d1_1) rfl rfl (l' := #[.val (.int v1), .val .null, .unset, .unset, .unset, .unset]) rfl ?_
    show Steps p.tables e below (s₁.setTop (mkF m 2 #[.val (.int v1), .val .null, .unset, .unset, .unset, .unset] [])) _
    refine st1 _ ?_
    show Steps p.tables e below (T1.setTop (mkF m 5 #[.val (.int v1), .val .null, .unset, .unset, .unset, .unset] [(.ref b2_1)])) _
    refine XS.astoreN X1.here hx rfl (hb hby own_d1_5) rfl rfl (l' := #[.val (.int v1), .val .null, .val (.ref b2_1), .unset, .unset, .unset]) rfl ?_
    show Steps p.tables e below (T1.setTop (mkF m 6 #[.val (.int v1), .val .null, .val (.ref b2_1), .unset, .unset, .unset] [])) _
    refine XS.aloadN X1.here hx rfl (hb hby own_d1_6) rfl rfl ?_
    show Steps p.tables e below (T1.setTop (mkF m 7 #[.val (.int v1), .val .null, .val (.ref b2_1), .unset, .unset, .unset] [(.ref b2_1)])) _
    refine X1.arraylength hx Ar2.1 (State.isArrayOf_alike hZ.alike Ar2.2.1) (g := (mkF m 7 #[.val (.int v1), .val .null, .val (.ref b2_1), .unset, .unset, .unset] [(.ref b2_1)])) rfl rfl (hb hby own_d1_7) _ ?_
    rw [len_of Sz2 Nn2]
    show Steps p.tables e below (T1.setTop (mkF m 8 #[.val (.int v1), .val .null, .val (.ref b2_1), .unset, .unset, .unset] [(.int (3 : Int32))])) _
    refine XS.istoreN X1.here hx rfl (hb hby own_d1_8) rfl (l' := #[.val (.int v1), .val .null, .val (.ref b2_1), .val (.int (3 : Int32)), .unset, .unset]) rfl ?_
    show Steps p.tables e below (T1.setTop (mkF m 9 #[.val (.int v1), .val .null, .val (.ref b2_1), .val (.int (3 : Int32)), .unset, .unset] [])) _
    refine XS.iconst X1.here hx rfl (hb hby own_d1_9) ?_
    show Steps p.tables e below (T1.setTop (mkF m 10 #[.val (.int v1), .val .null, .val (.ref b2_1), .val (.int (3 : Int32)), .unset, .unset] [(.int (0 : Int32))])) _
    refine XS.istore X1.here hx rfl (hb hby own_d1_10) rfl (l' := #[.val (.int v1), .val .null, .val (.ref b2_1), .val (.int (3 : Int32)), .val (.int (0 : Int32)), .unset]) rfl ?_
    show Steps p.tables e below (T1.setTop (mkF m 12 #[.val (.int v1), .val .null, .val (.ref b2_1), .val (.int (3 : Int32)), .val (.int (0 : Int32)), .unset] [])) _
    refine XS.iload X1.here hx rfl (hb hby own_d1_12) rfl ?_
    show Steps p.tables e below (T1.setTop (mkF m 14 #[.val (.int v1), .val .null, .val (.ref b2_1), .val (.int (3 : Int32)), .val (.int (0 : Int32)), .unset] [(.int (0 : Int32))])) _
    refine XS.iloadN X1.here hx rfl (hb hby own_d1_14) rfl ?_
    show Steps p.tables e below (T1.setTop (mkF m 15 #[.val (.int v1), .val .null, .val (.ref b2_1), .val (.int (3 : Int32)), .val (.int (0 : Int32)), .unset] [(.int (3 : Int32)), (.int (0 : Int32))])) _
    refine XS.icmpNo X1.here hx rfl (hb hby own_d1_15) rfl (by decide) ?_
    show Steps p.tables e below (T1.setTop (mkF m 18 #[.val (.int v1), .val .null, .val (.ref b2_1), .val (.int (3 : Int32)), .val (.int (0 : Int32)), .unset] [])) _
    refine XS.aloadN X1.here hx rfl (hb hby own_d1_18) rfl rfl ?_
    show Steps p.tables e below (T1.setTop (mkF m 19 #[.val (.int v1), .val .null, .val (.ref b2_1), .val (.int (3 : Int32)), .val (.int (0 : Int32)), .unset] [(.ref b2_1)])) _
    refine XS.iload X1.here hx rfl (hb hby own_d1_19) rfl ?_
    show Steps p.tables e below (T1.setTop (mkF m 21 #[.val (.int v1), .val .null, .val (.ref b2_1), .val (.int (3 : Int32)), .val (.int (0 : Int32)), .unset] [(.int (0 : Int32)), (.ref b2_1)])) _
    refine X1.aaload hx (j := (0 : Int32)) (v := (.ref wLOOKING)) Ar2.1 (State.isArrayOf_alike hZ.alike Ar2.2.1) rfl Ar2.2.2 hin3 hat3 (g := (mkF m 21 #[.val (.int v1), .val .null, .val (.ref b2_1), .val (.int (3 : Int32)), .val (.int (0 : Int32)), .unset] [(.int (0 : Int32)), (.ref b2_1)])) rfl rfl (hb hby own_d1_21) _ ?_
    show Steps p.tables e below (T1.setTop (mkF m 22 #[.val (.int v1), .val .null, .val (.ref b2_1), .val (.int (3 : Int32)), .val (.int (0 : Int32)), .unset] [(.ref wLOOKING)])) _
    refine XS.astore X1.here hx rfl (hb hby own_d1_22) rfl rfl (l' := #[.val (.int v1), .val .null, .val (.ref b2_1), .val (.int (3 : Int32)), .val (.int (0 : Int32)), .val (.ref wLOOKING)]) rfl ?_
    show Steps p.tables e below (T1.setTop (mkF m 24 #[.val (.int v1), .val .null, .val (.ref b2_1), .val (.int (3 : Int32)), .val (.int (0 : Int32)), .val (.ref wLOOKING)] [])) _
    refine XS.aload X1.here hx rfl (hb hby own_d1_24) rfl rfl ?_
    show Steps p.tables e below (T1.setTop (mkF m 26 #[.val (.int v1), .val .null, .val (.ref b2_1), .val (.int (3 : Int32)), .val (.int (0 : Int32)), .val (.ref wLOOKING)] [(.ref wLOOKING)])) _
    refine st4 _ ?_
    show Steps p.tables e below (T4.setTop (mkF m 29 #[.val (.int v1), .val .null, .val (.ref b2_1), .val (.int (3 : Int32)), .val (.int (0 : Int32)), .val (.ref wLOOKING)] [(.int (0 : Int32))])) _
    refine XS.iloadN X4.here hx rfl (hb hby own_d1_29) rfl ?_
    show Steps p.tables e below (T4.setTop (mkF m 30 #[.val (.int v1), .val .null, .val (.ref b2_1), .val (.int (3 : Int32)), .val (.int (0 : Int32)), .val (.ref wLOOKING)] [(.int v1), (.int (0 : Int32))])) _
    refine XS.icmpYes X4.here hx rfl (pc0 := 30) (pc' := 36) rfl (hb hby own_d1_30) rfl (feq ((Ne.symm hp1) : ¬ ((0 : Int32) = v1))).2 (by decide) (by decide) ?_
    show Steps p.tables e below (T4.setTop (mkF m 36 #[.val (.int v1), .val .null, .val (.ref b2_1), .val (.int (3 : Int32)), .val (.int (0 : Int32)), .val (.ref wLOOKING)] [])) _
    refine XS.iinc X4.here hx rfl (hb hby own_d1_36) rfl (l' := #[.val (.int v1), .val .null, .val (.ref b2_1), .val (.int (3 : Int32)), .val (.int (1 : Int32)), .val (.ref wLOOKING)]) rfl ?_
    show Steps p.tables e below (T4.setTop (mkF m 39 #[.val (.int v1), .val .null, .val (.ref b2_1), .val (.int (3 : Int32)), .val (.int (1 : Int32)), .val (.ref wLOOKING)] [])) _
    refine XS.goto X4.here hx rfl (pc0 := 39) (pc' := 12) rfl (hb hby own_d1_39) (by decide) (by decide) ?_
    show Steps p.tables e below (T4.setTop (mkF m 12 #[.val (.int v1), .val .null, .val (.ref b2_1), .val (.int (3 : Int32)), .val (.int (1 : Int32)), .val (.ref wLOOKING)] [])) _
    refine XS.iload X4.here hx rfl (hb hby own_d1_12) rfl ?_
    show Steps p.tables e below (T4.setTop (mkF m 14 #[.val (.int v1), .val .null, .val (.ref b2_1), .val (.int (3 : Int32)), .val (.int (1 : Int32)), .val (.ref wLOOKING)] [(.int (1 : Int32))])) _
    refine XS.iloadN X4.here hx rfl (hb hby own_d1_14) rfl ?_
    show Steps p.tables e below (T4.setTop (mkF m 15 #[.val (.int v1), .val .null, .val (.ref b2_1), .val (.int (3 : Int32)), .val (.int (1 : Int32)), .val (.ref wLOOKING)] [(.int (3 : Int32)), (.int (1 : Int32))])) _
    refine XS.icmpNo X4.here hx rfl (hb hby own_d1_15) rfl (by decide) ?_
    show Steps p.tables e below (T4.setTop (mkF m 18 #[.val (.int v1), .val .null, .val (.ref b2_1), .val (.int (3 : Int32)), .val (.int (1 : Int32)), .val (.ref wLOOKING)] [])) _
    refine XS.aloadN X4.here hx rfl (hb hby own_d1_18) rfl rfl ?_
    show Steps p.tables e below (T4.setTop (mkF m 19 #[.val (.int v1), .val .null, .val (.ref b2_1), .val (.int (3 : Int32)), .val (.int (1 : Int32)), .val (.ref wLOOKING)] [(.ref b2_1)])) _
    refine XS.iload X4.here hx rfl (hb hby own_d1_19) rfl ?_
    show Steps p.tables e below (T4.setTop (mkF m 21 #[.val (.int v1), .val .null, .val (.ref b2_1), .val (.int (3 : Int32)), .val (.int (1 : Int32)), .val (.ref wLOOKING)] [(.int (1 : Int32)), (.ref b2_1)])) _
    refine X4.aaload hx (j := (1 : Int32)) (v := (.ref wFOLLOWING)) (by rw [e4]; exact Ar2.1) (State.isArrayOf_alike hZ.alike Ar2.2.1) rfl Ar2.2.2 hin5 hat5 (g := (mkF m 21 #[.val (.int v1), .val .null, .val (.ref b2_1), .val (.int (3 : Int32)), .val (.int (1 : Int32)), .val (.ref wLOOKING)] [(.int (1 : Int32)), (.ref b2_1)])) rfl rfl (hb hby own_d1_21) _ ?_
    show Steps p.tables e below (T4.setTop (mkF m 22 #[.val (.int v1), .val .null, .val (.ref b2_1), .val (.int (3 : Int32)), .val (.int (1 : Int32)), .val (.ref wLOOKING)] [(.ref wFOLLOWING)])) _
    refine XS.astore X4.here hx rfl (hb hby own_d1_22) rfl rfl (l' := #[.val (.int v1), .val .null, .val (.ref b2_1), .val (.int (3 : Int32)), .val (.int (1 : Int32)), .val (.ref wFOLLOWING)]) rfl ?_
    show Steps p.tables e below (T4.setTop (mkF m 24 #[.val (.int v1), .val .null, .val (.ref b2_1), .val (.int (3 : Int32)), .val (.int (1 : Int32)), .val (.ref wFOLLOWING)] [])) _
    refine XS.aload X4.here hx rfl (hb hby own_d1_24) rfl rfl ?_
    show Steps p.tables e below (T4.setTop (mkF m 26 #[.val (.int v1), .val .null, .val (.ref b2_1), .val (.int (3 : Int32)), .val (.int (1 : Int32)), .val (.ref wFOLLOWING)] [(.ref wFOLLOWING)])) _
    refine st6 _ ?_
    show Steps p.tables e below (T6.setTop (mkF m 29 #[.val (.int v1), .val .null, .val (.ref b2_1), .val (.int (3 : Int32)), .val (.int (1 : Int32)), .val (.ref wFOLLOWING)] [(.int (1 : Int32))])) _
    refine XS.iloadN X6.here hx rfl (hb hby own_d1_29) rfl ?_
    show Steps p.tables e below (T6.setTop (mkF m 30 #[.val (.int v1), .val .null, .val (.ref b2_1), .val (.int (3 : Int32)), .val (.int (1 : Int32)), .val (.ref wFOLLOWING)] [(.int v1), (.int (1 : Int32))])) _
    refine XS.icmpYes X6.here hx rfl (pc0 := 30) (pc' := 36) rfl (hb hby own_d1_30) rfl (feq ((Ne.symm hp2) : ¬ ((1 : Int32) = v1))).2 (by decide) (by decide) ?_
    show Steps p.tables e below (T6.setTop (mkF m 36 #[.val (.int v1), .val .null, .val (.ref b2_1), .val (.int (3 : Int32)), .val (.int (1 : Int32)), .val (.ref wFOLLOWING)] [])) _
    refine XS.iinc X6.here hx rfl (hb hby own_d1_36) rfl (l' := #[.val (.int v1), .val .null, .val (.ref b2_1), .val (.int (3 : Int32)), .val (.int (2 : Int32)), .val (.ref wFOLLOWING)]) rfl ?_
    show Steps p.tables e below (T6.setTop (mkF m 39 #[.val (.int v1), .val .null, .val (.ref b2_1), .val (.int (3 : Int32)), .val (.int (2 : Int32)), .val (.ref wFOLLOWING)] [])) _
    refine XS.goto X6.here hx rfl (pc0 := 39) (pc' := 12) rfl (hb hby own_d1_39) (by decide) (by decide) ?_
    show Steps p.tables e below (T6.setTop (mkF m 12 #[.val (.int v1), .val .null, .val (.ref b2_1), .val (.int (3 : Int32)), .val (.int (2 : Int32)), .val (.ref wFOLLOWING)] [])) _
    refine XS.iload X6.here hx rfl (hb hby own_d1_12) rfl ?_
    show Steps p.tables e below (T6.setTop (mkF m 14 #[.val (.int v1), .val .null, .val (.ref b2_1), .val (.int (3 : Int32)), .val (.int (2 : Int32)), .val (.ref wFOLLOWING)] [(.int (2 : Int32))])) _
    refine XS.iloadN X6.here hx rfl (hb hby own_d1_14) rfl ?_
    show Steps p.tables e below (T6.setTop (mkF m 15 #[.val (.int v1), .val .null, .val (.ref b2_1), .val (.int (3 : Int32)), .val (.int (2 : Int32)), .val (.ref wFOLLOWING)] [(.int (3 : Int32)), (.int (2 : Int32))])) _
    refine XS.icmpNo X6.here hx rfl (hb hby own_d1_15) rfl (by decide) ?_
    show Steps p.tables e below (T6.setTop (mkF m 18 #[.val (.int v1), .val .null, .val (.ref b2_1), .val (.int (3 : Int32)), .val (.int (2 : Int32)), .val (.ref wFOLLOWING)] [])) _
    refine XS.aloadN X6.here hx rfl (hb hby own_d1_18) rfl rfl ?_
    show Steps p.tables e below (T6.setTop (mkF m 19 #[.val (.int v1), .val .null, .val (.ref b2_1), .val (.int (3 : Int32)), .val (.int (2 : Int32)), .val (.ref wFOLLOWING)] [(.ref b2_1)])) _
    refine XS.iload X6.here hx rfl (hb hby own_d1_19) rfl ?_
    show Steps p.tables e below (T6.setTop (mkF m 21 #[.val (.int v1), .val .null, .val (.ref b2_1), .val (.int (3 : Int32)), .val (.int (2 : Int32)), .val (.ref wFOLLOWING)] [(.int (2 : Int32)), (.ref b2_1)])) _
    refine X6.aaload hx (j := (2 : Int32)) (v := (.ref wLEADING)) (by rw [e6]; exact Ar2.1) (State.isArrayOf_alike hZ.alike Ar2.2.1) rfl Ar2.2.2 hin7 hat7 (g := (mkF m 21 #[.val (.int v1), .val .null, .val (.ref b2_1), .val (.int (3 : Int32)), .val (.int (2 : Int32)), .val (.ref wFOLLOWING)] [(.int (2 : Int32)), (.ref b2_1)])) rfl rfl (hb hby own_d1_21) _ ?_
    show Steps p.tables e below (T6.setTop (mkF m 22 #[.val (.int v1), .val .null, .val (.ref b2_1), .val (.int (3 : Int32)), .val (.int (2 : Int32)), .val (.ref wFOLLOWING)] [(.ref wLEADING)])) _
    refine XS.astore X6.here hx rfl (hb hby own_d1_22) rfl rfl (l' := #[.val (.int v1), .val .null, .val (.ref b2_1), .val (.int (3 : Int32)), .val (.int (2 : Int32)), .val (.ref wLEADING)]) rfl ?_
    show Steps p.tables e below (T6.setTop (mkF m 24 #[.val (.int v1), .val .null, .val (.ref b2_1), .val (.int (3 : Int32)), .val (.int (2 : Int32)), .val (.ref wLEADING)] [])) _
    refine XS.aload X6.here hx rfl (hb hby own_d1_24) rfl rfl ?_
    show Steps p.tables e below (T6.setTop (mkF m 26 #[.val (.int v1), .val .null, .val (.ref b2_1), .val (.int (3 : Int32)), .val (.int (2 : Int32)), .val (.ref wLEADING)] [(.ref wLEADING)])) _
    refine st8 _ ?_
    show Steps p.tables e below (T8.setTop (mkF m 29 #[.val (.int v1), .val .null, .val (.ref b2_1), .val (.int (3 : Int32)), .val (.int (2 : Int32)), .val (.ref wLEADING)] [(.int (2 : Int32))])) _
    refine XS.iloadN X8.here hx rfl (hb hby own_d1_29) rfl ?_
    show Steps p.tables e below (T8.setTop (mkF m 30 #[.val (.int v1), .val .null, .val (.ref b2_1), .val (.int (3 : Int32)), .val (.int (2 : Int32)), .val (.ref wLEADING)] [(.int v1), (.int (2 : Int32))])) _
    refine XS.icmpYes X8.here hx rfl (pc0 := 30) (pc' := 36) rfl (hb hby own_d1_30) rfl (feq ((Ne.symm hp3) : ¬ ((2 : Int32) = v1))).2 (by decide) (by decide) ?_
    show Steps p.tables e below (T8.setTop (mkF m 36 #[.val (.int v1), .val .null, .val (.ref b2_1), .val (.int (3 : Int32)), .val (.int (2 : Int32)), .val (.ref wLEADING)] [])) _
    refine XS.iinc X8.here hx rfl (hb hby own_d1_36) rfl (l' := #[.val (.int v1), .val .null, .val (.ref b2_1), .val (.int (3 : Int32)), .val (.int (3 : Int32)), .val (.ref wLEADING)]) rfl ?_
    show Steps p.tables e below (T8.setTop (mkF m 39 #[.val (.int v1), .val .null, .val (.ref b2_1), .val (.int (3 : Int32)), .val (.int (3 : Int32)), .val (.ref wLEADING)] [])) _
    refine XS.goto X8.here hx rfl (pc0 := 39) (pc' := 12) rfl (hb hby own_d1_39) (by decide) (by decide) ?_
    show Steps p.tables e below (T8.setTop (mkF m 12 #[.val (.int v1), .val .null, .val (.ref b2_1), .val (.int (3 : Int32)), .val (.int (3 : Int32)), .val (.ref wLEADING)] [])) _
    refine XS.iload X8.here hx rfl (hb hby own_d1_12) rfl ?_
    show Steps p.tables e below (T8.setTop (mkF m 14 #[.val (.int v1), .val .null, .val (.ref b2_1), .val (.int (3 : Int32)), .val (.int (3 : Int32)), .val (.ref wLEADING)] [(.int (3 : Int32))])) _
    refine XS.iloadN X8.here hx rfl (hb hby own_d1_14) rfl ?_
    show Steps p.tables e below (T8.setTop (mkF m 15 #[.val (.int v1), .val .null, .val (.ref b2_1), .val (.int (3 : Int32)), .val (.int (3 : Int32)), .val (.ref wLEADING)] [(.int (3 : Int32)), (.int (3 : Int32))])) _
    refine XS.icmpYes X8.here hx rfl (pc0 := 15) (pc' := 42) rfl (hb hby own_d1_15) rfl (by decide) (by decide) (by decide) ?_
    show Steps p.tables e below (T8.setTop (mkF m 42 #[.val (.int v1), .val .null, .val (.ref b2_1), .val (.int (3 : Int32)), .val (.int (3 : Int32)), .val (.ref wLEADING)] [])) _
    refine XS.aloadN X8.here hx rfl (hb hby own_d1_42) rfl rfl ?_
    show Steps p.tables e below (T8.setTop (mkF m 43 #[.val (.int v1), .val .null, .val (.ref b2_1), .val (.int (3 : Int32)), .val (.int (3 : Int32)), .val (.ref wLEADING)] [.null])) _
    jvm_step X8.here [X8.here.top, hx, (hb hby own_d1_43), X8.method', Bd.returns, Value.isRef, FieldType.isReference]
    first | (intro acts; rw [hr _ acts rfl rfl rfl]) | rw [hr _ _ rfl rfl rfl]
    exact Steps.refl _
  · show OwnQ_own_of_7 Z wVALUES wLOOKING wFOLLOWING wLEADING kVALUES v1 h0 n0 _ T8.heap _
    rw [e8]
    exact ⟨rfl, N1, K1⟩
theorem own_d3_26 : decode method_2_code 26 = .ok (.aconst_null, 1) := by decide +kernel
theorem own_d3_27 : decode method_2_code 27 = .ok (.areturn, 1) := by decide +kernel
set_option maxRecDepth 65536 in
set_option maxHeartbeats 40000000 in
theorem own_expected_8 (l : Launch) (Z : State) (a0 : Array Value) (hw : ∀ d ∈ tables_1, d.before a0 Z = true) (ws : List Jvm.Cond) (wVALUES : Addr) (wLOOKING : Addr) (wFOLLOWING : Addr) (wLEADING : Addr) (kVALUES : ClassId) (G : OwnG Z wVALUES wLOOKING wFOLLOWING wLEADING kVALUES) (h0 : Heap) (n0 : Nat) (O0 : Old Z n0 h0) (v1 : Int32) (hp1 : ¬ (v1 = (0 : Int32))) (hp2 : ¬ (v1 = (1 : Int32))) (hp3 : ¬ (v1 = (2 : Int32))) :
    MetFree l (⟨"com/example/nimble_quorum/nimblequorum/quorum/PeerStateOfPinLaw", "expected", "(I)Lcom/example/nimble_quorum/nimblequorum/quorum/PeerState;"⟩ : MethodName) (head1 (Jvm.Cond.code (⟨"com/example/nimble_quorum/nimblequorum/quorum/PeerStateOfPinLaw", "expected", "(I)Lcom/example/nimble_quorum/nimblequorum/quorum/PeerState;"⟩ : MethodName) method_2_code 1 (some (.object "com/example/nimble_quorum/nimblequorum/quorum/PeerState")) :: ws) ({ frames := 0, cells := 0, slots := 0, locals := 0 } : Room)) (fun a U => a = #[(.int v1)] ∧ Z.Warmed39 U.vm ∧ U.heap = h0) (fun _ _ _ _ _ => True) (fun _ U o U' => ∃ v L, o = .returned v ∧ OwnQ (some .null) h0 n0 v U'.heap L ∧ FrameEnd U o U' L ({ frames := 0, cells := 0, slots := 0, locals := 0 } : Room).cells ({ frames := 0, cells := 0, slots := 0, locals := 0 } : Room).slots) := by
  refine MetFree.of_bodySF (plainFor_of_name own_pn_0) hisR ?_
  intro p e s m args below meth c s₁ Bd hml0 hP hK
  obtain ⟨rfl, hZ, hh⟩ := hP
  have hx := Bd.exec
  have hby := Bd.bytes
  have hml : c.maxLocals = 1 := hml0
  have hown : s.vm.findClass "com/example/nimble_quorum/nimblequorum/quorum/PeerStateOfPinLaw" = some m.cls := findClass_of_methodNamed Bd.named
  have hnm := (name_of_methodNamed Bd.named Bd.method).1
  have X0 : Stand p l e ({ frames := 0, cells := 0, slots := 0, locals := 0 } : Room) s m #[(.int v1)] below meth c s₁ [] 0 0 := Stand.of_body Bd
  have e0 : s₁.heap = h0 := by rw [← hh, Bd.state]; rfl
  have N0 := Fr.nil n0
  have pre0 : ∀ t, Steps p.tables e below (s₁.setTop (mkF m 0 #[.val (.int v1)] [])) t → Steps p.tables e below (s₁.setTop (entryFrame m #[(.int v1)] 1)) t := fun t k => castTop (own_ef_3_I m v1) k
  obtain ⟨fs, hr, hrun, hended, hW, hsame⟩ := X0.leave (v := some .null) (fun h => by rw [Bd.returns] at h; cases h)
  refine ⟨_, _, pre0 _ ?_, hrun, hended, _, _, rfl, ?_, ⟨_, rfl⟩, hW, hsame.mono (by decide) (by decide)⟩
  · show Steps p.tables e below (s₁.setTop (mkF m 0 #[.val (.int v1)] [])) _
    refine XS.iloadN X0.here hx rfl (hb hby own_d3_0) rfl ?_
    show Steps p.tables e below (s₁.setTop (mkF m 1 #[.val (.int v1)] [(.int v1)])) _
    refine XS.ifYes X0.here hx rfl (pc0 := 1) (pc' := 8) rfl (hb hby own_d3_1) rfl ((if0 _ _).trans (feq (hp1 : ¬ (v1 = (0 : Int32)))).2) (by decide) (by decide) ?_
    show Steps p.tables e below (s₁.setTop (mkF m 8 #[.val (.int v1)] [])) _
    refine XS.iloadN X0.here hx rfl (hb hby own_d3_8) rfl ?_
    show Steps p.tables e below (s₁.setTop (mkF m 9 #[.val (.int v1)] [(.int v1)])) _
    refine XS.iconst X0.here hx rfl (hb hby own_d3_9) ?_
    show Steps p.tables e below (s₁.setTop (mkF m 10 #[.val (.int v1)] [(.int (1 : Int32)), (.int v1)])) _
    refine XS.icmpYes X0.here hx rfl (pc0 := 10) (pc' := 17) rfl (hb hby own_d3_10) rfl (feq (hp2 : ¬ (v1 = (1 : Int32)))).2 (by decide) (by decide) ?_
    show Steps p.tables e below (s₁.setTop (mkF m 17 #[.val (.int v1)] [])) _
    refine XS.iloadN X0.here hx rfl (hb hby own_d3_17) rfl ?_
    show Steps p.tables e below (s₁.setTop (mkF m 18 #[.val (.int v1)] [(.int v1)])) _
    refine XS.iconst X0.here hx rfl (hb hby own_d3_18) ?_
    show Steps p.tables e below (s₁.setTop (mkF m 19 #[.val (.int v1)] [(.int (2 : Int32)), (.int v1)])) _
    refine XS.icmpYes X0.here hx rfl (pc0 := 19) (pc' := 26) rfl (hb hby own_d3_19) rfl (feq (hp3 : ¬ (v1 = (2 : Int32)))).2 (by decide) (by decide) ?_
    show Steps p.tables e below (s₁.setTop (mkF m 26 #[.val (.int v1)] [])) _
    refine XS.aconstNull X0.here hx rfl (hb hby own_d3_26) ?_
    show Steps p.tables e below (s₁.setTop (mkF m 27 #[.val (.int v1)] [.null])) _
    jvm_step X0.here [X0.here.top, hx, (hb hby own_d3_27), X0.method', Bd.returns, Value.isRef, FieldType.isReference]
    first | (intro acts; rw [hr _ acts rfl rfl rfl]) | rw [hr _ _ rfl rfl rfl]
    exact Steps.refl _
  · show OwnQ _ h0 n0 _ s₁.heap _
    exact ⟨rfl, N0, e0⟩
set_option maxRecDepth 65536 in
set_option maxHeartbeats 40000000 in
theorem own_law_03 (l : Launch) (Z : State) (a0 : Array Value) (hw : ∀ d ∈ tables_1, d.before a0 Z = true) (ws : List Jvm.Cond) (wVALUES : Addr) (wLOOKING : Addr) (wFOLLOWING : Addr) (wLEADING : Addr) (kVALUES : ClassId) (G : OwnG Z wVALUES wLOOKING wFOLLOWING wLEADING kVALUES) (h0 : Heap) (n0 : Nat) (O0 : Old Z n0 h0) (p1 : Int32) (p2 : Int32) (d : Int32) (c0 : p1 = (0 : Int32)) (c1 : ¬ (p1 = (1 : Int32))) (c2 : ¬ (p1 = (2 : Int32))) (hd : ((p2 &&& (7 : Int32)) - (2 : Int32)) = d) (d0 : ¬ (d = (0 : Int32))) (d1 : ¬ (d = (1 : Int32))) (d2 : ¬ (d = (2 : Int32))) :
    MetFree l x (head1 (Jvm.Cond.code x code maxLocals ret :: ws) room_1) (fun a U => a = #[(.int p1), (.int p2)] ∧ Z.Warmed39 U.vm ∧ U.heap = h0) (fun _ _ _ _ _ => True) (fun _ U o U' => ∃ v L, o = .returned v ∧ (v = some (.int 1) ∧ Fr n0 L) ∧ FrameEnd U o U' L room_1.cells room_1.slots) := by
  refine MetFree.of_bodySF (plainFor_of_name own_pn_0) hisR ?_
  intro p e s m args below meth c s₁ Bd hml0 hP hK
  obtain ⟨rfl, hZ, hh⟩ := hP
  have hx := Bd.exec
  have hby := Bd.bytes
  have hml : c.maxLocals = 5 := hml0
  have hown : s.vm.findClass "com/example/nimble_quorum/nimblequorum/quorum/PeerStateOfPinLaw" = some m.cls := findClass_of_methodNamed Bd.named
  have hnm := (name_of_methodNamed Bd.named Bd.method).1
  have X0 : Stand p l e room_1 s m #[(.int p1), (.int p2)] below meth c s₁ [] 0 0 := Stand.of_body Bd
  have e0 : s₁.heap = h0 := by rw [← hh, Bd.state]; rfl
  have N0 := Fr.nil n0
  have pre0 : ∀ t, Steps p.tables e below (s₁.setTop (mkF m 0 #[.val (.int p1), .val (.int p2), .unset, .unset, .unset] [])) t → Steps p.tables e below (s₁.setTop (entryFrame m #[(.int p1), (.int p2)] maxLocals)) t := fun t k => castTop (own_ef_0_II m p1 p2) k
  obtain ⟨_, _, ⟨T1, L1, k1, n1⟩, -, X1, ⟨Lc1, hQ1, l1, y1, z1⟩, st1⟩ := Jvm.LawKit.callS X0 hx (y := (⟨"com/example/nimble_quorum/nimblequorum/quorum/PeerState", "of", "(I)Lcom/example/nimble_quorum/nimblequorum/quorum/PeerState;"⟩ : MethodName)) hown (mvT hZ (hw _ (List.mem_of_getElem? (i := 0) rfl))) (mvT hZ (hw _ (List.mem_of_getElem? (i := 1) rfl))) (mvT hZ (hw _ (List.mem_of_getElem? (i := 2) rfl))) (mvT hZ (hw _ (List.mem_of_getElem? (i := 3) rfl))) (by decide) (backOf (W := 0) (own_of_0 l Z a0 hw [] wVALUES wLOOKING wFOLLOWING wLEADING kVALUES G h0 n0 O0 p1 c0 c1 c2) hZ (hw _ (List.mem_of_getElem? (i := 3) rfl)) (hw _ (List.mem_of_getElem? (i := 2) rfl)) (by decide) (by decide)) (g := (mkF m 8 #[.val (.int p1), .val (.int p2), .val (.int d), .unset, .unset] [(.int p1)])) rfl (by rw [hml]; rfl) (argsL := [(.int p1)]) (rest := []) (lenOf own_pd_1 rfl) rfl (by show 2 * 0 + _ ≤ _; exact Nat.le_of_eq rfl) (hb hby at_8) (fun _ _ => ⟨rfl, e0, (by decide : 0 + 1 ≤ _), (by decide : 0 + 3 ≤ _)⟩)
  dsimp only [Pt.U, Pt.locs, Pt.cells, Pt.slots] at X1 l1 y1 z1 st1 hQ1
  subst l1 y1 z1
  obtain ⟨rfl, N1q, Kq1⟩ := hQ1
  have N1 := Fr.app N0 N1q
  have O1 := O0.keep Kq1 all0
  have K1 := (Keep.refl h0 []).trans Kq1 all0
  obtain ⟨_, _, ⟨T2, L2, k2, n2⟩, -, X2, ⟨Lc2, hQ2, l2, y2, z2⟩, st2⟩ := Jvm.LawKit.callS X1 hx (y := (⟨"com/example/nimble_quorum/nimblequorum/quorum/PeerState", "of", "(I)Lcom/example/nimble_quorum/nimblequorum/quorum/PeerState;"⟩ : MethodName)) hown (mvT hZ (hw _ (List.mem_of_getElem? (i := 0) rfl))) (mvT hZ (hw _ (List.mem_of_getElem? (i := 1) rfl))) (mvT hZ (hw _ (List.mem_of_getElem? (i := 2) rfl))) (mvT hZ (hw _ (List.mem_of_getElem? (i := 3) rfl))) (by decide) (backOf (W := 0) (own_of_7 l Z a0 hw [] wVALUES wLOOKING wFOLLOWING wLEADING kVALUES G T1.heap n0 O1 d d0 d1 d2) hZ (hw _ (List.mem_of_getElem? (i := 3) rfl)) (hw _ (List.mem_of_getElem? (i := 2) rfl)) (by decide) (by decide)) (g := (mkF m 13 #[.val (.int p1), .val (.int p2), .val (.int d), .val (.ref wLOOKING), .unset] [(.int d)])) rfl (by rw [hml]; rfl) (argsL := [(.int d)]) (rest := []) (lenOf own_pd_1 rfl) rfl (by show 2 * 0 + _ ≤ _; exact Nat.le_of_eq rfl) (hb hby at_13) (fun _ _ => ⟨rfl, rfl, (by decide : 1 + 1 ≤ _), (by decide : 3 + 3 ≤ _)⟩)
  dsimp only [Pt.U, Pt.locs, Pt.cells, Pt.slots] at X2 l2 y2 z2 st2 hQ2
  subst l2 y2 z2
  obtain ⟨rfl, N2q, Kq2⟩ := hQ2
  have N2 := Fr.app N1 N2q
  have O2 := O1.keep Kq2 all0
  have K2 := K1.trans Kq2 all0
  obtain ⟨_, _, ⟨T3, L3, k3, n3⟩, -, X3, ⟨Lc3, hQ3, l3, y3, z3⟩, st3⟩ := Jvm.LawKit.callS X2 hx (y := (⟨"com/example/nimble_quorum/nimblequorum/quorum/PeerStateOfPinLaw", "expected", "(I)Lcom/example/nimble_quorum/nimblequorum/quorum/PeerState;"⟩ : MethodName)) hown (mvT hZ (hw _ (List.mem_of_getElem? (i := 24) rfl))) (mvT hZ (hw _ (List.mem_of_getElem? (i := 25) rfl))) (mvT hZ (hw _ (List.mem_of_getElem? (i := 26) rfl))) (mvT hZ (hw _ (List.mem_of_getElem? (i := 27) rfl))) (by decide) (backOf (W := 1) (own_expected_2 l Z a0 hw [] wVALUES wLOOKING wFOLLOWING wLEADING kVALUES G T2.heap n0 O2 p1 c0 c1 c2) hZ (hw _ (List.mem_of_getElem? (i := 27) rfl)) (hw _ (List.mem_of_getElem? (i := 26) rfl)) (by decide) (by decide)) (g := (mkF m 20 #[.val (.int p1), .val (.int p2), .val (.int d), .val (.ref wLOOKING), .val .null] [(.int p1), (.ref wLOOKING)])) rfl (by rw [hml]; rfl) (argsL := [(.int p1)]) (rest := [(.ref wLOOKING)]) (lenOf own_pd_1 rfl) rfl (by show 2 * 0 + _ ≤ _; exact Nat.le_of_eq rfl) (hb hby at_20) (fun _ _ => ⟨rfl, rfl, (by decide : 2 + 0 ≤ _), (by decide : 6 + 0 ≤ _)⟩)
  dsimp only [Pt.U, Pt.locs, Pt.cells, Pt.slots] at X3 l3 y3 z3 st3 hQ3
  subst l3 y3 z3
  obtain ⟨rfl, N3q, e3⟩ := hQ3
  have N3 := Fr.app N2 N3q
  obtain ⟨_, _, ⟨T4, L4, k4, n4⟩, -, X4, ⟨Lc4, hQ4, l4, y4, z4⟩, st4⟩ := Jvm.LawKit.callS X3 hx (y := (⟨"com/example/nimble_quorum/nimblequorum/quorum/PeerStateOfPinLaw", "expected", "(I)Lcom/example/nimble_quorum/nimblequorum/quorum/PeerState;"⟩ : MethodName)) hown (mvT hZ (hw _ (List.mem_of_getElem? (i := 24) rfl))) (mvT hZ (hw _ (List.mem_of_getElem? (i := 25) rfl))) (mvT hZ (hw _ (List.mem_of_getElem? (i := 26) rfl))) (mvT hZ (hw _ (List.mem_of_getElem? (i := 27) rfl))) (by decide) (backOf (W := 1) (own_expected_8 l Z a0 hw [] wVALUES wLOOKING wFOLLOWING wLEADING kVALUES G T2.heap n0 O2 d d0 d1 d2) hZ (hw _ (List.mem_of_getElem? (i := 27) rfl)) (hw _ (List.mem_of_getElem? (i := 26) rfl)) (by decide) (by decide)) (g := (mkF m 29 #[.val (.int p1), .val (.int p2), .val (.int d), .val (.ref wLOOKING), .val .null] [(.int d), .null])) rfl (by rw [hml]; rfl) (argsL := [(.int d)]) (rest := [.null]) (lenOf own_pd_1 rfl) rfl (by show 2 * 0 + _ ≤ _; exact Nat.le_of_eq rfl) (hb hby at_29) (fun _ _ => ⟨rfl, e3, (by decide : 2 + 0 ≤ _), (by decide : 6 + 0 ≤ _)⟩)
  dsimp only [Pt.U, Pt.locs, Pt.cells, Pt.slots] at X4 l4 y4 z4 st4 hQ4
  subst l4 y4 z4
  obtain ⟨rfl, N4q, e4⟩ := hQ4
  have N4 := Fr.app N3 N4q
  obtain ⟨fs, hr, hrun, hended, hW, hsame⟩ := X4.leave (v := some (.int (1 : Int32))) (fun h => by rw [Bd.returns] at h; cases h)
  refine ⟨_, _, pre0 _ ?_, hrun, hended, _, _, rfl, ?_, ⟨_, rfl⟩, hW, hsame.mono (by decide) (by decide)⟩
  · show Steps p.tables e below (s₁.setTop (mkF m 0 #[.val (.int p1), .val (.int p2), .unset, .unset, .unset] [])) _
    refine XS.iloadN X0.here hx rfl (hb hby at_0) rfl ?_
    show Steps p.tables e below (s₁.setTop (mkF m 1 #[.val (.int p1), .val (.int p2), .unset, .unset, .unset] [(.int p2)])) _
    refine XS.bipush X0.here hx rfl (hb hby at_1) ?_
    show Steps p.tables e below (s₁.setTop (mkF m 3 #[.val (.int p1), .val (.int p2), .unset, .unset, .unset] [(.int (7 : Int32)), (.int p2)])) _
    refine XS.iand X0.here hx rfl (hb hby at_3) rfl ?_
    show Steps p.tables e below (s₁.setTop (mkF m 4 #[.val (.int p1), .val (.int p2), .unset, .unset, .unset] [(.int (p2 &&& (7 : Int32)))])) _
    refine XS.iconst X0.here hx rfl (hb hby at_4) ?_
    show Steps p.tables e below (s₁.setTop (mkF m 5 #[.val (.int p1), .val (.int p2), .unset, .unset, .unset] [(.int (2 : Int32)), (.int (p2 &&& (7 : Int32)))])) _
    refine XS.isub X0.here hx rfl (hb hby at_5) rfl ?_
    show Steps p.tables e below (s₁.setTop (mkF m 6 #[.val (.int p1), .val (.int p2), .unset, .unset, .unset] [(.int ((p2 &&& (7 : Int32)) - (2 : Int32)))])) _
    refine castTop (g' := (mkF m 6 #[.val (.int p1), .val (.int p2), .unset, .unset, .unset] [(.int d)])) (by rw [hd]) ?_
    show Steps p.tables e below (s₁.setTop (mkF m 6 #[.val (.int p1), .val (.int p2), .unset, .unset, .unset] [(.int d)])) _
    refine XS.istoreN X0.here hx rfl (hb hby at_6) rfl (l' := #[.val (.int p1), .val (.int p2), .val (.int d), .unset, .unset]) rfl ?_
    show Steps p.tables e below (s₁.setTop (mkF m 7 #[.val (.int p1), .val (.int p2), .val (.int d), .unset, .unset] [])) _
    refine XS.iloadN X0.here hx rfl (hb hby at_7) rfl ?_
    show Steps p.tables e below (s₁.setTop (mkF m 8 #[.val (.int p1), .val (.int p2), .val (.int d), .unset, .unset] [(.int p1)])) _
    refine st1 _ ?_
    show Steps p.tables e below (T1.setTop (mkF m 11 #[.val (.int p1), .val (.int p2), .val (.int d), .unset, .unset] [(.ref wLOOKING)])) _
    refine XS.astoreN X1.here hx rfl (hb hby at_11) rfl rfl (l' := #[.val (.int p1), .val (.int p2), .val (.int d), .val (.ref wLOOKING), .unset]) rfl ?_
    show Steps p.tables e below (T1.setTop (mkF m 12 #[.val (.int p1), .val (.int p2), .val (.int d), .val (.ref wLOOKING), .unset] [])) _
    refine XS.iloadN X1.here hx rfl (hb hby at_12) rfl ?_
    show Steps p.tables e below (T1.setTop (mkF m 13 #[.val (.int p1), .val (.int p2), .val (.int d), .val (.ref wLOOKING), .unset] [(.int d)])) _
    refine st2 _ ?_
    show Steps p.tables e below (T2.setTop (mkF m 16 #[.val (.int p1), .val (.int p2), .val (.int d), .val (.ref wLOOKING), .unset] [.null])) _
    refine XS.astore X2.here hx rfl (hb hby at_16) rfl rfl (l' := #[.val (.int p1), .val (.int p2), .val (.int d), .val (.ref wLOOKING), .val .null]) rfl ?_
    show Steps p.tables e below (T2.setTop (mkF m 18 #[.val (.int p1), .val (.int p2), .val (.int d), .val (.ref wLOOKING), .val .null] [])) _
    refine XS.aloadN X2.here hx rfl (hb hby at_18) rfl rfl ?_
    show Steps p.tables e below (T2.setTop (mkF m 19 #[.val (.int p1), .val (.int p2), .val (.int d), .val (.ref wLOOKING), .val .null] [(.ref wLOOKING)])) _
    refine XS.iloadN X2.here hx rfl (hb hby at_19) rfl ?_
    show Steps p.tables e below (T2.setTop (mkF m 20 #[.val (.int p1), .val (.int p2), .val (.int d), .val (.ref wLOOKING), .val .null] [(.int p1), (.ref wLOOKING)])) _
    refine st3 _ ?_
    show Steps p.tables e below (T3.setTop (mkF m 23 #[.val (.int p1), .val (.int p2), .val (.int d), .val (.ref wLOOKING), .val .null] [(.ref wLOOKING), (.ref wLOOKING)])) _
    refine Jvm.RoadKit.acmp (g := (mkF m 23 #[.val (.int p1), .val (.int p2), .val (.int d), .val (.ref wLOOKING), .val .null] [(.ref wLOOKING), (.ref wLOOKING)])) X3 hx rfl rfl rfl (pc0 := 23) (pc' := 26) (same := true) rfl (hb hby at_23) rfl (decide_eq_true rfl) (by decide) (by decide) ?_
    show Steps p.tables e below (T3.setTop (mkF m 26 #[.val (.int p1), .val (.int p2), .val (.int d), .val (.ref wLOOKING), .val .null] [])) _
    refine XS.aload X3.here hx rfl (hb hby at_26) rfl rfl ?_
    show Steps p.tables e below (T3.setTop (mkF m 28 #[.val (.int p1), .val (.int p2), .val (.int d), .val (.ref wLOOKING), .val .null] [.null])) _
    refine XS.iloadN X3.here hx rfl (hb hby at_28) rfl ?_
    show Steps p.tables e below (T3.setTop (mkF m 29 #[.val (.int p1), .val (.int p2), .val (.int d), .val (.ref wLOOKING), .val .null] [(.int d), .null])) _
    refine st4 _ ?_
    show Steps p.tables e below (T4.setTop (mkF m 32 #[.val (.int p1), .val (.int p2), .val (.int d), .val (.ref wLOOKING), .val .null] [.null, .null])) _
    refine Jvm.RoadKit.acmp (g := (mkF m 32 #[.val (.int p1), .val (.int p2), .val (.int d), .val (.ref wLOOKING), .val .null] [.null, .null])) X4 hx rfl rfl rfl (pc0 := 32) (pc' := 35) (same := true) rfl (hb hby at_32) rfl (decide_eq_true rfl) (by decide) (by decide) ?_
    show Steps p.tables e below (T4.setTop (mkF m 35 #[.val (.int p1), .val (.int p2), .val (.int d), .val (.ref wLOOKING), .val .null] [])) _
    refine XS.iconst X4.here hx rfl (hb hby at_35) ?_
    show Steps p.tables e below (T4.setTop (mkF m 36 #[.val (.int p1), .val (.int p2), .val (.int d), .val (.ref wLOOKING), .val .null] [(.int (1 : Int32))])) _
    refine XS.goto X4.here hx rfl (pc0 := 36) (pc' := 40) rfl (hb hby at_36) (by decide) (by decide) ?_
    show Steps p.tables e below (T4.setTop (mkF m 40 #[.val (.int p1), .val (.int p2), .val (.int d), .val (.ref wLOOKING), .val .null] [(.int (1 : Int32))])) _
    exact retN X4 hx (t := .boolean) Bd.returns (by simp) (hb hby at_40) hr
  · exact ⟨rfl, N4⟩
set_option maxRecDepth 65536 in
set_option maxHeartbeats 40000000 in
theorem own_law_10 (l : Launch) (Z : State) (a0 : Array Value) (hw : ∀ d ∈ tables_1, d.before a0 Z = true) (ws : List Jvm.Cond) (wVALUES : Addr) (wLOOKING : Addr) (wFOLLOWING : Addr) (wLEADING : Addr) (kVALUES : ClassId) (G : OwnG Z wVALUES wLOOKING wFOLLOWING wLEADING kVALUES) (h0 : Heap) (n0 : Nat) (O0 : Old Z n0 h0) (p1 : Int32) (p2 : Int32) (d : Int32) (c0 : ¬ (p1 = (0 : Int32))) (c1 : p1 = (1 : Int32)) (c2 : ¬ (p1 = (2 : Int32))) (hd : ((p2 &&& (7 : Int32)) - (2 : Int32)) = d) (d0 : d = (0 : Int32)) (d1 : ¬ (d = (1 : Int32))) (d2 : ¬ (d = (2 : Int32))) :
    MetFree l x (head1 (Jvm.Cond.code x code maxLocals ret :: ws) room_1) (fun a U => a = #[(.int p1), (.int p2)] ∧ Z.Warmed39 U.vm ∧ U.heap = h0) (fun _ _ _ _ _ => True) (fun _ U o U' => ∃ v L, o = .returned v ∧ (v = some (.int 1) ∧ Fr n0 L) ∧ FrameEnd U o U' L room_1.cells room_1.slots) := by
  refine MetFree.of_bodySF (plainFor_of_name own_pn_0) hisR ?_
  intro p e s m args below meth c s₁ Bd hml0 hP hK
  obtain ⟨rfl, hZ, hh⟩ := hP
  have hx := Bd.exec
  have hby := Bd.bytes
  have hml : c.maxLocals = 5 := hml0
  have hown : s.vm.findClass "com/example/nimble_quorum/nimblequorum/quorum/PeerStateOfPinLaw" = some m.cls := findClass_of_methodNamed Bd.named
  have hnm := (name_of_methodNamed Bd.named Bd.method).1
  have X0 : Stand p l e room_1 s m #[(.int p1), (.int p2)] below meth c s₁ [] 0 0 := Stand.of_body Bd
  have e0 : s₁.heap = h0 := by rw [← hh, Bd.state]; rfl
  have N0 := Fr.nil n0
  have pre0 : ∀ t, Steps p.tables e below (s₁.setTop (mkF m 0 #[.val (.int p1), .val (.int p2), .unset, .unset, .unset] [])) t → Steps p.tables e below (s₁.setTop (entryFrame m #[(.int p1), (.int p2)] maxLocals)) t := fun t k => castTop (own_ef_0_II m p1 p2) k
  obtain ⟨_, _, ⟨T1, L1, k1, n1⟩, -, X1, ⟨Lc1, hQ1, l1, y1, z1⟩, st1⟩ := Jvm.LawKit.callS X0 hx (y := (⟨"com/example/nimble_quorum/nimblequorum/quorum/PeerState", "of", "(I)Lcom/example/nimble_quorum/nimblequorum/quorum/PeerState;"⟩ : MethodName)) hown (mvT hZ (hw _ (List.mem_of_getElem? (i := 0) rfl))) (mvT hZ (hw _ (List.mem_of_getElem? (i := 1) rfl))) (mvT hZ (hw _ (List.mem_of_getElem? (i := 2) rfl))) (mvT hZ (hw _ (List.mem_of_getElem? (i := 3) rfl))) (by decide) (backOf (W := 0) (own_of_3 l Z a0 hw [] wVALUES wLOOKING wFOLLOWING wLEADING kVALUES G h0 n0 O0 p1 c0 c1 c2) hZ (hw _ (List.mem_of_getElem? (i := 3) rfl)) (hw _ (List.mem_of_getElem? (i := 2) rfl)) (by decide) (by decide)) (g := (mkF m 8 #[.val (.int p1), .val (.int p2), .val (.int d), .unset, .unset] [(.int p1)])) rfl (by rw [hml]; rfl) (argsL := [(.int p1)]) (rest := []) (lenOf own_pd_1 rfl) rfl (by show 2 * 0 + _ ≤ _; exact Nat.le_of_eq rfl) (hb hby at_8) (fun _ _ => ⟨rfl, e0, (by decide : 0 + 1 ≤ _), (by decide : 0 + 3 ≤ _)⟩)
  dsimp only [Pt.U, Pt.locs, Pt.cells, Pt.slots] at X1 l1 y1 z1 st1 hQ1
  subst l1 y1 z1
  obtain ⟨rfl, N1q, Kq1⟩ := hQ1
  have N1 := Fr.app N0 N1q
  have O1 := O0.keep Kq1 all0
  have K1 := (Keep.refl h0 []).trans Kq1 all0
  obtain ⟨_, _, ⟨T2, L2, k2, n2⟩, -, X2, ⟨Lc2, hQ2, l2, y2, z2⟩, st2⟩ := Jvm.LawKit.callS X1 hx (y := (⟨"com/example/nimble_quorum/nimblequorum/quorum/PeerState", "of", "(I)Lcom/example/nimble_quorum/nimblequorum/quorum/PeerState;"⟩ : MethodName)) hown (mvT hZ (hw _ (List.mem_of_getElem? (i := 0) rfl))) (mvT hZ (hw _ (List.mem_of_getElem? (i := 1) rfl))) (mvT hZ (hw _ (List.mem_of_getElem? (i := 2) rfl))) (mvT hZ (hw _ (List.mem_of_getElem? (i := 3) rfl))) (by decide) (backOf (W := 0) (own_of_0 l Z a0 hw [] wVALUES wLOOKING wFOLLOWING wLEADING kVALUES G T1.heap n0 O1 d d0 d1 d2) hZ (hw _ (List.mem_of_getElem? (i := 3) rfl)) (hw _ (List.mem_of_getElem? (i := 2) rfl)) (by decide) (by decide)) (g := (mkF m 13 #[.val (.int p1), .val (.int p2), .val (.int d), .val (.ref wFOLLOWING), .unset] [(.int d)])) rfl (by rw [hml]; rfl) (argsL := [(.int d)]) (rest := []) (lenOf own_pd_1 rfl) rfl (by show 2 * 0 + _ ≤ _; exact Nat.le_of_eq rfl) (hb hby at_13) (fun _ _ => ⟨rfl, rfl, (by decide : 1 + 1 ≤ _), (by decide : 3 + 3 ≤ _)⟩)
  dsimp only [Pt.U, Pt.locs, Pt.cells, Pt.slots] at X2 l2 y2 z2 st2 hQ2
  subst l2 y2 z2
  obtain ⟨rfl, N2q, Kq2⟩ := hQ2
  have N2 := Fr.app N1 N2q
  have O2 := O1.keep Kq2 all0
  have K2 := K1.trans Kq2 all0
  obtain ⟨_, _, ⟨T3, L3, k3, n3⟩, -, X3, ⟨Lc3, hQ3, l3, y3, z3⟩, st3⟩ := Jvm.LawKit.callS X2 hx (y := (⟨"com/example/nimble_quorum/nimblequorum/quorum/PeerStateOfPinLaw", "expected", "(I)Lcom/example/nimble_quorum/nimblequorum/quorum/PeerState;"⟩ : MethodName)) hown (mvT hZ (hw _ (List.mem_of_getElem? (i := 24) rfl))) (mvT hZ (hw _ (List.mem_of_getElem? (i := 25) rfl))) (mvT hZ (hw _ (List.mem_of_getElem? (i := 26) rfl))) (mvT hZ (hw _ (List.mem_of_getElem? (i := 27) rfl))) (by decide) (backOf (W := 1) (own_expected_4 l Z a0 hw [] wVALUES wLOOKING wFOLLOWING wLEADING kVALUES G T2.heap n0 O2 p1 c0 c1 c2) hZ (hw _ (List.mem_of_getElem? (i := 27) rfl)) (hw _ (List.mem_of_getElem? (i := 26) rfl)) (by decide) (by decide)) (g := (mkF m 20 #[.val (.int p1), .val (.int p2), .val (.int d), .val (.ref wFOLLOWING), .val (.ref wLOOKING)] [(.int p1), (.ref wFOLLOWING)])) rfl (by rw [hml]; rfl) (argsL := [(.int p1)]) (rest := [(.ref wFOLLOWING)]) (lenOf own_pd_1 rfl) rfl (by show 2 * 0 + _ ≤ _; exact Nat.le_of_eq rfl) (hb hby at_20) (fun _ _ => ⟨rfl, rfl, (by decide : 2 + 0 ≤ _), (by decide : 6 + 0 ≤ _)⟩)
  dsimp only [Pt.U, Pt.locs, Pt.cells, Pt.slots] at X3 l3 y3 z3 st3 hQ3
  subst l3 y3 z3
  obtain ⟨rfl, N3q, e3⟩ := hQ3
  have N3 := Fr.app N2 N3q
  obtain ⟨_, _, ⟨T4, L4, k4, n4⟩, -, X4, ⟨Lc4, hQ4, l4, y4, z4⟩, st4⟩ := Jvm.LawKit.callS X3 hx (y := (⟨"com/example/nimble_quorum/nimblequorum/quorum/PeerStateOfPinLaw", "expected", "(I)Lcom/example/nimble_quorum/nimblequorum/quorum/PeerState;"⟩ : MethodName)) hown (mvT hZ (hw _ (List.mem_of_getElem? (i := 24) rfl))) (mvT hZ (hw _ (List.mem_of_getElem? (i := 25) rfl))) (mvT hZ (hw _ (List.mem_of_getElem? (i := 26) rfl))) (mvT hZ (hw _ (List.mem_of_getElem? (i := 27) rfl))) (by decide) (backOf (W := 1) (own_expected_2 l Z a0 hw [] wVALUES wLOOKING wFOLLOWING wLEADING kVALUES G T2.heap n0 O2 d d0 d1 d2) hZ (hw _ (List.mem_of_getElem? (i := 27) rfl)) (hw _ (List.mem_of_getElem? (i := 26) rfl)) (by decide) (by decide)) (g := (mkF m 29 #[.val (.int p1), .val (.int p2), .val (.int d), .val (.ref wFOLLOWING), .val (.ref wLOOKING)] [(.int d), (.ref wLOOKING)])) rfl (by rw [hml]; rfl) (argsL := [(.int d)]) (rest := [(.ref wLOOKING)]) (lenOf own_pd_1 rfl) rfl (by show 2 * 0 + _ ≤ _; exact Nat.le_of_eq rfl) (hb hby at_29) (fun _ _ => ⟨rfl, e3, (by decide : 2 + 0 ≤ _), (by decide : 6 + 0 ≤ _)⟩)
  dsimp only [Pt.U, Pt.locs, Pt.cells, Pt.slots] at X4 l4 y4 z4 st4 hQ4
  subst l4 y4 z4
  obtain ⟨rfl, N4q, e4⟩ := hQ4
  have N4 := Fr.app N3 N4q
  obtain ⟨fs, hr, hrun, hended, hW, hsame⟩ := X4.leave (v := some (.int (1 : Int32))) (fun h => by rw [Bd.returns] at h; cases h)
  refine ⟨_, _, pre0 _ ?_, hrun, hended, _, _, rfl, ?_, ⟨_, rfl⟩, hW, hsame.mono (by decide) (by decide)⟩
  · show Steps p.tables e below (s₁.setTop (mkF m 0 #[.val (.int p1), .val (.int p2), .unset, .unset, .unset] [])) _
    refine XS.iloadN X0.here hx rfl (hb hby at_0) rfl ?_
    show Steps p.tables e below (s₁.setTop (mkF m 1 #[.val (.int p1), .val (.int p2), .unset, .unset, .unset] [(.int p2)])) _
    refine XS.bipush X0.here hx rfl (hb hby at_1) ?_
    show Steps p.tables e below (s₁.setTop (mkF m 3 #[.val (.int p1), .val (.int p2), .unset, .unset, .unset] [(.int (7 : Int32)), (.int p2)])) _
    refine XS.iand X0.here hx rfl (hb hby at_3) rfl ?_
    show Steps p.tables e below (s₁.setTop (mkF m 4 #[.val (.int p1), .val (.int p2), .unset, .unset, .unset] [(.int (p2 &&& (7 : Int32)))])) _
    refine XS.iconst X0.here hx rfl (hb hby at_4) ?_
    show Steps p.tables e below (s₁.setTop (mkF m 5 #[.val (.int p1), .val (.int p2), .unset, .unset, .unset] [(.int (2 : Int32)), (.int (p2 &&& (7 : Int32)))])) _
    refine XS.isub X0.here hx rfl (hb hby at_5) rfl ?_
    show Steps p.tables e below (s₁.setTop (mkF m 6 #[.val (.int p1), .val (.int p2), .unset, .unset, .unset] [(.int ((p2 &&& (7 : Int32)) - (2 : Int32)))])) _
    refine castTop (g' := (mkF m 6 #[.val (.int p1), .val (.int p2), .unset, .unset, .unset] [(.int d)])) (by rw [hd]) ?_
    show Steps p.tables e below (s₁.setTop (mkF m 6 #[.val (.int p1), .val (.int p2), .unset, .unset, .unset] [(.int d)])) _
    refine XS.istoreN X0.here hx rfl (hb hby at_6) rfl (l' := #[.val (.int p1), .val (.int p2), .val (.int d), .unset, .unset]) rfl ?_
    show Steps p.tables e below (s₁.setTop (mkF m 7 #[.val (.int p1), .val (.int p2), .val (.int d), .unset, .unset] [])) _
    refine XS.iloadN X0.here hx rfl (hb hby at_7) rfl ?_
    show Steps p.tables e below (s₁.setTop (mkF m 8 #[.val (.int p1), .val (.int p2), .val (.int d), .unset, .unset] [(.int p1)])) _
    refine st1 _ ?_
    show Steps p.tables e below (T1.setTop (mkF m 11 #[.val (.int p1), .val (.int p2), .val (.int d), .unset, .unset] [(.ref wFOLLOWING)])) _
    refine XS.astoreN X1.here hx rfl (hb hby at_11) rfl rfl (l' := #[.val (.int p1), .val (.int p2), .val (.int d), .val (.ref wFOLLOWING), .unset]) rfl ?_
    show Steps p.tables e below (T1.setTop (mkF m 12 #[.val (.int p1), .val (.int p2), .val (.int d), .val (.ref wFOLLOWING), .unset] [])) _
    refine XS.iloadN X1.here hx rfl (hb hby at_12) rfl ?_
    show Steps p.tables e below (T1.setTop (mkF m 13 #[.val (.int p1), .val (.int p2), .val (.int d), .val (.ref wFOLLOWING), .unset] [(.int d)])) _
    refine st2 _ ?_
    show Steps p.tables e below (T2.setTop (mkF m 16 #[.val (.int p1), .val (.int p2), .val (.int d), .val (.ref wFOLLOWING), .unset] [(.ref wLOOKING)])) _
    refine XS.astore X2.here hx rfl (hb hby at_16) rfl rfl (l' := #[.val (.int p1), .val (.int p2), .val (.int d), .val (.ref wFOLLOWING), .val (.ref wLOOKING)]) rfl ?_
    show Steps p.tables e below (T2.setTop (mkF m 18 #[.val (.int p1), .val (.int p2), .val (.int d), .val (.ref wFOLLOWING), .val (.ref wLOOKING)] [])) _
    refine XS.aloadN X2.here hx rfl (hb hby at_18) rfl rfl ?_
    show Steps p.tables e below (T2.setTop (mkF m 19 #[.val (.int p1), .val (.int p2), .val (.int d), .val (.ref wFOLLOWING), .val (.ref wLOOKING)] [(.ref wFOLLOWING)])) _
    refine XS.iloadN X2.here hx rfl (hb hby at_19) rfl ?_
    show Steps p.tables e below (T2.setTop (mkF m 20 #[.val (.int p1), .val (.int p2), .val (.int d), .val (.ref wFOLLOWING), .val (.ref wLOOKING)] [(.int p1), (.ref wFOLLOWING)])) _
    refine st3 _ ?_
    show Steps p.tables e below (T3.setTop (mkF m 23 #[.val (.int p1), .val (.int p2), .val (.int d), .val (.ref wFOLLOWING), .val (.ref wLOOKING)] [(.ref wFOLLOWING), (.ref wFOLLOWING)])) _
    refine Jvm.RoadKit.acmp (g := (mkF m 23 #[.val (.int p1), .val (.int p2), .val (.int d), .val (.ref wFOLLOWING), .val (.ref wLOOKING)] [(.ref wFOLLOWING), (.ref wFOLLOWING)])) X3 hx rfl rfl rfl (pc0 := 23) (pc' := 26) (same := true) rfl (hb hby at_23) rfl (decide_eq_true rfl) (by decide) (by decide) ?_
    show Steps p.tables e below (T3.setTop (mkF m 26 #[.val (.int p1), .val (.int p2), .val (.int d), .val (.ref wFOLLOWING), .val (.ref wLOOKING)] [])) _
    refine XS.aload X3.here hx rfl (hb hby at_26) rfl rfl ?_
    show Steps p.tables e below (T3.setTop (mkF m 28 #[.val (.int p1), .val (.int p2), .val (.int d), .val (.ref wFOLLOWING), .val (.ref wLOOKING)] [(.ref wLOOKING)])) _
    refine XS.iloadN X3.here hx rfl (hb hby at_28) rfl ?_
    show Steps p.tables e below (T3.setTop (mkF m 29 #[.val (.int p1), .val (.int p2), .val (.int d), .val (.ref wFOLLOWING), .val (.ref wLOOKING)] [(.int d), (.ref wLOOKING)])) _
    refine st4 _ ?_
    show Steps p.tables e below (T4.setTop (mkF m 32 #[.val (.int p1), .val (.int p2), .val (.int d), .val (.ref wFOLLOWING), .val (.ref wLOOKING)] [(.ref wLOOKING), (.ref wLOOKING)])) _
    refine Jvm.RoadKit.acmp (g := (mkF m 32 #[.val (.int p1), .val (.int p2), .val (.int d), .val (.ref wFOLLOWING), .val (.ref wLOOKING)] [(.ref wLOOKING), (.ref wLOOKING)])) X4 hx rfl rfl rfl (pc0 := 32) (pc' := 35) (same := true) rfl (hb hby at_32) rfl (decide_eq_true rfl) (by decide) (by decide) ?_
    show Steps p.tables e below (T4.setTop (mkF m 35 #[.val (.int p1), .val (.int p2), .val (.int d), .val (.ref wFOLLOWING), .val (.ref wLOOKING)] [])) _
    refine XS.iconst X4.here hx rfl (hb hby at_35) ?_
    show Steps p.tables e below (T4.setTop (mkF m 36 #[.val (.int p1), .val (.int p2), .val (.int d), .val (.ref wFOLLOWING), .val (.ref wLOOKING)] [(.int (1 : Int32))])) _
    refine XS.goto X4.here hx rfl (pc0 := 36) (pc' := 40) rfl (hb hby at_36) (by decide) (by decide) ?_
    show Steps p.tables e below (T4.setTop (mkF m 40 #[.val (.int p1), .val (.int p2), .val (.int d), .val (.ref wFOLLOWING), .val (.ref wLOOKING)] [(.int (1 : Int32))])) _
    exact retN X4 hx (t := .boolean) Bd.returns (by simp) (hb hby at_40) hr
  · exact ⟨rfl, N4⟩
set_option maxRecDepth 65536 in
set_option maxHeartbeats 40000000 in
theorem own_law_11 (l : Launch) (Z : State) (a0 : Array Value) (hw : ∀ d ∈ tables_1, d.before a0 Z = true) (ws : List Jvm.Cond) (wVALUES : Addr) (wLOOKING : Addr) (wFOLLOWING : Addr) (wLEADING : Addr) (kVALUES : ClassId) (G : OwnG Z wVALUES wLOOKING wFOLLOWING wLEADING kVALUES) (h0 : Heap) (n0 : Nat) (O0 : Old Z n0 h0) (p1 : Int32) (p2 : Int32) (d : Int32) (c0 : ¬ (p1 = (0 : Int32))) (c1 : p1 = (1 : Int32)) (c2 : ¬ (p1 = (2 : Int32))) (hd : ((p2 &&& (7 : Int32)) - (2 : Int32)) = d) (d0 : ¬ (d = (0 : Int32))) (d1 : d = (1 : Int32)) (d2 : ¬ (d = (2 : Int32))) :
    MetFree l x (head1 (Jvm.Cond.code x code maxLocals ret :: ws) room_1) (fun a U => a = #[(.int p1), (.int p2)] ∧ Z.Warmed39 U.vm ∧ U.heap = h0) (fun _ _ _ _ _ => True) (fun _ U o U' => ∃ v L, o = .returned v ∧ (v = some (.int 1) ∧ Fr n0 L) ∧ FrameEnd U o U' L room_1.cells room_1.slots) := by
  refine MetFree.of_bodySF (plainFor_of_name own_pn_0) hisR ?_
  intro p e s m args below meth c s₁ Bd hml0 hP hK
  obtain ⟨rfl, hZ, hh⟩ := hP
  have hx := Bd.exec
  have hby := Bd.bytes
  have hml : c.maxLocals = 5 := hml0
  have hown : s.vm.findClass "com/example/nimble_quorum/nimblequorum/quorum/PeerStateOfPinLaw" = some m.cls := findClass_of_methodNamed Bd.named
  have hnm := (name_of_methodNamed Bd.named Bd.method).1
  have X0 : Stand p l e room_1 s m #[(.int p1), (.int p2)] below meth c s₁ [] 0 0 := Stand.of_body Bd
  have e0 : s₁.heap = h0 := by rw [← hh, Bd.state]; rfl
  have N0 := Fr.nil n0
  have pre0 : ∀ t, Steps p.tables e below (s₁.setTop (mkF m 0 #[.val (.int p1), .val (.int p2), .unset, .unset, .unset] [])) t → Steps p.tables e below (s₁.setTop (entryFrame m #[(.int p1), (.int p2)] maxLocals)) t := fun t k => castTop (own_ef_0_II m p1 p2) k
  obtain ⟨_, _, ⟨T1, L1, k1, n1⟩, -, X1, ⟨Lc1, hQ1, l1, y1, z1⟩, st1⟩ := Jvm.LawKit.callS X0 hx (y := (⟨"com/example/nimble_quorum/nimblequorum/quorum/PeerState", "of", "(I)Lcom/example/nimble_quorum/nimblequorum/quorum/PeerState;"⟩ : MethodName)) hown (mvT hZ (hw _ (List.mem_of_getElem? (i := 0) rfl))) (mvT hZ (hw _ (List.mem_of_getElem? (i := 1) rfl))) (mvT hZ (hw _ (List.mem_of_getElem? (i := 2) rfl))) (mvT hZ (hw _ (List.mem_of_getElem? (i := 3) rfl))) (by decide) (backOf (W := 0) (own_of_3 l Z a0 hw [] wVALUES wLOOKING wFOLLOWING wLEADING kVALUES G h0 n0 O0 p1 c0 c1 c2) hZ (hw _ (List.mem_of_getElem? (i := 3) rfl)) (hw _ (List.mem_of_getElem? (i := 2) rfl)) (by decide) (by decide)) (g := (mkF m 8 #[.val (.int p1), .val (.int p2), .val (.int d), .unset, .unset] [(.int p1)])) rfl (by rw [hml]; rfl) (argsL := [(.int p1)]) (rest := []) (lenOf own_pd_1 rfl) rfl (by show 2 * 0 + _ ≤ _; exact Nat.le_of_eq rfl) (hb hby at_8) (fun _ _ => ⟨rfl, e0, (by decide : 0 + 1 ≤ _), (by decide : 0 + 3 ≤ _)⟩)
  dsimp only [Pt.U, Pt.locs, Pt.cells, Pt.slots] at X1 l1 y1 z1 st1 hQ1
  subst l1 y1 z1
  obtain ⟨rfl, N1q, Kq1⟩ := hQ1
  have N1 := Fr.app N0 N1q
  have O1 := O0.keep Kq1 all0
  have K1 := (Keep.refl h0 []).trans Kq1 all0
  obtain ⟨_, _, ⟨T2, L2, k2, n2⟩, -, X2, ⟨Lc2, hQ2, l2, y2, z2⟩, st2⟩ := Jvm.LawKit.callS X1 hx (y := (⟨"com/example/nimble_quorum/nimblequorum/quorum/PeerState", "of", "(I)Lcom/example/nimble_quorum/nimblequorum/quorum/PeerState;"⟩ : MethodName)) hown (mvT hZ (hw _ (List.mem_of_getElem? (i := 0) rfl))) (mvT hZ (hw _ (List.mem_of_getElem? (i := 1) rfl))) (mvT hZ (hw _ (List.mem_of_getElem? (i := 2) rfl))) (mvT hZ (hw _ (List.mem_of_getElem? (i := 3) rfl))) (by decide) (backOf (W := 0) (own_of_3 l Z a0 hw [] wVALUES wLOOKING wFOLLOWING wLEADING kVALUES G T1.heap n0 O1 d d0 d1 d2) hZ (hw _ (List.mem_of_getElem? (i := 3) rfl)) (hw _ (List.mem_of_getElem? (i := 2) rfl)) (by decide) (by decide)) (g := (mkF m 13 #[.val (.int p1), .val (.int p2), .val (.int d), .val (.ref wFOLLOWING), .unset] [(.int d)])) rfl (by rw [hml]; rfl) (argsL := [(.int d)]) (rest := []) (lenOf own_pd_1 rfl) rfl (by show 2 * 0 + _ ≤ _; exact Nat.le_of_eq rfl) (hb hby at_13) (fun _ _ => ⟨rfl, rfl, (by decide : 1 + 1 ≤ _), (by decide : 3 + 3 ≤ _)⟩)
  dsimp only [Pt.U, Pt.locs, Pt.cells, Pt.slots] at X2 l2 y2 z2 st2 hQ2
  subst l2 y2 z2
  obtain ⟨rfl, N2q, Kq2⟩ := hQ2
  have N2 := Fr.app N1 N2q
  have O2 := O1.keep Kq2 all0
  have K2 := K1.trans Kq2 all0
  obtain ⟨_, _, ⟨T3, L3, k3, n3⟩, -, X3, ⟨Lc3, hQ3, l3, y3, z3⟩, st3⟩ := Jvm.LawKit.callS X2 hx (y := (⟨"com/example/nimble_quorum/nimblequorum/quorum/PeerStateOfPinLaw", "expected", "(I)Lcom/example/nimble_quorum/nimblequorum/quorum/PeerState;"⟩ : MethodName)) hown (mvT hZ (hw _ (List.mem_of_getElem? (i := 24) rfl))) (mvT hZ (hw _ (List.mem_of_getElem? (i := 25) rfl))) (mvT hZ (hw _ (List.mem_of_getElem? (i := 26) rfl))) (mvT hZ (hw _ (List.mem_of_getElem? (i := 27) rfl))) (by decide) (backOf (W := 1) (own_expected_4 l Z a0 hw [] wVALUES wLOOKING wFOLLOWING wLEADING kVALUES G T2.heap n0 O2 p1 c0 c1 c2) hZ (hw _ (List.mem_of_getElem? (i := 27) rfl)) (hw _ (List.mem_of_getElem? (i := 26) rfl)) (by decide) (by decide)) (g := (mkF m 20 #[.val (.int p1), .val (.int p2), .val (.int d), .val (.ref wFOLLOWING), .val (.ref wFOLLOWING)] [(.int p1), (.ref wFOLLOWING)])) rfl (by rw [hml]; rfl) (argsL := [(.int p1)]) (rest := [(.ref wFOLLOWING)]) (lenOf own_pd_1 rfl) rfl (by show 2 * 0 + _ ≤ _; exact Nat.le_of_eq rfl) (hb hby at_20) (fun _ _ => ⟨rfl, rfl, (by decide : 2 + 0 ≤ _), (by decide : 6 + 0 ≤ _)⟩)
  dsimp only [Pt.U, Pt.locs, Pt.cells, Pt.slots] at X3 l3 y3 z3 st3 hQ3
  subst l3 y3 z3
  obtain ⟨rfl, N3q, e3⟩ := hQ3
  have N3 := Fr.app N2 N3q
  obtain ⟨_, _, ⟨T4, L4, k4, n4⟩, -, X4, ⟨Lc4, hQ4, l4, y4, z4⟩, st4⟩ := Jvm.LawKit.callS X3 hx (y := (⟨"com/example/nimble_quorum/nimblequorum/quorum/PeerStateOfPinLaw", "expected", "(I)Lcom/example/nimble_quorum/nimblequorum/quorum/PeerState;"⟩ : MethodName)) hown (mvT hZ (hw _ (List.mem_of_getElem? (i := 24) rfl))) (mvT hZ (hw _ (List.mem_of_getElem? (i := 25) rfl))) (mvT hZ (hw _ (List.mem_of_getElem? (i := 26) rfl))) (mvT hZ (hw _ (List.mem_of_getElem? (i := 27) rfl))) (by decide) (backOf (W := 1) (own_expected_4 l Z a0 hw [] wVALUES wLOOKING wFOLLOWING wLEADING kVALUES G T2.heap n0 O2 d d0 d1 d2) hZ (hw _ (List.mem_of_getElem? (i := 27) rfl)) (hw _ (List.mem_of_getElem? (i := 26) rfl)) (by decide) (by decide)) (g := (mkF m 29 #[.val (.int p1), .val (.int p2), .val (.int d), .val (.ref wFOLLOWING), .val (.ref wFOLLOWING)] [(.int d), (.ref wFOLLOWING)])) rfl (by rw [hml]; rfl) (argsL := [(.int d)]) (rest := [(.ref wFOLLOWING)]) (lenOf own_pd_1 rfl) rfl (by show 2 * 0 + _ ≤ _; exact Nat.le_of_eq rfl) (hb hby at_29) (fun _ _ => ⟨rfl, e3, (by decide : 2 + 0 ≤ _), (by decide : 6 + 0 ≤ _)⟩)
  dsimp only [Pt.U, Pt.locs, Pt.cells, Pt.slots] at X4 l4 y4 z4 st4 hQ4
  subst l4 y4 z4
  obtain ⟨rfl, N4q, e4⟩ := hQ4
  have N4 := Fr.app N3 N4q
  obtain ⟨fs, hr, hrun, hended, hW, hsame⟩ := X4.leave (v := some (.int (1 : Int32))) (fun h => by rw [Bd.returns] at h; cases h)
  refine ⟨_, _, pre0 _ ?_, hrun, hended, _, _, rfl, ?_, ⟨_, rfl⟩, hW, hsame.mono (by decide) (by decide)⟩
  · show Steps p.tables e below (s₁.setTop (mkF m 0 #[.val (.int p1), .val (.int p2), .unset, .unset, .unset] [])) _
    refine XS.iloadN X0.here hx rfl (hb hby at_0) rfl ?_
    show Steps p.tables e below (s₁.setTop (mkF m 1 #[.val (.int p1), .val (.int p2), .unset, .unset, .unset] [(.int p2)])) _
    refine XS.bipush X0.here hx rfl (hb hby at_1) ?_
    show Steps p.tables e below (s₁.setTop (mkF m 3 #[.val (.int p1), .val (.int p2), .unset, .unset, .unset] [(.int (7 : Int32)), (.int p2)])) _
    refine XS.iand X0.here hx rfl (hb hby at_3) rfl ?_
    show Steps p.tables e below (s₁.setTop (mkF m 4 #[.val (.int p1), .val (.int p2), .unset, .unset, .unset] [(.int (p2 &&& (7 : Int32)))])) _
    refine XS.iconst X0.here hx rfl (hb hby at_4) ?_
    show Steps p.tables e below (s₁.setTop (mkF m 5 #[.val (.int p1), .val (.int p2), .unset, .unset, .unset] [(.int (2 : Int32)), (.int (p2 &&& (7 : Int32)))])) _
    refine XS.isub X0.here hx rfl (hb hby at_5) rfl ?_
    show Steps p.tables e below (s₁.setTop (mkF m 6 #[.val (.int p1), .val (.int p2), .unset, .unset, .unset] [(.int ((p2 &&& (7 : Int32)) - (2 : Int32)))])) _
    refine castTop (g' := (mkF m 6 #[.val (.int p1), .val (.int p2), .unset, .unset, .unset] [(.int d)])) (by rw [hd]) ?_
    show Steps p.tables e below (s₁.setTop (mkF m 6 #[.val (.int p1), .val (.int p2), .unset, .unset, .unset] [(.int d)])) _
    refine XS.istoreN X0.here hx rfl (hb hby at_6) rfl (l' := #[.val (.int p1), .val (.int p2), .val (.int d), .unset, .unset]) rfl ?_
    show Steps p.tables e below (s₁.setTop (mkF m 7 #[.val (.int p1), .val (.int p2), .val (.int d), .unset, .unset] [])) _
    refine XS.iloadN X0.here hx rfl (hb hby at_7) rfl ?_
    show Steps p.tables e below (s₁.setTop (mkF m 8 #[.val (.int p1), .val (.int p2), .val (.int d), .unset, .unset] [(.int p1)])) _
    refine st1 _ ?_
    show Steps p.tables e below (T1.setTop (mkF m 11 #[.val (.int p1), .val (.int p2), .val (.int d), .unset, .unset] [(.ref wFOLLOWING)])) _
    refine XS.astoreN X1.here hx rfl (hb hby at_11) rfl rfl (l' := #[.val (.int p1), .val (.int p2), .val (.int d), .val (.ref wFOLLOWING), .unset]) rfl ?_
    show Steps p.tables e below (T1.setTop (mkF m 12 #[.val (.int p1), .val (.int p2), .val (.int d), .val (.ref wFOLLOWING), .unset] [])) _
    refine XS.iloadN X1.here hx rfl (hb hby at_12) rfl ?_
    show Steps p.tables e below (T1.setTop (mkF m 13 #[.val (.int p1), .val (.int p2), .val (.int d), .val (.ref wFOLLOWING), .unset] [(.int d)])) _
    refine st2 _ ?_
    show Steps p.tables e below (T2.setTop (mkF m 16 #[.val (.int p1), .val (.int p2), .val (.int d), .val (.ref wFOLLOWING), .unset] [(.ref wFOLLOWING)])) _
    refine XS.astore X2.here hx rfl (hb hby at_16) rfl rfl (l' := #[.val (.int p1), .val (.int p2), .val (.int d), .val (.ref wFOLLOWING), .val (.ref wFOLLOWING)]) rfl ?_
    show Steps p.tables e below (T2.setTop (mkF m 18 #[.val (.int p1), .val (.int p2), .val (.int d), .val (.ref wFOLLOWING), .val (.ref wFOLLOWING)] [])) _
    refine XS.aloadN X2.here hx rfl (hb hby at_18) rfl rfl ?_
    show Steps p.tables e below (T2.setTop (mkF m 19 #[.val (.int p1), .val (.int p2), .val (.int d), .val (.ref wFOLLOWING), .val (.ref wFOLLOWING)] [(.ref wFOLLOWING)])) _
    refine XS.iloadN X2.here hx rfl (hb hby at_19) rfl ?_
    show Steps p.tables e below (T2.setTop (mkF m 20 #[.val (.int p1), .val (.int p2), .val (.int d), .val (.ref wFOLLOWING), .val (.ref wFOLLOWING)] [(.int p1), (.ref wFOLLOWING)])) _
    refine st3 _ ?_
    show Steps p.tables e below (T3.setTop (mkF m 23 #[.val (.int p1), .val (.int p2), .val (.int d), .val (.ref wFOLLOWING), .val (.ref wFOLLOWING)] [(.ref wFOLLOWING), (.ref wFOLLOWING)])) _
    refine Jvm.RoadKit.acmp (g := (mkF m 23 #[.val (.int p1), .val (.int p2), .val (.int d), .val (.ref wFOLLOWING), .val (.ref wFOLLOWING)] [(.ref wFOLLOWING), (.ref wFOLLOWING)])) X3 hx rfl rfl rfl (pc0 := 23) (pc' := 26) (same := true) rfl (hb hby at_23) rfl (decide_eq_true rfl) (by decide) (by decide) ?_
    show Steps p.tables e below (T3.setTop (mkF m 26 #[.val (.int p1), .val (.int p2), .val (.int d), .val (.ref wFOLLOWING), .val (.ref wFOLLOWING)] [])) _
    refine XS.aload X3.here hx rfl (hb hby at_26) rfl rfl ?_
    show Steps p.tables e below (T3.setTop (mkF m 28 #[.val (.int p1), .val (.int p2), .val (.int d), .val (.ref wFOLLOWING), .val (.ref wFOLLOWING)] [(.ref wFOLLOWING)])) _
    refine XS.iloadN X3.here hx rfl (hb hby at_28) rfl ?_
    show Steps p.tables e below (T3.setTop (mkF m 29 #[.val (.int p1), .val (.int p2), .val (.int d), .val (.ref wFOLLOWING), .val (.ref wFOLLOWING)] [(.int d), (.ref wFOLLOWING)])) _
    refine st4 _ ?_
    show Steps p.tables e below (T4.setTop (mkF m 32 #[.val (.int p1), .val (.int p2), .val (.int d), .val (.ref wFOLLOWING), .val (.ref wFOLLOWING)] [(.ref wFOLLOWING), (.ref wFOLLOWING)])) _
    refine Jvm.RoadKit.acmp (g := (mkF m 32 #[.val (.int p1), .val (.int p2), .val (.int d), .val (.ref wFOLLOWING), .val (.ref wFOLLOWING)] [(.ref wFOLLOWING), (.ref wFOLLOWING)])) X4 hx rfl rfl rfl (pc0 := 32) (pc' := 35) (same := true) rfl (hb hby at_32) rfl (decide_eq_true rfl) (by decide) (by decide) ?_
    show Steps p.tables e below (T4.setTop (mkF m 35 #[.val (.int p1), .val (.int p2), .val (.int d), .val (.ref wFOLLOWING), .val (.ref wFOLLOWING)] [])) _
    refine XS.iconst X4.here hx rfl (hb hby at_35) ?_
    show Steps p.tables e below (T4.setTop (mkF m 36 #[.val (.int p1), .val (.int p2), .val (.int d), .val (.ref wFOLLOWING), .val (.ref wFOLLOWING)] [(.int (1 : Int32))])) _
    refine XS.goto X4.here hx rfl (pc0 := 36) (pc' := 40) rfl (hb hby at_36) (by decide) (by decide) ?_
    show Steps p.tables e below (T4.setTop (mkF m 40 #[.val (.int p1), .val (.int p2), .val (.int d), .val (.ref wFOLLOWING), .val (.ref wFOLLOWING)] [(.int (1 : Int32))])) _
    exact retN X4 hx (t := .boolean) Bd.returns (by simp) (hb hby at_40) hr
  · exact ⟨rfl, N4⟩
set_option maxRecDepth 65536 in
set_option maxHeartbeats 40000000 in
theorem own_law_12 (l : Launch) (Z : State) (a0 : Array Value) (hw : ∀ d ∈ tables_1, d.before a0 Z = true) (ws : List Jvm.Cond) (wVALUES : Addr) (wLOOKING : Addr) (wFOLLOWING : Addr) (wLEADING : Addr) (kVALUES : ClassId) (G : OwnG Z wVALUES wLOOKING wFOLLOWING wLEADING kVALUES) (h0 : Heap) (n0 : Nat) (O0 : Old Z n0 h0) (p1 : Int32) (p2 : Int32) (d : Int32) (c0 : ¬ (p1 = (0 : Int32))) (c1 : p1 = (1 : Int32)) (c2 : ¬ (p1 = (2 : Int32))) (hd : ((p2 &&& (7 : Int32)) - (2 : Int32)) = d) (d0 : ¬ (d = (0 : Int32))) (d1 : ¬ (d = (1 : Int32))) (d2 : d = (2 : Int32)) :
    MetFree l x (head1 (Jvm.Cond.code x code maxLocals ret :: ws) room_1) (fun a U => a = #[(.int p1), (.int p2)] ∧ Z.Warmed39 U.vm ∧ U.heap = h0) (fun _ _ _ _ _ => True) (fun _ U o U' => ∃ v L, o = .returned v ∧ (v = some (.int 1) ∧ Fr n0 L) ∧ FrameEnd U o U' L room_1.cells room_1.slots) := by
  refine MetFree.of_bodySF (plainFor_of_name own_pn_0) hisR ?_
  intro p e s m args below meth c s₁ Bd hml0 hP hK
  obtain ⟨rfl, hZ, hh⟩ := hP
  have hx := Bd.exec
  have hby := Bd.bytes
  have hml : c.maxLocals = 5 := hml0
  have hown : s.vm.findClass "com/example/nimble_quorum/nimblequorum/quorum/PeerStateOfPinLaw" = some m.cls := findClass_of_methodNamed Bd.named
  have hnm := (name_of_methodNamed Bd.named Bd.method).1
  have X0 : Stand p l e room_1 s m #[(.int p1), (.int p2)] below meth c s₁ [] 0 0 := Stand.of_body Bd
  have e0 : s₁.heap = h0 := by rw [← hh, Bd.state]; rfl
  have N0 := Fr.nil n0
  have pre0 : ∀ t, Steps p.tables e below (s₁.setTop (mkF m 0 #[.val (.int p1), .val (.int p2), .unset, .unset, .unset] [])) t → Steps p.tables e below (s₁.setTop (entryFrame m #[(.int p1), (.int p2)] maxLocals)) t := fun t k => castTop (own_ef_0_II m p1 p2) k
  obtain ⟨_, _, ⟨T1, L1, k1, n1⟩, -, X1, ⟨Lc1, hQ1, l1, y1, z1⟩, st1⟩ := Jvm.LawKit.callS X0 hx (y := (⟨"com/example/nimble_quorum/nimblequorum/quorum/PeerState", "of", "(I)Lcom/example/nimble_quorum/nimblequorum/quorum/PeerState;"⟩ : MethodName)) hown (mvT hZ (hw _ (List.mem_of_getElem? (i := 0) rfl))) (mvT hZ (hw _ (List.mem_of_getElem? (i := 1) rfl))) (mvT hZ (hw _ (List.mem_of_getElem? (i := 2) rfl))) (mvT hZ (hw _ (List.mem_of_getElem? (i := 3) rfl))) (by decide) (backOf (W := 0) (own_of_3 l Z a0 hw [] wVALUES wLOOKING wFOLLOWING wLEADING kVALUES G h0 n0 O0 p1 c0 c1 c2) hZ (hw _ (List.mem_of_getElem? (i := 3) rfl)) (hw _ (List.mem_of_getElem? (i := 2) rfl)) (by decide) (by decide)) (g := (mkF m 8 #[.val (.int p1), .val (.int p2), .val (.int d), .unset, .unset] [(.int p1)])) rfl (by rw [hml]; rfl) (argsL := [(.int p1)]) (rest := []) (lenOf own_pd_1 rfl) rfl (by show 2 * 0 + _ ≤ _; exact Nat.le_of_eq rfl) (hb hby at_8) (fun _ _ => ⟨rfl, e0, (by decide : 0 + 1 ≤ _), (by decide : 0 + 3 ≤ _)⟩)
  dsimp only [Pt.U, Pt.locs, Pt.cells, Pt.slots] at X1 l1 y1 z1 st1 hQ1
  subst l1 y1 z1
  obtain ⟨rfl, N1q, Kq1⟩ := hQ1
  have N1 := Fr.app N0 N1q
  have O1 := O0.keep Kq1 all0
  have K1 := (Keep.refl h0 []).trans Kq1 all0
  obtain ⟨_, _, ⟨T2, L2, k2, n2⟩, -, X2, ⟨Lc2, hQ2, l2, y2, z2⟩, st2⟩ := Jvm.LawKit.callS X1 hx (y := (⟨"com/example/nimble_quorum/nimblequorum/quorum/PeerState", "of", "(I)Lcom/example/nimble_quorum/nimblequorum/quorum/PeerState;"⟩ : MethodName)) hown (mvT hZ (hw _ (List.mem_of_getElem? (i := 0) rfl))) (mvT hZ (hw _ (List.mem_of_getElem? (i := 1) rfl))) (mvT hZ (hw _ (List.mem_of_getElem? (i := 2) rfl))) (mvT hZ (hw _ (List.mem_of_getElem? (i := 3) rfl))) (by decide) (backOf (W := 0) (own_of_5 l Z a0 hw [] wVALUES wLOOKING wFOLLOWING wLEADING kVALUES G T1.heap n0 O1 d d0 d1 d2) hZ (hw _ (List.mem_of_getElem? (i := 3) rfl)) (hw _ (List.mem_of_getElem? (i := 2) rfl)) (by decide) (by decide)) (g := (mkF m 13 #[.val (.int p1), .val (.int p2), .val (.int d), .val (.ref wFOLLOWING), .unset] [(.int d)])) rfl (by rw [hml]; rfl) (argsL := [(.int d)]) (rest := []) (lenOf own_pd_1 rfl) rfl (by show 2 * 0 + _ ≤ _; exact Nat.le_of_eq rfl) (hb hby at_13) (fun _ _ => ⟨rfl, rfl, (by decide : 1 + 1 ≤ _), (by decide : 3 + 3 ≤ _)⟩)
  dsimp only [Pt.U, Pt.locs, Pt.cells, Pt.slots] at X2 l2 y2 z2 st2 hQ2
  subst l2 y2 z2
  obtain ⟨rfl, N2q, Kq2⟩ := hQ2
  have N2 := Fr.app N1 N2q
  have O2 := O1.keep Kq2 all0
  have K2 := K1.trans Kq2 all0
  obtain ⟨_, _, ⟨T3, L3, k3, n3⟩, -, X3, ⟨Lc3, hQ3, l3, y3, z3⟩, st3⟩ := Jvm.LawKit.callS X2 hx (y := (⟨"com/example/nimble_quorum/nimblequorum/quorum/PeerStateOfPinLaw", "expected", "(I)Lcom/example/nimble_quorum/nimblequorum/quorum/PeerState;"⟩ : MethodName)) hown (mvT hZ (hw _ (List.mem_of_getElem? (i := 24) rfl))) (mvT hZ (hw _ (List.mem_of_getElem? (i := 25) rfl))) (mvT hZ (hw _ (List.mem_of_getElem? (i := 26) rfl))) (mvT hZ (hw _ (List.mem_of_getElem? (i := 27) rfl))) (by decide) (backOf (W := 1) (own_expected_4 l Z a0 hw [] wVALUES wLOOKING wFOLLOWING wLEADING kVALUES G T2.heap n0 O2 p1 c0 c1 c2) hZ (hw _ (List.mem_of_getElem? (i := 27) rfl)) (hw _ (List.mem_of_getElem? (i := 26) rfl)) (by decide) (by decide)) (g := (mkF m 20 #[.val (.int p1), .val (.int p2), .val (.int d), .val (.ref wFOLLOWING), .val (.ref wLEADING)] [(.int p1), (.ref wFOLLOWING)])) rfl (by rw [hml]; rfl) (argsL := [(.int p1)]) (rest := [(.ref wFOLLOWING)]) (lenOf own_pd_1 rfl) rfl (by show 2 * 0 + _ ≤ _; exact Nat.le_of_eq rfl) (hb hby at_20) (fun _ _ => ⟨rfl, rfl, (by decide : 2 + 0 ≤ _), (by decide : 6 + 0 ≤ _)⟩)
  dsimp only [Pt.U, Pt.locs, Pt.cells, Pt.slots] at X3 l3 y3 z3 st3 hQ3
  subst l3 y3 z3
  obtain ⟨rfl, N3q, e3⟩ := hQ3
  have N3 := Fr.app N2 N3q
  obtain ⟨_, _, ⟨T4, L4, k4, n4⟩, -, X4, ⟨Lc4, hQ4, l4, y4, z4⟩, st4⟩ := Jvm.LawKit.callS X3 hx (y := (⟨"com/example/nimble_quorum/nimblequorum/quorum/PeerStateOfPinLaw", "expected", "(I)Lcom/example/nimble_quorum/nimblequorum/quorum/PeerState;"⟩ : MethodName)) hown (mvT hZ (hw _ (List.mem_of_getElem? (i := 24) rfl))) (mvT hZ (hw _ (List.mem_of_getElem? (i := 25) rfl))) (mvT hZ (hw _ (List.mem_of_getElem? (i := 26) rfl))) (mvT hZ (hw _ (List.mem_of_getElem? (i := 27) rfl))) (by decide) (backOf (W := 1) (own_expected_6 l Z a0 hw [] wVALUES wLOOKING wFOLLOWING wLEADING kVALUES G T2.heap n0 O2 d d0 d1 d2) hZ (hw _ (List.mem_of_getElem? (i := 27) rfl)) (hw _ (List.mem_of_getElem? (i := 26) rfl)) (by decide) (by decide)) (g := (mkF m 29 #[.val (.int p1), .val (.int p2), .val (.int d), .val (.ref wFOLLOWING), .val (.ref wLEADING)] [(.int d), (.ref wLEADING)])) rfl (by rw [hml]; rfl) (argsL := [(.int d)]) (rest := [(.ref wLEADING)]) (lenOf own_pd_1 rfl) rfl (by show 2 * 0 + _ ≤ _; exact Nat.le_of_eq rfl) (hb hby at_29) (fun _ _ => ⟨rfl, e3, (by decide : 2 + 0 ≤ _), (by decide : 6 + 0 ≤ _)⟩)
  dsimp only [Pt.U, Pt.locs, Pt.cells, Pt.slots] at X4 l4 y4 z4 st4 hQ4
  subst l4 y4 z4
  obtain ⟨rfl, N4q, e4⟩ := hQ4
  have N4 := Fr.app N3 N4q
  obtain ⟨fs, hr, hrun, hended, hW, hsame⟩ := X4.leave (v := some (.int (1 : Int32))) (fun h => by rw [Bd.returns] at h; cases h)
  refine ⟨_, _, pre0 _ ?_, hrun, hended, _, _, rfl, ?_, ⟨_, rfl⟩, hW, hsame.mono (by decide) (by decide)⟩
  · show Steps p.tables e below (s₁.setTop (mkF m 0 #[.val (.int p1), .val (.int p2), .unset, .unset, .unset] [])) _
    refine XS.iloadN X0.here hx rfl (hb hby at_0) rfl ?_
    show Steps p.tables e below (s₁.setTop (mkF m 1 #[.val (.int p1), .val (.int p2), .unset, .unset, .unset] [(.int p2)])) _
    refine XS.bipush X0.here hx rfl (hb hby at_1) ?_
    show Steps p.tables e below (s₁.setTop (mkF m 3 #[.val (.int p1), .val (.int p2), .unset, .unset, .unset] [(.int (7 : Int32)), (.int p2)])) _
    refine XS.iand X0.here hx rfl (hb hby at_3) rfl ?_
    show Steps p.tables e below (s₁.setTop (mkF m 4 #[.val (.int p1), .val (.int p2), .unset, .unset, .unset] [(.int (p2 &&& (7 : Int32)))])) _
    refine XS.iconst X0.here hx rfl (hb hby at_4) ?_
    show Steps p.tables e below (s₁.setTop (mkF m 5 #[.val (.int p1), .val (.int p2), .unset, .unset, .unset] [(.int (2 : Int32)), (.int (p2 &&& (7 : Int32)))])) _
    refine XS.isub X0.here hx rfl (hb hby at_5) rfl ?_
    show Steps p.tables e below (s₁.setTop (mkF m 6 #[.val (.int p1), .val (.int p2), .unset, .unset, .unset] [(.int ((p2 &&& (7 : Int32)) - (2 : Int32)))])) _
    refine castTop (g' := (mkF m 6 #[.val (.int p1), .val (.int p2), .unset, .unset, .unset] [(.int d)])) (by rw [hd]) ?_
    show Steps p.tables e below (s₁.setTop (mkF m 6 #[.val (.int p1), .val (.int p2), .unset, .unset, .unset] [(.int d)])) _
    refine XS.istoreN X0.here hx rfl (hb hby at_6) rfl (l' := #[.val (.int p1), .val (.int p2), .val (.int d), .unset, .unset]) rfl ?_
    show Steps p.tables e below (s₁.setTop (mkF m 7 #[.val (.int p1), .val (.int p2), .val (.int d), .unset, .unset] [])) _
    refine XS.iloadN X0.here hx rfl (hb hby at_7) rfl ?_
    show Steps p.tables e below (s₁.setTop (mkF m 8 #[.val (.int p1), .val (.int p2), .val (.int d), .unset, .unset] [(.int p1)])) _
    refine st1 _ ?_
    show Steps p.tables e below (T1.setTop (mkF m 11 #[.val (.int p1), .val (.int p2), .val (.int d), .unset, .unset] [(.ref wFOLLOWING)])) _
    refine XS.astoreN X1.here hx rfl (hb hby at_11) rfl rfl (l' := #[.val (.int p1), .val (.int p2), .val (.int d), .val (.ref wFOLLOWING), .unset]) rfl ?_
    show Steps p.tables e below (T1.setTop (mkF m 12 #[.val (.int p1), .val (.int p2), .val (.int d), .val (.ref wFOLLOWING), .unset] [])) _
    refine XS.iloadN X1.here hx rfl (hb hby at_12) rfl ?_
    show Steps p.tables e below (T1.setTop (mkF m 13 #[.val (.int p1), .val (.int p2), .val (.int d), .val (.ref wFOLLOWING), .unset] [(.int d)])) _
    refine st2 _ ?_
    show Steps p.tables e below (T2.setTop (mkF m 16 #[.val (.int p1), .val (.int p2), .val (.int d), .val (.ref wFOLLOWING), .unset] [(.ref wLEADING)])) _
    refine XS.astore X2.here hx rfl (hb hby at_16) rfl rfl (l' := #[.val (.int p1), .val (.int p2), .val (.int d), .val (.ref wFOLLOWING), .val (.ref wLEADING)]) rfl ?_
    show Steps p.tables e below (T2.setTop (mkF m 18 #[.val (.int p1), .val (.int p2), .val (.int d), .val (.ref wFOLLOWING), .val (.ref wLEADING)] [])) _
    refine XS.aloadN X2.here hx rfl (hb hby at_18) rfl rfl ?_
    show Steps p.tables e below (T2.setTop (mkF m 19 #[.val (.int p1), .val (.int p2), .val (.int d), .val (.ref wFOLLOWING), .val (.ref wLEADING)] [(.ref wFOLLOWING)])) _
    refine XS.iloadN X2.here hx rfl (hb hby at_19) rfl ?_
    show Steps p.tables e below (T2.setTop (mkF m 20 #[.val (.int p1), .val (.int p2), .val (.int d), .val (.ref wFOLLOWING), .val (.ref wLEADING)] [(.int p1), (.ref wFOLLOWING)])) _
    refine st3 _ ?_
    show Steps p.tables e below (T3.setTop (mkF m 23 #[.val (.int p1), .val (.int p2), .val (.int d), .val (.ref wFOLLOWING), .val (.ref wLEADING)] [(.ref wFOLLOWING), (.ref wFOLLOWING)])) _
    refine Jvm.RoadKit.acmp (g := (mkF m 23 #[.val (.int p1), .val (.int p2), .val (.int d), .val (.ref wFOLLOWING), .val (.ref wLEADING)] [(.ref wFOLLOWING), (.ref wFOLLOWING)])) X3 hx rfl rfl rfl (pc0 := 23) (pc' := 26) (same := true) rfl (hb hby at_23) rfl (decide_eq_true rfl) (by decide) (by decide) ?_
    show Steps p.tables e below (T3.setTop (mkF m 26 #[.val (.int p1), .val (.int p2), .val (.int d), .val (.ref wFOLLOWING), .val (.ref wLEADING)] [])) _
    refine XS.aload X3.here hx rfl (hb hby at_26) rfl rfl ?_
    show Steps p.tables e below (T3.setTop (mkF m 28 #[.val (.int p1), .val (.int p2), .val (.int d), .val (.ref wFOLLOWING), .val (.ref wLEADING)] [(.ref wLEADING)])) _
    refine XS.iloadN X3.here hx rfl (hb hby at_28) rfl ?_
    show Steps p.tables e below (T3.setTop (mkF m 29 #[.val (.int p1), .val (.int p2), .val (.int d), .val (.ref wFOLLOWING), .val (.ref wLEADING)] [(.int d), (.ref wLEADING)])) _
    refine st4 _ ?_
    show Steps p.tables e below (T4.setTop (mkF m 32 #[.val (.int p1), .val (.int p2), .val (.int d), .val (.ref wFOLLOWING), .val (.ref wLEADING)] [(.ref wLEADING), (.ref wLEADING)])) _
    refine Jvm.RoadKit.acmp (g := (mkF m 32 #[.val (.int p1), .val (.int p2), .val (.int d), .val (.ref wFOLLOWING), .val (.ref wLEADING)] [(.ref wLEADING), (.ref wLEADING)])) X4 hx rfl rfl rfl (pc0 := 32) (pc' := 35) (same := true) rfl (hb hby at_32) rfl (decide_eq_true rfl) (by decide) (by decide) ?_
    show Steps p.tables e below (T4.setTop (mkF m 35 #[.val (.int p1), .val (.int p2), .val (.int d), .val (.ref wFOLLOWING), .val (.ref wLEADING)] [])) _
    refine XS.iconst X4.here hx rfl (hb hby at_35) ?_
    show Steps p.tables e below (T4.setTop (mkF m 36 #[.val (.int p1), .val (.int p2), .val (.int d), .val (.ref wFOLLOWING), .val (.ref wLEADING)] [(.int (1 : Int32))])) _
    refine XS.goto X4.here hx rfl (pc0 := 36) (pc' := 40) rfl (hb hby at_36) (by decide) (by decide) ?_
    show Steps p.tables e below (T4.setTop (mkF m 40 #[.val (.int p1), .val (.int p2), .val (.int d), .val (.ref wFOLLOWING), .val (.ref wLEADING)] [(.int (1 : Int32))])) _
    exact retN X4 hx (t := .boolean) Bd.returns (by simp) (hb hby at_40) hr
  · exact ⟨rfl, N4⟩
set_option maxRecDepth 65536 in
set_option maxHeartbeats 40000000 in
theorem own_law_13 (l : Launch) (Z : State) (a0 : Array Value) (hw : ∀ d ∈ tables_1, d.before a0 Z = true) (ws : List Jvm.Cond) (wVALUES : Addr) (wLOOKING : Addr) (wFOLLOWING : Addr) (wLEADING : Addr) (kVALUES : ClassId) (G : OwnG Z wVALUES wLOOKING wFOLLOWING wLEADING kVALUES) (h0 : Heap) (n0 : Nat) (O0 : Old Z n0 h0) (p1 : Int32) (p2 : Int32) (d : Int32) (c0 : ¬ (p1 = (0 : Int32))) (c1 : p1 = (1 : Int32)) (c2 : ¬ (p1 = (2 : Int32))) (hd : ((p2 &&& (7 : Int32)) - (2 : Int32)) = d) (d0 : ¬ (d = (0 : Int32))) (d1 : ¬ (d = (1 : Int32))) (d2 : ¬ (d = (2 : Int32))) :
    MetFree l x (head1 (Jvm.Cond.code x code maxLocals ret :: ws) room_1) (fun a U => a = #[(.int p1), (.int p2)] ∧ Z.Warmed39 U.vm ∧ U.heap = h0) (fun _ _ _ _ _ => True) (fun _ U o U' => ∃ v L, o = .returned v ∧ (v = some (.int 1) ∧ Fr n0 L) ∧ FrameEnd U o U' L room_1.cells room_1.slots) := by
  refine MetFree.of_bodySF (plainFor_of_name own_pn_0) hisR ?_
  intro p e s m args below meth c s₁ Bd hml0 hP hK
  obtain ⟨rfl, hZ, hh⟩ := hP
  have hx := Bd.exec
  have hby := Bd.bytes
  have hml : c.maxLocals = 5 := hml0
  have hown : s.vm.findClass "com/example/nimble_quorum/nimblequorum/quorum/PeerStateOfPinLaw" = some m.cls := findClass_of_methodNamed Bd.named
  have hnm := (name_of_methodNamed Bd.named Bd.method).1
  have X0 : Stand p l e room_1 s m #[(.int p1), (.int p2)] below meth c s₁ [] 0 0 := Stand.of_body Bd
  have e0 : s₁.heap = h0 := by rw [← hh, Bd.state]; rfl
  have N0 := Fr.nil n0
  have pre0 : ∀ t, Steps p.tables e below (s₁.setTop (mkF m 0 #[.val (.int p1), .val (.int p2), .unset, .unset, .unset] [])) t → Steps p.tables e below (s₁.setTop (entryFrame m #[(.int p1), (.int p2)] maxLocals)) t := fun t k => castTop (own_ef_0_II m p1 p2) k
  obtain ⟨_, _, ⟨T1, L1, k1, n1⟩, -, X1, ⟨Lc1, hQ1, l1, y1, z1⟩, st1⟩ := Jvm.LawKit.callS X0 hx (y := (⟨"com/example/nimble_quorum/nimblequorum/quorum/PeerState", "of", "(I)Lcom/example/nimble_quorum/nimblequorum/quorum/PeerState;"⟩ : MethodName)) hown (mvT hZ (hw _ (List.mem_of_getElem? (i := 0) rfl))) (mvT hZ (hw _ (List.mem_of_getElem? (i := 1) rfl))) (mvT hZ (hw _ (List.mem_of_getElem? (i := 2) rfl))) (mvT hZ (hw _ (List.mem_of_getElem? (i := 3) rfl))) (by decide) (backOf (W := 0) (own_of_3 l Z a0 hw [] wVALUES wLOOKING wFOLLOWING wLEADING kVALUES G h0 n0 O0 p1 c0 c1 c2) hZ (hw _ (List.mem_of_getElem? (i := 3) rfl)) (hw _ (List.mem_of_getElem? (i := 2) rfl)) (by decide) (by decide)) (g := (mkF m 8 #[.val (.int p1), .val (.int p2), .val (.int d), .unset, .unset] [(.int p1)])) rfl (by rw [hml]; rfl) (argsL := [(.int p1)]) (rest := []) (lenOf own_pd_1 rfl) rfl (by show 2 * 0 + _ ≤ _; exact Nat.le_of_eq rfl) (hb hby at_8) (fun _ _ => ⟨rfl, e0, (by decide : 0 + 1 ≤ _), (by decide : 0 + 3 ≤ _)⟩)
  dsimp only [Pt.U, Pt.locs, Pt.cells, Pt.slots] at X1 l1 y1 z1 st1 hQ1
  subst l1 y1 z1
  obtain ⟨rfl, N1q, Kq1⟩ := hQ1
  have N1 := Fr.app N0 N1q
  have O1 := O0.keep Kq1 all0
  have K1 := (Keep.refl h0 []).trans Kq1 all0
  obtain ⟨_, _, ⟨T2, L2, k2, n2⟩, -, X2, ⟨Lc2, hQ2, l2, y2, z2⟩, st2⟩ := Jvm.LawKit.callS X1 hx (y := (⟨"com/example/nimble_quorum/nimblequorum/quorum/PeerState", "of", "(I)Lcom/example/nimble_quorum/nimblequorum/quorum/PeerState;"⟩ : MethodName)) hown (mvT hZ (hw _ (List.mem_of_getElem? (i := 0) rfl))) (mvT hZ (hw _ (List.mem_of_getElem? (i := 1) rfl))) (mvT hZ (hw _ (List.mem_of_getElem? (i := 2) rfl))) (mvT hZ (hw _ (List.mem_of_getElem? (i := 3) rfl))) (by decide) (backOf (W := 0) (own_of_7 l Z a0 hw [] wVALUES wLOOKING wFOLLOWING wLEADING kVALUES G T1.heap n0 O1 d d0 d1 d2) hZ (hw _ (List.mem_of_getElem? (i := 3) rfl)) (hw _ (List.mem_of_getElem? (i := 2) rfl)) (by decide) (by decide)) (g := (mkF m 13 #[.val (.int p1), .val (.int p2), .val (.int d), .val (.ref wFOLLOWING), .unset] [(.int d)])) rfl (by rw [hml]; rfl) (argsL := [(.int d)]) (rest := []) (lenOf own_pd_1 rfl) rfl (by show 2 * 0 + _ ≤ _; exact Nat.le_of_eq rfl) (hb hby at_13) (fun _ _ => ⟨rfl, rfl, (by decide : 1 + 1 ≤ _), (by decide : 3 + 3 ≤ _)⟩)
  dsimp only [Pt.U, Pt.locs, Pt.cells, Pt.slots] at X2 l2 y2 z2 st2 hQ2
  subst l2 y2 z2
  obtain ⟨rfl, N2q, Kq2⟩ := hQ2
  have N2 := Fr.app N1 N2q
  have O2 := O1.keep Kq2 all0
  have K2 := K1.trans Kq2 all0
  obtain ⟨_, _, ⟨T3, L3, k3, n3⟩, -, X3, ⟨Lc3, hQ3, l3, y3, z3⟩, st3⟩ := Jvm.LawKit.callS X2 hx (y := (⟨"com/example/nimble_quorum/nimblequorum/quorum/PeerStateOfPinLaw", "expected", "(I)Lcom/example/nimble_quorum/nimblequorum/quorum/PeerState;"⟩ : MethodName)) hown (mvT hZ (hw _ (List.mem_of_getElem? (i := 24) rfl))) (mvT hZ (hw _ (List.mem_of_getElem? (i := 25) rfl))) (mvT hZ (hw _ (List.mem_of_getElem? (i := 26) rfl))) (mvT hZ (hw _ (List.mem_of_getElem? (i := 27) rfl))) (by decide) (backOf (W := 1) (own_expected_4 l Z a0 hw [] wVALUES wLOOKING wFOLLOWING wLEADING kVALUES G T2.heap n0 O2 p1 c0 c1 c2) hZ (hw _ (List.mem_of_getElem? (i := 27) rfl)) (hw _ (List.mem_of_getElem? (i := 26) rfl)) (by decide) (by decide)) (g := (mkF m 20 #[.val (.int p1), .val (.int p2), .val (.int d), .val (.ref wFOLLOWING), .val .null] [(.int p1), (.ref wFOLLOWING)])) rfl (by rw [hml]; rfl) (argsL := [(.int p1)]) (rest := [(.ref wFOLLOWING)]) (lenOf own_pd_1 rfl) rfl (by show 2 * 0 + _ ≤ _; exact Nat.le_of_eq rfl) (hb hby at_20) (fun _ _ => ⟨rfl, rfl, (by decide : 2 + 0 ≤ _), (by decide : 6 + 0 ≤ _)⟩)
  dsimp only [Pt.U, Pt.locs, Pt.cells, Pt.slots] at X3 l3 y3 z3 st3 hQ3
  subst l3 y3 z3
  obtain ⟨rfl, N3q, e3⟩ := hQ3
  have N3 := Fr.app N2 N3q
  obtain ⟨_, _, ⟨T4, L4, k4, n4⟩, -, X4, ⟨Lc4, hQ4, l4, y4, z4⟩, st4⟩ := Jvm.LawKit.callS X3 hx (y := (⟨"com/example/nimble_quorum/nimblequorum/quorum/PeerStateOfPinLaw", "expected", "(I)Lcom/example/nimble_quorum/nimblequorum/quorum/PeerState;"⟩ : MethodName)) hown (mvT hZ (hw _ (List.mem_of_getElem? (i := 24) rfl))) (mvT hZ (hw _ (List.mem_of_getElem? (i := 25) rfl))) (mvT hZ (hw _ (List.mem_of_getElem? (i := 26) rfl))) (mvT hZ (hw _ (List.mem_of_getElem? (i := 27) rfl))) (by decide) (backOf (W := 1) (own_expected_8 l Z a0 hw [] wVALUES wLOOKING wFOLLOWING wLEADING kVALUES G T2.heap n0 O2 d d0 d1 d2) hZ (hw _ (List.mem_of_getElem? (i := 27) rfl)) (hw _ (List.mem_of_getElem? (i := 26) rfl)) (by decide) (by decide)) (g := (mkF m 29 #[.val (.int p1), .val (.int p2), .val (.int d), .val (.ref wFOLLOWING), .val .null] [(.int d), .null])) rfl (by rw [hml]; rfl) (argsL := [(.int d)]) (rest := [.null]) (lenOf own_pd_1 rfl) rfl (by show 2 * 0 + _ ≤ _; exact Nat.le_of_eq rfl) (hb hby at_29) (fun _ _ => ⟨rfl, e3, (by decide : 2 + 0 ≤ _), (by decide : 6 + 0 ≤ _)⟩)
  dsimp only [Pt.U, Pt.locs, Pt.cells, Pt.slots] at X4 l4 y4 z4 st4 hQ4
  subst l4 y4 z4
  obtain ⟨rfl, N4q, e4⟩ := hQ4
  have N4 := Fr.app N3 N4q
  obtain ⟨fs, hr, hrun, hended, hW, hsame⟩ := X4.leave (v := some (.int (1 : Int32))) (fun h => by rw [Bd.returns] at h; cases h)
  refine ⟨_, _, pre0 _ ?_, hrun, hended, _, _, rfl, ?_, ⟨_, rfl⟩, hW, hsame.mono (by decide) (by decide)⟩
  · show Steps p.tables e below (s₁.setTop (mkF m 0 #[.val (.int p1), .val (.int p2), .unset, .unset, .unset] [])) _
    refine XS.iloadN X0.here hx rfl (hb hby at_0) rfl ?_
    show Steps p.tables e below (s₁.setTop (mkF m 1 #[.val (.int p1), .val (.int p2), .unset, .unset, .unset] [(.int p2)])) _
    refine XS.bipush X0.here hx rfl (hb hby at_1) ?_
    show Steps p.tables e below (s₁.setTop (mkF m 3 #[.val (.int p1), .val (.int p2), .unset, .unset, .unset] [(.int (7 : Int32)), (.int p2)])) _
    refine XS.iand X0.here hx rfl (hb hby at_3) rfl ?_
    show Steps p.tables e below (s₁.setTop (mkF m 4 #[.val (.int p1), .val (.int p2), .unset, .unset, .unset] [(.int (p2 &&& (7 : Int32)))])) _
    refine XS.iconst X0.here hx rfl (hb hby at_4) ?_
    show Steps p.tables e below (s₁.setTop (mkF m 5 #[.val (.int p1), .val (.int p2), .unset, .unset, .unset] [(.int (2 : Int32)), (.int (p2 &&& (7 : Int32)))])) _
    refine XS.isub X0.here hx rfl (hb hby at_5) rfl ?_
    show Steps p.tables e below (s₁.setTop (mkF m 6 #[.val (.int p1), .val (.int p2), .unset, .unset, .unset] [(.int ((p2 &&& (7 : Int32)) - (2 : Int32)))])) _
    refine castTop (g' := (mkF m 6 #[.val (.int p1), .val (.int p2), .unset, .unset, .unset] [(.int d)])) (by rw [hd]) ?_
    show Steps p.tables e below (s₁.setTop (mkF m 6 #[.val (.int p1), .val (.int p2), .unset, .unset, .unset] [(.int d)])) _
    refine XS.istoreN X0.here hx rfl (hb hby at_6) rfl (l' := #[.val (.int p1), .val (.int p2), .val (.int d), .unset, .unset]) rfl ?_
    show Steps p.tables e below (s₁.setTop (mkF m 7 #[.val (.int p1), .val (.int p2), .val (.int d), .unset, .unset] [])) _
    refine XS.iloadN X0.here hx rfl (hb hby at_7) rfl ?_
    show Steps p.tables e below (s₁.setTop (mkF m 8 #[.val (.int p1), .val (.int p2), .val (.int d), .unset, .unset] [(.int p1)])) _
    refine st1 _ ?_
    show Steps p.tables e below (T1.setTop (mkF m 11 #[.val (.int p1), .val (.int p2), .val (.int d), .unset, .unset] [(.ref wFOLLOWING)])) _
    refine XS.astoreN X1.here hx rfl (hb hby at_11) rfl rfl (l' := #[.val (.int p1), .val (.int p2), .val (.int d), .val (.ref wFOLLOWING), .unset]) rfl ?_
    show Steps p.tables e below (T1.setTop (mkF m 12 #[.val (.int p1), .val (.int p2), .val (.int d), .val (.ref wFOLLOWING), .unset] [])) _
    refine XS.iloadN X1.here hx rfl (hb hby at_12) rfl ?_
    show Steps p.tables e below (T1.setTop (mkF m 13 #[.val (.int p1), .val (.int p2), .val (.int d), .val (.ref wFOLLOWING), .unset] [(.int d)])) _
    refine st2 _ ?_
    show Steps p.tables e below (T2.setTop (mkF m 16 #[.val (.int p1), .val (.int p2), .val (.int d), .val (.ref wFOLLOWING), .unset] [.null])) _
    refine XS.astore X2.here hx rfl (hb hby at_16) rfl rfl (l' := #[.val (.int p1), .val (.int p2), .val (.int d), .val (.ref wFOLLOWING), .val .null]) rfl ?_
    show Steps p.tables e below (T2.setTop (mkF m 18 #[.val (.int p1), .val (.int p2), .val (.int d), .val (.ref wFOLLOWING), .val .null] [])) _
    refine XS.aloadN X2.here hx rfl (hb hby at_18) rfl rfl ?_
    show Steps p.tables e below (T2.setTop (mkF m 19 #[.val (.int p1), .val (.int p2), .val (.int d), .val (.ref wFOLLOWING), .val .null] [(.ref wFOLLOWING)])) _
    refine XS.iloadN X2.here hx rfl (hb hby at_19) rfl ?_
    show Steps p.tables e below (T2.setTop (mkF m 20 #[.val (.int p1), .val (.int p2), .val (.int d), .val (.ref wFOLLOWING), .val .null] [(.int p1), (.ref wFOLLOWING)])) _
    refine st3 _ ?_
    show Steps p.tables e below (T3.setTop (mkF m 23 #[.val (.int p1), .val (.int p2), .val (.int d), .val (.ref wFOLLOWING), .val .null] [(.ref wFOLLOWING), (.ref wFOLLOWING)])) _
    refine Jvm.RoadKit.acmp (g := (mkF m 23 #[.val (.int p1), .val (.int p2), .val (.int d), .val (.ref wFOLLOWING), .val .null] [(.ref wFOLLOWING), (.ref wFOLLOWING)])) X3 hx rfl rfl rfl (pc0 := 23) (pc' := 26) (same := true) rfl (hb hby at_23) rfl (decide_eq_true rfl) (by decide) (by decide) ?_
    show Steps p.tables e below (T3.setTop (mkF m 26 #[.val (.int p1), .val (.int p2), .val (.int d), .val (.ref wFOLLOWING), .val .null] [])) _
    refine XS.aload X3.here hx rfl (hb hby at_26) rfl rfl ?_
    show Steps p.tables e below (T3.setTop (mkF m 28 #[.val (.int p1), .val (.int p2), .val (.int d), .val (.ref wFOLLOWING), .val .null] [.null])) _
    refine XS.iloadN X3.here hx rfl (hb hby at_28) rfl ?_
    show Steps p.tables e below (T3.setTop (mkF m 29 #[.val (.int p1), .val (.int p2), .val (.int d), .val (.ref wFOLLOWING), .val .null] [(.int d), .null])) _
    refine st4 _ ?_
    show Steps p.tables e below (T4.setTop (mkF m 32 #[.val (.int p1), .val (.int p2), .val (.int d), .val (.ref wFOLLOWING), .val .null] [.null, .null])) _
    refine Jvm.RoadKit.acmp (g := (mkF m 32 #[.val (.int p1), .val (.int p2), .val (.int d), .val (.ref wFOLLOWING), .val .null] [.null, .null])) X4 hx rfl rfl rfl (pc0 := 32) (pc' := 35) (same := true) rfl (hb hby at_32) rfl (decide_eq_true rfl) (by decide) (by decide) ?_
    show Steps p.tables e below (T4.setTop (mkF m 35 #[.val (.int p1), .val (.int p2), .val (.int d), .val (.ref wFOLLOWING), .val .null] [])) _
    refine XS.iconst X4.here hx rfl (hb hby at_35) ?_
    show Steps p.tables e below (T4.setTop (mkF m 36 #[.val (.int p1), .val (.int p2), .val (.int d), .val (.ref wFOLLOWING), .val .null] [(.int (1 : Int32))])) _
    refine XS.goto X4.here hx rfl (pc0 := 36) (pc' := 40) rfl (hb hby at_36) (by decide) (by decide) ?_
    show Steps p.tables e below (T4.setTop (mkF m 40 #[.val (.int p1), .val (.int p2), .val (.int d), .val (.ref wFOLLOWING), .val .null] [(.int (1 : Int32))])) _
    exact retN X4 hx (t := .boolean) Bd.returns (by simp) (hb hby at_40) hr
  · exact ⟨rfl, N4⟩
set_option maxRecDepth 65536 in
set_option maxHeartbeats 40000000 in
theorem own_law_20 (l : Launch) (Z : State) (a0 : Array Value) (hw : ∀ d ∈ tables_1, d.before a0 Z = true) (ws : List Jvm.Cond) (wVALUES : Addr) (wLOOKING : Addr) (wFOLLOWING : Addr) (wLEADING : Addr) (kVALUES : ClassId) (G : OwnG Z wVALUES wLOOKING wFOLLOWING wLEADING kVALUES) (h0 : Heap) (n0 : Nat) (O0 : Old Z n0 h0) (p1 : Int32) (p2 : Int32) (d : Int32) (c0 : ¬ (p1 = (0 : Int32))) (c1 : ¬ (p1 = (1 : Int32))) (c2 : p1 = (2 : Int32)) (hd : ((p2 &&& (7 : Int32)) - (2 : Int32)) = d) (d0 : d = (0 : Int32)) (d1 : ¬ (d = (1 : Int32))) (d2 : ¬ (d = (2 : Int32))) :
    MetFree l x (head1 (Jvm.Cond.code x code maxLocals ret :: ws) room_1) (fun a U => a = #[(.int p1), (.int p2)] ∧ Z.Warmed39 U.vm ∧ U.heap = h0) (fun _ _ _ _ _ => True) (fun _ U o U' => ∃ v L, o = .returned v ∧ (v = some (.int 1) ∧ Fr n0 L) ∧ FrameEnd U o U' L room_1.cells room_1.slots) := by
  refine MetFree.of_bodySF (plainFor_of_name own_pn_0) hisR ?_
  intro p e s m args below meth c s₁ Bd hml0 hP hK
  obtain ⟨rfl, hZ, hh⟩ := hP
  have hx := Bd.exec
  have hby := Bd.bytes
  have hml : c.maxLocals = 5 := hml0
  have hown : s.vm.findClass "com/example/nimble_quorum/nimblequorum/quorum/PeerStateOfPinLaw" = some m.cls := findClass_of_methodNamed Bd.named
  have hnm := (name_of_methodNamed Bd.named Bd.method).1
  have X0 : Stand p l e room_1 s m #[(.int p1), (.int p2)] below meth c s₁ [] 0 0 := Stand.of_body Bd
  have e0 : s₁.heap = h0 := by rw [← hh, Bd.state]; rfl
  have N0 := Fr.nil n0
  have pre0 : ∀ t, Steps p.tables e below (s₁.setTop (mkF m 0 #[.val (.int p1), .val (.int p2), .unset, .unset, .unset] [])) t → Steps p.tables e below (s₁.setTop (entryFrame m #[(.int p1), (.int p2)] maxLocals)) t := fun t k => castTop (own_ef_0_II m p1 p2) k
  obtain ⟨_, _, ⟨T1, L1, k1, n1⟩, -, X1, ⟨Lc1, hQ1, l1, y1, z1⟩, st1⟩ := Jvm.LawKit.callS X0 hx (y := (⟨"com/example/nimble_quorum/nimblequorum/quorum/PeerState", "of", "(I)Lcom/example/nimble_quorum/nimblequorum/quorum/PeerState;"⟩ : MethodName)) hown (mvT hZ (hw _ (List.mem_of_getElem? (i := 0) rfl))) (mvT hZ (hw _ (List.mem_of_getElem? (i := 1) rfl))) (mvT hZ (hw _ (List.mem_of_getElem? (i := 2) rfl))) (mvT hZ (hw _ (List.mem_of_getElem? (i := 3) rfl))) (by decide) (backOf (W := 0) (own_of_5 l Z a0 hw [] wVALUES wLOOKING wFOLLOWING wLEADING kVALUES G h0 n0 O0 p1 c0 c1 c2) hZ (hw _ (List.mem_of_getElem? (i := 3) rfl)) (hw _ (List.mem_of_getElem? (i := 2) rfl)) (by decide) (by decide)) (g := (mkF m 8 #[.val (.int p1), .val (.int p2), .val (.int d), .unset, .unset] [(.int p1)])) rfl (by rw [hml]; rfl) (argsL := [(.int p1)]) (rest := []) (lenOf own_pd_1 rfl) rfl (by show 2 * 0 + _ ≤ _; exact Nat.le_of_eq rfl) (hb hby at_8) (fun _ _ => ⟨rfl, e0, (by decide : 0 + 1 ≤ _), (by decide : 0 + 3 ≤ _)⟩)
  dsimp only [Pt.U, Pt.locs, Pt.cells, Pt.slots] at X1 l1 y1 z1 st1 hQ1
  subst l1 y1 z1
  obtain ⟨rfl, N1q, Kq1⟩ := hQ1
  have N1 := Fr.app N0 N1q
  have O1 := O0.keep Kq1 all0
  have K1 := (Keep.refl h0 []).trans Kq1 all0
  obtain ⟨_, _, ⟨T2, L2, k2, n2⟩, -, X2, ⟨Lc2, hQ2, l2, y2, z2⟩, st2⟩ := Jvm.LawKit.callS X1 hx (y := (⟨"com/example/nimble_quorum/nimblequorum/quorum/PeerState", "of", "(I)Lcom/example/nimble_quorum/nimblequorum/quorum/PeerState;"⟩ : MethodName)) hown (mvT hZ (hw _ (List.mem_of_getElem? (i := 0) rfl))) (mvT hZ (hw _ (List.mem_of_getElem? (i := 1) rfl))) (mvT hZ (hw _ (List.mem_of_getElem? (i := 2) rfl))) (mvT hZ (hw _ (List.mem_of_getElem? (i := 3) rfl))) (by decide) (backOf (W := 0) (own_of_0 l Z a0 hw [] wVALUES wLOOKING wFOLLOWING wLEADING kVALUES G T1.heap n0 O1 d d0 d1 d2) hZ (hw _ (List.mem_of_getElem? (i := 3) rfl)) (hw _ (List.mem_of_getElem? (i := 2) rfl)) (by decide) (by decide)) (g := (mkF m 13 #[.val (.int p1), .val (.int p2), .val (.int d), .val (.ref wLEADING), .unset] [(.int d)])) rfl (by rw [hml]; rfl) (argsL := [(.int d)]) (rest := []) (lenOf own_pd_1 rfl) rfl (by show 2 * 0 + _ ≤ _; exact Nat.le_of_eq rfl) (hb hby at_13) (fun _ _ => ⟨rfl, rfl, (by decide : 1 + 1 ≤ _), (by decide : 3 + 3 ≤ _)⟩)
  dsimp only [Pt.U, Pt.locs, Pt.cells, Pt.slots] at X2 l2 y2 z2 st2 hQ2
  subst l2 y2 z2
  obtain ⟨rfl, N2q, Kq2⟩ := hQ2
  have N2 := Fr.app N1 N2q
  have O2 := O1.keep Kq2 all0
  have K2 := K1.trans Kq2 all0
  obtain ⟨_, _, ⟨T3, L3, k3, n3⟩, -, X3, ⟨Lc3, hQ3, l3, y3, z3⟩, st3⟩ := Jvm.LawKit.callS X2 hx (y := (⟨"com/example/nimble_quorum/nimblequorum/quorum/PeerStateOfPinLaw", "expected", "(I)Lcom/example/nimble_quorum/nimblequorum/quorum/PeerState;"⟩ : MethodName)) hown (mvT hZ (hw _ (List.mem_of_getElem? (i := 24) rfl))) (mvT hZ (hw _ (List.mem_of_getElem? (i := 25) rfl))) (mvT hZ (hw _ (List.mem_of_getElem? (i := 26) rfl))) (mvT hZ (hw _ (List.mem_of_getElem? (i := 27) rfl))) (by decide) (backOf (W := 1) (own_expected_6 l Z a0 hw [] wVALUES wLOOKING wFOLLOWING wLEADING kVALUES G T2.heap n0 O2 p1 c0 c1 c2) hZ (hw _ (List.mem_of_getElem? (i := 27) rfl)) (hw _ (List.mem_of_getElem? (i := 26) rfl)) (by decide) (by decide)) (g := (mkF m 20 #[.val (.int p1), .val (.int p2), .val (.int d), .val (.ref wLEADING), .val (.ref wLOOKING)] [(.int p1), (.ref wLEADING)])) rfl (by rw [hml]; rfl) (argsL := [(.int p1)]) (rest := [(.ref wLEADING)]) (lenOf own_pd_1 rfl) rfl (by show 2 * 0 + _ ≤ _; exact Nat.le_of_eq rfl) (hb hby at_20) (fun _ _ => ⟨rfl, rfl, (by decide : 2 + 0 ≤ _), (by decide : 6 + 0 ≤ _)⟩)
  dsimp only [Pt.U, Pt.locs, Pt.cells, Pt.slots] at X3 l3 y3 z3 st3 hQ3
  subst l3 y3 z3
  obtain ⟨rfl, N3q, e3⟩ := hQ3
  have N3 := Fr.app N2 N3q
  obtain ⟨_, _, ⟨T4, L4, k4, n4⟩, -, X4, ⟨Lc4, hQ4, l4, y4, z4⟩, st4⟩ := Jvm.LawKit.callS X3 hx (y := (⟨"com/example/nimble_quorum/nimblequorum/quorum/PeerStateOfPinLaw", "expected", "(I)Lcom/example/nimble_quorum/nimblequorum/quorum/PeerState;"⟩ : MethodName)) hown (mvT hZ (hw _ (List.mem_of_getElem? (i := 24) rfl))) (mvT hZ (hw _ (List.mem_of_getElem? (i := 25) rfl))) (mvT hZ (hw _ (List.mem_of_getElem? (i := 26) rfl))) (mvT hZ (hw _ (List.mem_of_getElem? (i := 27) rfl))) (by decide) (backOf (W := 1) (own_expected_2 l Z a0 hw [] wVALUES wLOOKING wFOLLOWING wLEADING kVALUES G T2.heap n0 O2 d d0 d1 d2) hZ (hw _ (List.mem_of_getElem? (i := 27) rfl)) (hw _ (List.mem_of_getElem? (i := 26) rfl)) (by decide) (by decide)) (g := (mkF m 29 #[.val (.int p1), .val (.int p2), .val (.int d), .val (.ref wLEADING), .val (.ref wLOOKING)] [(.int d), (.ref wLOOKING)])) rfl (by rw [hml]; rfl) (argsL := [(.int d)]) (rest := [(.ref wLOOKING)]) (lenOf own_pd_1 rfl) rfl (by show 2 * 0 + _ ≤ _; exact Nat.le_of_eq rfl) (hb hby at_29) (fun _ _ => ⟨rfl, e3, (by decide : 2 + 0 ≤ _), (by decide : 6 + 0 ≤ _)⟩)
  dsimp only [Pt.U, Pt.locs, Pt.cells, Pt.slots] at X4 l4 y4 z4 st4 hQ4
  subst l4 y4 z4
  obtain ⟨rfl, N4q, e4⟩ := hQ4
  have N4 := Fr.app N3 N4q
  obtain ⟨fs, hr, hrun, hended, hW, hsame⟩ := X4.leave (v := some (.int (1 : Int32))) (fun h => by rw [Bd.returns] at h; cases h)
  refine ⟨_, _, pre0 _ ?_, hrun, hended, _, _, rfl, ?_, ⟨_, rfl⟩, hW, hsame.mono (by decide) (by decide)⟩
  · show Steps p.tables e below (s₁.setTop (mkF m 0 #[.val (.int p1), .val (.int p2), .unset, .unset, .unset] [])) _
    refine XS.iloadN X0.here hx rfl (hb hby at_0) rfl ?_
    show Steps p.tables e below (s₁.setTop (mkF m 1 #[.val (.int p1), .val (.int p2), .unset, .unset, .unset] [(.int p2)])) _
    refine XS.bipush X0.here hx rfl (hb hby at_1) ?_
    show Steps p.tables e below (s₁.setTop (mkF m 3 #[.val (.int p1), .val (.int p2), .unset, .unset, .unset] [(.int (7 : Int32)), (.int p2)])) _
    refine XS.iand X0.here hx rfl (hb hby at_3) rfl ?_
    show Steps p.tables e below (s₁.setTop (mkF m 4 #[.val (.int p1), .val (.int p2), .unset, .unset, .unset] [(.int (p2 &&& (7 : Int32)))])) _
    refine XS.iconst X0.here hx rfl (hb hby at_4) ?_
    show Steps p.tables e below (s₁.setTop (mkF m 5 #[.val (.int p1), .val (.int p2), .unset, .unset, .unset] [(.int (2 : Int32)), (.int (p2 &&& (7 : Int32)))])) _
    refine XS.isub X0.here hx rfl (hb hby at_5) rfl ?_
    show Steps p.tables e below (s₁.setTop (mkF m 6 #[.val (.int p1), .val (.int p2), .unset, .unset, .unset] [(.int ((p2 &&& (7 : Int32)) - (2 : Int32)))])) _
    refine castTop (g' := (mkF m 6 #[.val (.int p1), .val (.int p2), .unset, .unset, .unset] [(.int d)])) (by rw [hd]) ?_
    show Steps p.tables e below (s₁.setTop (mkF m 6 #[.val (.int p1), .val (.int p2), .unset, .unset, .unset] [(.int d)])) _
    refine XS.istoreN X0.here hx rfl (hb hby at_6) rfl (l' := #[.val (.int p1), .val (.int p2), .val (.int d), .unset, .unset]) rfl ?_
    show Steps p.tables e below (s₁.setTop (mkF m 7 #[.val (.int p1), .val (.int p2), .val (.int d), .unset, .unset] [])) _
    refine XS.iloadN X0.here hx rfl (hb hby at_7) rfl ?_
    show Steps p.tables e below (s₁.setTop (mkF m 8 #[.val (.int p1), .val (.int p2), .val (.int d), .unset, .unset] [(.int p1)])) _
    refine st1 _ ?_
    show Steps p.tables e below (T1.setTop (mkF m 11 #[.val (.int p1), .val (.int p2), .val (.int d), .unset, .unset] [(.ref wLEADING)])) _
    refine XS.astoreN X1.here hx rfl (hb hby at_11) rfl rfl (l' := #[.val (.int p1), .val (.int p2), .val (.int d), .val (.ref wLEADING), .unset]) rfl ?_
    show Steps p.tables e below (T1.setTop (mkF m 12 #[.val (.int p1), .val (.int p2), .val (.int d), .val (.ref wLEADING), .unset] [])) _
    refine XS.iloadN X1.here hx rfl (hb hby at_12) rfl ?_
    show Steps p.tables e below (T1.setTop (mkF m 13 #[.val (.int p1), .val (.int p2), .val (.int d), .val (.ref wLEADING), .unset] [(.int d)])) _
    refine st2 _ ?_
    show Steps p.tables e below (T2.setTop (mkF m 16 #[.val (.int p1), .val (.int p2), .val (.int d), .val (.ref wLEADING), .unset] [(.ref wLOOKING)])) _
    refine XS.astore X2.here hx rfl (hb hby at_16) rfl rfl (l' := #[.val (.int p1), .val (.int p2), .val (.int d), .val (.ref wLEADING), .val (.ref wLOOKING)]) rfl ?_
    show Steps p.tables e below (T2.setTop (mkF m 18 #[.val (.int p1), .val (.int p2), .val (.int d), .val (.ref wLEADING), .val (.ref wLOOKING)] [])) _
    refine XS.aloadN X2.here hx rfl (hb hby at_18) rfl rfl ?_
    show Steps p.tables e below (T2.setTop (mkF m 19 #[.val (.int p1), .val (.int p2), .val (.int d), .val (.ref wLEADING), .val (.ref wLOOKING)] [(.ref wLEADING)])) _
    refine XS.iloadN X2.here hx rfl (hb hby at_19) rfl ?_
    show Steps p.tables e below (T2.setTop (mkF m 20 #[.val (.int p1), .val (.int p2), .val (.int d), .val (.ref wLEADING), .val (.ref wLOOKING)] [(.int p1), (.ref wLEADING)])) _
    refine st3 _ ?_
    show Steps p.tables e below (T3.setTop (mkF m 23 #[.val (.int p1), .val (.int p2), .val (.int d), .val (.ref wLEADING), .val (.ref wLOOKING)] [(.ref wLEADING), (.ref wLEADING)])) _
    refine Jvm.RoadKit.acmp (g := (mkF m 23 #[.val (.int p1), .val (.int p2), .val (.int d), .val (.ref wLEADING), .val (.ref wLOOKING)] [(.ref wLEADING), (.ref wLEADING)])) X3 hx rfl rfl rfl (pc0 := 23) (pc' := 26) (same := true) rfl (hb hby at_23) rfl (decide_eq_true rfl) (by decide) (by decide) ?_
    show Steps p.tables e below (T3.setTop (mkF m 26 #[.val (.int p1), .val (.int p2), .val (.int d), .val (.ref wLEADING), .val (.ref wLOOKING)] [])) _
    refine XS.aload X3.here hx rfl (hb hby at_26) rfl rfl ?_
    show Steps p.tables e below (T3.setTop (mkF m 28 #[.val (.int p1), .val (.int p2), .val (.int d), .val (.ref wLEADING), .val (.ref wLOOKING)] [(.ref wLOOKING)])) _
    refine XS.iloadN X3.here hx rfl (hb hby at_28) rfl ?_
    show Steps p.tables e below (T3.setTop (mkF m 29 #[.val (.int p1), .val (.int p2), .val (.int d), .val (.ref wLEADING), .val (.ref wLOOKING)] [(.int d), (.ref wLOOKING)])) _
    refine st4 _ ?_
    show Steps p.tables e below (T4.setTop (mkF m 32 #[.val (.int p1), .val (.int p2), .val (.int d), .val (.ref wLEADING), .val (.ref wLOOKING)] [(.ref wLOOKING), (.ref wLOOKING)])) _
    refine Jvm.RoadKit.acmp (g := (mkF m 32 #[.val (.int p1), .val (.int p2), .val (.int d), .val (.ref wLEADING), .val (.ref wLOOKING)] [(.ref wLOOKING), (.ref wLOOKING)])) X4 hx rfl rfl rfl (pc0 := 32) (pc' := 35) (same := true) rfl (hb hby at_32) rfl (decide_eq_true rfl) (by decide) (by decide) ?_
    show Steps p.tables e below (T4.setTop (mkF m 35 #[.val (.int p1), .val (.int p2), .val (.int d), .val (.ref wLEADING), .val (.ref wLOOKING)] [])) _
    refine XS.iconst X4.here hx rfl (hb hby at_35) ?_
    show Steps p.tables e below (T4.setTop (mkF m 36 #[.val (.int p1), .val (.int p2), .val (.int d), .val (.ref wLEADING), .val (.ref wLOOKING)] [(.int (1 : Int32))])) _
    refine XS.goto X4.here hx rfl (pc0 := 36) (pc' := 40) rfl (hb hby at_36) (by decide) (by decide) ?_
    show Steps p.tables e below (T4.setTop (mkF m 40 #[.val (.int p1), .val (.int p2), .val (.int d), .val (.ref wLEADING), .val (.ref wLOOKING)] [(.int (1 : Int32))])) _
    exact retN X4 hx (t := .boolean) Bd.returns (by simp) (hb hby at_40) hr
  · exact ⟨rfl, N4⟩
set_option maxRecDepth 65536 in
set_option maxHeartbeats 40000000 in
theorem own_law_21 (l : Launch) (Z : State) (a0 : Array Value) (hw : ∀ d ∈ tables_1, d.before a0 Z = true) (ws : List Jvm.Cond) (wVALUES : Addr) (wLOOKING : Addr) (wFOLLOWING : Addr) (wLEADING : Addr) (kVALUES : ClassId) (G : OwnG Z wVALUES wLOOKING wFOLLOWING wLEADING kVALUES) (h0 : Heap) (n0 : Nat) (O0 : Old Z n0 h0) (p1 : Int32) (p2 : Int32) (d : Int32) (c0 : ¬ (p1 = (0 : Int32))) (c1 : ¬ (p1 = (1 : Int32))) (c2 : p1 = (2 : Int32)) (hd : ((p2 &&& (7 : Int32)) - (2 : Int32)) = d) (d0 : ¬ (d = (0 : Int32))) (d1 : d = (1 : Int32)) (d2 : ¬ (d = (2 : Int32))) :
    MetFree l x (head1 (Jvm.Cond.code x code maxLocals ret :: ws) room_1) (fun a U => a = #[(.int p1), (.int p2)] ∧ Z.Warmed39 U.vm ∧ U.heap = h0) (fun _ _ _ _ _ => True) (fun _ U o U' => ∃ v L, o = .returned v ∧ (v = some (.int 1) ∧ Fr n0 L) ∧ FrameEnd U o U' L room_1.cells room_1.slots) := by
  refine MetFree.of_bodySF (plainFor_of_name own_pn_0) hisR ?_
  intro p e s m args below meth c s₁ Bd hml0 hP hK
  obtain ⟨rfl, hZ, hh⟩ := hP
  have hx := Bd.exec
  have hby := Bd.bytes
  have hml : c.maxLocals = 5 := hml0
  have hown : s.vm.findClass "com/example/nimble_quorum/nimblequorum/quorum/PeerStateOfPinLaw" = some m.cls := findClass_of_methodNamed Bd.named
  have hnm := (name_of_methodNamed Bd.named Bd.method).1
  have X0 : Stand p l e room_1 s m #[(.int p1), (.int p2)] below meth c s₁ [] 0 0 := Stand.of_body Bd
  have e0 : s₁.heap = h0 := by rw [← hh, Bd.state]; rfl
  have N0 := Fr.nil n0
  have pre0 : ∀ t, Steps p.tables e below (s₁.setTop (mkF m 0 #[.val (.int p1), .val (.int p2), .unset, .unset, .unset] [])) t → Steps p.tables e below (s₁.setTop (entryFrame m #[(.int p1), (.int p2)] maxLocals)) t := fun t k => castTop (own_ef_0_II m p1 p2) k
  obtain ⟨_, _, ⟨T1, L1, k1, n1⟩, -, X1, ⟨Lc1, hQ1, l1, y1, z1⟩, st1⟩ := Jvm.LawKit.callS X0 hx (y := (⟨"com/example/nimble_quorum/nimblequorum/quorum/PeerState", "of", "(I)Lcom/example/nimble_quorum/nimblequorum/quorum/PeerState;"⟩ : MethodName)) hown (mvT hZ (hw _ (List.mem_of_getElem? (i := 0) rfl))) (mvT hZ (hw _ (List.mem_of_getElem? (i := 1) rfl))) (mvT hZ (hw _ (List.mem_of_getElem? (i := 2) rfl))) (mvT hZ (hw _ (List.mem_of_getElem? (i := 3) rfl))) (by decide) (backOf (W := 0) (own_of_5 l Z a0 hw [] wVALUES wLOOKING wFOLLOWING wLEADING kVALUES G h0 n0 O0 p1 c0 c1 c2) hZ (hw _ (List.mem_of_getElem? (i := 3) rfl)) (hw _ (List.mem_of_getElem? (i := 2) rfl)) (by decide) (by decide)) (g := (mkF m 8 #[.val (.int p1), .val (.int p2), .val (.int d), .unset, .unset] [(.int p1)])) rfl (by rw [hml]; rfl) (argsL := [(.int p1)]) (rest := []) (lenOf own_pd_1 rfl) rfl (by show 2 * 0 + _ ≤ _; exact Nat.le_of_eq rfl) (hb hby at_8) (fun _ _ => ⟨rfl, e0, (by decide : 0 + 1 ≤ _), (by decide : 0 + 3 ≤ _)⟩)
  dsimp only [Pt.U, Pt.locs, Pt.cells, Pt.slots] at X1 l1 y1 z1 st1 hQ1
  subst l1 y1 z1
  obtain ⟨rfl, N1q, Kq1⟩ := hQ1
  have N1 := Fr.app N0 N1q
  have O1 := O0.keep Kq1 all0
  have K1 := (Keep.refl h0 []).trans Kq1 all0
  obtain ⟨_, _, ⟨T2, L2, k2, n2⟩, -, X2, ⟨Lc2, hQ2, l2, y2, z2⟩, st2⟩ := Jvm.LawKit.callS X1 hx (y := (⟨"com/example/nimble_quorum/nimblequorum/quorum/PeerState", "of", "(I)Lcom/example/nimble_quorum/nimblequorum/quorum/PeerState;"⟩ : MethodName)) hown (mvT hZ (hw _ (List.mem_of_getElem? (i := 0) rfl))) (mvT hZ (hw _ (List.mem_of_getElem? (i := 1) rfl))) (mvT hZ (hw _ (List.mem_of_getElem? (i := 2) rfl))) (mvT hZ (hw _ (List.mem_of_getElem? (i := 3) rfl))) (by decide) (backOf (W := 0) (own_of_3 l Z a0 hw [] wVALUES wLOOKING wFOLLOWING wLEADING kVALUES G T1.heap n0 O1 d d0 d1 d2) hZ (hw _ (List.mem_of_getElem? (i := 3) rfl)) (hw _ (List.mem_of_getElem? (i := 2) rfl)) (by decide) (by decide)) (g := (mkF m 13 #[.val (.int p1), .val (.int p2), .val (.int d), .val (.ref wLEADING), .unset] [(.int d)])) rfl (by rw [hml]; rfl) (argsL := [(.int d)]) (rest := []) (lenOf own_pd_1 rfl) rfl (by show 2 * 0 + _ ≤ _; exact Nat.le_of_eq rfl) (hb hby at_13) (fun _ _ => ⟨rfl, rfl, (by decide : 1 + 1 ≤ _), (by decide : 3 + 3 ≤ _)⟩)
  dsimp only [Pt.U, Pt.locs, Pt.cells, Pt.slots] at X2 l2 y2 z2 st2 hQ2
  subst l2 y2 z2
  obtain ⟨rfl, N2q, Kq2⟩ := hQ2
  have N2 := Fr.app N1 N2q
  have O2 := O1.keep Kq2 all0
  have K2 := K1.trans Kq2 all0
  obtain ⟨_, _, ⟨T3, L3, k3, n3⟩, -, X3, ⟨Lc3, hQ3, l3, y3, z3⟩, st3⟩ := Jvm.LawKit.callS X2 hx (y := (⟨"com/example/nimble_quorum/nimblequorum/quorum/PeerStateOfPinLaw", "expected", "(I)Lcom/example/nimble_quorum/nimblequorum/quorum/PeerState;"⟩ : MethodName)) hown (mvT hZ (hw _ (List.mem_of_getElem? (i := 24) rfl))) (mvT hZ (hw _ (List.mem_of_getElem? (i := 25) rfl))) (mvT hZ (hw _ (List.mem_of_getElem? (i := 26) rfl))) (mvT hZ (hw _ (List.mem_of_getElem? (i := 27) rfl))) (by decide) (backOf (W := 1) (own_expected_6 l Z a0 hw [] wVALUES wLOOKING wFOLLOWING wLEADING kVALUES G T2.heap n0 O2 p1 c0 c1 c2) hZ (hw _ (List.mem_of_getElem? (i := 27) rfl)) (hw _ (List.mem_of_getElem? (i := 26) rfl)) (by decide) (by decide)) (g := (mkF m 20 #[.val (.int p1), .val (.int p2), .val (.int d), .val (.ref wLEADING), .val (.ref wFOLLOWING)] [(.int p1), (.ref wLEADING)])) rfl (by rw [hml]; rfl) (argsL := [(.int p1)]) (rest := [(.ref wLEADING)]) (lenOf own_pd_1 rfl) rfl (by show 2 * 0 + _ ≤ _; exact Nat.le_of_eq rfl) (hb hby at_20) (fun _ _ => ⟨rfl, rfl, (by decide : 2 + 0 ≤ _), (by decide : 6 + 0 ≤ _)⟩)
  dsimp only [Pt.U, Pt.locs, Pt.cells, Pt.slots] at X3 l3 y3 z3 st3 hQ3
  subst l3 y3 z3
  obtain ⟨rfl, N3q, e3⟩ := hQ3
  have N3 := Fr.app N2 N3q
  obtain ⟨_, _, ⟨T4, L4, k4, n4⟩, -, X4, ⟨Lc4, hQ4, l4, y4, z4⟩, st4⟩ := Jvm.LawKit.callS X3 hx (y := (⟨"com/example/nimble_quorum/nimblequorum/quorum/PeerStateOfPinLaw", "expected", "(I)Lcom/example/nimble_quorum/nimblequorum/quorum/PeerState;"⟩ : MethodName)) hown (mvT hZ (hw _ (List.mem_of_getElem? (i := 24) rfl))) (mvT hZ (hw _ (List.mem_of_getElem? (i := 25) rfl))) (mvT hZ (hw _ (List.mem_of_getElem? (i := 26) rfl))) (mvT hZ (hw _ (List.mem_of_getElem? (i := 27) rfl))) (by decide) (backOf (W := 1) (own_expected_4 l Z a0 hw [] wVALUES wLOOKING wFOLLOWING wLEADING kVALUES G T2.heap n0 O2 d d0 d1 d2) hZ (hw _ (List.mem_of_getElem? (i := 27) rfl)) (hw _ (List.mem_of_getElem? (i := 26) rfl)) (by decide) (by decide)) (g := (mkF m 29 #[.val (.int p1), .val (.int p2), .val (.int d), .val (.ref wLEADING), .val (.ref wFOLLOWING)] [(.int d), (.ref wFOLLOWING)])) rfl (by rw [hml]; rfl) (argsL := [(.int d)]) (rest := [(.ref wFOLLOWING)]) (lenOf own_pd_1 rfl) rfl (by show 2 * 0 + _ ≤ _; exact Nat.le_of_eq rfl) (hb hby at_29) (fun _ _ => ⟨rfl, e3, (by decide : 2 + 0 ≤ _), (by decide : 6 + 0 ≤ _)⟩)
  dsimp only [Pt.U, Pt.locs, Pt.cells, Pt.slots] at X4 l4 y4 z4 st4 hQ4
  subst l4 y4 z4
  obtain ⟨rfl, N4q, e4⟩ := hQ4
  have N4 := Fr.app N3 N4q
  obtain ⟨fs, hr, hrun, hended, hW, hsame⟩ := X4.leave (v := some (.int (1 : Int32))) (fun h => by rw [Bd.returns] at h; cases h)
  refine ⟨_, _, pre0 _ ?_, hrun, hended, _, _, rfl, ?_, ⟨_, rfl⟩, hW, hsame.mono (by decide) (by decide)⟩
  · show Steps p.tables e below (s₁.setTop (mkF m 0 #[.val (.int p1), .val (.int p2), .unset, .unset, .unset] [])) _
    refine XS.iloadN X0.here hx rfl (hb hby at_0) rfl ?_
    show Steps p.tables e below (s₁.setTop (mkF m 1 #[.val (.int p1), .val (.int p2), .unset, .unset, .unset] [(.int p2)])) _
    refine XS.bipush X0.here hx rfl (hb hby at_1) ?_
    show Steps p.tables e below (s₁.setTop (mkF m 3 #[.val (.int p1), .val (.int p2), .unset, .unset, .unset] [(.int (7 : Int32)), (.int p2)])) _
    refine XS.iand X0.here hx rfl (hb hby at_3) rfl ?_
    show Steps p.tables e below (s₁.setTop (mkF m 4 #[.val (.int p1), .val (.int p2), .unset, .unset, .unset] [(.int (p2 &&& (7 : Int32)))])) _
    refine XS.iconst X0.here hx rfl (hb hby at_4) ?_
    show Steps p.tables e below (s₁.setTop (mkF m 5 #[.val (.int p1), .val (.int p2), .unset, .unset, .unset] [(.int (2 : Int32)), (.int (p2 &&& (7 : Int32)))])) _
    refine XS.isub X0.here hx rfl (hb hby at_5) rfl ?_
    show Steps p.tables e below (s₁.setTop (mkF m 6 #[.val (.int p1), .val (.int p2), .unset, .unset, .unset] [(.int ((p2 &&& (7 : Int32)) - (2 : Int32)))])) _
    refine castTop (g' := (mkF m 6 #[.val (.int p1), .val (.int p2), .unset, .unset, .unset] [(.int d)])) (by rw [hd]) ?_
    show Steps p.tables e below (s₁.setTop (mkF m 6 #[.val (.int p1), .val (.int p2), .unset, .unset, .unset] [(.int d)])) _
    refine XS.istoreN X0.here hx rfl (hb hby at_6) rfl (l' := #[.val (.int p1), .val (.int p2), .val (.int d), .unset, .unset]) rfl ?_
    show Steps p.tables e below (s₁.setTop (mkF m 7 #[.val (.int p1), .val (.int p2), .val (.int d), .unset, .unset] [])) _
    refine XS.iloadN X0.here hx rfl (hb hby at_7) rfl ?_
    show Steps p.tables e below (s₁.setTop (mkF m 8 #[.val (.int p1), .val (.int p2), .val (.int d), .unset, .unset] [(.int p1)])) _
    refine st1 _ ?_
    show Steps p.tables e below (T1.setTop (mkF m 11 #[.val (.int p1), .val (.int p2), .val (.int d), .unset, .unset] [(.ref wLEADING)])) _
    refine XS.astoreN X1.here hx rfl (hb hby at_11) rfl rfl (l' := #[.val (.int p1), .val (.int p2), .val (.int d), .val (.ref wLEADING), .unset]) rfl ?_
    show Steps p.tables e below (T1.setTop (mkF m 12 #[.val (.int p1), .val (.int p2), .val (.int d), .val (.ref wLEADING), .unset] [])) _
    refine XS.iloadN X1.here hx rfl (hb hby at_12) rfl ?_
    show Steps p.tables e below (T1.setTop (mkF m 13 #[.val (.int p1), .val (.int p2), .val (.int d), .val (.ref wLEADING), .unset] [(.int d)])) _
    refine st2 _ ?_
    show Steps p.tables e below (T2.setTop (mkF m 16 #[.val (.int p1), .val (.int p2), .val (.int d), .val (.ref wLEADING), .unset] [(.ref wFOLLOWING)])) _
    refine XS.astore X2.here hx rfl (hb hby at_16) rfl rfl (l' := #[.val (.int p1), .val (.int p2), .val (.int d), .val (.ref wLEADING), .val (.ref wFOLLOWING)]) rfl ?_
    show Steps p.tables e below (T2.setTop (mkF m 18 #[.val (.int p1), .val (.int p2), .val (.int d), .val (.ref wLEADING), .val (.ref wFOLLOWING)] [])) _
    refine XS.aloadN X2.here hx rfl (hb hby at_18) rfl rfl ?_
    show Steps p.tables e below (T2.setTop (mkF m 19 #[.val (.int p1), .val (.int p2), .val (.int d), .val (.ref wLEADING), .val (.ref wFOLLOWING)] [(.ref wLEADING)])) _
    refine XS.iloadN X2.here hx rfl (hb hby at_19) rfl ?_
    show Steps p.tables e below (T2.setTop (mkF m 20 #[.val (.int p1), .val (.int p2), .val (.int d), .val (.ref wLEADING), .val (.ref wFOLLOWING)] [(.int p1), (.ref wLEADING)])) _
    refine st3 _ ?_
    show Steps p.tables e below (T3.setTop (mkF m 23 #[.val (.int p1), .val (.int p2), .val (.int d), .val (.ref wLEADING), .val (.ref wFOLLOWING)] [(.ref wLEADING), (.ref wLEADING)])) _
    refine Jvm.RoadKit.acmp (g := (mkF m 23 #[.val (.int p1), .val (.int p2), .val (.int d), .val (.ref wLEADING), .val (.ref wFOLLOWING)] [(.ref wLEADING), (.ref wLEADING)])) X3 hx rfl rfl rfl (pc0 := 23) (pc' := 26) (same := true) rfl (hb hby at_23) rfl (decide_eq_true rfl) (by decide) (by decide) ?_
    show Steps p.tables e below (T3.setTop (mkF m 26 #[.val (.int p1), .val (.int p2), .val (.int d), .val (.ref wLEADING), .val (.ref wFOLLOWING)] [])) _
    refine XS.aload X3.here hx rfl (hb hby at_26) rfl rfl ?_
    show Steps p.tables e below (T3.setTop (mkF m 28 #[.val (.int p1), .val (.int p2), .val (.int d), .val (.ref wLEADING), .val (.ref wFOLLOWING)] [(.ref wFOLLOWING)])) _
    refine XS.iloadN X3.here hx rfl (hb hby at_28) rfl ?_
    show Steps p.tables e below (T3.setTop (mkF m 29 #[.val (.int p1), .val (.int p2), .val (.int d), .val (.ref wLEADING), .val (.ref wFOLLOWING)] [(.int d), (.ref wFOLLOWING)])) _
    refine st4 _ ?_
    show Steps p.tables e below (T4.setTop (mkF m 32 #[.val (.int p1), .val (.int p2), .val (.int d), .val (.ref wLEADING), .val (.ref wFOLLOWING)] [(.ref wFOLLOWING), (.ref wFOLLOWING)])) _
    refine Jvm.RoadKit.acmp (g := (mkF m 32 #[.val (.int p1), .val (.int p2), .val (.int d), .val (.ref wLEADING), .val (.ref wFOLLOWING)] [(.ref wFOLLOWING), (.ref wFOLLOWING)])) X4 hx rfl rfl rfl (pc0 := 32) (pc' := 35) (same := true) rfl (hb hby at_32) rfl (decide_eq_true rfl) (by decide) (by decide) ?_
    show Steps p.tables e below (T4.setTop (mkF m 35 #[.val (.int p1), .val (.int p2), .val (.int d), .val (.ref wLEADING), .val (.ref wFOLLOWING)] [])) _
    refine XS.iconst X4.here hx rfl (hb hby at_35) ?_
    show Steps p.tables e below (T4.setTop (mkF m 36 #[.val (.int p1), .val (.int p2), .val (.int d), .val (.ref wLEADING), .val (.ref wFOLLOWING)] [(.int (1 : Int32))])) _
    refine XS.goto X4.here hx rfl (pc0 := 36) (pc' := 40) rfl (hb hby at_36) (by decide) (by decide) ?_
    show Steps p.tables e below (T4.setTop (mkF m 40 #[.val (.int p1), .val (.int p2), .val (.int d), .val (.ref wLEADING), .val (.ref wFOLLOWING)] [(.int (1 : Int32))])) _
    exact retN X4 hx (t := .boolean) Bd.returns (by simp) (hb hby at_40) hr
  · exact ⟨rfl, N4⟩
set_option maxRecDepth 65536 in
set_option maxHeartbeats 40000000 in
theorem own_law_22 (l : Launch) (Z : State) (a0 : Array Value) (hw : ∀ d ∈ tables_1, d.before a0 Z = true) (ws : List Jvm.Cond) (wVALUES : Addr) (wLOOKING : Addr) (wFOLLOWING : Addr) (wLEADING : Addr) (kVALUES : ClassId) (G : OwnG Z wVALUES wLOOKING wFOLLOWING wLEADING kVALUES) (h0 : Heap) (n0 : Nat) (O0 : Old Z n0 h0) (p1 : Int32) (p2 : Int32) (d : Int32) (c0 : ¬ (p1 = (0 : Int32))) (c1 : ¬ (p1 = (1 : Int32))) (c2 : p1 = (2 : Int32)) (hd : ((p2 &&& (7 : Int32)) - (2 : Int32)) = d) (d0 : ¬ (d = (0 : Int32))) (d1 : ¬ (d = (1 : Int32))) (d2 : d = (2 : Int32)) :
    MetFree l x (head1 (Jvm.Cond.code x code maxLocals ret :: ws) room_1) (fun a U => a = #[(.int p1), (.int p2)] ∧ Z.Warmed39 U.vm ∧ U.heap = h0) (fun _ _ _ _ _ => True) (fun _ U o U' => ∃ v L, o = .returned v ∧ (v = some (.int 1) ∧ Fr n0 L) ∧ FrameEnd U o U' L room_1.cells room_1.slots) := by
  refine MetFree.of_bodySF (plainFor_of_name own_pn_0) hisR ?_
  intro p e s m args below meth c s₁ Bd hml0 hP hK
  obtain ⟨rfl, hZ, hh⟩ := hP
  have hx := Bd.exec
  have hby := Bd.bytes
  have hml : c.maxLocals = 5 := hml0
  have hown : s.vm.findClass "com/example/nimble_quorum/nimblequorum/quorum/PeerStateOfPinLaw" = some m.cls := findClass_of_methodNamed Bd.named
  have hnm := (name_of_methodNamed Bd.named Bd.method).1
  have X0 : Stand p l e room_1 s m #[(.int p1), (.int p2)] below meth c s₁ [] 0 0 := Stand.of_body Bd
  have e0 : s₁.heap = h0 := by rw [← hh, Bd.state]; rfl
  have N0 := Fr.nil n0
  have pre0 : ∀ t, Steps p.tables e below (s₁.setTop (mkF m 0 #[.val (.int p1), .val (.int p2), .unset, .unset, .unset] [])) t → Steps p.tables e below (s₁.setTop (entryFrame m #[(.int p1), (.int p2)] maxLocals)) t := fun t k => castTop (own_ef_0_II m p1 p2) k
  obtain ⟨_, _, ⟨T1, L1, k1, n1⟩, -, X1, ⟨Lc1, hQ1, l1, y1, z1⟩, st1⟩ := Jvm.LawKit.callS X0 hx (y := (⟨"com/example/nimble_quorum/nimblequorum/quorum/PeerState", "of", "(I)Lcom/example/nimble_quorum/nimblequorum/quorum/PeerState;"⟩ : MethodName)) hown (mvT hZ (hw _ (List.mem_of_getElem? (i := 0) rfl))) (mvT hZ (hw _ (List.mem_of_getElem? (i := 1) rfl))) (mvT hZ (hw _ (List.mem_of_getElem? (i := 2) rfl))) (mvT hZ (hw _ (List.mem_of_getElem? (i := 3) rfl))) (by decide) (backOf (W := 0) (own_of_5 l Z a0 hw [] wVALUES wLOOKING wFOLLOWING wLEADING kVALUES G h0 n0 O0 p1 c0 c1 c2) hZ (hw _ (List.mem_of_getElem? (i := 3) rfl)) (hw _ (List.mem_of_getElem? (i := 2) rfl)) (by decide) (by decide)) (g := (mkF m 8 #[.val (.int p1), .val (.int p2), .val (.int d), .unset, .unset] [(.int p1)])) rfl (by rw [hml]; rfl) (argsL := [(.int p1)]) (rest := []) (lenOf own_pd_1 rfl) rfl (by show 2 * 0 + _ ≤ _; exact Nat.le_of_eq rfl) (hb hby at_8) (fun _ _ => ⟨rfl, e0, (by decide : 0 + 1 ≤ _), (by decide : 0 + 3 ≤ _)⟩)
  dsimp only [Pt.U, Pt.locs, Pt.cells, Pt.slots] at X1 l1 y1 z1 st1 hQ1
  subst l1 y1 z1
  obtain ⟨rfl, N1q, Kq1⟩ := hQ1
  have N1 := Fr.app N0 N1q
  have O1 := O0.keep Kq1 all0
  have K1 := (Keep.refl h0 []).trans Kq1 all0
  obtain ⟨_, _, ⟨T2, L2, k2, n2⟩, -, X2, ⟨Lc2, hQ2, l2, y2, z2⟩, st2⟩ := Jvm.LawKit.callS X1 hx (y := (⟨"com/example/nimble_quorum/nimblequorum/quorum/PeerState", "of", "(I)Lcom/example/nimble_quorum/nimblequorum/quorum/PeerState;"⟩ : MethodName)) hown (mvT hZ (hw _ (List.mem_of_getElem? (i := 0) rfl))) (mvT hZ (hw _ (List.mem_of_getElem? (i := 1) rfl))) (mvT hZ (hw _ (List.mem_of_getElem? (i := 2) rfl))) (mvT hZ (hw _ (List.mem_of_getElem? (i := 3) rfl))) (by decide) (backOf (W := 0) (own_of_5 l Z a0 hw [] wVALUES wLOOKING wFOLLOWING wLEADING kVALUES G T1.heap n0 O1 d d0 d1 d2) hZ (hw _ (List.mem_of_getElem? (i := 3) rfl)) (hw _ (List.mem_of_getElem? (i := 2) rfl)) (by decide) (by decide)) (g := (mkF m 13 #[.val (.int p1), .val (.int p2), .val (.int d), .val (.ref wLEADING), .unset] [(.int d)])) rfl (by rw [hml]; rfl) (argsL := [(.int d)]) (rest := []) (lenOf own_pd_1 rfl) rfl (by show 2 * 0 + _ ≤ _; exact Nat.le_of_eq rfl) (hb hby at_13) (fun _ _ => ⟨rfl, rfl, (by decide : 1 + 1 ≤ _), (by decide : 3 + 3 ≤ _)⟩)
  dsimp only [Pt.U, Pt.locs, Pt.cells, Pt.slots] at X2 l2 y2 z2 st2 hQ2
  subst l2 y2 z2
  obtain ⟨rfl, N2q, Kq2⟩ := hQ2
  have N2 := Fr.app N1 N2q
  have O2 := O1.keep Kq2 all0
  have K2 := K1.trans Kq2 all0
  obtain ⟨_, _, ⟨T3, L3, k3, n3⟩, -, X3, ⟨Lc3, hQ3, l3, y3, z3⟩, st3⟩ := Jvm.LawKit.callS X2 hx (y := (⟨"com/example/nimble_quorum/nimblequorum/quorum/PeerStateOfPinLaw", "expected", "(I)Lcom/example/nimble_quorum/nimblequorum/quorum/PeerState;"⟩ : MethodName)) hown (mvT hZ (hw _ (List.mem_of_getElem? (i := 24) rfl))) (mvT hZ (hw _ (List.mem_of_getElem? (i := 25) rfl))) (mvT hZ (hw _ (List.mem_of_getElem? (i := 26) rfl))) (mvT hZ (hw _ (List.mem_of_getElem? (i := 27) rfl))) (by decide) (backOf (W := 1) (own_expected_6 l Z a0 hw [] wVALUES wLOOKING wFOLLOWING wLEADING kVALUES G T2.heap n0 O2 p1 c0 c1 c2) hZ (hw _ (List.mem_of_getElem? (i := 27) rfl)) (hw _ (List.mem_of_getElem? (i := 26) rfl)) (by decide) (by decide)) (g := (mkF m 20 #[.val (.int p1), .val (.int p2), .val (.int d), .val (.ref wLEADING), .val (.ref wLEADING)] [(.int p1), (.ref wLEADING)])) rfl (by rw [hml]; rfl) (argsL := [(.int p1)]) (rest := [(.ref wLEADING)]) (lenOf own_pd_1 rfl) rfl (by show 2 * 0 + _ ≤ _; exact Nat.le_of_eq rfl) (hb hby at_20) (fun _ _ => ⟨rfl, rfl, (by decide : 2 + 0 ≤ _), (by decide : 6 + 0 ≤ _)⟩)
  dsimp only [Pt.U, Pt.locs, Pt.cells, Pt.slots] at X3 l3 y3 z3 st3 hQ3
  subst l3 y3 z3
  obtain ⟨rfl, N3q, e3⟩ := hQ3
  have N3 := Fr.app N2 N3q
  obtain ⟨_, _, ⟨T4, L4, k4, n4⟩, -, X4, ⟨Lc4, hQ4, l4, y4, z4⟩, st4⟩ := Jvm.LawKit.callS X3 hx (y := (⟨"com/example/nimble_quorum/nimblequorum/quorum/PeerStateOfPinLaw", "expected", "(I)Lcom/example/nimble_quorum/nimblequorum/quorum/PeerState;"⟩ : MethodName)) hown (mvT hZ (hw _ (List.mem_of_getElem? (i := 24) rfl))) (mvT hZ (hw _ (List.mem_of_getElem? (i := 25) rfl))) (mvT hZ (hw _ (List.mem_of_getElem? (i := 26) rfl))) (mvT hZ (hw _ (List.mem_of_getElem? (i := 27) rfl))) (by decide) (backOf (W := 1) (own_expected_6 l Z a0 hw [] wVALUES wLOOKING wFOLLOWING wLEADING kVALUES G T2.heap n0 O2 d d0 d1 d2) hZ (hw _ (List.mem_of_getElem? (i := 27) rfl)) (hw _ (List.mem_of_getElem? (i := 26) rfl)) (by decide) (by decide)) (g := (mkF m 29 #[.val (.int p1), .val (.int p2), .val (.int d), .val (.ref wLEADING), .val (.ref wLEADING)] [(.int d), (.ref wLEADING)])) rfl (by rw [hml]; rfl) (argsL := [(.int d)]) (rest := [(.ref wLEADING)]) (lenOf own_pd_1 rfl) rfl (by show 2 * 0 + _ ≤ _; exact Nat.le_of_eq rfl) (hb hby at_29) (fun _ _ => ⟨rfl, e3, (by decide : 2 + 0 ≤ _), (by decide : 6 + 0 ≤ _)⟩)
  dsimp only [Pt.U, Pt.locs, Pt.cells, Pt.slots] at X4 l4 y4 z4 st4 hQ4
  subst l4 y4 z4
  obtain ⟨rfl, N4q, e4⟩ := hQ4
  have N4 := Fr.app N3 N4q
  obtain ⟨fs, hr, hrun, hended, hW, hsame⟩ := X4.leave (v := some (.int (1 : Int32))) (fun h => by rw [Bd.returns] at h; cases h)
  refine ⟨_, _, pre0 _ ?_, hrun, hended, _, _, rfl, ?_, ⟨_, rfl⟩, hW, hsame.mono (by decide) (by decide)⟩
  · show Steps p.tables e below (s₁.setTop (mkF m 0 #[.val (.int p1), .val (.int p2), .unset, .unset, .unset] [])) _
    refine XS.iloadN X0.here hx rfl (hb hby at_0) rfl ?_
    show Steps p.tables e below (s₁.setTop (mkF m 1 #[.val (.int p1), .val (.int p2), .unset, .unset, .unset] [(.int p2)])) _
    refine XS.bipush X0.here hx rfl (hb hby at_1) ?_
    show Steps p.tables e below (s₁.setTop (mkF m 3 #[.val (.int p1), .val (.int p2), .unset, .unset, .unset] [(.int (7 : Int32)), (.int p2)])) _
    refine XS.iand X0.here hx rfl (hb hby at_3) rfl ?_
    show Steps p.tables e below (s₁.setTop (mkF m 4 #[.val (.int p1), .val (.int p2), .unset, .unset, .unset] [(.int (p2 &&& (7 : Int32)))])) _
    refine XS.iconst X0.here hx rfl (hb hby at_4) ?_
    show Steps p.tables e below (s₁.setTop (mkF m 5 #[.val (.int p1), .val (.int p2), .unset, .unset, .unset] [(.int (2 : Int32)), (.int (p2 &&& (7 : Int32)))])) _
    refine XS.isub X0.here hx rfl (hb hby at_5) rfl ?_
    show Steps p.tables e below (s₁.setTop (mkF m 6 #[.val (.int p1), .val (.int p2), .unset, .unset, .unset] [(.int ((p2 &&& (7 : Int32)) - (2 : Int32)))])) _
    refine castTop (g' := (mkF m 6 #[.val (.int p1), .val (.int p2), .unset, .unset, .unset] [(.int d)])) (by rw [hd]) ?_
    show Steps p.tables e below (s₁.setTop (mkF m 6 #[.val (.int p1), .val (.int p2), .unset, .unset, .unset] [(.int d)])) _
    refine XS.istoreN X0.here hx rfl (hb hby at_6) rfl (l' := #[.val (.int p1), .val (.int p2), .val (.int d), .unset, .unset]) rfl ?_
    show Steps p.tables e below (s₁.setTop (mkF m 7 #[.val (.int p1), .val (.int p2), .val (.int d), .unset, .unset] [])) _
    refine XS.iloadN X0.here hx rfl (hb hby at_7) rfl ?_
    show Steps p.tables e below (s₁.setTop (mkF m 8 #[.val (.int p1), .val (.int p2), .val (.int d), .unset, .unset] [(.int p1)])) _
    refine st1 _ ?_
    show Steps p.tables e below (T1.setTop (mkF m 11 #[.val (.int p1), .val (.int p2), .val (.int d), .unset, .unset] [(.ref wLEADING)])) _
    refine XS.astoreN X1.here hx rfl (hb hby at_11) rfl rfl (l' := #[.val (.int p1), .val (.int p2), .val (.int d), .val (.ref wLEADING), .unset]) rfl ?_
    show Steps p.tables e below (T1.setTop (mkF m 12 #[.val (.int p1), .val (.int p2), .val (.int d), .val (.ref wLEADING), .unset] [])) _
    refine XS.iloadN X1.here hx rfl (hb hby at_12) rfl ?_
    show Steps p.tables e below (T1.setTop (mkF m 13 #[.val (.int p1), .val (.int p2), .val (.int d), .val (.ref wLEADING), .unset] [(.int d)])) _
    refine st2 _ ?_
    show Steps p.tables e below (T2.setTop (mkF m 16 #[.val (.int p1), .val (.int p2), .val (.int d), .val (.ref wLEADING), .unset] [(.ref wLEADING)])) _
    refine XS.astore X2.here hx rfl (hb hby at_16) rfl rfl (l' := #[.val (.int p1), .val (.int p2), .val (.int d), .val (.ref wLEADING), .val (.ref wLEADING)]) rfl ?_
    show Steps p.tables e below (T2.setTop (mkF m 18 #[.val (.int p1), .val (.int p2), .val (.int d), .val (.ref wLEADING), .val (.ref wLEADING)] [])) _
    refine XS.aloadN X2.here hx rfl (hb hby at_18) rfl rfl ?_
    show Steps p.tables e below (T2.setTop (mkF m 19 #[.val (.int p1), .val (.int p2), .val (.int d), .val (.ref wLEADING), .val (.ref wLEADING)] [(.ref wLEADING)])) _
    refine XS.iloadN X2.here hx rfl (hb hby at_19) rfl ?_
    show Steps p.tables e below (T2.setTop (mkF m 20 #[.val (.int p1), .val (.int p2), .val (.int d), .val (.ref wLEADING), .val (.ref wLEADING)] [(.int p1), (.ref wLEADING)])) _
    refine st3 _ ?_
    show Steps p.tables e below (T3.setTop (mkF m 23 #[.val (.int p1), .val (.int p2), .val (.int d), .val (.ref wLEADING), .val (.ref wLEADING)] [(.ref wLEADING), (.ref wLEADING)])) _
    refine Jvm.RoadKit.acmp (g := (mkF m 23 #[.val (.int p1), .val (.int p2), .val (.int d), .val (.ref wLEADING), .val (.ref wLEADING)] [(.ref wLEADING), (.ref wLEADING)])) X3 hx rfl rfl rfl (pc0 := 23) (pc' := 26) (same := true) rfl (hb hby at_23) rfl (decide_eq_true rfl) (by decide) (by decide) ?_
    show Steps p.tables e below (T3.setTop (mkF m 26 #[.val (.int p1), .val (.int p2), .val (.int d), .val (.ref wLEADING), .val (.ref wLEADING)] [])) _
    refine XS.aload X3.here hx rfl (hb hby at_26) rfl rfl ?_
    show Steps p.tables e below (T3.setTop (mkF m 28 #[.val (.int p1), .val (.int p2), .val (.int d), .val (.ref wLEADING), .val (.ref wLEADING)] [(.ref wLEADING)])) _
    refine XS.iloadN X3.here hx rfl (hb hby at_28) rfl ?_
    show Steps p.tables e below (T3.setTop (mkF m 29 #[.val (.int p1), .val (.int p2), .val (.int d), .val (.ref wLEADING), .val (.ref wLEADING)] [(.int d), (.ref wLEADING)])) _
    refine st4 _ ?_
    show Steps p.tables e below (T4.setTop (mkF m 32 #[.val (.int p1), .val (.int p2), .val (.int d), .val (.ref wLEADING), .val (.ref wLEADING)] [(.ref wLEADING), (.ref wLEADING)])) _
    refine Jvm.RoadKit.acmp (g := (mkF m 32 #[.val (.int p1), .val (.int p2), .val (.int d), .val (.ref wLEADING), .val (.ref wLEADING)] [(.ref wLEADING), (.ref wLEADING)])) X4 hx rfl rfl rfl (pc0 := 32) (pc' := 35) (same := true) rfl (hb hby at_32) rfl (decide_eq_true rfl) (by decide) (by decide) ?_
    show Steps p.tables e below (T4.setTop (mkF m 35 #[.val (.int p1), .val (.int p2), .val (.int d), .val (.ref wLEADING), .val (.ref wLEADING)] [])) _
    refine XS.iconst X4.here hx rfl (hb hby at_35) ?_
    show Steps p.tables e below (T4.setTop (mkF m 36 #[.val (.int p1), .val (.int p2), .val (.int d), .val (.ref wLEADING), .val (.ref wLEADING)] [(.int (1 : Int32))])) _
    refine XS.goto X4.here hx rfl (pc0 := 36) (pc' := 40) rfl (hb hby at_36) (by decide) (by decide) ?_
    show Steps p.tables e below (T4.setTop (mkF m 40 #[.val (.int p1), .val (.int p2), .val (.int d), .val (.ref wLEADING), .val (.ref wLEADING)] [(.int (1 : Int32))])) _
    exact retN X4 hx (t := .boolean) Bd.returns (by simp) (hb hby at_40) hr
  · exact ⟨rfl, N4⟩
set_option maxRecDepth 65536 in
set_option maxHeartbeats 40000000 in
theorem own_law_23 (l : Launch) (Z : State) (a0 : Array Value) (hw : ∀ d ∈ tables_1, d.before a0 Z = true) (ws : List Jvm.Cond) (wVALUES : Addr) (wLOOKING : Addr) (wFOLLOWING : Addr) (wLEADING : Addr) (kVALUES : ClassId) (G : OwnG Z wVALUES wLOOKING wFOLLOWING wLEADING kVALUES) (h0 : Heap) (n0 : Nat) (O0 : Old Z n0 h0) (p1 : Int32) (p2 : Int32) (d : Int32) (c0 : ¬ (p1 = (0 : Int32))) (c1 : ¬ (p1 = (1 : Int32))) (c2 : p1 = (2 : Int32)) (hd : ((p2 &&& (7 : Int32)) - (2 : Int32)) = d) (d0 : ¬ (d = (0 : Int32))) (d1 : ¬ (d = (1 : Int32))) (d2 : ¬ (d = (2 : Int32))) :
    MetFree l x (head1 (Jvm.Cond.code x code maxLocals ret :: ws) room_1) (fun a U => a = #[(.int p1), (.int p2)] ∧ Z.Warmed39 U.vm ∧ U.heap = h0) (fun _ _ _ _ _ => True) (fun _ U o U' => ∃ v L, o = .returned v ∧ (v = some (.int 1) ∧ Fr n0 L) ∧ FrameEnd U o U' L room_1.cells room_1.slots) := by
  refine MetFree.of_bodySF (plainFor_of_name own_pn_0) hisR ?_
  intro p e s m args below meth c s₁ Bd hml0 hP hK
  obtain ⟨rfl, hZ, hh⟩ := hP
  have hx := Bd.exec
  have hby := Bd.bytes
  have hml : c.maxLocals = 5 := hml0
  have hown : s.vm.findClass "com/example/nimble_quorum/nimblequorum/quorum/PeerStateOfPinLaw" = some m.cls := findClass_of_methodNamed Bd.named
  have hnm := (name_of_methodNamed Bd.named Bd.method).1
  have X0 : Stand p l e room_1 s m #[(.int p1), (.int p2)] below meth c s₁ [] 0 0 := Stand.of_body Bd
  have e0 : s₁.heap = h0 := by rw [← hh, Bd.state]; rfl
  have N0 := Fr.nil n0
  have pre0 : ∀ t, Steps p.tables e below (s₁.setTop (mkF m 0 #[.val (.int p1), .val (.int p2), .unset, .unset, .unset] [])) t → Steps p.tables e below (s₁.setTop (entryFrame m #[(.int p1), (.int p2)] maxLocals)) t := fun t k => castTop (own_ef_0_II m p1 p2) k
  obtain ⟨_, _, ⟨T1, L1, k1, n1⟩, -, X1, ⟨Lc1, hQ1, l1, y1, z1⟩, st1⟩ := Jvm.LawKit.callS X0 hx (y := (⟨"com/example/nimble_quorum/nimblequorum/quorum/PeerState", "of", "(I)Lcom/example/nimble_quorum/nimblequorum/quorum/PeerState;"⟩ : MethodName)) hown (mvT hZ (hw _ (List.mem_of_getElem? (i := 0) rfl))) (mvT hZ (hw _ (List.mem_of_getElem? (i := 1) rfl))) (mvT hZ (hw _ (List.mem_of_getElem? (i := 2) rfl))) (mvT hZ (hw _ (List.mem_of_getElem? (i := 3) rfl))) (by decide) (backOf (W := 0) (own_of_5 l Z a0 hw [] wVALUES wLOOKING wFOLLOWING wLEADING kVALUES G h0 n0 O0 p1 c0 c1 c2) hZ (hw _ (List.mem_of_getElem? (i := 3) rfl)) (hw _ (List.mem_of_getElem? (i := 2) rfl)) (by decide) (by decide)) (g := (mkF m 8 #[.val (.int p1), .val (.int p2), .val (.int d), .unset, .unset] [(.int p1)])) rfl (by rw [hml]; rfl) (argsL := [(.int p1)]) (rest := []) (lenOf own_pd_1 rfl) rfl (by show 2 * 0 + _ ≤ _; exact Nat.le_of_eq rfl) (hb hby at_8) (fun _ _ => ⟨rfl, e0, (by decide : 0 + 1 ≤ _), (by decide : 0 + 3 ≤ _)⟩)
  dsimp only [Pt.U, Pt.locs, Pt.cells, Pt.slots] at X1 l1 y1 z1 st1 hQ1
  subst l1 y1 z1
  obtain ⟨rfl, N1q, Kq1⟩ := hQ1
  have N1 := Fr.app N0 N1q
  have O1 := O0.keep Kq1 all0
  have K1 := (Keep.refl h0 []).trans Kq1 all0
  obtain ⟨_, _, ⟨T2, L2, k2, n2⟩, -, X2, ⟨Lc2, hQ2, l2, y2, z2⟩, st2⟩ := Jvm.LawKit.callS X1 hx (y := (⟨"com/example/nimble_quorum/nimblequorum/quorum/PeerState", "of", "(I)Lcom/example/nimble_quorum/nimblequorum/quorum/PeerState;"⟩ : MethodName)) hown (mvT hZ (hw _ (List.mem_of_getElem? (i := 0) rfl))) (mvT hZ (hw _ (List.mem_of_getElem? (i := 1) rfl))) (mvT hZ (hw _ (List.mem_of_getElem? (i := 2) rfl))) (mvT hZ (hw _ (List.mem_of_getElem? (i := 3) rfl))) (by decide) (backOf (W := 0) (own_of_7 l Z a0 hw [] wVALUES wLOOKING wFOLLOWING wLEADING kVALUES G T1.heap n0 O1 d d0 d1 d2) hZ (hw _ (List.mem_of_getElem? (i := 3) rfl)) (hw _ (List.mem_of_getElem? (i := 2) rfl)) (by decide) (by decide)) (g := (mkF m 13 #[.val (.int p1), .val (.int p2), .val (.int d), .val (.ref wLEADING), .unset] [(.int d)])) rfl (by rw [hml]; rfl) (argsL := [(.int d)]) (rest := []) (lenOf own_pd_1 rfl) rfl (by show 2 * 0 + _ ≤ _; exact Nat.le_of_eq rfl) (hb hby at_13) (fun _ _ => ⟨rfl, rfl, (by decide : 1 + 1 ≤ _), (by decide : 3 + 3 ≤ _)⟩)
  dsimp only [Pt.U, Pt.locs, Pt.cells, Pt.slots] at X2 l2 y2 z2 st2 hQ2
  subst l2 y2 z2
  obtain ⟨rfl, N2q, Kq2⟩ := hQ2
  have N2 := Fr.app N1 N2q
  have O2 := O1.keep Kq2 all0
  have K2 := K1.trans Kq2 all0
  obtain ⟨_, _, ⟨T3, L3, k3, n3⟩, -, X3, ⟨Lc3, hQ3, l3, y3, z3⟩, st3⟩ := Jvm.LawKit.callS X2 hx (y := (⟨"com/example/nimble_quorum/nimblequorum/quorum/PeerStateOfPinLaw", "expected", "(I)Lcom/example/nimble_quorum/nimblequorum/quorum/PeerState;"⟩ : MethodName)) hown (mvT hZ (hw _ (List.mem_of_getElem? (i := 24) rfl))) (mvT hZ (hw _ (List.mem_of_getElem? (i := 25) rfl))) (mvT hZ (hw _ (List.mem_of_getElem? (i := 26) rfl))) (mvT hZ (hw _ (List.mem_of_getElem? (i := 27) rfl))) (by decide) (backOf (W := 1) (own_expected_6 l Z a0 hw [] wVALUES wLOOKING wFOLLOWING wLEADING kVALUES G T2.heap n0 O2 p1 c0 c1 c2) hZ (hw _ (List.mem_of_getElem? (i := 27) rfl)) (hw _ (List.mem_of_getElem? (i := 26) rfl)) (by decide) (by decide)) (g := (mkF m 20 #[.val (.int p1), .val (.int p2), .val (.int d), .val (.ref wLEADING), .val .null] [(.int p1), (.ref wLEADING)])) rfl (by rw [hml]; rfl) (argsL := [(.int p1)]) (rest := [(.ref wLEADING)]) (lenOf own_pd_1 rfl) rfl (by show 2 * 0 + _ ≤ _; exact Nat.le_of_eq rfl) (hb hby at_20) (fun _ _ => ⟨rfl, rfl, (by decide : 2 + 0 ≤ _), (by decide : 6 + 0 ≤ _)⟩)
  dsimp only [Pt.U, Pt.locs, Pt.cells, Pt.slots] at X3 l3 y3 z3 st3 hQ3
  subst l3 y3 z3
  obtain ⟨rfl, N3q, e3⟩ := hQ3
  have N3 := Fr.app N2 N3q
  obtain ⟨_, _, ⟨T4, L4, k4, n4⟩, -, X4, ⟨Lc4, hQ4, l4, y4, z4⟩, st4⟩ := Jvm.LawKit.callS X3 hx (y := (⟨"com/example/nimble_quorum/nimblequorum/quorum/PeerStateOfPinLaw", "expected", "(I)Lcom/example/nimble_quorum/nimblequorum/quorum/PeerState;"⟩ : MethodName)) hown (mvT hZ (hw _ (List.mem_of_getElem? (i := 24) rfl))) (mvT hZ (hw _ (List.mem_of_getElem? (i := 25) rfl))) (mvT hZ (hw _ (List.mem_of_getElem? (i := 26) rfl))) (mvT hZ (hw _ (List.mem_of_getElem? (i := 27) rfl))) (by decide) (backOf (W := 1) (own_expected_8 l Z a0 hw [] wVALUES wLOOKING wFOLLOWING wLEADING kVALUES G T2.heap n0 O2 d d0 d1 d2) hZ (hw _ (List.mem_of_getElem? (i := 27) rfl)) (hw _ (List.mem_of_getElem? (i := 26) rfl)) (by decide) (by decide)) (g := (mkF m 29 #[.val (.int p1), .val (.int p2), .val (.int d), .val (.ref wLEADING), .val .null] [(.int d), .null])) rfl (by rw [hml]; rfl) (argsL := [(.int d)]) (rest := [.null]) (lenOf own_pd_1 rfl) rfl (by show 2 * 0 + _ ≤ _; exact Nat.le_of_eq rfl) (hb hby at_29) (fun _ _ => ⟨rfl, e3, (by decide : 2 + 0 ≤ _), (by decide : 6 + 0 ≤ _)⟩)
  dsimp only [Pt.U, Pt.locs, Pt.cells, Pt.slots] at X4 l4 y4 z4 st4 hQ4
  subst l4 y4 z4
  obtain ⟨rfl, N4q, e4⟩ := hQ4
  have N4 := Fr.app N3 N4q
  obtain ⟨fs, hr, hrun, hended, hW, hsame⟩ := X4.leave (v := some (.int (1 : Int32))) (fun h => by rw [Bd.returns] at h; cases h)
  refine ⟨_, _, pre0 _ ?_, hrun, hended, _, _, rfl, ?_, ⟨_, rfl⟩, hW, hsame.mono (by decide) (by decide)⟩
  · show Steps p.tables e below (s₁.setTop (mkF m 0 #[.val (.int p1), .val (.int p2), .unset, .unset, .unset] [])) _
    refine XS.iloadN X0.here hx rfl (hb hby at_0) rfl ?_
    show Steps p.tables e below (s₁.setTop (mkF m 1 #[.val (.int p1), .val (.int p2), .unset, .unset, .unset] [(.int p2)])) _
    refine XS.bipush X0.here hx rfl (hb hby at_1) ?_
    show Steps p.tables e below (s₁.setTop (mkF m 3 #[.val (.int p1), .val (.int p2), .unset, .unset, .unset] [(.int (7 : Int32)), (.int p2)])) _
    refine XS.iand X0.here hx rfl (hb hby at_3) rfl ?_
    show Steps p.tables e below (s₁.setTop (mkF m 4 #[.val (.int p1), .val (.int p2), .unset, .unset, .unset] [(.int (p2 &&& (7 : Int32)))])) _
    refine XS.iconst X0.here hx rfl (hb hby at_4) ?_
    show Steps p.tables e below (s₁.setTop (mkF m 5 #[.val (.int p1), .val (.int p2), .unset, .unset, .unset] [(.int (2 : Int32)), (.int (p2 &&& (7 : Int32)))])) _
    refine XS.isub X0.here hx rfl (hb hby at_5) rfl ?_
    show Steps p.tables e below (s₁.setTop (mkF m 6 #[.val (.int p1), .val (.int p2), .unset, .unset, .unset] [(.int ((p2 &&& (7 : Int32)) - (2 : Int32)))])) _
    refine castTop (g' := (mkF m 6 #[.val (.int p1), .val (.int p2), .unset, .unset, .unset] [(.int d)])) (by rw [hd]) ?_
    show Steps p.tables e below (s₁.setTop (mkF m 6 #[.val (.int p1), .val (.int p2), .unset, .unset, .unset] [(.int d)])) _
    refine XS.istoreN X0.here hx rfl (hb hby at_6) rfl (l' := #[.val (.int p1), .val (.int p2), .val (.int d), .unset, .unset]) rfl ?_
    show Steps p.tables e below (s₁.setTop (mkF m 7 #[.val (.int p1), .val (.int p2), .val (.int d), .unset, .unset] [])) _
    refine XS.iloadN X0.here hx rfl (hb hby at_7) rfl ?_
    show Steps p.tables e below (s₁.setTop (mkF m 8 #[.val (.int p1), .val (.int p2), .val (.int d), .unset, .unset] [(.int p1)])) _
    refine st1 _ ?_
    show Steps p.tables e below (T1.setTop (mkF m 11 #[.val (.int p1), .val (.int p2), .val (.int d), .unset, .unset] [(.ref wLEADING)])) _
    refine XS.astoreN X1.here hx rfl (hb hby at_11) rfl rfl (l' := #[.val (.int p1), .val (.int p2), .val (.int d), .val (.ref wLEADING), .unset]) rfl ?_
    show Steps p.tables e below (T1.setTop (mkF m 12 #[.val (.int p1), .val (.int p2), .val (.int d), .val (.ref wLEADING), .unset] [])) _
    refine XS.iloadN X1.here hx rfl (hb hby at_12) rfl ?_
    show Steps p.tables e below (T1.setTop (mkF m 13 #[.val (.int p1), .val (.int p2), .val (.int d), .val (.ref wLEADING), .unset] [(.int d)])) _
    refine st2 _ ?_
    show Steps p.tables e below (T2.setTop (mkF m 16 #[.val (.int p1), .val (.int p2), .val (.int d), .val (.ref wLEADING), .unset] [.null])) _
    refine XS.astore X2.here hx rfl (hb hby at_16) rfl rfl (l' := #[.val (.int p1), .val (.int p2), .val (.int d), .val (.ref wLEADING), .val .null]) rfl ?_
    show Steps p.tables e below (T2.setTop (mkF m 18 #[.val (.int p1), .val (.int p2), .val (.int d), .val (.ref wLEADING), .val .null] [])) _
    refine XS.aloadN X2.here hx rfl (hb hby at_18) rfl rfl ?_
    show Steps p.tables e below (T2.setTop (mkF m 19 #[.val (.int p1), .val (.int p2), .val (.int d), .val (.ref wLEADING), .val .null] [(.ref wLEADING)])) _
    refine XS.iloadN X2.here hx rfl (hb hby at_19) rfl ?_
    show Steps p.tables e below (T2.setTop (mkF m 20 #[.val (.int p1), .val (.int p2), .val (.int d), .val (.ref wLEADING), .val .null] [(.int p1), (.ref wLEADING)])) _
    refine st3 _ ?_
    show Steps p.tables e below (T3.setTop (mkF m 23 #[.val (.int p1), .val (.int p2), .val (.int d), .val (.ref wLEADING), .val .null] [(.ref wLEADING), (.ref wLEADING)])) _
    refine Jvm.RoadKit.acmp (g := (mkF m 23 #[.val (.int p1), .val (.int p2), .val (.int d), .val (.ref wLEADING), .val .null] [(.ref wLEADING), (.ref wLEADING)])) X3 hx rfl rfl rfl (pc0 := 23) (pc' := 26) (same := true) rfl (hb hby at_23) rfl (decide_eq_true rfl) (by decide) (by decide) ?_
    show Steps p.tables e below (T3.setTop (mkF m 26 #[.val (.int p1), .val (.int p2), .val (.int d), .val (.ref wLEADING), .val .null] [])) _
    refine XS.aload X3.here hx rfl (hb hby at_26) rfl rfl ?_
    show Steps p.tables e below (T3.setTop (mkF m 28 #[.val (.int p1), .val (.int p2), .val (.int d), .val (.ref wLEADING), .val .null] [.null])) _
    refine XS.iloadN X3.here hx rfl (hb hby at_28) rfl ?_
    show Steps p.tables e below (T3.setTop (mkF m 29 #[.val (.int p1), .val (.int p2), .val (.int d), .val (.ref wLEADING), .val .null] [(.int d), .null])) _
    refine st4 _ ?_
    show Steps p.tables e below (T4.setTop (mkF m 32 #[.val (.int p1), .val (.int p2), .val (.int d), .val (.ref wLEADING), .val .null] [.null, .null])) _
    refine Jvm.RoadKit.acmp (g := (mkF m 32 #[.val (.int p1), .val (.int p2), .val (.int d), .val (.ref wLEADING), .val .null] [.null, .null])) X4 hx rfl rfl rfl (pc0 := 32) (pc' := 35) (same := true) rfl (hb hby at_32) rfl (decide_eq_true rfl) (by decide) (by decide) ?_
    show Steps p.tables e below (T4.setTop (mkF m 35 #[.val (.int p1), .val (.int p2), .val (.int d), .val (.ref wLEADING), .val .null] [])) _
    refine XS.iconst X4.here hx rfl (hb hby at_35) ?_
    show Steps p.tables e below (T4.setTop (mkF m 36 #[.val (.int p1), .val (.int p2), .val (.int d), .val (.ref wLEADING), .val .null] [(.int (1 : Int32))])) _
    refine XS.goto X4.here hx rfl (pc0 := 36) (pc' := 40) rfl (hb hby at_36) (by decide) (by decide) ?_
    show Steps p.tables e below (T4.setTop (mkF m 40 #[.val (.int p1), .val (.int p2), .val (.int d), .val (.ref wLEADING), .val .null] [(.int (1 : Int32))])) _
    exact retN X4 hx (t := .boolean) Bd.returns (by simp) (hb hby at_40) hr
  · exact ⟨rfl, N4⟩
set_option maxRecDepth 65536 in
set_option maxHeartbeats 40000000 in
theorem own_law_30 (l : Launch) (Z : State) (a0 : Array Value) (hw : ∀ d ∈ tables_1, d.before a0 Z = true) (ws : List Jvm.Cond) (wVALUES : Addr) (wLOOKING : Addr) (wFOLLOWING : Addr) (wLEADING : Addr) (kVALUES : ClassId) (G : OwnG Z wVALUES wLOOKING wFOLLOWING wLEADING kVALUES) (h0 : Heap) (n0 : Nat) (O0 : Old Z n0 h0) (p1 : Int32) (p2 : Int32) (d : Int32) (c0 : ¬ (p1 = (0 : Int32))) (c1 : ¬ (p1 = (1 : Int32))) (c2 : ¬ (p1 = (2 : Int32))) (hd : ((p2 &&& (7 : Int32)) - (2 : Int32)) = d) (d0 : d = (0 : Int32)) (d1 : ¬ (d = (1 : Int32))) (d2 : ¬ (d = (2 : Int32))) :
    MetFree l x (head1 (Jvm.Cond.code x code maxLocals ret :: ws) room_1) (fun a U => a = #[(.int p1), (.int p2)] ∧ Z.Warmed39 U.vm ∧ U.heap = h0) (fun _ _ _ _ _ => True) (fun _ U o U' => ∃ v L, o = .returned v ∧ (v = some (.int 1) ∧ Fr n0 L) ∧ FrameEnd U o U' L room_1.cells room_1.slots) := by
  refine MetFree.of_bodySF (plainFor_of_name own_pn_0) hisR ?_
  intro p e s m args below meth c s₁ Bd hml0 hP hK
  obtain ⟨rfl, hZ, hh⟩ := hP
  have hx := Bd.exec
  have hby := Bd.bytes
  have hml : c.maxLocals = 5 := hml0
  have hown : s.vm.findClass "com/example/nimble_quorum/nimblequorum/quorum/PeerStateOfPinLaw" = some m.cls := findClass_of_methodNamed Bd.named
  have hnm := (name_of_methodNamed Bd.named Bd.method).1
  have X0 : Stand p l e room_1 s m #[(.int p1), (.int p2)] below meth c s₁ [] 0 0 := Stand.of_body Bd
  have e0 : s₁.heap = h0 := by rw [← hh, Bd.state]; rfl
  have N0 := Fr.nil n0
  have pre0 : ∀ t, Steps p.tables e below (s₁.setTop (mkF m 0 #[.val (.int p1), .val (.int p2), .unset, .unset, .unset] [])) t → Steps p.tables e below (s₁.setTop (entryFrame m #[(.int p1), (.int p2)] maxLocals)) t := fun t k => castTop (own_ef_0_II m p1 p2) k
  obtain ⟨_, _, ⟨T1, L1, k1, n1⟩, -, X1, ⟨Lc1, hQ1, l1, y1, z1⟩, st1⟩ := Jvm.LawKit.callS X0 hx (y := (⟨"com/example/nimble_quorum/nimblequorum/quorum/PeerState", "of", "(I)Lcom/example/nimble_quorum/nimblequorum/quorum/PeerState;"⟩ : MethodName)) hown (mvT hZ (hw _ (List.mem_of_getElem? (i := 0) rfl))) (mvT hZ (hw _ (List.mem_of_getElem? (i := 1) rfl))) (mvT hZ (hw _ (List.mem_of_getElem? (i := 2) rfl))) (mvT hZ (hw _ (List.mem_of_getElem? (i := 3) rfl))) (by decide) (backOf (W := 0) (own_of_7 l Z a0 hw [] wVALUES wLOOKING wFOLLOWING wLEADING kVALUES G h0 n0 O0 p1 c0 c1 c2) hZ (hw _ (List.mem_of_getElem? (i := 3) rfl)) (hw _ (List.mem_of_getElem? (i := 2) rfl)) (by decide) (by decide)) (g := (mkF m 8 #[.val (.int p1), .val (.int p2), .val (.int d), .unset, .unset] [(.int p1)])) rfl (by rw [hml]; rfl) (argsL := [(.int p1)]) (rest := []) (lenOf own_pd_1 rfl) rfl (by show 2 * 0 + _ ≤ _; exact Nat.le_of_eq rfl) (hb hby at_8) (fun _ _ => ⟨rfl, e0, (by decide : 0 + 1 ≤ _), (by decide : 0 + 3 ≤ _)⟩)
  dsimp only [Pt.U, Pt.locs, Pt.cells, Pt.slots] at X1 l1 y1 z1 st1 hQ1
  subst l1 y1 z1
  obtain ⟨rfl, N1q, Kq1⟩ := hQ1
  have N1 := Fr.app N0 N1q
  have O1 := O0.keep Kq1 all0
  have K1 := (Keep.refl h0 []).trans Kq1 all0
  obtain ⟨_, _, ⟨T2, L2, k2, n2⟩, -, X2, ⟨Lc2, hQ2, l2, y2, z2⟩, st2⟩ := Jvm.LawKit.callS X1 hx (y := (⟨"com/example/nimble_quorum/nimblequorum/quorum/PeerState", "of", "(I)Lcom/example/nimble_quorum/nimblequorum/quorum/PeerState;"⟩ : MethodName)) hown (mvT hZ (hw _ (List.mem_of_getElem? (i := 0) rfl))) (mvT hZ (hw _ (List.mem_of_getElem? (i := 1) rfl))) (mvT hZ (hw _ (List.mem_of_getElem? (i := 2) rfl))) (mvT hZ (hw _ (List.mem_of_getElem? (i := 3) rfl))) (by decide) (backOf (W := 0) (own_of_0 l Z a0 hw [] wVALUES wLOOKING wFOLLOWING wLEADING kVALUES G T1.heap n0 O1 d d0 d1 d2) hZ (hw _ (List.mem_of_getElem? (i := 3) rfl)) (hw _ (List.mem_of_getElem? (i := 2) rfl)) (by decide) (by decide)) (g := (mkF m 13 #[.val (.int p1), .val (.int p2), .val (.int d), .val .null, .unset] [(.int d)])) rfl (by rw [hml]; rfl) (argsL := [(.int d)]) (rest := []) (lenOf own_pd_1 rfl) rfl (by show 2 * 0 + _ ≤ _; exact Nat.le_of_eq rfl) (hb hby at_13) (fun _ _ => ⟨rfl, rfl, (by decide : 1 + 1 ≤ _), (by decide : 3 + 3 ≤ _)⟩)
  dsimp only [Pt.U, Pt.locs, Pt.cells, Pt.slots] at X2 l2 y2 z2 st2 hQ2
  subst l2 y2 z2
  obtain ⟨rfl, N2q, Kq2⟩ := hQ2
  have N2 := Fr.app N1 N2q
  have O2 := O1.keep Kq2 all0
  have K2 := K1.trans Kq2 all0
  obtain ⟨_, _, ⟨T3, L3, k3, n3⟩, -, X3, ⟨Lc3, hQ3, l3, y3, z3⟩, st3⟩ := Jvm.LawKit.callS X2 hx (y := (⟨"com/example/nimble_quorum/nimblequorum/quorum/PeerStateOfPinLaw", "expected", "(I)Lcom/example/nimble_quorum/nimblequorum/quorum/PeerState;"⟩ : MethodName)) hown (mvT hZ (hw _ (List.mem_of_getElem? (i := 24) rfl))) (mvT hZ (hw _ (List.mem_of_getElem? (i := 25) rfl))) (mvT hZ (hw _ (List.mem_of_getElem? (i := 26) rfl))) (mvT hZ (hw _ (List.mem_of_getElem? (i := 27) rfl))) (by decide) (backOf (W := 1) (own_expected_8 l Z a0 hw [] wVALUES wLOOKING wFOLLOWING wLEADING kVALUES G T2.heap n0 O2 p1 c0 c1 c2) hZ (hw _ (List.mem_of_getElem? (i := 27) rfl)) (hw _ (List.mem_of_getElem? (i := 26) rfl)) (by decide) (by decide)) (g := (mkF m 20 #[.val (.int p1), .val (.int p2), .val (.int d), .val .null, .val (.ref wLOOKING)] [(.int p1), .null])) rfl (by rw [hml]; rfl) (argsL := [(.int p1)]) (rest := [.null]) (lenOf own_pd_1 rfl) rfl (by show 2 * 0 + _ ≤ _; exact Nat.le_of_eq rfl) (hb hby at_20) (fun _ _ => ⟨rfl, rfl, (by decide : 2 + 0 ≤ _), (by decide : 6 + 0 ≤ _)⟩)
  dsimp only [Pt.U, Pt.locs, Pt.cells, Pt.slots] at X3 l3 y3 z3 st3 hQ3
  subst l3 y3 z3
  obtain ⟨rfl, N3q, e3⟩ := hQ3
  have N3 := Fr.app N2 N3q
  obtain ⟨_, _, ⟨T4, L4, k4, n4⟩, -, X4, ⟨Lc4, hQ4, l4, y4, z4⟩, st4⟩ := Jvm.LawKit.callS X3 hx (y := (⟨"com/example/nimble_quorum/nimblequorum/quorum/PeerStateOfPinLaw", "expected", "(I)Lcom/example/nimble_quorum/nimblequorum/quorum/PeerState;"⟩ : MethodName)) hown (mvT hZ (hw _ (List.mem_of_getElem? (i := 24) rfl))) (mvT hZ (hw _ (List.mem_of_getElem? (i := 25) rfl))) (mvT hZ (hw _ (List.mem_of_getElem? (i := 26) rfl))) (mvT hZ (hw _ (List.mem_of_getElem? (i := 27) rfl))) (by decide) (backOf (W := 1) (own_expected_2 l Z a0 hw [] wVALUES wLOOKING wFOLLOWING wLEADING kVALUES G T2.heap n0 O2 d d0 d1 d2) hZ (hw _ (List.mem_of_getElem? (i := 27) rfl)) (hw _ (List.mem_of_getElem? (i := 26) rfl)) (by decide) (by decide)) (g := (mkF m 29 #[.val (.int p1), .val (.int p2), .val (.int d), .val .null, .val (.ref wLOOKING)] [(.int d), (.ref wLOOKING)])) rfl (by rw [hml]; rfl) (argsL := [(.int d)]) (rest := [(.ref wLOOKING)]) (lenOf own_pd_1 rfl) rfl (by show 2 * 0 + _ ≤ _; exact Nat.le_of_eq rfl) (hb hby at_29) (fun _ _ => ⟨rfl, e3, (by decide : 2 + 0 ≤ _), (by decide : 6 + 0 ≤ _)⟩)
  dsimp only [Pt.U, Pt.locs, Pt.cells, Pt.slots] at X4 l4 y4 z4 st4 hQ4
  subst l4 y4 z4
  obtain ⟨rfl, N4q, e4⟩ := hQ4
  have N4 := Fr.app N3 N4q
  obtain ⟨fs, hr, hrun, hended, hW, hsame⟩ := X4.leave (v := some (.int (1 : Int32))) (fun h => by rw [Bd.returns] at h; cases h)
  refine ⟨_, _, pre0 _ ?_, hrun, hended, _, _, rfl, ?_, ⟨_, rfl⟩, hW, hsame.mono (by decide) (by decide)⟩
  · show Steps p.tables e below (s₁.setTop (mkF m 0 #[.val (.int p1), .val (.int p2), .unset, .unset, .unset] [])) _
    refine XS.iloadN X0.here hx rfl (hb hby at_0) rfl ?_
    show Steps p.tables e below (s₁.setTop (mkF m 1 #[.val (.int p1), .val (.int p2), .unset, .unset, .unset] [(.int p2)])) _
    refine XS.bipush X0.here hx rfl (hb hby at_1) ?_
    show Steps p.tables e below (s₁.setTop (mkF m 3 #[.val (.int p1), .val (.int p2), .unset, .unset, .unset] [(.int (7 : Int32)), (.int p2)])) _
    refine XS.iand X0.here hx rfl (hb hby at_3) rfl ?_
    show Steps p.tables e below (s₁.setTop (mkF m 4 #[.val (.int p1), .val (.int p2), .unset, .unset, .unset] [(.int (p2 &&& (7 : Int32)))])) _
    refine XS.iconst X0.here hx rfl (hb hby at_4) ?_
    show Steps p.tables e below (s₁.setTop (mkF m 5 #[.val (.int p1), .val (.int p2), .unset, .unset, .unset] [(.int (2 : Int32)), (.int (p2 &&& (7 : Int32)))])) _
    refine XS.isub X0.here hx rfl (hb hby at_5) rfl ?_
    show Steps p.tables e below (s₁.setTop (mkF m 6 #[.val (.int p1), .val (.int p2), .unset, .unset, .unset] [(.int ((p2 &&& (7 : Int32)) - (2 : Int32)))])) _
    refine castTop (g' := (mkF m 6 #[.val (.int p1), .val (.int p2), .unset, .unset, .unset] [(.int d)])) (by rw [hd]) ?_
    show Steps p.tables e below (s₁.setTop (mkF m 6 #[.val (.int p1), .val (.int p2), .unset, .unset, .unset] [(.int d)])) _
    refine XS.istoreN X0.here hx rfl (hb hby at_6) rfl (l' := #[.val (.int p1), .val (.int p2), .val (.int d), .unset, .unset]) rfl ?_
    show Steps p.tables e below (s₁.setTop (mkF m 7 #[.val (.int p1), .val (.int p2), .val (.int d), .unset, .unset] [])) _
    refine XS.iloadN X0.here hx rfl (hb hby at_7) rfl ?_
    show Steps p.tables e below (s₁.setTop (mkF m 8 #[.val (.int p1), .val (.int p2), .val (.int d), .unset, .unset] [(.int p1)])) _
    refine st1 _ ?_
    show Steps p.tables e below (T1.setTop (mkF m 11 #[.val (.int p1), .val (.int p2), .val (.int d), .unset, .unset] [.null])) _
    refine XS.astoreN X1.here hx rfl (hb hby at_11) rfl rfl (l' := #[.val (.int p1), .val (.int p2), .val (.int d), .val .null, .unset]) rfl ?_
    show Steps p.tables e below (T1.setTop (mkF m 12 #[.val (.int p1), .val (.int p2), .val (.int d), .val .null, .unset] [])) _
    refine XS.iloadN X1.here hx rfl (hb hby at_12) rfl ?_
    show Steps p.tables e below (T1.setTop (mkF m 13 #[.val (.int p1), .val (.int p2), .val (.int d), .val .null, .unset] [(.int d)])) _
    refine st2 _ ?_
    show Steps p.tables e below (T2.setTop (mkF m 16 #[.val (.int p1), .val (.int p2), .val (.int d), .val .null, .unset] [(.ref wLOOKING)])) _
    refine XS.astore X2.here hx rfl (hb hby at_16) rfl rfl (l' := #[.val (.int p1), .val (.int p2), .val (.int d), .val .null, .val (.ref wLOOKING)]) rfl ?_
    show Steps p.tables e below (T2.setTop (mkF m 18 #[.val (.int p1), .val (.int p2), .val (.int d), .val .null, .val (.ref wLOOKING)] [])) _
    refine XS.aloadN X2.here hx rfl (hb hby at_18) rfl rfl ?_
    show Steps p.tables e below (T2.setTop (mkF m 19 #[.val (.int p1), .val (.int p2), .val (.int d), .val .null, .val (.ref wLOOKING)] [.null])) _
    refine XS.iloadN X2.here hx rfl (hb hby at_19) rfl ?_
    show Steps p.tables e below (T2.setTop (mkF m 20 #[.val (.int p1), .val (.int p2), .val (.int d), .val .null, .val (.ref wLOOKING)] [(.int p1), .null])) _
    refine st3 _ ?_
    show Steps p.tables e below (T3.setTop (mkF m 23 #[.val (.int p1), .val (.int p2), .val (.int d), .val .null, .val (.ref wLOOKING)] [.null, .null])) _
    refine Jvm.RoadKit.acmp (g := (mkF m 23 #[.val (.int p1), .val (.int p2), .val (.int d), .val .null, .val (.ref wLOOKING)] [.null, .null])) X3 hx rfl rfl rfl (pc0 := 23) (pc' := 26) (same := true) rfl (hb hby at_23) rfl (decide_eq_true rfl) (by decide) (by decide) ?_
    show Steps p.tables e below (T3.setTop (mkF m 26 #[.val (.int p1), .val (.int p2), .val (.int d), .val .null, .val (.ref wLOOKING)] [])) _
    refine XS.aload X3.here hx rfl (hb hby at_26) rfl rfl ?_
    show Steps p.tables e below (T3.setTop (mkF m 28 #[.val (.int p1), .val (.int p2), .val (.int d), .val .null, .val (.ref wLOOKING)] [(.ref wLOOKING)])) _
    refine XS.iloadN X3.here hx rfl (hb hby at_28) rfl ?_
    show Steps p.tables e below (T3.setTop (mkF m 29 #[.val (.int p1), .val (.int p2), .val (.int d), .val .null, .val (.ref wLOOKING)] [(.int d), (.ref wLOOKING)])) _
    refine st4 _ ?_
    show Steps p.tables e below (T4.setTop (mkF m 32 #[.val (.int p1), .val (.int p2), .val (.int d), .val .null, .val (.ref wLOOKING)] [(.ref wLOOKING), (.ref wLOOKING)])) _
    refine Jvm.RoadKit.acmp (g := (mkF m 32 #[.val (.int p1), .val (.int p2), .val (.int d), .val .null, .val (.ref wLOOKING)] [(.ref wLOOKING), (.ref wLOOKING)])) X4 hx rfl rfl rfl (pc0 := 32) (pc' := 35) (same := true) rfl (hb hby at_32) rfl (decide_eq_true rfl) (by decide) (by decide) ?_
    show Steps p.tables e below (T4.setTop (mkF m 35 #[.val (.int p1), .val (.int p2), .val (.int d), .val .null, .val (.ref wLOOKING)] [])) _
    refine XS.iconst X4.here hx rfl (hb hby at_35) ?_
    show Steps p.tables e below (T4.setTop (mkF m 36 #[.val (.int p1), .val (.int p2), .val (.int d), .val .null, .val (.ref wLOOKING)] [(.int (1 : Int32))])) _
    refine XS.goto X4.here hx rfl (pc0 := 36) (pc' := 40) rfl (hb hby at_36) (by decide) (by decide) ?_
    show Steps p.tables e below (T4.setTop (mkF m 40 #[.val (.int p1), .val (.int p2), .val (.int d), .val .null, .val (.ref wLOOKING)] [(.int (1 : Int32))])) _
    exact retN X4 hx (t := .boolean) Bd.returns (by simp) (hb hby at_40) hr
  · exact ⟨rfl, N4⟩
set_option maxRecDepth 65536 in
set_option maxHeartbeats 40000000 in
theorem own_law_31 (l : Launch) (Z : State) (a0 : Array Value) (hw : ∀ d ∈ tables_1, d.before a0 Z = true) (ws : List Jvm.Cond) (wVALUES : Addr) (wLOOKING : Addr) (wFOLLOWING : Addr) (wLEADING : Addr) (kVALUES : ClassId) (G : OwnG Z wVALUES wLOOKING wFOLLOWING wLEADING kVALUES) (h0 : Heap) (n0 : Nat) (O0 : Old Z n0 h0) (p1 : Int32) (p2 : Int32) (d : Int32) (c0 : ¬ (p1 = (0 : Int32))) (c1 : ¬ (p1 = (1 : Int32))) (c2 : ¬ (p1 = (2 : Int32))) (hd : ((p2 &&& (7 : Int32)) - (2 : Int32)) = d) (d0 : ¬ (d = (0 : Int32))) (d1 : d = (1 : Int32)) (d2 : ¬ (d = (2 : Int32))) :
    MetFree l x (head1 (Jvm.Cond.code x code maxLocals ret :: ws) room_1) (fun a U => a = #[(.int p1), (.int p2)] ∧ Z.Warmed39 U.vm ∧ U.heap = h0) (fun _ _ _ _ _ => True) (fun _ U o U' => ∃ v L, o = .returned v ∧ (v = some (.int 1) ∧ Fr n0 L) ∧ FrameEnd U o U' L room_1.cells room_1.slots) := by
  refine MetFree.of_bodySF (plainFor_of_name own_pn_0) hisR ?_
  intro p e s m args below meth c s₁ Bd hml0 hP hK
  obtain ⟨rfl, hZ, hh⟩ := hP
  have hx := Bd.exec
  have hby := Bd.bytes
  have hml : c.maxLocals = 5 := hml0
  have hown : s.vm.findClass "com/example/nimble_quorum/nimblequorum/quorum/PeerStateOfPinLaw" = some m.cls := findClass_of_methodNamed Bd.named
  have hnm := (name_of_methodNamed Bd.named Bd.method).1
  have X0 : Stand p l e room_1 s m #[(.int p1), (.int p2)] below meth c s₁ [] 0 0 := Stand.of_body Bd
  have e0 : s₁.heap = h0 := by rw [← hh, Bd.state]; rfl
  have N0 := Fr.nil n0
  have pre0 : ∀ t, Steps p.tables e below (s₁.setTop (mkF m 0 #[.val (.int p1), .val (.int p2), .unset, .unset, .unset] [])) t → Steps p.tables e below (s₁.setTop (entryFrame m #[(.int p1), (.int p2)] maxLocals)) t := fun t k => castTop (own_ef_0_II m p1 p2) k
  obtain ⟨_, _, ⟨T1, L1, k1, n1⟩, -, X1, ⟨Lc1, hQ1, l1, y1, z1⟩, st1⟩ := Jvm.LawKit.callS X0 hx (y := (⟨"com/example/nimble_quorum/nimblequorum/quorum/PeerState", "of", "(I)Lcom/example/nimble_quorum/nimblequorum/quorum/PeerState;"⟩ : MethodName)) hown (mvT hZ (hw _ (List.mem_of_getElem? (i := 0) rfl))) (mvT hZ (hw _ (List.mem_of_getElem? (i := 1) rfl))) (mvT hZ (hw _ (List.mem_of_getElem? (i := 2) rfl))) (mvT hZ (hw _ (List.mem_of_getElem? (i := 3) rfl))) (by decide) (backOf (W := 0) (own_of_7 l Z a0 hw [] wVALUES wLOOKING wFOLLOWING wLEADING kVALUES G h0 n0 O0 p1 c0 c1 c2) hZ (hw _ (List.mem_of_getElem? (i := 3) rfl)) (hw _ (List.mem_of_getElem? (i := 2) rfl)) (by decide) (by decide)) (g := (mkF m 8 #[.val (.int p1), .val (.int p2), .val (.int d), .unset, .unset] [(.int p1)])) rfl (by rw [hml]; rfl) (argsL := [(.int p1)]) (rest := []) (lenOf own_pd_1 rfl) rfl (by show 2 * 0 + _ ≤ _; exact Nat.le_of_eq rfl) (hb hby at_8) (fun _ _ => ⟨rfl, e0, (by decide : 0 + 1 ≤ _), (by decide : 0 + 3 ≤ _)⟩)
  dsimp only [Pt.U, Pt.locs, Pt.cells, Pt.slots] at X1 l1 y1 z1 st1 hQ1
  subst l1 y1 z1
  obtain ⟨rfl, N1q, Kq1⟩ := hQ1
  have N1 := Fr.app N0 N1q
  have O1 := O0.keep Kq1 all0
  have K1 := (Keep.refl h0 []).trans Kq1 all0
  obtain ⟨_, _, ⟨T2, L2, k2, n2⟩, -, X2, ⟨Lc2, hQ2, l2, y2, z2⟩, st2⟩ := Jvm.LawKit.callS X1 hx (y := (⟨"com/example/nimble_quorum/nimblequorum/quorum/PeerState", "of", "(I)Lcom/example/nimble_quorum/nimblequorum/quorum/PeerState;"⟩ : MethodName)) hown (mvT hZ (hw _ (List.mem_of_getElem? (i := 0) rfl))) (mvT hZ (hw _ (List.mem_of_getElem? (i := 1) rfl))) (mvT hZ (hw _ (List.mem_of_getElem? (i := 2) rfl))) (mvT hZ (hw _ (List.mem_of_getElem? (i := 3) rfl))) (by decide) (backOf (W := 0) (own_of_3 l Z a0 hw [] wVALUES wLOOKING wFOLLOWING wLEADING kVALUES G T1.heap n0 O1 d d0 d1 d2) hZ (hw _ (List.mem_of_getElem? (i := 3) rfl)) (hw _ (List.mem_of_getElem? (i := 2) rfl)) (by decide) (by decide)) (g := (mkF m 13 #[.val (.int p1), .val (.int p2), .val (.int d), .val .null, .unset] [(.int d)])) rfl (by rw [hml]; rfl) (argsL := [(.int d)]) (rest := []) (lenOf own_pd_1 rfl) rfl (by show 2 * 0 + _ ≤ _; exact Nat.le_of_eq rfl) (hb hby at_13) (fun _ _ => ⟨rfl, rfl, (by decide : 1 + 1 ≤ _), (by decide : 3 + 3 ≤ _)⟩)
  dsimp only [Pt.U, Pt.locs, Pt.cells, Pt.slots] at X2 l2 y2 z2 st2 hQ2
  subst l2 y2 z2
  obtain ⟨rfl, N2q, Kq2⟩ := hQ2
  have N2 := Fr.app N1 N2q
  have O2 := O1.keep Kq2 all0
  have K2 := K1.trans Kq2 all0
  obtain ⟨_, _, ⟨T3, L3, k3, n3⟩, -, X3, ⟨Lc3, hQ3, l3, y3, z3⟩, st3⟩ := Jvm.LawKit.callS X2 hx (y := (⟨"com/example/nimble_quorum/nimblequorum/quorum/PeerStateOfPinLaw", "expected", "(I)Lcom/example/nimble_quorum/nimblequorum/quorum/PeerState;"⟩ : MethodName)) hown (mvT hZ (hw _ (List.mem_of_getElem? (i := 24) rfl))) (mvT hZ (hw _ (List.mem_of_getElem? (i := 25) rfl))) (mvT hZ (hw _ (List.mem_of_getElem? (i := 26) rfl))) (mvT hZ (hw _ (List.mem_of_getElem? (i := 27) rfl))) (by decide) (backOf (W := 1) (own_expected_8 l Z a0 hw [] wVALUES wLOOKING wFOLLOWING wLEADING kVALUES G T2.heap n0 O2 p1 c0 c1 c2) hZ (hw _ (List.mem_of_getElem? (i := 27) rfl)) (hw _ (List.mem_of_getElem? (i := 26) rfl)) (by decide) (by decide)) (g := (mkF m 20 #[.val (.int p1), .val (.int p2), .val (.int d), .val .null, .val (.ref wFOLLOWING)] [(.int p1), .null])) rfl (by rw [hml]; rfl) (argsL := [(.int p1)]) (rest := [.null]) (lenOf own_pd_1 rfl) rfl (by show 2 * 0 + _ ≤ _; exact Nat.le_of_eq rfl) (hb hby at_20) (fun _ _ => ⟨rfl, rfl, (by decide : 2 + 0 ≤ _), (by decide : 6 + 0 ≤ _)⟩)
  dsimp only [Pt.U, Pt.locs, Pt.cells, Pt.slots] at X3 l3 y3 z3 st3 hQ3
  subst l3 y3 z3
  obtain ⟨rfl, N3q, e3⟩ := hQ3
  have N3 := Fr.app N2 N3q
  obtain ⟨_, _, ⟨T4, L4, k4, n4⟩, -, X4, ⟨Lc4, hQ4, l4, y4, z4⟩, st4⟩ := Jvm.LawKit.callS X3 hx (y := (⟨"com/example/nimble_quorum/nimblequorum/quorum/PeerStateOfPinLaw", "expected", "(I)Lcom/example/nimble_quorum/nimblequorum/quorum/PeerState;"⟩ : MethodName)) hown (mvT hZ (hw _ (List.mem_of_getElem? (i := 24) rfl))) (mvT hZ (hw _ (List.mem_of_getElem? (i := 25) rfl))) (mvT hZ (hw _ (List.mem_of_getElem? (i := 26) rfl))) (mvT hZ (hw _ (List.mem_of_getElem? (i := 27) rfl))) (by decide) (backOf (W := 1) (own_expected_4 l Z a0 hw [] wVALUES wLOOKING wFOLLOWING wLEADING kVALUES G T2.heap n0 O2 d d0 d1 d2) hZ (hw _ (List.mem_of_getElem? (i := 27) rfl)) (hw _ (List.mem_of_getElem? (i := 26) rfl)) (by decide) (by decide)) (g := (mkF m 29 #[.val (.int p1), .val (.int p2), .val (.int d), .val .null, .val (.ref wFOLLOWING)] [(.int d), (.ref wFOLLOWING)])) rfl (by rw [hml]; rfl) (argsL := [(.int d)]) (rest := [(.ref wFOLLOWING)]) (lenOf own_pd_1 rfl) rfl (by show 2 * 0 + _ ≤ _; exact Nat.le_of_eq rfl) (hb hby at_29) (fun _ _ => ⟨rfl, e3, (by decide : 2 + 0 ≤ _), (by decide : 6 + 0 ≤ _)⟩)
  dsimp only [Pt.U, Pt.locs, Pt.cells, Pt.slots] at X4 l4 y4 z4 st4 hQ4
  subst l4 y4 z4
  obtain ⟨rfl, N4q, e4⟩ := hQ4
  have N4 := Fr.app N3 N4q
  obtain ⟨fs, hr, hrun, hended, hW, hsame⟩ := X4.leave (v := some (.int (1 : Int32))) (fun h => by rw [Bd.returns] at h; cases h)
  refine ⟨_, _, pre0 _ ?_, hrun, hended, _, _, rfl, ?_, ⟨_, rfl⟩, hW, hsame.mono (by decide) (by decide)⟩
  · show Steps p.tables e below (s₁.setTop (mkF m 0 #[.val (.int p1), .val (.int p2), .unset, .unset, .unset] [])) _
    refine XS.iloadN X0.here hx rfl (hb hby at_0) rfl ?_
    show Steps p.tables e below (s₁.setTop (mkF m 1 #[.val (.int p1), .val (.int p2), .unset, .unset, .unset] [(.int p2)])) _
    refine XS.bipush X0.here hx rfl (hb hby at_1) ?_
    show Steps p.tables e below (s₁.setTop (mkF m 3 #[.val (.int p1), .val (.int p2), .unset, .unset, .unset] [(.int (7 : Int32)), (.int p2)])) _
    refine XS.iand X0.here hx rfl (hb hby at_3) rfl ?_
    show Steps p.tables e below (s₁.setTop (mkF m 4 #[.val (.int p1), .val (.int p2), .unset, .unset, .unset] [(.int (p2 &&& (7 : Int32)))])) _
    refine XS.iconst X0.here hx rfl (hb hby at_4) ?_
    show Steps p.tables e below (s₁.setTop (mkF m 5 #[.val (.int p1), .val (.int p2), .unset, .unset, .unset] [(.int (2 : Int32)), (.int (p2 &&& (7 : Int32)))])) _
    refine XS.isub X0.here hx rfl (hb hby at_5) rfl ?_
    show Steps p.tables e below (s₁.setTop (mkF m 6 #[.val (.int p1), .val (.int p2), .unset, .unset, .unset] [(.int ((p2 &&& (7 : Int32)) - (2 : Int32)))])) _
    refine castTop (g' := (mkF m 6 #[.val (.int p1), .val (.int p2), .unset, .unset, .unset] [(.int d)])) (by rw [hd]) ?_
    show Steps p.tables e below (s₁.setTop (mkF m 6 #[.val (.int p1), .val (.int p2), .unset, .unset, .unset] [(.int d)])) _
    refine XS.istoreN X0.here hx rfl (hb hby at_6) rfl (l' := #[.val (.int p1), .val (.int p2), .val (.int d), .unset, .unset]) rfl ?_
    show Steps p.tables e below (s₁.setTop (mkF m 7 #[.val (.int p1), .val (.int p2), .val (.int d), .unset, .unset] [])) _
    refine XS.iloadN X0.here hx rfl (hb hby at_7) rfl ?_
    show Steps p.tables e below (s₁.setTop (mkF m 8 #[.val (.int p1), .val (.int p2), .val (.int d), .unset, .unset] [(.int p1)])) _
    refine st1 _ ?_
    show Steps p.tables e below (T1.setTop (mkF m 11 #[.val (.int p1), .val (.int p2), .val (.int d), .unset, .unset] [.null])) _
    refine XS.astoreN X1.here hx rfl (hb hby at_11) rfl rfl (l' := #[.val (.int p1), .val (.int p2), .val (.int d), .val .null, .unset]) rfl ?_
    show Steps p.tables e below (T1.setTop (mkF m 12 #[.val (.int p1), .val (.int p2), .val (.int d), .val .null, .unset] [])) _
    refine XS.iloadN X1.here hx rfl (hb hby at_12) rfl ?_
    show Steps p.tables e below (T1.setTop (mkF m 13 #[.val (.int p1), .val (.int p2), .val (.int d), .val .null, .unset] [(.int d)])) _
    refine st2 _ ?_
    show Steps p.tables e below (T2.setTop (mkF m 16 #[.val (.int p1), .val (.int p2), .val (.int d), .val .null, .unset] [(.ref wFOLLOWING)])) _
    refine XS.astore X2.here hx rfl (hb hby at_16) rfl rfl (l' := #[.val (.int p1), .val (.int p2), .val (.int d), .val .null, .val (.ref wFOLLOWING)]) rfl ?_
    show Steps p.tables e below (T2.setTop (mkF m 18 #[.val (.int p1), .val (.int p2), .val (.int d), .val .null, .val (.ref wFOLLOWING)] [])) _
    refine XS.aloadN X2.here hx rfl (hb hby at_18) rfl rfl ?_
    show Steps p.tables e below (T2.setTop (mkF m 19 #[.val (.int p1), .val (.int p2), .val (.int d), .val .null, .val (.ref wFOLLOWING)] [.null])) _
    refine XS.iloadN X2.here hx rfl (hb hby at_19) rfl ?_
    show Steps p.tables e below (T2.setTop (mkF m 20 #[.val (.int p1), .val (.int p2), .val (.int d), .val .null, .val (.ref wFOLLOWING)] [(.int p1), .null])) _
    refine st3 _ ?_
    show Steps p.tables e below (T3.setTop (mkF m 23 #[.val (.int p1), .val (.int p2), .val (.int d), .val .null, .val (.ref wFOLLOWING)] [.null, .null])) _
    refine Jvm.RoadKit.acmp (g := (mkF m 23 #[.val (.int p1), .val (.int p2), .val (.int d), .val .null, .val (.ref wFOLLOWING)] [.null, .null])) X3 hx rfl rfl rfl (pc0 := 23) (pc' := 26) (same := true) rfl (hb hby at_23) rfl (decide_eq_true rfl) (by decide) (by decide) ?_
    show Steps p.tables e below (T3.setTop (mkF m 26 #[.val (.int p1), .val (.int p2), .val (.int d), .val .null, .val (.ref wFOLLOWING)] [])) _
    refine XS.aload X3.here hx rfl (hb hby at_26) rfl rfl ?_
    show Steps p.tables e below (T3.setTop (mkF m 28 #[.val (.int p1), .val (.int p2), .val (.int d), .val .null, .val (.ref wFOLLOWING)] [(.ref wFOLLOWING)])) _
    refine XS.iloadN X3.here hx rfl (hb hby at_28) rfl ?_
    show Steps p.tables e below (T3.setTop (mkF m 29 #[.val (.int p1), .val (.int p2), .val (.int d), .val .null, .val (.ref wFOLLOWING)] [(.int d), (.ref wFOLLOWING)])) _
    refine st4 _ ?_
    show Steps p.tables e below (T4.setTop (mkF m 32 #[.val (.int p1), .val (.int p2), .val (.int d), .val .null, .val (.ref wFOLLOWING)] [(.ref wFOLLOWING), (.ref wFOLLOWING)])) _
    refine Jvm.RoadKit.acmp (g := (mkF m 32 #[.val (.int p1), .val (.int p2), .val (.int d), .val .null, .val (.ref wFOLLOWING)] [(.ref wFOLLOWING), (.ref wFOLLOWING)])) X4 hx rfl rfl rfl (pc0 := 32) (pc' := 35) (same := true) rfl (hb hby at_32) rfl (decide_eq_true rfl) (by decide) (by decide) ?_
    show Steps p.tables e below (T4.setTop (mkF m 35 #[.val (.int p1), .val (.int p2), .val (.int d), .val .null, .val (.ref wFOLLOWING)] [])) _
    refine XS.iconst X4.here hx rfl (hb hby at_35) ?_
    show Steps p.tables e below (T4.setTop (mkF m 36 #[.val (.int p1), .val (.int p2), .val (.int d), .val .null, .val (.ref wFOLLOWING)] [(.int (1 : Int32))])) _
    refine XS.goto X4.here hx rfl (pc0 := 36) (pc' := 40) rfl (hb hby at_36) (by decide) (by decide) ?_
    show Steps p.tables e below (T4.setTop (mkF m 40 #[.val (.int p1), .val (.int p2), .val (.int d), .val .null, .val (.ref wFOLLOWING)] [(.int (1 : Int32))])) _
    exact retN X4 hx (t := .boolean) Bd.returns (by simp) (hb hby at_40) hr
  · exact ⟨rfl, N4⟩
set_option maxRecDepth 65536 in
set_option maxHeartbeats 40000000 in
theorem own_law_32 (l : Launch) (Z : State) (a0 : Array Value) (hw : ∀ d ∈ tables_1, d.before a0 Z = true) (ws : List Jvm.Cond) (wVALUES : Addr) (wLOOKING : Addr) (wFOLLOWING : Addr) (wLEADING : Addr) (kVALUES : ClassId) (G : OwnG Z wVALUES wLOOKING wFOLLOWING wLEADING kVALUES) (h0 : Heap) (n0 : Nat) (O0 : Old Z n0 h0) (p1 : Int32) (p2 : Int32) (d : Int32) (c0 : ¬ (p1 = (0 : Int32))) (c1 : ¬ (p1 = (1 : Int32))) (c2 : ¬ (p1 = (2 : Int32))) (hd : ((p2 &&& (7 : Int32)) - (2 : Int32)) = d) (d0 : ¬ (d = (0 : Int32))) (d1 : ¬ (d = (1 : Int32))) (d2 : d = (2 : Int32)) :
    MetFree l x (head1 (Jvm.Cond.code x code maxLocals ret :: ws) room_1) (fun a U => a = #[(.int p1), (.int p2)] ∧ Z.Warmed39 U.vm ∧ U.heap = h0) (fun _ _ _ _ _ => True) (fun _ U o U' => ∃ v L, o = .returned v ∧ (v = some (.int 1) ∧ Fr n0 L) ∧ FrameEnd U o U' L room_1.cells room_1.slots) := by
  refine MetFree.of_bodySF (plainFor_of_name own_pn_0) hisR ?_
  intro p e s m args below meth c s₁ Bd hml0 hP hK
  obtain ⟨rfl, hZ, hh⟩ := hP
  have hx := Bd.exec
  have hby := Bd.bytes
  have hml : c.maxLocals = 5 := hml0
  have hown : s.vm.findClass "com/example/nimble_quorum/nimblequorum/quorum/PeerStateOfPinLaw" = some m.cls := findClass_of_methodNamed Bd.named
  have hnm := (name_of_methodNamed Bd.named Bd.method).1
  have X0 : Stand p l e room_1 s m #[(.int p1), (.int p2)] below meth c s₁ [] 0 0 := Stand.of_body Bd
  have e0 : s₁.heap = h0 := by rw [← hh, Bd.state]; rfl
  have N0 := Fr.nil n0
  have pre0 : ∀ t, Steps p.tables e below (s₁.setTop (mkF m 0 #[.val (.int p1), .val (.int p2), .unset, .unset, .unset] [])) t → Steps p.tables e below (s₁.setTop (entryFrame m #[(.int p1), (.int p2)] maxLocals)) t := fun t k => castTop (own_ef_0_II m p1 p2) k
  obtain ⟨_, _, ⟨T1, L1, k1, n1⟩, -, X1, ⟨Lc1, hQ1, l1, y1, z1⟩, st1⟩ := Jvm.LawKit.callS X0 hx (y := (⟨"com/example/nimble_quorum/nimblequorum/quorum/PeerState", "of", "(I)Lcom/example/nimble_quorum/nimblequorum/quorum/PeerState;"⟩ : MethodName)) hown (mvT hZ (hw _ (List.mem_of_getElem? (i := 0) rfl))) (mvT hZ (hw _ (List.mem_of_getElem? (i := 1) rfl))) (mvT hZ (hw _ (List.mem_of_getElem? (i := 2) rfl))) (mvT hZ (hw _ (List.mem_of_getElem? (i := 3) rfl))) (by decide) (backOf (W := 0) (own_of_7 l Z a0 hw [] wVALUES wLOOKING wFOLLOWING wLEADING kVALUES G h0 n0 O0 p1 c0 c1 c2) hZ (hw _ (List.mem_of_getElem? (i := 3) rfl)) (hw _ (List.mem_of_getElem? (i := 2) rfl)) (by decide) (by decide)) (g := (mkF m 8 #[.val (.int p1), .val (.int p2), .val (.int d), .unset, .unset] [(.int p1)])) rfl (by rw [hml]; rfl) (argsL := [(.int p1)]) (rest := []) (lenOf own_pd_1 rfl) rfl (by show 2 * 0 + _ ≤ _; exact Nat.le_of_eq rfl) (hb hby at_8) (fun _ _ => ⟨rfl, e0, (by decide : 0 + 1 ≤ _), (by decide : 0 + 3 ≤ _)⟩)
  dsimp only [Pt.U, Pt.locs, Pt.cells, Pt.slots] at X1 l1 y1 z1 st1 hQ1
  subst l1 y1 z1
  obtain ⟨rfl, N1q, Kq1⟩ := hQ1
  have N1 := Fr.app N0 N1q
  have O1 := O0.keep Kq1 all0
  have K1 := (Keep.refl h0 []).trans Kq1 all0
  obtain ⟨_, _, ⟨T2, L2, k2, n2⟩, -, X2, ⟨Lc2, hQ2, l2, y2, z2⟩, st2⟩ := Jvm.LawKit.callS X1 hx (y := (⟨"com/example/nimble_quorum/nimblequorum/quorum/PeerState", "of", "(I)Lcom/example/nimble_quorum/nimblequorum/quorum/PeerState;"⟩ : MethodName)) hown (mvT hZ (hw _ (List.mem_of_getElem? (i := 0) rfl))) (mvT hZ (hw _ (List.mem_of_getElem? (i := 1) rfl))) (mvT hZ (hw _ (List.mem_of_getElem? (i := 2) rfl))) (mvT hZ (hw _ (List.mem_of_getElem? (i := 3) rfl))) (by decide) (backOf (W := 0) (own_of_5 l Z a0 hw [] wVALUES wLOOKING wFOLLOWING wLEADING kVALUES G T1.heap n0 O1 d d0 d1 d2) hZ (hw _ (List.mem_of_getElem? (i := 3) rfl)) (hw _ (List.mem_of_getElem? (i := 2) rfl)) (by decide) (by decide)) (g := (mkF m 13 #[.val (.int p1), .val (.int p2), .val (.int d), .val .null, .unset] [(.int d)])) rfl (by rw [hml]; rfl) (argsL := [(.int d)]) (rest := []) (lenOf own_pd_1 rfl) rfl (by show 2 * 0 + _ ≤ _; exact Nat.le_of_eq rfl) (hb hby at_13) (fun _ _ => ⟨rfl, rfl, (by decide : 1 + 1 ≤ _), (by decide : 3 + 3 ≤ _)⟩)
  dsimp only [Pt.U, Pt.locs, Pt.cells, Pt.slots] at X2 l2 y2 z2 st2 hQ2
  subst l2 y2 z2
  obtain ⟨rfl, N2q, Kq2⟩ := hQ2
  have N2 := Fr.app N1 N2q
  have O2 := O1.keep Kq2 all0
  have K2 := K1.trans Kq2 all0
  obtain ⟨_, _, ⟨T3, L3, k3, n3⟩, -, X3, ⟨Lc3, hQ3, l3, y3, z3⟩, st3⟩ := Jvm.LawKit.callS X2 hx (y := (⟨"com/example/nimble_quorum/nimblequorum/quorum/PeerStateOfPinLaw", "expected", "(I)Lcom/example/nimble_quorum/nimblequorum/quorum/PeerState;"⟩ : MethodName)) hown (mvT hZ (hw _ (List.mem_of_getElem? (i := 24) rfl))) (mvT hZ (hw _ (List.mem_of_getElem? (i := 25) rfl))) (mvT hZ (hw _ (List.mem_of_getElem? (i := 26) rfl))) (mvT hZ (hw _ (List.mem_of_getElem? (i := 27) rfl))) (by decide) (backOf (W := 1) (own_expected_8 l Z a0 hw [] wVALUES wLOOKING wFOLLOWING wLEADING kVALUES G T2.heap n0 O2 p1 c0 c1 c2) hZ (hw _ (List.mem_of_getElem? (i := 27) rfl)) (hw _ (List.mem_of_getElem? (i := 26) rfl)) (by decide) (by decide)) (g := (mkF m 20 #[.val (.int p1), .val (.int p2), .val (.int d), .val .null, .val (.ref wLEADING)] [(.int p1), .null])) rfl (by rw [hml]; rfl) (argsL := [(.int p1)]) (rest := [.null]) (lenOf own_pd_1 rfl) rfl (by show 2 * 0 + _ ≤ _; exact Nat.le_of_eq rfl) (hb hby at_20) (fun _ _ => ⟨rfl, rfl, (by decide : 2 + 0 ≤ _), (by decide : 6 + 0 ≤ _)⟩)
  dsimp only [Pt.U, Pt.locs, Pt.cells, Pt.slots] at X3 l3 y3 z3 st3 hQ3
  subst l3 y3 z3
  obtain ⟨rfl, N3q, e3⟩ := hQ3
  have N3 := Fr.app N2 N3q
  obtain ⟨_, _, ⟨T4, L4, k4, n4⟩, -, X4, ⟨Lc4, hQ4, l4, y4, z4⟩, st4⟩ := Jvm.LawKit.callS X3 hx (y := (⟨"com/example/nimble_quorum/nimblequorum/quorum/PeerStateOfPinLaw", "expected", "(I)Lcom/example/nimble_quorum/nimblequorum/quorum/PeerState;"⟩ : MethodName)) hown (mvT hZ (hw _ (List.mem_of_getElem? (i := 24) rfl))) (mvT hZ (hw _ (List.mem_of_getElem? (i := 25) rfl))) (mvT hZ (hw _ (List.mem_of_getElem? (i := 26) rfl))) (mvT hZ (hw _ (List.mem_of_getElem? (i := 27) rfl))) (by decide) (backOf (W := 1) (own_expected_6 l Z a0 hw [] wVALUES wLOOKING wFOLLOWING wLEADING kVALUES G T2.heap n0 O2 d d0 d1 d2) hZ (hw _ (List.mem_of_getElem? (i := 27) rfl)) (hw _ (List.mem_of_getElem? (i := 26) rfl)) (by decide) (by decide)) (g := (mkF m 29 #[.val (.int p1), .val (.int p2), .val (.int d), .val .null, .val (.ref wLEADING)] [(.int d), (.ref wLEADING)])) rfl (by rw [hml]; rfl) (argsL := [(.int d)]) (rest := [(.ref wLEADING)]) (lenOf own_pd_1 rfl) rfl (by show 2 * 0 + _ ≤ _; exact Nat.le_of_eq rfl) (hb hby at_29) (fun _ _ => ⟨rfl, e3, (by decide : 2 + 0 ≤ _), (by decide : 6 + 0 ≤ _)⟩)
  dsimp only [Pt.U, Pt.locs, Pt.cells, Pt.slots] at X4 l4 y4 z4 st4 hQ4
  subst l4 y4 z4
  obtain ⟨rfl, N4q, e4⟩ := hQ4
  have N4 := Fr.app N3 N4q
  obtain ⟨fs, hr, hrun, hended, hW, hsame⟩ := X4.leave (v := some (.int (1 : Int32))) (fun h => by rw [Bd.returns] at h; cases h)
  refine ⟨_, _, pre0 _ ?_, hrun, hended, _, _, rfl, ?_, ⟨_, rfl⟩, hW, hsame.mono (by decide) (by decide)⟩
  · show Steps p.tables e below (s₁.setTop (mkF m 0 #[.val (.int p1), .val (.int p2), .unset, .unset, .unset] [])) _
    refine XS.iloadN X0.here hx rfl (hb hby at_0) rfl ?_
    show Steps p.tables e below (s₁.setTop (mkF m 1 #[.val (.int p1), .val (.int p2), .unset, .unset, .unset] [(.int p2)])) _
    refine XS.bipush X0.here hx rfl (hb hby at_1) ?_
    show Steps p.tables e below (s₁.setTop (mkF m 3 #[.val (.int p1), .val (.int p2), .unset, .unset, .unset] [(.int (7 : Int32)), (.int p2)])) _
    refine XS.iand X0.here hx rfl (hb hby at_3) rfl ?_
    show Steps p.tables e below (s₁.setTop (mkF m 4 #[.val (.int p1), .val (.int p2), .unset, .unset, .unset] [(.int (p2 &&& (7 : Int32)))])) _
    refine XS.iconst X0.here hx rfl (hb hby at_4) ?_
    show Steps p.tables e below (s₁.setTop (mkF m 5 #[.val (.int p1), .val (.int p2), .unset, .unset, .unset] [(.int (2 : Int32)), (.int (p2 &&& (7 : Int32)))])) _
    refine XS.isub X0.here hx rfl (hb hby at_5) rfl ?_
    show Steps p.tables e below (s₁.setTop (mkF m 6 #[.val (.int p1), .val (.int p2), .unset, .unset, .unset] [(.int ((p2 &&& (7 : Int32)) - (2 : Int32)))])) _
    refine castTop (g' := (mkF m 6 #[.val (.int p1), .val (.int p2), .unset, .unset, .unset] [(.int d)])) (by rw [hd]) ?_
    show Steps p.tables e below (s₁.setTop (mkF m 6 #[.val (.int p1), .val (.int p2), .unset, .unset, .unset] [(.int d)])) _
    refine XS.istoreN X0.here hx rfl (hb hby at_6) rfl (l' := #[.val (.int p1), .val (.int p2), .val (.int d), .unset, .unset]) rfl ?_
    show Steps p.tables e below (s₁.setTop (mkF m 7 #[.val (.int p1), .val (.int p2), .val (.int d), .unset, .unset] [])) _
    refine XS.iloadN X0.here hx rfl (hb hby at_7) rfl ?_
    show Steps p.tables e below (s₁.setTop (mkF m 8 #[.val (.int p1), .val (.int p2), .val (.int d), .unset, .unset] [(.int p1)])) _
    refine st1 _ ?_
    show Steps p.tables e below (T1.setTop (mkF m 11 #[.val (.int p1), .val (.int p2), .val (.int d), .unset, .unset] [.null])) _
    refine XS.astoreN X1.here hx rfl (hb hby at_11) rfl rfl (l' := #[.val (.int p1), .val (.int p2), .val (.int d), .val .null, .unset]) rfl ?_
    show Steps p.tables e below (T1.setTop (mkF m 12 #[.val (.int p1), .val (.int p2), .val (.int d), .val .null, .unset] [])) _
    refine XS.iloadN X1.here hx rfl (hb hby at_12) rfl ?_
    show Steps p.tables e below (T1.setTop (mkF m 13 #[.val (.int p1), .val (.int p2), .val (.int d), .val .null, .unset] [(.int d)])) _
    refine st2 _ ?_
    show Steps p.tables e below (T2.setTop (mkF m 16 #[.val (.int p1), .val (.int p2), .val (.int d), .val .null, .unset] [(.ref wLEADING)])) _
    refine XS.astore X2.here hx rfl (hb hby at_16) rfl rfl (l' := #[.val (.int p1), .val (.int p2), .val (.int d), .val .null, .val (.ref wLEADING)]) rfl ?_
    show Steps p.tables e below (T2.setTop (mkF m 18 #[.val (.int p1), .val (.int p2), .val (.int d), .val .null, .val (.ref wLEADING)] [])) _
    refine XS.aloadN X2.here hx rfl (hb hby at_18) rfl rfl ?_
    show Steps p.tables e below (T2.setTop (mkF m 19 #[.val (.int p1), .val (.int p2), .val (.int d), .val .null, .val (.ref wLEADING)] [.null])) _
    refine XS.iloadN X2.here hx rfl (hb hby at_19) rfl ?_
    show Steps p.tables e below (T2.setTop (mkF m 20 #[.val (.int p1), .val (.int p2), .val (.int d), .val .null, .val (.ref wLEADING)] [(.int p1), .null])) _
    refine st3 _ ?_
    show Steps p.tables e below (T3.setTop (mkF m 23 #[.val (.int p1), .val (.int p2), .val (.int d), .val .null, .val (.ref wLEADING)] [.null, .null])) _
    refine Jvm.RoadKit.acmp (g := (mkF m 23 #[.val (.int p1), .val (.int p2), .val (.int d), .val .null, .val (.ref wLEADING)] [.null, .null])) X3 hx rfl rfl rfl (pc0 := 23) (pc' := 26) (same := true) rfl (hb hby at_23) rfl (decide_eq_true rfl) (by decide) (by decide) ?_
    show Steps p.tables e below (T3.setTop (mkF m 26 #[.val (.int p1), .val (.int p2), .val (.int d), .val .null, .val (.ref wLEADING)] [])) _
    refine XS.aload X3.here hx rfl (hb hby at_26) rfl rfl ?_
    show Steps p.tables e below (T3.setTop (mkF m 28 #[.val (.int p1), .val (.int p2), .val (.int d), .val .null, .val (.ref wLEADING)] [(.ref wLEADING)])) _
    refine XS.iloadN X3.here hx rfl (hb hby at_28) rfl ?_
    show Steps p.tables e below (T3.setTop (mkF m 29 #[.val (.int p1), .val (.int p2), .val (.int d), .val .null, .val (.ref wLEADING)] [(.int d), (.ref wLEADING)])) _
    refine st4 _ ?_
    show Steps p.tables e below (T4.setTop (mkF m 32 #[.val (.int p1), .val (.int p2), .val (.int d), .val .null, .val (.ref wLEADING)] [(.ref wLEADING), (.ref wLEADING)])) _
    refine Jvm.RoadKit.acmp (g := (mkF m 32 #[.val (.int p1), .val (.int p2), .val (.int d), .val .null, .val (.ref wLEADING)] [(.ref wLEADING), (.ref wLEADING)])) X4 hx rfl rfl rfl (pc0 := 32) (pc' := 35) (same := true) rfl (hb hby at_32) rfl (decide_eq_true rfl) (by decide) (by decide) ?_
    show Steps p.tables e below (T4.setTop (mkF m 35 #[.val (.int p1), .val (.int p2), .val (.int d), .val .null, .val (.ref wLEADING)] [])) _
    refine XS.iconst X4.here hx rfl (hb hby at_35) ?_
    show Steps p.tables e below (T4.setTop (mkF m 36 #[.val (.int p1), .val (.int p2), .val (.int d), .val .null, .val (.ref wLEADING)] [(.int (1 : Int32))])) _
    refine XS.goto X4.here hx rfl (pc0 := 36) (pc' := 40) rfl (hb hby at_36) (by decide) (by decide) ?_
    show Steps p.tables e below (T4.setTop (mkF m 40 #[.val (.int p1), .val (.int p2), .val (.int d), .val .null, .val (.ref wLEADING)] [(.int (1 : Int32))])) _
    exact retN X4 hx (t := .boolean) Bd.returns (by simp) (hb hby at_40) hr
  · exact ⟨rfl, N4⟩
set_option maxRecDepth 65536 in
set_option maxHeartbeats 40000000 in
theorem own_law_33 (l : Launch) (Z : State) (a0 : Array Value) (hw : ∀ d ∈ tables_1, d.before a0 Z = true) (ws : List Jvm.Cond) (wVALUES : Addr) (wLOOKING : Addr) (wFOLLOWING : Addr) (wLEADING : Addr) (kVALUES : ClassId) (G : OwnG Z wVALUES wLOOKING wFOLLOWING wLEADING kVALUES) (h0 : Heap) (n0 : Nat) (O0 : Old Z n0 h0) (p1 : Int32) (p2 : Int32) (d : Int32) (c0 : ¬ (p1 = (0 : Int32))) (c1 : ¬ (p1 = (1 : Int32))) (c2 : ¬ (p1 = (2 : Int32))) (hd : ((p2 &&& (7 : Int32)) - (2 : Int32)) = d) (d0 : ¬ (d = (0 : Int32))) (d1 : ¬ (d = (1 : Int32))) (d2 : ¬ (d = (2 : Int32))) :
    MetFree l x (head1 (Jvm.Cond.code x code maxLocals ret :: ws) room_1) (fun a U => a = #[(.int p1), (.int p2)] ∧ Z.Warmed39 U.vm ∧ U.heap = h0) (fun _ _ _ _ _ => True) (fun _ U o U' => ∃ v L, o = .returned v ∧ (v = some (.int 1) ∧ Fr n0 L) ∧ FrameEnd U o U' L room_1.cells room_1.slots) := by
  refine MetFree.of_bodySF (plainFor_of_name own_pn_0) hisR ?_
  intro p e s m args below meth c s₁ Bd hml0 hP hK
  obtain ⟨rfl, hZ, hh⟩ := hP
  have hx := Bd.exec
  have hby := Bd.bytes
  have hml : c.maxLocals = 5 := hml0
  have hown : s.vm.findClass "com/example/nimble_quorum/nimblequorum/quorum/PeerStateOfPinLaw" = some m.cls := findClass_of_methodNamed Bd.named
  have hnm := (name_of_methodNamed Bd.named Bd.method).1
  have X0 : Stand p l e room_1 s m #[(.int p1), (.int p2)] below meth c s₁ [] 0 0 := Stand.of_body Bd
  have e0 : s₁.heap = h0 := by rw [← hh, Bd.state]; rfl
  have N0 := Fr.nil n0
  have pre0 : ∀ t, Steps p.tables e below (s₁.setTop (mkF m 0 #[.val (.int p1), .val (.int p2), .unset, .unset, .unset] [])) t → Steps p.tables e below (s₁.setTop (entryFrame m #[(.int p1), (.int p2)] maxLocals)) t := fun t k => castTop (own_ef_0_II m p1 p2) k
  obtain ⟨_, _, ⟨T1, L1, k1, n1⟩, -, X1, ⟨Lc1, hQ1, l1, y1, z1⟩, st1⟩ := Jvm.LawKit.callS X0 hx (y := (⟨"com/example/nimble_quorum/nimblequorum/quorum/PeerState", "of", "(I)Lcom/example/nimble_quorum/nimblequorum/quorum/PeerState;"⟩ : MethodName)) hown (mvT hZ (hw _ (List.mem_of_getElem? (i := 0) rfl))) (mvT hZ (hw _ (List.mem_of_getElem? (i := 1) rfl))) (mvT hZ (hw _ (List.mem_of_getElem? (i := 2) rfl))) (mvT hZ (hw _ (List.mem_of_getElem? (i := 3) rfl))) (by decide) (backOf (W := 0) (own_of_7 l Z a0 hw [] wVALUES wLOOKING wFOLLOWING wLEADING kVALUES G h0 n0 O0 p1 c0 c1 c2) hZ (hw _ (List.mem_of_getElem? (i := 3) rfl)) (hw _ (List.mem_of_getElem? (i := 2) rfl)) (by decide) (by decide)) (g := (mkF m 8 #[.val (.int p1), .val (.int p2), .val (.int d), .unset, .unset] [(.int p1)])) rfl (by rw [hml]; rfl) (argsL := [(.int p1)]) (rest := []) (lenOf own_pd_1 rfl) rfl (by show 2 * 0 + _ ≤ _; exact Nat.le_of_eq rfl) (hb hby at_8) (fun _ _ => ⟨rfl, e0, (by decide : 0 + 1 ≤ _), (by decide : 0 + 3 ≤ _)⟩)
  dsimp only [Pt.U, Pt.locs, Pt.cells, Pt.slots] at X1 l1 y1 z1 st1 hQ1
  subst l1 y1 z1
  obtain ⟨rfl, N1q, Kq1⟩ := hQ1
  have N1 := Fr.app N0 N1q
  have O1 := O0.keep Kq1 all0
  have K1 := (Keep.refl h0 []).trans Kq1 all0
  obtain ⟨_, _, ⟨T2, L2, k2, n2⟩, -, X2, ⟨Lc2, hQ2, l2, y2, z2⟩, st2⟩ := Jvm.LawKit.callS X1 hx (y := (⟨"com/example/nimble_quorum/nimblequorum/quorum/PeerState", "of", "(I)Lcom/example/nimble_quorum/nimblequorum/quorum/PeerState;"⟩ : MethodName)) hown (mvT hZ (hw _ (List.mem_of_getElem? (i := 0) rfl))) (mvT hZ (hw _ (List.mem_of_getElem? (i := 1) rfl))) (mvT hZ (hw _ (List.mem_of_getElem? (i := 2) rfl))) (mvT hZ (hw _ (List.mem_of_getElem? (i := 3) rfl))) (by decide) (backOf (W := 0) (own_of_7 l Z a0 hw [] wVALUES wLOOKING wFOLLOWING wLEADING kVALUES G T1.heap n0 O1 d d0 d1 d2) hZ (hw _ (List.mem_of_getElem? (i := 3) rfl)) (hw _ (List.mem_of_getElem? (i := 2) rfl)) (by decide) (by decide)) (g := (mkF m 13 #[.val (.int p1), .val (.int p2), .val (.int d), .val .null, .unset] [(.int d)])) rfl (by rw [hml]; rfl) (argsL := [(.int d)]) (rest := []) (lenOf own_pd_1 rfl) rfl (by show 2 * 0 + _ ≤ _; exact Nat.le_of_eq rfl) (hb hby at_13) (fun _ _ => ⟨rfl, rfl, (by decide : 1 + 1 ≤ _), (by decide : 3 + 3 ≤ _)⟩)
  dsimp only [Pt.U, Pt.locs, Pt.cells, Pt.slots] at X2 l2 y2 z2 st2 hQ2
  subst l2 y2 z2
  obtain ⟨rfl, N2q, Kq2⟩ := hQ2
  have N2 := Fr.app N1 N2q
  have O2 := O1.keep Kq2 all0
  have K2 := K1.trans Kq2 all0
  obtain ⟨_, _, ⟨T3, L3, k3, n3⟩, -, X3, ⟨Lc3, hQ3, l3, y3, z3⟩, st3⟩ := Jvm.LawKit.callS X2 hx (y := (⟨"com/example/nimble_quorum/nimblequorum/quorum/PeerStateOfPinLaw", "expected", "(I)Lcom/example/nimble_quorum/nimblequorum/quorum/PeerState;"⟩ : MethodName)) hown (mvT hZ (hw _ (List.mem_of_getElem? (i := 24) rfl))) (mvT hZ (hw _ (List.mem_of_getElem? (i := 25) rfl))) (mvT hZ (hw _ (List.mem_of_getElem? (i := 26) rfl))) (mvT hZ (hw _ (List.mem_of_getElem? (i := 27) rfl))) (by decide) (backOf (W := 1) (own_expected_8 l Z a0 hw [] wVALUES wLOOKING wFOLLOWING wLEADING kVALUES G T2.heap n0 O2 p1 c0 c1 c2) hZ (hw _ (List.mem_of_getElem? (i := 27) rfl)) (hw _ (List.mem_of_getElem? (i := 26) rfl)) (by decide) (by decide)) (g := (mkF m 20 #[.val (.int p1), .val (.int p2), .val (.int d), .val .null, .val .null] [(.int p1), .null])) rfl (by rw [hml]; rfl) (argsL := [(.int p1)]) (rest := [.null]) (lenOf own_pd_1 rfl) rfl (by show 2 * 0 + _ ≤ _; exact Nat.le_of_eq rfl) (hb hby at_20) (fun _ _ => ⟨rfl, rfl, (by decide : 2 + 0 ≤ _), (by decide : 6 + 0 ≤ _)⟩)
  dsimp only [Pt.U, Pt.locs, Pt.cells, Pt.slots] at X3 l3 y3 z3 st3 hQ3
  subst l3 y3 z3
  obtain ⟨rfl, N3q, e3⟩ := hQ3
  have N3 := Fr.app N2 N3q
  obtain ⟨_, _, ⟨T4, L4, k4, n4⟩, -, X4, ⟨Lc4, hQ4, l4, y4, z4⟩, st4⟩ := Jvm.LawKit.callS X3 hx (y := (⟨"com/example/nimble_quorum/nimblequorum/quorum/PeerStateOfPinLaw", "expected", "(I)Lcom/example/nimble_quorum/nimblequorum/quorum/PeerState;"⟩ : MethodName)) hown (mvT hZ (hw _ (List.mem_of_getElem? (i := 24) rfl))) (mvT hZ (hw _ (List.mem_of_getElem? (i := 25) rfl))) (mvT hZ (hw _ (List.mem_of_getElem? (i := 26) rfl))) (mvT hZ (hw _ (List.mem_of_getElem? (i := 27) rfl))) (by decide) (backOf (W := 1) (own_expected_8 l Z a0 hw [] wVALUES wLOOKING wFOLLOWING wLEADING kVALUES G T2.heap n0 O2 d d0 d1 d2) hZ (hw _ (List.mem_of_getElem? (i := 27) rfl)) (hw _ (List.mem_of_getElem? (i := 26) rfl)) (by decide) (by decide)) (g := (mkF m 29 #[.val (.int p1), .val (.int p2), .val (.int d), .val .null, .val .null] [(.int d), .null])) rfl (by rw [hml]; rfl) (argsL := [(.int d)]) (rest := [.null]) (lenOf own_pd_1 rfl) rfl (by show 2 * 0 + _ ≤ _; exact Nat.le_of_eq rfl) (hb hby at_29) (fun _ _ => ⟨rfl, e3, (by decide : 2 + 0 ≤ _), (by decide : 6 + 0 ≤ _)⟩)
  dsimp only [Pt.U, Pt.locs, Pt.cells, Pt.slots] at X4 l4 y4 z4 st4 hQ4
  subst l4 y4 z4
  obtain ⟨rfl, N4q, e4⟩ := hQ4
  have N4 := Fr.app N3 N4q
  obtain ⟨fs, hr, hrun, hended, hW, hsame⟩ := X4.leave (v := some (.int (1 : Int32))) (fun h => by rw [Bd.returns] at h; cases h)
  refine ⟨_, _, pre0 _ ?_, hrun, hended, _, _, rfl, ?_, ⟨_, rfl⟩, hW, hsame.mono (by decide) (by decide)⟩
  · show Steps p.tables e below (s₁.setTop (mkF m 0 #[.val (.int p1), .val (.int p2), .unset, .unset, .unset] [])) _
    refine XS.iloadN X0.here hx rfl (hb hby at_0) rfl ?_
    show Steps p.tables e below (s₁.setTop (mkF m 1 #[.val (.int p1), .val (.int p2), .unset, .unset, .unset] [(.int p2)])) _
    refine XS.bipush X0.here hx rfl (hb hby at_1) ?_
    show Steps p.tables e below (s₁.setTop (mkF m 3 #[.val (.int p1), .val (.int p2), .unset, .unset, .unset] [(.int (7 : Int32)), (.int p2)])) _
    refine XS.iand X0.here hx rfl (hb hby at_3) rfl ?_
    show Steps p.tables e below (s₁.setTop (mkF m 4 #[.val (.int p1), .val (.int p2), .unset, .unset, .unset] [(.int (p2 &&& (7 : Int32)))])) _
    refine XS.iconst X0.here hx rfl (hb hby at_4) ?_
    show Steps p.tables e below (s₁.setTop (mkF m 5 #[.val (.int p1), .val (.int p2), .unset, .unset, .unset] [(.int (2 : Int32)), (.int (p2 &&& (7 : Int32)))])) _
    refine XS.isub X0.here hx rfl (hb hby at_5) rfl ?_
    show Steps p.tables e below (s₁.setTop (mkF m 6 #[.val (.int p1), .val (.int p2), .unset, .unset, .unset] [(.int ((p2 &&& (7 : Int32)) - (2 : Int32)))])) _
    refine castTop (g' := (mkF m 6 #[.val (.int p1), .val (.int p2), .unset, .unset, .unset] [(.int d)])) (by rw [hd]) ?_
    show Steps p.tables e below (s₁.setTop (mkF m 6 #[.val (.int p1), .val (.int p2), .unset, .unset, .unset] [(.int d)])) _
    refine XS.istoreN X0.here hx rfl (hb hby at_6) rfl (l' := #[.val (.int p1), .val (.int p2), .val (.int d), .unset, .unset]) rfl ?_
    show Steps p.tables e below (s₁.setTop (mkF m 7 #[.val (.int p1), .val (.int p2), .val (.int d), .unset, .unset] [])) _
    refine XS.iloadN X0.here hx rfl (hb hby at_7) rfl ?_
    show Steps p.tables e below (s₁.setTop (mkF m 8 #[.val (.int p1), .val (.int p2), .val (.int d), .unset, .unset] [(.int p1)])) _
    refine st1 _ ?_
    show Steps p.tables e below (T1.setTop (mkF m 11 #[.val (.int p1), .val (.int p2), .val (.int d), .unset, .unset] [.null])) _
    refine XS.astoreN X1.here hx rfl (hb hby at_11) rfl rfl (l' := #[.val (.int p1), .val (.int p2), .val (.int d), .val .null, .unset]) rfl ?_
    show Steps p.tables e below (T1.setTop (mkF m 12 #[.val (.int p1), .val (.int p2), .val (.int d), .val .null, .unset] [])) _
    refine XS.iloadN X1.here hx rfl (hb hby at_12) rfl ?_
    show Steps p.tables e below (T1.setTop (mkF m 13 #[.val (.int p1), .val (.int p2), .val (.int d), .val .null, .unset] [(.int d)])) _
    refine st2 _ ?_
    show Steps p.tables e below (T2.setTop (mkF m 16 #[.val (.int p1), .val (.int p2), .val (.int d), .val .null, .unset] [.null])) _
    refine XS.astore X2.here hx rfl (hb hby at_16) rfl rfl (l' := #[.val (.int p1), .val (.int p2), .val (.int d), .val .null, .val .null]) rfl ?_
    show Steps p.tables e below (T2.setTop (mkF m 18 #[.val (.int p1), .val (.int p2), .val (.int d), .val .null, .val .null] [])) _
    refine XS.aloadN X2.here hx rfl (hb hby at_18) rfl rfl ?_
    show Steps p.tables e below (T2.setTop (mkF m 19 #[.val (.int p1), .val (.int p2), .val (.int d), .val .null, .val .null] [.null])) _
    refine XS.iloadN X2.here hx rfl (hb hby at_19) rfl ?_
    show Steps p.tables e below (T2.setTop (mkF m 20 #[.val (.int p1), .val (.int p2), .val (.int d), .val .null, .val .null] [(.int p1), .null])) _
    refine st3 _ ?_
    show Steps p.tables e below (T3.setTop (mkF m 23 #[.val (.int p1), .val (.int p2), .val (.int d), .val .null, .val .null] [.null, .null])) _
    refine Jvm.RoadKit.acmp (g := (mkF m 23 #[.val (.int p1), .val (.int p2), .val (.int d), .val .null, .val .null] [.null, .null])) X3 hx rfl rfl rfl (pc0 := 23) (pc' := 26) (same := true) rfl (hb hby at_23) rfl (decide_eq_true rfl) (by decide) (by decide) ?_
    show Steps p.tables e below (T3.setTop (mkF m 26 #[.val (.int p1), .val (.int p2), .val (.int d), .val .null, .val .null] [])) _
    refine XS.aload X3.here hx rfl (hb hby at_26) rfl rfl ?_
    show Steps p.tables e below (T3.setTop (mkF m 28 #[.val (.int p1), .val (.int p2), .val (.int d), .val .null, .val .null] [.null])) _
    refine XS.iloadN X3.here hx rfl (hb hby at_28) rfl ?_
    show Steps p.tables e below (T3.setTop (mkF m 29 #[.val (.int p1), .val (.int p2), .val (.int d), .val .null, .val .null] [(.int d), .null])) _
    refine st4 _ ?_
    show Steps p.tables e below (T4.setTop (mkF m 32 #[.val (.int p1), .val (.int p2), .val (.int d), .val .null, .val .null] [.null, .null])) _
    refine Jvm.RoadKit.acmp (g := (mkF m 32 #[.val (.int p1), .val (.int p2), .val (.int d), .val .null, .val .null] [.null, .null])) X4 hx rfl rfl rfl (pc0 := 32) (pc' := 35) (same := true) rfl (hb hby at_32) rfl (decide_eq_true rfl) (by decide) (by decide) ?_
    show Steps p.tables e below (T4.setTop (mkF m 35 #[.val (.int p1), .val (.int p2), .val (.int d), .val .null, .val .null] [])) _
    refine XS.iconst X4.here hx rfl (hb hby at_35) ?_
    show Steps p.tables e below (T4.setTop (mkF m 36 #[.val (.int p1), .val (.int p2), .val (.int d), .val .null, .val .null] [(.int (1 : Int32))])) _
    refine XS.goto X4.here hx rfl (pc0 := 36) (pc' := 40) rfl (hb hby at_36) (by decide) (by decide) ?_
    show Steps p.tables e below (T4.setTop (mkF m 40 #[.val (.int p1), .val (.int p2), .val (.int d), .val .null, .val .null] [(.int (1 : Int32))])) _
    exact retN X4 hx (t := .boolean) Bd.returns (by simp) (hb hby at_40) hr
  · exact ⟨rfl, N4⟩
theorem own_four (x : Int32) : (x = (0 : Int32) ∧ ¬ (x = (1 : Int32)) ∧ ¬ (x = (2 : Int32))) ∨ (¬ (x = (0 : Int32)) ∧ x = (1 : Int32) ∧ ¬ (x = (2 : Int32))) ∨ (¬ (x = (0 : Int32)) ∧ ¬ (x = (1 : Int32)) ∧ x = (2 : Int32)) ∨ (¬ (x = (0 : Int32)) ∧ ¬ (x = (1 : Int32)) ∧ ¬ (x = (2 : Int32))) := by
  by_cases a : x = (0 : Int32)
  · subst a; exact Or.inl ⟨rfl, by decide, by decide⟩
  · by_cases b : x = (1 : Int32)
    · subst b; exact Or.inr (Or.inl ⟨a, rfl, by decide⟩)
    · by_cases c : x = (2 : Int32)
      · exact Or.inr (Or.inr (Or.inl ⟨a, b, c⟩))
      · exact Or.inr (Or.inr (Or.inr ⟨a, b, c⟩))
theorem own_law (l : Launch) (Z : State) (a0 : Array Value) (hw : ∀ d ∈ tables_1, d.before a0 Z = true) (ws : List Jvm.Cond) (wVALUES : Addr) (wLOOKING : Addr) (wFOLLOWING : Addr) (wLEADING : Addr) (kVALUES : ClassId) (G : OwnG Z wVALUES wLOOKING wFOLLOWING wLEADING kVALUES) (h0 : Heap) (n0 : Nat) (O0 : Old Z n0 h0) (p1 : Int32) (p2 : Int32) :
    MetFree l x (head1 (Jvm.Cond.code x code maxLocals ret :: ws) room_1) (fun a U => a = #[(.int p1), (.int p2)] ∧ Z.Warmed39 U.vm ∧ U.heap = h0) (fun _ _ _ _ _ => True) (fun _ U o U' => ∃ v L, o = .returned v ∧ (v = some (.int 1) ∧ Fr n0 L) ∧ FrameEnd U o U' L room_1.cells room_1.slots) := by
  rcases own_four p1 with ⟨a, b, c⟩ | ⟨a, b, c⟩ | ⟨a, b, c⟩ | ⟨a, b, c⟩ <;> rcases own_four ((p2 &&& (7 : Int32)) - (2 : Int32)) with ⟨a', b', c'⟩ | ⟨a', b', c'⟩ | ⟨a', b', c'⟩ | ⟨a', b', c'⟩
  · exact own_law_00 l Z a0 hw ws wVALUES wLOOKING wFOLLOWING wLEADING kVALUES G h0 n0 O0 p1 p2 _ a b c rfl a' b' c'
  · exact own_law_01 l Z a0 hw ws wVALUES wLOOKING wFOLLOWING wLEADING kVALUES G h0 n0 O0 p1 p2 _ a b c rfl a' b' c'
  · exact own_law_02 l Z a0 hw ws wVALUES wLOOKING wFOLLOWING wLEADING kVALUES G h0 n0 O0 p1 p2 _ a b c rfl a' b' c'
  · exact own_law_03 l Z a0 hw ws wVALUES wLOOKING wFOLLOWING wLEADING kVALUES G h0 n0 O0 p1 p2 _ a b c rfl a' b' c'
  · exact own_law_10 l Z a0 hw ws wVALUES wLOOKING wFOLLOWING wLEADING kVALUES G h0 n0 O0 p1 p2 _ a b c rfl a' b' c'
  · exact own_law_11 l Z a0 hw ws wVALUES wLOOKING wFOLLOWING wLEADING kVALUES G h0 n0 O0 p1 p2 _ a b c rfl a' b' c'
  · exact own_law_12 l Z a0 hw ws wVALUES wLOOKING wFOLLOWING wLEADING kVALUES G h0 n0 O0 p1 p2 _ a b c rfl a' b' c'
  · exact own_law_13 l Z a0 hw ws wVALUES wLOOKING wFOLLOWING wLEADING kVALUES G h0 n0 O0 p1 p2 _ a b c rfl a' b' c'
  · exact own_law_20 l Z a0 hw ws wVALUES wLOOKING wFOLLOWING wLEADING kVALUES G h0 n0 O0 p1 p2 _ a b c rfl a' b' c'
  · exact own_law_21 l Z a0 hw ws wVALUES wLOOKING wFOLLOWING wLEADING kVALUES G h0 n0 O0 p1 p2 _ a b c rfl a' b' c'
  · exact own_law_22 l Z a0 hw ws wVALUES wLOOKING wFOLLOWING wLEADING kVALUES G h0 n0 O0 p1 p2 _ a b c rfl a' b' c'
  · exact own_law_23 l Z a0 hw ws wVALUES wLOOKING wFOLLOWING wLEADING kVALUES G h0 n0 O0 p1 p2 _ a b c rfl a' b' c'
  · exact own_law_30 l Z a0 hw ws wVALUES wLOOKING wFOLLOWING wLEADING kVALUES G h0 n0 O0 p1 p2 _ a b c rfl a' b' c'
  · exact own_law_31 l Z a0 hw ws wVALUES wLOOKING wFOLLOWING wLEADING kVALUES G h0 n0 O0 p1 p2 _ a b c rfl a' b' c'
  · exact own_law_32 l Z a0 hw ws wVALUES wLOOKING wFOLLOWING wLEADING kVALUES G h0 n0 O0 p1 p2 _ a b c rfl a' b' c'
  · exact own_law_33 l Z a0 hw ws wVALUES wLOOKING wFOLLOWING wLEADING kVALUES G h0 n0 O0 p1 p2 _ a b c rfl a' b' c'
set_option maxRecDepth 65536 in
set_option maxHeartbeats 40000000 in
theorem comes_1 {Post : Tables → Env → Array Value → State → Outcome → State → Prop} (hpost : ∀ tb e args s v u, (limb_1_1.after args s (.returned v) u = true ∧ limb_1_2.after args s (.returned v) u = true ∧ True) → FrameEnd s (.returned v) u (Jvm.fieldLocs frame_1_writes args s ++ Jvm.arrayLocs frame_1_arrays args s ++ Jvm.staticLocs frame_1_statics s) 16 128 → Post tb e args s (.returned v) u) :
    ArmFor flags0 classFile x code maxLocals ret World_1 tables_1 room_1 Calls_1 rest_1 Pre_1 Post := by
  intro l hfl _ _ p e ha hc hk s m args below hf hA hF happ hP
  obtain ⟨hcalls, hrest, hpre⟩ := hP
  obtain ⟨-, -, -, hnamed, -, -, -, hat⟩ := (Spec.applies_iff hf).mp happ
  obtain ⟨hg, hn⟩ := and_e (Cond.before_iff.mp (show (Jvm.Cond.and given_1 narrow_1).before args s = true from hpre))
  obtain ⟨hgv0, hgm0⟩ := and_e hg
  obtain ⟨hgv1, hgm1⟩ := and_e hgm0
  have hgv2 := hgm1
  obtain ⟨w0, w1, rfl⟩ : ∃ w0 w1 : Value, args = #[w0, w1] := by
    have hs : args.size = 2 := by simpa [Cond.value, given_1] using hgv0
    obtain ⟨L⟩ := args
    match L, hs with
    | [w0, w1], _ => exact ⟨w0, w1, rfl⟩
  have hw := fun d (hd : d ∈ tables_1) => atoms_spec (ws := Jvm.Cond.code x code maxLocals ret :: tables_1) hat d (List.mem_cons_of_mem _ hd)
  have hfit : Fit s := fun {y c} hc i hi => by
    obtain ⟨ha, rfl⟩ := Array.getElem?_eq_some_iff.mp hc
    have q := List.all_eq_true.mp ((Array.all_eq_true_iff_forall_mem.mp hF) _ (Array.getElem_mem ha)) i (List.mem_range.mpr hi)
    simpa [Array.getElem?_eq_getElem hi] using q
  obtain ⟨i0, ei0⟩ := is_v hgv1
  obtain rfl : w0 = (.int i0) := Option.some.inj ei0
  obtain ⟨i1, ei1⟩ := is_v hgv2
  obtain rfl : w1 = (.int i1) := Option.some.inj ei1
  obtain ⟨hc0, hm0⟩ := and_e hn
  obtain ⟨hc1, hm1⟩ := and_e hm0
  obtain ⟨hc2, hm2⟩ := and_e hm1
  obtain ⟨hc3, hm3⟩ := and_e hm2
  obtain ⟨hc4, hm4⟩ := and_e hm3
  obtain ⟨hc5, hm5⟩ := and_e hm4
  obtain ⟨hc6, hm6⟩ := and_e hm5
  obtain ⟨hc7, hm7⟩ := and_e hm6
  obtain ⟨hc8, hm8⟩ := and_e hm7
  obtain ⟨hc9, hm9⟩ := and_e hm8
  obtain ⟨hc10, hm10⟩ := and_e hm9
  have hc11 := hm10
  obtain ⟨wVALUES, ev_wVALUES⟩ := arr_v hc0
  obtain ⟨wLOOKING, ev_wLOOKING⟩ := exa_v hc3
  obtain ⟨wFOLLOWING, ev_wFOLLOWING⟩ := exa_v hc5
  obtain ⟨wLEADING, ev_wLEADING⟩ := exa_v hc7
  obtain ⟨cl_wVALUES, Ar_wVALUES⟩ := Arr.start ev_wVALUES hc0
  obtain ⟨kVALUES, hk_wVALUES⟩ : ∃ k, k = cl_wVALUES.cls := ⟨_, rfl⟩
  obtain ⟨lq_wVALUES, le_wVALUES⟩ := own_len ev_wVALUES Ar_wVALUES.1 hc2
  have gf0 := Sta.start ev_wVALUES (Or.inr ⟨(hw _ (List.mem_of_getElem? (i := 2) rfl)), (hw _ (List.mem_of_getElem? (i := 8) rfl))⟩)
  have gf1 := Exa.start ev_wVALUES hc1
  have gf2 := Sta.start ev_wLOOKING (Or.inr ⟨(hw _ (List.mem_of_getElem? (i := 2) rfl)), (hw _ (List.mem_of_getElem? (i := 16) rfl))⟩)
  have gf3 := Exa.start ev_wLOOKING hc3
  have gf4 := Sta.start ev_wFOLLOWING (Or.inr ⟨(hw _ (List.mem_of_getElem? (i := 2) rfl)), (hw _ (List.mem_of_getElem? (i := 17) rfl))⟩)
  have gf5 := Exa.start ev_wFOLLOWING hc5
  have gf6 := Sta.start ev_wLEADING (Or.inr ⟨(hw _ (List.mem_of_getElem? (i := 2) rfl)), (hw _ (List.mem_of_getElem? (i := 18) rfl))⟩)
  have gf7 := Exa.start ev_wLEADING hc7
  have gf8 := Fld.start ((fld_at ev_wLOOKING).symm.trans (own_eqi hc9))
  have gf9 := Fld.start ((fld_at ev_wFOLLOWING).symm.trans (own_eqi hc10))
  have gf10 := Fld.start ((fld_at ev_wLEADING).symm.trans (own_eqi hc11))
  have gf11 : Arv s s.heap wVALUES kVALUES (.object "com/example/nimble_quorum/nimblequorum/quorum/PeerState") (3 : Int32) [(.ref wLOOKING), (.ref wFOLLOWING), (.ref wLEADING)] .null := by rw [hk_wVALUES]; exact Arv.start hfit Ar_wVALUES lq_wVALUES le_wVALUES (by decide) rfl ⟨(own_el ev_wVALUES Ar_wVALUES.1 hc4 ev_wLOOKING).2, (own_el ev_wVALUES Ar_wVALUES.1 hc6 ev_wFOLLOWING).2, (own_el ev_wVALUES Ar_wVALUES.1 hc8 ev_wLEADING).2, trivial⟩
  have G : OwnG s wVALUES wLOOKING wFOLLOWING wLEADING kVALUES := ⟨gf0, gf1, gf2, gf3, gf4, gf5, gf6, gf7, gf8, gf9, gf10, gf11, Fld.ne gf8 gf9 (by decide), Fld.ne gf8 gf10 (by decide), Fld.ne gf9 gf10 (by decide)⟩
  obtain ⟨n, o, h1, h2, h3, _, L, rfl, ⟨rfl, N⟩, hq⟩ := own_law l s _ hw tables_1 wVALUES wLOOKING wFOLLOWING wLEADING kVALUES G s.heap s.heap.size (Old.start s) i0 i1 p e ha hc hk s m _ below hf ((Spec.applies_iff_loose hf).mp happ).1 ⟨rfl, State.Warmed39.refl s, rfl⟩ trivial
  exact ⟨n, _, h1, h2, h3, hpost _ _ _ _ _ _ ⟨Cond.after_iff.mpr rfl, Cond.after_iff.mpr (eq_i res_at (Term.int_eval (1)) rfl), trivial⟩ ⟨hq.1, hq.2.1, (hq.2.2.sift fun y hy => Or.inr (N y hy)).mono (by decide) (by decide)⟩⟩
theorem main_1_1 : Claimed_1_1 := comes_1 fun _ _ _ _ _ _ h hF => ⟨h.1, hF⟩
theorem main_1_2 : Claimed_1_2 := comes_1 fun _ _ _ _ _ _ h hF => ⟨h.2.1, hF⟩
end Jvm.Pilot.@@N@@
namespace Jvm.Pilot.@@N@@
open Jvm Jvm.ClassFile Sem Op Lib Jvm.Free Jvm.Stand Jvm.Pilot.@@N@@.Jvm.D
/-! MADE BY PROGRAM (witnessworld.py) out of the Statement's table words and the real class files: 13 classes; the members and pool entries that the words name. The judged class is class 1, her method 2. -/
namespace start1
open Jvm.ClassFile
def u (s : String) : CpInfo := .utf8 (stringToUtf16 s)
/-- a pool by its gaps: so many unusable entries, then the entry; so many at the end -/
def gap : Nat → List CpInfo → List CpInfo
  | 0, r => r
  | n + 1, r => .unusable :: gap n r
def poolList (es : List (Nat × CpInfo)) (last : Nat) : List CpInfo := es.foldr (fun e r => gap e.1 (e.2 :: r)) (gap last [])
def pool (es : List (Nat × CpInfo)) (last : Nat) : Array CpInfo := ⟨poolList es last⟩
def fileOf (pool : Array CpInfo) (this : Nat) (attrs : Array Attribute := #[]) (ms : Array MethodInfo := #[]) (fl : Nat := 33) (sup : Nat := 0) (ifs : Array Nat := #[]) (fds : Array FieldInfo := #[]) : ClassFile where
  minorVersion := 0
  majorVersion := 65
  constantPool := pool
  accessFlags := fl
  thisClass := this
  superClass := sup
  interfaces := ifs
  fields := fds
  methods := ms
  attributes := attrs
def plain (name : String) (sup : Option ClassId) : Class where
  name := name
  kind := .ordinary
  loader := none
  accessFlags := 33
  super := sup
  interfaces := #[]
  cf := none
  fields := #[]
  methods := #[]
  instanceTypes := #[]
  staticTypes := #[]
  resolved := #[]
  callSites := []
  init := .initialized
  statics := none
  mirror := none

def pool0 : Array CpInfo := pool [(5, u "<init>"), (0, u "()V"), (1, .class_ 10), (1, u "java/lang/Object"), (85, u "clone"), (0, u "()Ljava/lang/Object;")] 26

def k0m0 : Method := { name := "<init>", desc := "()V", sig := { parameters := [], returnType := none }, accessFlags := 1, code := none }
def k0m1 : Method := { name := "clone", desc := "()Ljava/lang/Object;", sig := { parameters := [], returnType := some (.object "java/lang/Object") }, accessFlags := 260, code := none }
/-- java/lang/Object -/
def k0 : Class := { plain "java/lang/Object" none with
  accessFlags := 33
  interfaces := #[]
  cf := some (fileOf pool0 8 #[] #[{ accessFlags := 1, nameIndex := 5, descriptorIndex := 6, attributes := #[] }, { accessFlags := 260, nameIndex := 96, descriptorIndex := 97, attributes := #[] }] 33 0 #[] #[])
  fields := #[]
  methods := #[k0m0, k0m1]
  instanceTypes := #[]
  staticTypes := #[]
  resolved := Array.replicate 124 none
  statics := none }

def pool1 : Array CpInfo := pool [(2, .class_ 4), (1, u "java/lang/Object"), (0, u "<init>"), (0, u "()V"), (0, .fieldref 8 9), (0, .class_ 10), (0, .nameAndType 11 12), (0, u "com/example/nimble_quorum/nimblequorum/quorum/PeerState"), (0, u "LOOKING"), (0, u "Lcom/example/nimble_quorum/nimblequorum/quorum/PeerState;"), (0, .fieldref 8 14), (0, .nameAndType 15 12), (0, u "FOLLOWING"), (0, .fieldref 8 17), (0, .nameAndType 18 12), (0, u "LEADING"), (0, .methodref 8 20), (0, .nameAndType 21 22), (0, u "of"), (0, u "(I)Lcom/example/nimble_quorum/nimblequorum/quorum/PeerState;"), (0, .methodref 24 25), (0, .class_ 26), (0, .nameAndType 27 22), (0, u "com/example/nimble_quorum/nimblequorum/quorum/PeerStateOfPinLaw"), (0, u "expected"), (3, u "law"), (0, u "(II)Z")] 2

def k1m0 : Method := { name := "<init>", desc := "()V", sig := { parameters := [], returnType := none }, accessFlags := 2, code := none }
def k1c1 : Code := { maxStack := 2, maxLocals := 1, code := method_2_code, exceptionTable := #[], attributes := #[] }
def k1m1 : Method := { name := "expected", desc := "(I)Lcom/example/nimble_quorum/nimblequorum/quorum/PeerState;", sig := { parameters := [.int], returnType := some (.object "com/example/nimble_quorum/nimblequorum/quorum/PeerState") }, accessFlags := 10, code := some k1c1 }
def k1c2 : Code := { maxStack := 2, maxLocals := 5, code := code, exceptionTable := #[], attributes := #[] }
def k1m2 : Method := { name := "law", desc := "(II)Z", sig := { parameters := [.int, .int], returnType := some .boolean }, accessFlags := 9, code := some k1c2 }
/-- com/example/nimble_quorum/nimblequorum/quorum/PeerStateOfPinLaw -/
def k1 : Class := { plain "com/example/nimble_quorum/nimblequorum/quorum/PeerStateOfPinLaw" (some 0) with
  accessFlags := 49
  interfaces := #[]
  cf := some (fileOf pool1 24 #[] #[{ accessFlags := 2, nameIndex := 5, descriptorIndex := 6, attributes := #[] }, { accessFlags := 10, nameIndex := 27, descriptorIndex := 22, attributes := #[] }, { accessFlags := 9, nameIndex := 31, descriptorIndex := 32, attributes := #[] }] 49 2 #[] #[])
  fields := #[]
  methods := #[k1m0, k1m1, k1m2]
  instanceTypes := #[]
  staticTypes := #[]
  resolved := Array.replicate 35 none
  statics := none }

def pool2 : Array CpInfo := pool [(1, .class_ 2), (0, u "java/lang/constant/Constable"), (0, .class_ 4), (0, u "java/lang/Object")] 6

/-- java/lang/constant/Constable -/
def k2 : Class := { plain "java/lang/constant/Constable" (some 0) with
  accessFlags := 1537
  interfaces := #[]
  cf := some (fileOf pool2 1 #[] #[] 1537 3 #[] #[])
  fields := #[]
  methods := #[]
  instanceTypes := #[]
  staticTypes := #[]
  resolved := Array.replicate 11 none
  statics := none }

def pool3 : Array CpInfo := pool [(1, .class_ 2), (0, u "java/lang/Comparable"), (0, .class_ 4), (0, u "java/lang/Object")] 7

/-- java/lang/Comparable -/
def k3 : Class := { plain "java/lang/Comparable" (some 0) with
  accessFlags := 1537
  interfaces := #[]
  cf := some (fileOf pool3 1 #[] #[] 1537 3 #[] #[])
  fields := #[]
  methods := #[]
  instanceTypes := #[]
  staticTypes := #[]
  resolved := Array.replicate 12 none
  statics := none }

def pool4 : Array CpInfo := pool [(1, .class_ 2), (0, u "java/io/Serializable"), (0, .class_ 4), (0, u "java/lang/Object")] 2

/-- java/io/Serializable -/
def k4 : Class := { plain "java/io/Serializable" (some 0) with
  accessFlags := 1537
  interfaces := #[]
  cf := some (fileOf pool4 1 #[] #[] 1537 3 #[] #[])
  fields := #[]
  methods := #[]
  instanceTypes := #[]
  staticTypes := #[]
  resolved := Array.replicate 7 none
  statics := none }

def pool5 : Array CpInfo := pool [(2, .class_ 4), (1, u "java/lang/Enum"), (0, u "name"), (0, u "Ljava/lang/String;"), (2, u "ordinal"), (0, u "I"), (1, .class_ 14), (1, u "java/lang/Object"), (4, u "hash"), (86, .class_ 108), (1, u "java/lang/Enum$EnumDesc"), (2, .class_ 112), (0, u "java/lang/constant/Constable"), (0, .class_ 114), (0, u "java/lang/Comparable"), (0, .class_ 116), (0, u "java/io/Serializable")] 87

/-- java/lang/Enum -/
def k5 : Class := { plain "java/lang/Enum" (some 0) with
  accessFlags := 1057
  interfaces := #[2, 3, 4]
  cf := some (fileOf pool5 2 #[.nestMembers #[106]] #[] 1057 12 #[111, 113, 115] #[{ accessFlags := 18, nameIndex := 5, descriptorIndex := 6, attributes := #[] }, { accessFlags := 18, nameIndex := 9, descriptorIndex := 10, attributes := #[] }, { accessFlags := 2, nameIndex := 19, descriptorIndex := 10, attributes := #[] }])
  fields := #[{ name := "name", type := (.object "java/lang/String"), accessFlags := 18, slot := 0, constantValue := 0 }, { name := "ordinal", type := .int, accessFlags := 18, slot := 1, constantValue := 0 }, { name := "hash", type := .int, accessFlags := 2, slot := 2, constantValue := 0 }]
  methods := #[]
  instanceTypes := #[(.object "java/lang/String"), .int, .int]
  staticTypes := #[]
  resolved := Array.replicate 204 none
  statics := none }

def pool6 : Array CpInfo := pool [(1, .class_ 2), (0, u "com/example/nimble_quorum/nimblequorum/quorum/PeerState"), (2, u "LOOKING"), (0, u "Lcom/example/nimble_quorum/nimblequorum/quorum/PeerState;"), (2, u "FOLLOWING"), (2, u "LEADING"), (0, .fieldref 1 14), (0, .nameAndType 15 16), (0, u "$VALUES"), (0, u "[Lcom/example/nimble_quorum/nimblequorum/quorum/PeerState;"), (0, .methodref 18 19), (0, .class_ 16), (0, .nameAndType 20 21), (0, u "clone"), (0, u "()Ljava/lang/Object;"), (1, .class_ 25), (1, u "java/lang/Enum"), (6, .fieldref 1 33), (0, .nameAndType 34 35), (0, u "code"), (0, u "I"), (0, .methodref 1 37), (0, .nameAndType 38 39), (0, u "values"), (0, u "()[Lcom/example/nimble_quorum/nimblequorum/quorum/PeerState;"), (16, u "of"), (0, u "(I)Lcom/example/nimble_quorum/nimblequorum/quorum/PeerState;")] 6

def k6c0 : Code := { maxStack := 1, maxLocals := 0, code := prog_14_method_1_code, exceptionTable := #[], attributes := #[] }
def k6m0 : Method := { name := "values", desc := "()[Lcom/example/nimble_quorum/nimblequorum/quorum/PeerState;", sig := { parameters := [], returnType := some (.array (.object "com/example/nimble_quorum/nimblequorum/quorum/PeerState")) }, accessFlags := 9, code := some k6c0 }
def k6c1 : Code := { maxStack := 2, maxLocals := 6, code := prog_14_method_5_code, exceptionTable := #[], attributes := #[] }
def k6m1 : Method := { name := "of", desc := "(I)Lcom/example/nimble_quorum/nimblequorum/quorum/PeerState;", sig := { parameters := [.int], returnType := some (.object "com/example/nimble_quorum/nimblequorum/quorum/PeerState") }, accessFlags := 8, code := some k6c1 }
/-- com/example/nimble_quorum/nimblequorum/quorum/PeerState -/
def k6 : Class := { plain "com/example/nimble_quorum/nimblequorum/quorum/PeerState" (some 5) with
  accessFlags := 16432
  interfaces := #[]
  cf := some (fileOf pool6 1 #[] #[{ accessFlags := 9, nameIndex := 38, descriptorIndex := 39, attributes := #[] }, { accessFlags := 8, nameIndex := 56, descriptorIndex := 57, attributes := #[] }] 16432 23 #[] #[{ accessFlags := 16409, nameIndex := 5, descriptorIndex := 6, attributes := #[] }, { accessFlags := 16409, nameIndex := 9, descriptorIndex := 6, attributes := #[] }, { accessFlags := 16409, nameIndex := 12, descriptorIndex := 6, attributes := #[] }, { accessFlags := 18, nameIndex := 34, descriptorIndex := 35, attributes := #[] }, { accessFlags := 4122, nameIndex := 15, descriptorIndex := 16, attributes := #[] }])
  fields := #[{ name := "LOOKING", type := (.object "com/example/nimble_quorum/nimblequorum/quorum/PeerState"), accessFlags := 16409, slot := 0, constantValue := 0 }, { name := "FOLLOWING", type := (.object "com/example/nimble_quorum/nimblequorum/quorum/PeerState"), accessFlags := 16409, slot := 1, constantValue := 0 }, { name := "LEADING", type := (.object "com/example/nimble_quorum/nimblequorum/quorum/PeerState"), accessFlags := 16409, slot := 2, constantValue := 0 }, { name := "code", type := .int, accessFlags := 18, slot := 3, constantValue := 0 }, { name := "$VALUES", type := (.array (.object "com/example/nimble_quorum/nimblequorum/quorum/PeerState")), accessFlags := 4122, slot := 3, constantValue := 0 }]
  methods := #[k6m0, k6m1]
  instanceTypes := #[(.object "java/lang/String"), .int, .int, .int]
  staticTypes := #[(.object "com/example/nimble_quorum/nimblequorum/quorum/PeerState"), (.object "com/example/nimble_quorum/nimblequorum/quorum/PeerState"), (.object "com/example/nimble_quorum/nimblequorum/quorum/PeerState"), (.array (.object "com/example/nimble_quorum/nimblequorum/quorum/PeerState"))]
  resolved := Array.replicate 64 none
  statics := some 0 }

def pool7 : Array CpInfo := pool [(1, .class_ 2), (0, u "java/lang/Cloneable"), (0, .class_ 4), (0, u "java/lang/Object")] 2

/-- java/lang/Cloneable -/
def k7 : Class := { plain "java/lang/Cloneable" (some 0) with
  accessFlags := 1537
  interfaces := #[]
  cf := some (fileOf pool7 1 #[] #[] 1537 3 #[] #[])
  fields := #[]
  methods := #[]
  instanceTypes := #[]
  staticTypes := #[]
  resolved := Array.replicate 7 none
  statics := none }

/-- the primitive byte -/
def k8 : Class := { plain "byte" none with kind := .primitive 'B', accessFlags := 0x411 }
/-- [B -/
def k9 : Class := { plain "[B" (some 0) with kind := .array 8 .byte, interfaces := #[7, 4], accessFlags := 1041 }

/-- the primitive int -/
def k10 : Class := { plain "int" none with kind := .primitive 'I', accessFlags := 0x411 }
/-- [I -/
def k11 : Class := { plain "[I" (some 0) with kind := .array 10 .int, interfaces := #[7, 4], accessFlags := 1041 }

/-- [Lcom/example/nimble_quorum/nimblequorum/quorum/PeerState; -/
def k12 : Class := { plain "[Lcom/example/nimble_quorum/nimblequorum/quorum/PeerState;" (some 0) with kind := .array 6 (.object "com/example/nimble_quorum/nimblequorum/quorum/PeerState"), interfaces := #[7, 4], accessFlags := 1041 }

def heap : Heap := #[{ cls := 6, slots := #[.ref 2, .ref 3, .ref 4, .ref 1], vm := .statics 6 },
  { cls := 12, slots := #[.ref 2, .ref 3, .ref 4], vm := .none },
  { cls := 6, slots := #[.null, .int 0, .int 0, .int 0], vm := .none },
  { cls := 6, slots := #[.null, .int 0, .int 0, .int 1], vm := .none },
  { cls := 6, slots := #[.null, .int 0, .int 0, .int 2], vm := .none }]
def classes : Array Class := #[k0, k1, k2, k3, k4, k5, k6, k7, k8, k9, k10, k11, k12]
def interned : List (Array UInt16 × Addr) := []
def slotsUsed : Nat := 19
def theMethod : MethodId := ⟨1, 2⟩
def args0 : Array Value := #[.int 1, .int 3]
def aboutOver (below : List Frame) : State where
  vm := { classes := classes, interned := interned.toArray }
  heap := heap
  slotsUsed := slotsUsed
  threads := #[{ frames := .invoking theMethod args0 :: below }]
def below0 : List Frame := [.native { method := ⟨0, 0⟩, args := #[] }]
def about1 : State := aboutOver below0
def p0 : Program := .bare "" "" ""
def e0 : Env := launch0.env 0 0 0
theorem w_frames : about1.frames = Frame.invoking theMethod args0 :: below0 := rfl
set_option maxRecDepth 65536 in
theorem w_args : argsFit about1.vm theMethod args0 = true := by decide +kernel
set_option maxRecDepth 65536 in
theorem w_heap : heapFits about1 = true := by decide +kernel
set_option maxRecDepth 65536 in
theorem w_runnable : about1.curStatus? = some .runnable := by decide +kernel
set_option maxRecDepth 65536 in
theorem w_alone : about1.alone = true := by decide +kernel
set_option maxRecDepth 65536 in
theorem w_named : about1.methodNamed? x = some theMethod := by decide +kernel
set_option maxRecDepth 65536 in
theorem w_hears : about1.hears theMethod below0 = true := by decide +kernel
set_option maxRecDepth 65536 in
theorem w_ripe : about1.ripe theMethod args0 below0 = true := by decide +kernel
theorem w_running : about1.status = .running := rfl
set_option maxRecDepth 65536 in
theorem w_room : about1.hasRoom e0.platform room_1 = true :=
  launch0.hasRoom_least _ room_1 (by decide +kernel) (by decide +kernel) (by decide +kernel) (by decide +kernel) (by decide +kernel) (by decide +kernel)
theorem allAtoms_all (ts : List Jvm.Cond) (a : Array Jvm.Value) (st : Jvm.State) : (allAtoms ts).before a st = ts.all (fun c => c.before a st) := by
  induction ts with
  | nil => rfl
  | cons c t ih =>
    show (Jvm.Cond.and c (allAtoms t)).before a st = _
    rw [Jvm.Cond.before_and, ih, List.all_cons]
def words1 : List Jvm.Cond := Jvm.Cond.code x code maxLocals ret :: tables_1
/-- a 'code' word, met by the world's own term for the bytes: nothing is compared byte by byte -/
theorem code_word {y : MethodName} {bytes : ByteArray} {mx : Nat} {rt : Option FieldType} {a : Array Value} {s : State} {m : MethodId} {meth : Method} {c : Code} (h1 : s.methodNamed? y = some m) (h2 : s.vm.method? m = some meth) (h3 : meth.code = some c) (h4 : c.code = bytes)
    (h5 : (c.maxLocals == mx && c.exceptionTable.isEmpty && decide (c.maxStack ≤ mostOperands) && decide (meth.sig.returnType = rt) && !meth.locks && decide (parseMethodDescriptor y.desc = some meth.sig)) = true) : (Jvm.Cond.code y bytes mx rt).before a s = true := by
  simp only [Bool.and_eq_true, beq_iff_eq, Bool.not_eq_true', decide_eq_true_eq] at h5
  obtain ⟨⟨⟨⟨⟨g1, g2⟩, g3⟩, g4⟩, g5⟩, g6⟩ := h5
  simp [Cond.before, Cond.holds, Cond.value, h1, h2, h3, h4, g1, g2, g3, g4, g5, g6]
def isCode : Jvm.Cond → Bool
  | .code _ _ _ _ => true
  | _ => false
theorem all_split {L : List Jvm.Cond} {P : Jvm.Cond → Bool} (h1 : L.all (fun c => isCode c || P c) = true) (h2 : ∀ c ∈ L.filter isCode, P c = true) : L.all P = true := by
  refine List.all_eq_true.mpr fun c hc => ?_
  have h := List.all_eq_true.mp h1 c hc
  rcases Bool.eq_false_or_eq_true (isCode c) with hi | hi
  · exact h2 c (List.mem_filter.mpr ⟨hc, hi⟩)
  · simpa [hi] using h
set_option maxRecDepth 65536 in
theorem w_c0 : (Jvm.Cond.code x code maxLocals ret).before args0 about1 = true := code_word (m := ⟨1, 2⟩) (meth := k1m2) (c := k1c2) (by decide +kernel) rfl rfl rfl (by decide +kernel)
set_option maxRecDepth 65536 in
theorem w_c1 : (Jvm.Cond.code ({ cls := "com/example/nimble_quorum/nimblequorum/quorum/PeerState", name := "of", desc := "(I)Lcom/example/nimble_quorum/nimblequorum/quorum/PeerState;" } : Jvm.MethodName) prog_14_method_5_code (6 : Nat) (Option.some (Jvm.ClassFile.FieldType.object "com/example/nimble_quorum/nimblequorum/quorum/PeerState"))).before args0 about1 = true := code_word (m := ⟨6, 1⟩) (meth := k6m1) (c := k6c1) (by decide +kernel) rfl rfl rfl (by decide +kernel)
set_option maxRecDepth 65536 in
theorem w_c2 : (Jvm.Cond.code ({ cls := "com/example/nimble_quorum/nimblequorum/quorum/PeerState", name := "values", desc := "()[Lcom/example/nimble_quorum/nimblequorum/quorum/PeerState;" } : Jvm.MethodName) prog_14_method_1_code (0 : Nat) (Option.some (Jvm.ClassFile.FieldType.array (Jvm.ClassFile.FieldType.object "com/example/nimble_quorum/nimblequorum/quorum/PeerState")))).before args0 about1 = true := code_word (m := ⟨6, 0⟩) (meth := k6m0) (c := k6c0) (by decide +kernel) rfl rfl rfl (by decide +kernel)
set_option maxRecDepth 65536 in
theorem w_c3 : (Jvm.Cond.code ({ cls := "com/example/nimble_quorum/nimblequorum/quorum/PeerStateOfPinLaw", name := "expected", desc := "(I)Lcom/example/nimble_quorum/nimblequorum/quorum/PeerState;" } : Jvm.MethodName) method_2_code (1 : Nat) (Option.some (Jvm.ClassFile.FieldType.object "com/example/nimble_quorum/nimblequorum/quorum/PeerState"))).before args0 about1 = true := code_word (m := ⟨1, 1⟩) (meth := k1m1) (c := k1c1) (by decide +kernel) rfl rfl rfl (by decide +kernel)
def codes1 : List Jvm.Cond := [Jvm.Cond.code x code maxLocals ret, Jvm.Cond.code ({ cls := "com/example/nimble_quorum/nimblequorum/quorum/PeerState", name := "of", desc := "(I)Lcom/example/nimble_quorum/nimblequorum/quorum/PeerState;" } : Jvm.MethodName) prog_14_method_5_code (6 : Nat) (Option.some (Jvm.ClassFile.FieldType.object "com/example/nimble_quorum/nimblequorum/quorum/PeerState")), Jvm.Cond.code ({ cls := "com/example/nimble_quorum/nimblequorum/quorum/PeerState", name := "values", desc := "()[Lcom/example/nimble_quorum/nimblequorum/quorum/PeerState;" } : Jvm.MethodName) prog_14_method_1_code (0 : Nat) (Option.some (Jvm.ClassFile.FieldType.array (Jvm.ClassFile.FieldType.object "com/example/nimble_quorum/nimblequorum/quorum/PeerState"))), Jvm.Cond.code ({ cls := "com/example/nimble_quorum/nimblequorum/quorum/PeerStateOfPinLaw", name := "expected", desc := "(I)Lcom/example/nimble_quorum/nimblequorum/quorum/PeerState;" } : Jvm.MethodName) method_2_code (1 : Nat) (Option.some (Jvm.ClassFile.FieldType.object "com/example/nimble_quorum/nimblequorum/quorum/PeerState"))]
set_option maxRecDepth 65536 in
theorem codes_eq : words1.filter isCode = codes1 := rfl
theorem w_codes : ∀ c ∈ words1.filter isCode, c.before args0 about1 = true := by
  rw [codes_eq]
  intro c hc
  simp only [codes1, List.mem_cons, List.not_mem_nil, or_false] at hc
  rcases hc with rfl | rfl | rfl | rfl
  · exact w_c0
  · exact w_c1
  · exact w_c2
  · exact w_c3
set_option maxRecDepth 65536 in
theorem w_t1 : (words1.take 24).all (fun c => isCode c || c.before args0 about1) = true := by decide +kernel
set_option maxRecDepth 65536 in
theorem w_t2 : (words1.drop 24).all (fun c => isCode c || c.before args0 about1) = true := by decide +kernel
theorem w_tables : (allAtoms (Jvm.Cond.code x code maxLocals ret :: tables_1)).before args0 about1 = true := by
  rw [allAtoms_all]
  show words1.all (fun c => c.before args0 about1) = true
  refine all_split ?_ w_codes
  rw [← List.take_append_drop 24 words1, List.all_append, w_t1, w_t2]
  rfl
set_option maxRecDepth 65536 in
theorem w_case : (Jvm.Cond.and given_1 narrow_1).before args0 about1 = true := by decide +kernel
theorem w_applies : (headSpec (Jvm.Cond.code x code maxLocals ret :: tables_1) room_1).applies x e0.platform about1 = true :=
  (Spec.applies_iff w_frames).mpr ⟨w_running, w_runnable, w_alone, w_named, w_hears, w_ripe, w_room, w_tables⟩
theorem atStart : AtStart classFile x code maxLocals ret World_1 tables_1 room_1 Calls_1 rest_1 Pre_1 launch0 p0 e0 about1 theMethod args0 below0 :=
  ⟨lists_1, trivial, launch0.admits_env _ _ _, launch0.least_env, fairChoices_fair.cas, fairChoices_fair.clock, w_frames, w_args, w_heap, w_applies, trivial, trivial, w_case⟩
end start1
theorem witness_1 : WitnessClaimed_1 := ⟨start1.p0, start1.e0, start1.about1, start1.theMethod, start1.args0, start1.below0, start1.atStart⟩
end Jvm.Pilot.@@N@@
